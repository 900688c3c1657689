import PyProof.Rows.All
import Wide.All
import OpenK.AllK
import Wide.FinOn
import PySem.Challenge.RW_pg0086_01
set_option Elab.async false

namespace Mine
/-- the distance by the recurrence: a move costs 2, a change c -/
def wf {α : Type} (c : α → α → Int) : List α → List α → Int
  | [], b => 2 * b.length
  | x :: a, [] => 2 * (x :: a).length
  | x :: a, y :: b => min (wf c a b + c x y) (min (wf c a (y :: b)) (wf c (x :: a) b) + 2)
termination_by a b => a.length + b.length

section
variable {α : Type} {c : α → α → Int}
theorem wf_nil_left (b : List α) : wf c [] b = 2 * b.length := by rw [wf]
theorem wf_nil_right (a : List α) : wf c a [] = 2 * a.length := by cases a <;> simp [wf]
theorem wf_cons (x y : α) (a b : List α) : wf c (x :: a) (y :: b) = min (wf c a b + c x y) (min (wf c a (y :: b)) (wf c (x :: a) b) + 2) := by rw [wf]

theorem wf_up_left (y : α) (a b : List α) : wf c (y :: a) b ≤ wf c a b + 2 := by
  cases b with
  | nil => rw [wf_nil_right, wf_nil_right, List.length_cons]; omega
  | cons z b => rw [wf_cons]; omega
theorem wf_up_right (y : α) (a b : List α) : wf c a (y :: b) ≤ wf c a b + 2 := by
  cases a with
  | nil => rw [wf_nil_left, wf_nil_left, List.length_cons]; omega
  | cons z a => rw [wf_cons]; omega
theorem wf_down_right (h0 : ∀ x y, 0 ≤ c x y) (x : α) : ∀ (a b : List α), wf c a b ≤ wf c a (x :: b) + 2 := by
  intro a
  induction a with
  | nil => intro b; rw [wf_nil_left, wf_nil_left, List.length_cons]; omega
  | cons y a ih =>
    intro b
    have h1 := ih b
    have h2 := wf_up_left (c := c) y a b
    have h3 := h0 y x
    rw [wf_cons]; omega
theorem wf_down_left (h0 : ∀ x y, 0 ≤ c x y) (x : α) : ∀ (b a : List α), wf c a b ≤ wf c (x :: a) b + 2 := by
  intro b
  induction b with
  | nil => intro a; rw [wf_nil_right, wf_nil_right, List.length_cons]; omega
  | cons y b ih =>
    intro a
    have h1 := ih a
    have h2 := wf_up_right (c := c) y a b
    have h3 := h0 x y
    rw [wf_cons]; omega
theorem wf_same (h0 : ∀ x y, 0 ≤ c x y) (hs : ∀ x, c x x = 0) (x : α) (a b : List α) : wf c (x :: a) (x :: b) = wf c a b := by
  have h1 := wf_down_right h0 x a b
  have h2 := wf_down_left h0 x b a
  rw [wf_cons, hs]; omega
theorem wf_pre (h0 : ∀ x y, 0 ≤ c x y) (hs : ∀ x, c x x = 0) (p a b : List α) : wf c (p ++ a) (p ++ b) = wf c a b := by
  induction p with
  | nil => rfl
  | cons x p ih => rw [List.cons_append, List.cons_append, wf_same h0 hs, ih]

theorem wf_symm (hsy : ∀ x y, c x y = c y x) : ∀ (n : Nat) (a b : List α), a.length + b.length = n → wf c a b = wf c b a := by
  intro n
  induction n using Nat.strongRecOn with
  | ind n ih =>
    intro a b hn
    cases a with
    | nil => rw [wf_nil_left, wf_nil_right]
    | cons x a =>
      cases b with
      | nil => rw [wf_nil_left, wf_nil_right]
      | cons y b =>
        simp only [List.length_cons] at hn
        rw [wf_cons, wf_cons, ih (a.length + b.length) (by omega) a b rfl, ih (a.length + (b.length + 1)) (by omega) a (y :: b) (by simp), ih (a.length + 1 + b.length) (by omega) (x :: a) b (by simp), hsy x y]
        omega

theorem nine (p q r s t u v w x d e : Int) :
    min (min (p + d) (min q r + 2) + e) (min (min (s + d) (min t u + 2)) (min (v + d) (min w x + 2)) + 2) =
    min (min (p + e) (min s v + 2) + d) (min (min (q + e) (min t w + 2)) (min (r + e) (min u x + 2)) + 2) := by
  have h1 : ∀ a b c : Int, min a b + c = min (a + c) (b + c) := by intros; omega
  simp only [h1]
  rw [show p + d + e = p + e + d by omega, show q + 2 + e = q + e + 2 by omega, show r + 2 + e = r + e + 2 by omega, show s + d + 2 = s + 2 + d by omega, show v + d + 2 = v + 2 + d by omega]
  ac_rfl

theorem seven (Q S W d e : Int) : min (Q + 2 + d) (min S (min (Q + e) (min (Q + 2) W + 2)) + 2) = min (Q + 2 + e) (min S (min (Q + d) (min (Q + 2) W + 2)) + 2) := by
  have h1 : ∀ a b c : Int, min a b + c = min (a + c) (b + c) := by intros; omega
  simp only [h1]
  rw [show Q + e + 2 = Q + 2 + e by omega, show Q + d + 2 = Q + 2 + d by omega]
  ac_rfl
theorem seven2 (Q S W d e : Int) : min (Q + 2 + d) (min (min (Q + e) (min W (Q + 2) + 2)) S + 2) = min (Q + 2 + e) (min (min (Q + d) (min W (Q + 2) + 2)) S + 2) := by
  have h1 : ∀ a b c : Int, min a b + c = min (a + c) (b + c) := by intros; omega
  simp only [h1]
  rw [show Q + e + 2 = Q + 2 + e by omega, show Q + d + 2 = Q + 2 + d by omega]
  ac_rfl

/-- the recurrence from behind -/
theorem wf_snoc (x y : α) : ∀ (n : Nat) (a b : List α), a.length + b.length = n →
    wf c (a ++ [x]) (b ++ [y]) = min (wf c a b + c x y) (min (wf c a (b ++ [y])) (wf c (a ++ [x]) b) + 2) := by
  intro n
  induction n using Nat.strongRecOn with
  | ind n ih =>
    intro a b hn
    cases a with
    | nil =>
      cases b with
      | nil => simp [wf_cons, wf_nil_left, wf_nil_right]
      | cons z b =>
        have h1 := ih b.length (by simp at hn; omega) [] b (by simp)
        simp only [List.nil_append, List.cons_append] at h1 ⊢
        rw [wf_cons, h1, wf_cons]
        simp only [wf_nil_left, List.length_cons, List.length_append, List.length_nil]
        clear h1 ih hn
        rw [show (2 : Int) * ((b.length + (0 + 1) : Nat) : Int) = 2 * (b.length : Int) + 2 by omega]
        exact seven _ _ _ _ _
    | cons v a =>
      cases b with
      | nil =>
        have h1 := ih a.length (by simp at hn; omega) a [] (by simp)
        simp only [List.nil_append, List.cons_append] at h1 ⊢
        rw [wf_cons, h1, wf_cons]
        simp only [wf_nil_right, List.length_cons, List.length_append, List.length_nil]
        clear h1 ih hn
        rw [show (2 : Int) * ((a.length + (0 + 1) : Nat) : Int) = 2 * (a.length : Int) + 2 by omega]
        exact seven2 _ _ _ _ _
      | cons z b =>
        simp only [List.length_cons] at hn
        have h1 := ih (a.length + b.length) (by omega) a b rfl
        have h2 := ih (a.length + (b.length + 1)) (by omega) a (z :: b) (by simp)
        have h3 := ih (a.length + 1 + b.length) (by omega) (v :: a) b (by simp)
        simp only [List.cons_append] at h1 h2 h3 ⊢
        rw [wf_cons v z (a ++ [x]), h1, h2, h3, wf_cons v z a b, wf_cons v z a (b ++ [y]), wf_cons v z (a ++ [x]) b]
        exact nine _ _ _ _ _ _ _ _ _ _ _

theorem wf_reverse : ∀ (n : Nat) (a b : List α), a.length + b.length = n → wf c a.reverse b.reverse = wf c a b := by
  intro n
  induction n using Nat.strongRecOn with
  | ind n ih =>
    intro a b hn
    cases a with
    | nil => simp [wf_nil_left]
    | cons x a =>
      cases b with
      | nil => simp [wf_nil_right]
      | cons y b =>
        simp only [List.length_cons] at hn
        have h1 := ih (a.length + b.length) (by omega) a b rfl
        have h2 := ih (a.length + (b.length + 1)) (by omega) a (y :: b) (by simp)
        have h3 := ih (a.length + 1 + b.length) (by omega) (x :: a) b (by simp)
        simp only [List.reverse_cons] at h1 h2 h3 ⊢
        rw [wf_snoc x y _ _ _ rfl, h1, h2, h3, wf_cons]

theorem wf_suf (h0 : ∀ x y, 0 ≤ c x y) (hs : ∀ x, c x x = 0) (p a b : List α) : wf c (a ++ p) (b ++ p) = wf c a b := by
  rw [← wf_reverse _ (a ++ p) (b ++ p) rfl, List.reverse_append, List.reverse_append, wf_pre h0 hs, wf_reverse _ a b rfl]

theorem wf_low (h0 : ∀ x y, 0 ≤ c x y) : ∀ (n : Nat) (a b : List α), a.length + b.length = n → 2 * ((b.length : Int) - a.length) ≤ wf c a b ∧ 2 * ((a.length : Int) - b.length) ≤ wf c a b ∧ 0 ≤ wf c a b := by
  intro n
  induction n using Nat.strongRecOn with
  | ind n ih =>
    intro a b hn
    cases a with
    | nil => rw [wf_nil_left]; simp only [List.length_nil]; omega
    | cons x a =>
      cases b with
      | nil => rw [wf_nil_right]; simp only [List.length_nil]; omega
      | cons y b =>
        simp only [List.length_cons] at hn
        have h1 := ih (a.length + b.length) (by omega) a b rfl
        have h2 := ih (a.length + (b.length + 1)) (by omega) a (y :: b) (by simp)
        have h3 := ih (a.length + 1 + b.length) (by omega) (x :: a) b (by simp)
        have h4 := h0 x y
        rw [wf_cons]
        simp only [List.length_cons] at *
        omega

/-- a row's least place bounds the whole: what is behind cannot be cheaper -/
theorem wf_row (h0 : ∀ x y, 0 ≤ c x y) (p : List α) (M : Int) : ∀ (n : Nat) (q a : List α), q.length + a.length = n →
    (∀ k, k ≤ a.length → M ≤ wf c p (a.take k)) → M ≤ wf c (p ++ q) a := by
  intro n
  induction n using Nat.strongRecOn with
  | ind n ih =>
    intro q a hn hM
    rcases List.eq_nil_or_concat q with rfl | ⟨q', y, rfl⟩
    · simpa using hM a.length (Nat.le_refl _)
    · rcases List.eq_nil_or_concat a with rfl | ⟨a', x, rfl⟩
      · have h1 := hM 0 (Nat.le_refl _)
        rw [List.take_zero, wf_nil_right] at h1
        rw [wf_nil_right]
        simp only [List.length_append]
        omega
      · simp only [List.concat_eq_append, List.length_append, List.length_cons, List.length_nil] at hn hM ⊢
        have hM' : ∀ k, k ≤ a'.length → M ≤ wf c p (a'.take k) := fun k hk => by
          have := hM k (by omega)
          rwa [List.take_append_of_le_length hk] at this
        have h1 := ih (q'.length + a'.length) (by omega) q' a' rfl hM'
        have h2 := ih (q'.length + 1 + a'.length) (by omega) (q' ++ [y]) a' (by simp) hM'
        have h3 := ih (q'.length + (a'.length + 1)) (by omega) q' (a' ++ [x]) (by simp) (by simpa using hM)
        have h4 := h0 y x
        rw [← List.append_assoc] at h2 ⊢
        rw [wf_snoc y x _ _ _ rfl]
        omega

theorem wf_row1 (h0 : ∀ x y, 0 ≤ c x y) (h2 : ∀ x y, c x y ≤ 2) (p q a : List α) (M : Int) (hp : p ≠ []) (ha : a ≠ [])
    (hM : ∀ k, 1 ≤ k → k ≤ a.length → M ≤ wf c p (a.take k)) : M ≤ wf c (p ++ q) a := by
  refine wf_row h0 p M _ q a rfl fun k hk => ?_
  by_cases hk0 : k = 0
  · subst hk0
    have h1 := hM 1 (Nat.le_refl _) (List.length_pos_iff.mpr ha)
    obtain ⟨x, a', rfl⟩ := List.exists_cons_of_ne_nil ha
    rw [List.take_zero, wf_nil_right]
    simp only [List.take_succ_cons, List.take_zero] at h1
    rcases List.eq_nil_or_concat p with rfl | ⟨p', y, rfl⟩
    · exact absurd rfl hp
    · have h3 := wf_snoc (c := c) y x _ p' [] rfl
      simp only [List.nil_append, List.concat_eq_append] at h3 h1 ⊢
      rw [h3, wf_nil_right] at h1
      have h4 := h2 y x
      simp only [List.length_append, List.length_cons, List.length_nil]
      omega
  · exact hM k (by omega) hk
end
end Mine

namespace Mine

/-- what goes to the right in a row, ahead of column c -/
def held (x : Int) (col hp : Nat → Int) (k : Int) : Nat → Int
  | 0 => k
  | c + 1 => if x = col c ∨ hp c < held x col hp k c then hp c else held x col hp k c
/-- what comes down above row r in column c -/
def belowF (row col : Nat → Int) : Nat → Nat → Int
  | 0, c => (c : Int) + 1
  | r + 1, c => if row r = col c ∨ belowF row col r c < held (row r) col (belowF row col r) (-(r : Int)) c then held (row r) col (belowF row col r) (-(r : Int)) c else belowF row col r c
def vF (row col : Nat → Int) (r c : Nat) : Int := held (row r) col (belowF row col r) (-(r : Int)) c

section
variable (row col : Nat → Int)
theorem vF_zero (r : Nat) : vF row col r 0 = -(r : Int) := rfl
theorem vF_succ (r c : Nat) : vF row col r (c + 1) = if row r = col c ∨ belowF row col r c < vF row col r c then belowF row col r c else vF row col r c := rfl
theorem belowF_zero (c : Nat) : belowF row col 0 c = (c : Int) + 1 := rfl
theorem belowF_succ (r c : Nat) : belowF row col (r + 1) c = if row r = col c ∨ belowF row col r c < vF row col r c then vF row col r c else belowF row col r c := rfl

theorem low : ∀ r : Nat, (∀ c, -(r : Int) < belowF row col r c) ∧ ∀ c, -(r : Int) ≤ vF row col r c := by
  have hv : ∀ r : Nat, (∀ c, -(r : Int) < belowF row col r c) → ∀ c, -(r : Int) ≤ vF row col r c := by
    intro r h c
    induction c with
    | zero => rw [vF_zero]; omega
    | succ c ih => rw [vF_succ]; have := h c; split <;> omega
  intro r
  induction r with
  | zero => exact ⟨fun c => by rw [belowF_zero]; omega, hv 0 fun c => by rw [belowF_zero]; omega⟩
  | succ r ih =>
    have h1 : ∀ c, -((r + 1 : Nat) : Int) < belowF row col (r + 1) c := fun c => by
      rw [belowF_succ]; have := ih.1 c; have := ih.2 c; split <;> omega
    exact ⟨h1, hv _ h1⟩

/-- ahead of the row's first meeting nothing turns -/
theorem first_part (r f : Nat) (hf : ∀ c, c < f → row r ≠ col c) : (∀ c, c ≤ f → vF row col r c = -(r : Int)) ∧ ∀ c, c < f → belowF row col (r + 1) c = belowF row col r c := by
  have h1 : ∀ c, c ≤ f → vF row col r c = -(r : Int) := by
    intro c
    induction c with
    | zero => intro _; rfl
    | succ c ih =>
      intro hc
      have hb := (low row col r).1 c
      rw [vF_succ, ih (by omega), if_neg (by rintro (h | h); exact hf c (by omega) h; omega)]
  exact ⟨h1, fun c hc => by
    have hb := (low row col r).1 c
    rw [belowF_succ, h1 c (by omega), if_neg (by rintro (h | h); exact hf c hc h; omega)]⟩

theorem grid_congr {row' col' : Nat → Int} {R C : Nat} (hr : ∀ r, r < R → row r = row' r) (hc : ∀ c, c < C → col c = col' c) :
    ∀ r, r ≤ R → (∀ c, c < C → belowF row col r c = belowF row' col' r c) ∧ (r < R → ∀ c, c ≤ C → vF row col r c = vF row' col' r c) := by
  have hv : ∀ r, r < R → (∀ c, c < C → belowF row col r c = belowF row' col' r c) → ∀ c, c ≤ C → vF row col r c = vF row' col' r c := by
    intro r hR hb c
    induction c with
    | zero => intro _; rfl
    | succ c ih => intro h; rw [vF_succ, vF_succ, ih (by omega), hb c (by omega), hr r hR, hc c (by omega)]
  intro r
  induction r with
  | zero => intro _; exact ⟨fun c _ => rfl, fun h => hv 0 h fun c _ => rfl⟩
  | succ r ih =>
    intro hR
    obtain ⟨h1, h2⟩ := ih (by omega)
    have h3 : ∀ c, c < C → belowF row col (r + 1) c = belowF row' col' (r + 1) c := fun c h => by
      rw [belowF_succ, belowF_succ, h1 c h, h2 (by omega) c (by omega), hr r (by omega), hc c h]
    exact ⟨h3, fun h => hv _ h h3⟩

/-- the strands are moved about, none is lost -/
theorem row_perm (r : Nat) : ∀ c, List.Perm ((List.range c).map (belowF row col (r + 1)) ++ [vF row col r c]) ((List.range c).map (belowF row col r) ++ [-(r : Int)]) := by
  intro c
  induction c with
  | zero => exact List.Perm.refl _
  | succ c ih =>
    rw [List.range_succ, List.map_append, List.map_append, List.map_cons, List.map_nil, List.map_cons, List.map_nil, belowF_succ, vF_succ, List.append_assoc, List.append_assoc]
    have key : List.Perm ((List.range c).map (belowF row col (r + 1)) ++ [vF row col r c, belowF row col r c]) ((List.range c).map (belowF row col r) ++ ([belowF row col r c] ++ [-(r : Int)])) := by
      have h1 := ih.append_right [belowF row col r c]
      simp only [List.append_assoc, List.cons_append, List.nil_append] at h1
      exact h1.trans ((List.Perm.refl _).append (List.Perm.swap _ _ _))
    split
    · exact key
    · exact ((List.Perm.refl _).append (List.Perm.swap _ _ _)).trans key
theorem all_perm (C : Nat) : ∀ R, List.Perm ((List.range C).map (belowF row col R) ++ (List.range R).map (fun r => vF row col r C)) ((List.range C).map (fun (c : Nat) => (c : Int) + 1) ++ (List.range R).map (fun (r : Nat) => -(r : Int))) := by
  intro R
  induction R with
  | zero => exact List.Perm.refl _
  | succ R ih =>
    rw [List.range_succ, List.map_append, List.map_append, List.map_cons, List.map_nil, List.map_cons, List.map_nil]
    have h1 := row_perm row col R C
    have h2 : List.Perm ((List.range C).map (belowF row col (R + 1)) ++ ((List.range R).map (fun r => vF row col r C) ++ [vF row col R C])) (((List.range C).map (belowF row col (R + 1)) ++ [vF row col R C]) ++ (List.range R).map (fun r => vF row col r C)) := by
      rw [List.append_assoc]
      exact (List.Perm.refl _).append List.perm_append_comm
    have h3 : List.Perm (((List.range C).map (belowF row col R) ++ [-(R : Int)]) ++ (List.range R).map (fun r => vF row col r C)) (((List.range C).map (belowF row col R) ++ (List.range R).map (fun r => vF row col r C)) ++ [-(R : Int)]) := by
      rw [List.append_assoc, List.append_assoc]
      exact (List.Perm.refl _).append List.perm_append_comm
    refine (h2.trans (h1.append_right _)).trans (h3.trans ?_)
    rw [← List.append_assoc]
    exact ih.append_right _
end

/-- one where true -/
def bit (b : Bool) : Int := if b then 1 else 0
def cnt (f : Nat → Bool) : Nat → Int
  | 0 => 0
  | c + 1 => cnt f c + bit (f c)

def cellB (m h v : Bool) : Bool × Bool := if m then (v, h) else (h || v, h && v)

section
variable (row col : Nat → Int) (t : Int)
def Hb (r c : Nat) : Bool := decide (t < belowF row col r c)
def Vb (r c : Nat) : Bool := decide (t < vF row col r c)
theorem cell_bits (r c : Nat) : (Hb row col t (r + 1) c, Vb row col t r (c + 1)) = cellB (decide (row r = col c)) (Hb row col t r c) (Vb row col t r c) := by
  unfold Hb Vb cellB
  rw [belowF_succ, vF_succ]
  generalize belowF row col r c = h
  generalize vF row col r c = v
  by_cases hm : row r = col c
  · simp [hm]
  · simp only [hm, false_or, decide_false, Bool.false_eq_true, if_false]
    by_cases hlt : h < v
    · simp only [hlt, if_true, Prod.mk.injEq]
      constructor
      · by_cases h1 : t < v
        · simp [h1]
        · have : ¬ t < h := by omega
          simp [h1, this]
      · by_cases h1 : t < h
        · have : t < v := by omega
          simp [h1, this]
        · simp [h1]
    · simp only [hlt, if_false, Prod.mk.injEq]
      constructor
      · by_cases h1 : t < h
        · simp [h1]
        · have : ¬ t < v := by omega
          simp [h1, this]
      · by_cases h1 : t < v
        · have : t < h := by omega
          simp [h1, this]
        · simp [h1]

theorem cellB_sum (m h v : Bool) : bit (cellB m h v).1 + bit (cellB m h v).2 = bit h + bit v := by
  cases m <;> cases h <;> cases v <;> rfl
theorem row_sum (r : Nat) : ∀ c, cnt (Hb row col t (r + 1)) c + bit (Vb row col t r c) = cnt (Hb row col t r) c + bit (Vb row col t r 0) := by
  intro c
  induction c with
  | zero => simp [cnt]
  | succ c ih =>
    have h1 := cellB_sum (decide (row r = col c)) (Hb row col t r c) (Vb row col t r c)
    rw [← cell_bits] at h1
    simp only [cnt] at *
    omega
end

/-- four cells of a row -/
def rowB (m0 m1 m2 m3 : Bool) (h : Bool × Bool × Bool × Bool) (v : Bool) : (Bool × Bool × Bool × Bool) × Bool :=
  match cellB m0 h.1 v with
  | (a0, v1) => match cellB m1 h.2.1 v1 with
    | (a1, v2) => match cellB m2 h.2.2.1 v2 with
      | (a2, v3) => match cellB m3 h.2.2.2 v3 with
        | (a3, v4) => ((a0, a1, a2, a3), v4)
def sum4 (h : Bool × Bool × Bool × Bool) : Int := bit h.1 + bit h.2.1 + bit h.2.2.1 + bit h.2.2.2
def tileOk (h : Bool × Bool × Bool × Bool) (v0 v1 v2 v3 s2 s3 : Bool) : Bool :=
  match rowB true false false false h v0 with
  | (a, w0) => match rowB false true false false a v1 with
    | (b, w1) => match rowB false false s2 false b v2 with
      | (c, _) => match rowB false false false s3 c v3 with
        | (d, _) => (!d.2.1 || d.1) && (!w0 || w1) && decide (4 + (bit v0 + bit v1 + bit v2 + bit v3) - sum4 d = max (4 - (if s3 then 0 else if s2 then 1 else 2)) (max (4 - sum4 h) (bit v0 + bit v1 + bit v2 + bit v3)))
theorem tile_all : ∀ (h0 h1 h2 h3 v0 v1 v2 v3 s2 s3 : Bool), (!s3 || s2) = true → (!h1 || h0) = true → (!v0 || v1) = true → tileOk (h0, h1, h2, h3) v0 v1 v2 v3 s2 s3 = true := by decide +kernel
end Mine

namespace Mine
/-- a sign's four lines -/
def lineF (f : Int) : Nat → Int
  | 0 => 0
  | 1 => 1
  | 2 => 2 + f.fdiv 2
  | _ => 4 + f
def cost (f g : Int) : Int := if f = g then 0 else if f.fdiv 2 = g.fdiv 2 then 1 else 2
theorem cost_nonneg (f g : Int) : 0 ≤ cost f g := by unfold cost; split <;> (try split) <;> omega
theorem cost_le (f g : Int) : cost f g ≤ 2 := by unfold cost; split <;> (try split) <;> omega
theorem cost_self (f : Int) : cost f f = 0 := by simp [cost]
theorem cost_symm (f g : Int) : cost f g = cost g f := by
  unfold cost
  by_cases h : f = g
  · simp [h]
  · by_cases h2 : f.fdiv 2 = g.fdiv 2
    · simp [h, h2, Ne.symm h]
    · simp [h, h2, Ne.symm h, Ne.symm h2]

def fig4 (f : Int) : Prop := 0 ≤ f ∧ f < 4
theorem fdiv2 {f : Int} (h : fig4 f) : 0 ≤ f.fdiv 2 ∧ f.fdiv 2 ≤ 1 := by
  obtain ⟨h0, h4⟩ := h
  rw [Int.fdiv_eq_ediv_of_nonneg f (by omega)]
  omega

section
variable (fw ft : Nat → Int) (t : Int)
def rowOf (f : Nat → Int) (r : Nat) : Int := lineF (f (r / 4)) (r % 4)
theorem rowOf_at (f : Nat → Int) (p a : Nat) (ha : a < 4) : rowOf f (4 * p + a) = lineF (f p) a := by
  unfold rowOf
  rw [show (4 * p + a) / 4 = p by omega, show (4 * p + a) % 4 = a by omega]

abbrev Hx := Hb (rowOf fw) (rowOf ft) t
abbrev Vx := Vb (rowOf fw) (rowOf ft) t

theorem row4 (row col : Nat → Int) (r c : Nat) {m0 m1 m2 m3 : Bool} (e0 : decide (row r = col c) = m0) (e1 : decide (row r = col (c + 1)) = m1) (e2 : decide (row r = col (c + 2)) = m2) (e3 : decide (row r = col (c + 3)) = m3) :
    rowB m0 m1 m2 m3 (Hb row col t r c, Hb row col t r (c + 1), Hb row col t r (c + 2), Hb row col t r (c + 3)) (Vb row col t r c) =
      ((Hb row col t (r + 1) c, Hb row col t (r + 1) (c + 1), Hb row col t (r + 1) (c + 2), Hb row col t (r + 1) (c + 3)), Vb row col t r (c + 4)) := by
  subst e0 e1 e2 e3
  unfold rowB
  simp only [← cell_bits]

theorem tile_at (hw : ∀ a, fig4 (fw a)) (ht : ∀ a, fig4 (ft a)) (p q : Nat) (hT : (!Hx fw ft t (4 * p) (4 * q + 1) || Hx fw ft t (4 * p) (4 * q)) = true) (hL : (!Vx fw ft t (4 * p) (4 * q) || Vx fw ft t (4 * p + 1) (4 * q)) = true) :
    (!Hx fw ft t (4 * p + 4) (4 * q + 1) || Hx fw ft t (4 * p + 4) (4 * q)) = true ∧ (!Vx fw ft t (4 * p) (4 * q + 4) || Vx fw ft t (4 * p + 1) (4 * q + 4)) = true ∧
    4 + (bit (Vx fw ft t (4 * p) (4 * q)) + bit (Vx fw ft t (4 * p + 1) (4 * q)) + bit (Vx fw ft t (4 * p + 2) (4 * q)) + bit (Vx fw ft t (4 * p + 3) (4 * q))) -
        sum4 (Hx fw ft t (4 * p + 4) (4 * q), Hx fw ft t (4 * p + 4) (4 * q + 1), Hx fw ft t (4 * p + 4) (4 * q + 2), Hx fw ft t (4 * p + 4) (4 * q + 3)) =
      max (4 - cost (fw p) (ft q)) (max (4 - sum4 (Hx fw ft t (4 * p) (4 * q), Hx fw ft t (4 * p) (4 * q + 1), Hx fw ft t (4 * p) (4 * q + 2), Hx fw ft t (4 * p) (4 * q + 3)))
        (bit (Vx fw ft t (4 * p) (4 * q)) + bit (Vx fw ft t (4 * p + 1) (4 * q)) + bit (Vx fw ft t (4 * p + 2) (4 * q)) + bit (Vx fw ft t (4 * p + 3) (4 * q)))) := by
  have f1 := fdiv2 (hw p)
  have f2 := fdiv2 (ht q)
  have f3 := hw p
  have f4 := ht q
  unfold fig4 at f3 f4
  have c0 := rowOf_at ft q 0 (by omega)
  have c1 := rowOf_at ft q 1 (by omega)
  have c2 := rowOf_at ft q 2 (by omega)
  have c3 := rowOf_at ft q 3 (by omega)
  have r0 := rowOf_at fw p 0 (by omega)
  have r1 := rowOf_at fw p 1 (by omega)
  have r2 := rowOf_at fw p 2 (by omega)
  have r3 := rowOf_at fw p 3 (by omega)
  simp only [Nat.add_zero, lineF] at c0 c1 c2 c3 r0 r1 r2 r3
  have k0 := row4 t (rowOf fw) (rowOf ft) (4 * p) (4 * q) (m0 := true) (m1 := false) (m2 := false) (m3 := false) (by rw [c0, r0]; rfl) (by rw [c1, r0]; rfl) (by rw [c2, r0]; simp; omega) (by rw [c3, r0]; simp; omega)
  have k1 := row4 t (rowOf fw) (rowOf ft) (4 * p + 1) (4 * q) (m0 := false) (m1 := true) (m2 := false) (m3 := false) (by rw [c0, r1]; rfl) (by rw [c1, r1]; rfl) (by rw [c2, r1]; simp; omega) (by rw [c3, r1]; simp; omega)
  have k2 := row4 t (rowOf fw) (rowOf ft) (4 * p + 2) (4 * q) (m0 := false) (m1 := false) (m2 := decide ((fw p).fdiv 2 = (ft q).fdiv 2)) (m3 := false) (by rw [c0, r2]; simp; omega) (by rw [c1, r2]; simp; omega) (by rw [c2, r2]; simp) (by rw [c3, r2]; simp; omega)
  have k3 := row4 t (rowOf fw) (rowOf ft) (4 * p + 3) (4 * q) (m0 := false) (m1 := false) (m2 := false) (m3 := decide (fw p = ft q)) (by rw [c0, r3]; simp; omega) (by rw [c1, r3]; simp; omega) (by rw [c2, r3]; simp; omega) (by rw [c3, r3]; simp)
  have h := tile_all (Hx fw ft t (4 * p) (4 * q)) (Hx fw ft t (4 * p) (4 * q + 1)) (Hx fw ft t (4 * p) (4 * q + 2)) (Hx fw ft t (4 * p) (4 * q + 3))
    (Vx fw ft t (4 * p) (4 * q)) (Vx fw ft t (4 * p + 1) (4 * q)) (Vx fw ft t (4 * p + 2) (4 * q)) (Vx fw ft t (4 * p + 3) (4 * q)) (decide ((fw p).fdiv 2 = (ft q).fdiv 2)) (decide (fw p = ft q))
    (by by_cases e : fw p = ft q <;> simp [e]) hT hL
  unfold tileOk at h
  simp only [k0, k1, k2, k3] at h
  rw [Bool.and_eq_true, Bool.and_eq_true, decide_eq_true_eq] at h
  refine ⟨h.1.1, h.1.2, ?_⟩
  rw [h.2]
  unfold cost
  by_cases e : fw p = ft q
  · simp [e]
  · by_cases e2 : (fw p).fdiv 2 = (ft q).fdiv 2 <;> simp [e, e2]
end

/-- where a comparing starts: its rows and columns from p0 and q0 on -/
structure Start (fw ft : Nat → Int) (t : Int) (p0 q0 : Nat) : Prop where
  top : ∀ c, 4 * q0 ≤ c → Hx fw ft t (4 * p0) c = true
  zero : ∀ r, 4 * p0 ≤ r → cnt (Hx fw ft t r) (4 * q0) = 0
  left : ∀ r, 4 * p0 ≤ r → Vx fw ft t r (4 * q0) = false
  side : ∀ r, 4 * p0 ≤ r → Vx fw ft t r 0 = false

theorem cnt4 (f : Nat → Bool) (c : Nat) : cnt f (c + 4) = cnt f c + sum4 (f c, f (c + 1), f (c + 2), f (c + 3)) := by
  simp only [cnt, sum4]; omega

section
variable {fw ft : Nat → Int} {t : Int} {p0 q0 : Nat}
theorem Start.edges (S : Start fw ft t p0 q0) (hw : ∀ a, fig4 (fw a)) (ht : ∀ a, fig4 (ft a)) : ∀ p, p0 ≤ p → ∀ q, q0 ≤ q →
    (!Hx fw ft t (4 * p) (4 * q + 1) || Hx fw ft t (4 * p) (4 * q)) = true ∧ (!Vx fw ft t (4 * p) (4 * q) || Vx fw ft t (4 * p + 1) (4 * q)) = true := by
  have lefts : ∀ p, p0 ≤ p → (∀ q, q0 ≤ q → (!Hx fw ft t (4 * p) (4 * q + 1) || Hx fw ft t (4 * p) (4 * q)) = true) → ∀ d, (!Vx fw ft t (4 * p) (4 * (q0 + d)) || Vx fw ft t (4 * p + 1) (4 * (q0 + d))) = true := by
    intro p hp hT d
    induction d with
    | zero => rw [Nat.add_zero, S.left (4 * p) (by omega)]; rfl
    | succ d ih =>
      have h := (tile_at fw ft t hw ht p (q0 + d) (hT _ (by omega)) ih).2.1
      rw [show 4 * (q0 + d) + 4 = 4 * (q0 + (d + 1)) by omega] at h
      exact h
  have tops : ∀ d q, q0 ≤ q → (!Hx fw ft t (4 * (p0 + d)) (4 * q + 1) || Hx fw ft t (4 * (p0 + d)) (4 * q)) = true := by
    intro d
    induction d with
    | zero => intro q hq; rw [Nat.add_zero, S.top (4 * q) (by omega)]; exact Bool.or_true _
    | succ d ih =>
      intro q hq
      have hl := lefts (p0 + d) (by omega) ih (q - q0)
      rw [show q0 + (q - q0) = q by omega] at hl
      have h := (tile_at fw ft t hw ht (p0 + d) q (ih q hq) hl).1
      rw [show 4 * (p0 + d) + 4 = 4 * (p0 + (d + 1)) by omega] at h
      exact h
  intro p hp q hq
  have h1 := tops (p - p0)
  rw [show p0 + (p - p0) = p by omega] at h1
  have h2 := lefts p hp h1 (q - q0)
  rw [show q0 + (q - q0) = q by omega] at h2
  exact ⟨h1 q hq, h2⟩

theorem Start.down (S : Start fw ft t p0 q0) (r c : Nat) (hr : 4 * p0 ≤ r) : cnt (Hx fw ft t (r + 1)) c = cnt (Hx fw ft t r) c - bit (Vx fw ft t r c) := by
  have h := row_sum (rowOf fw) (rowOf ft) t r c
  have h2 : bit (Vx fw ft t r 0) = 0 := by rw [S.side r hr]; rfl
  simp only [Hx, Vx] at *
  omega
theorem Start.down4 (S : Start fw ft t p0 q0) (p c : Nat) (hp : p0 ≤ p) :
    cnt (Hx fw ft t (4 * p + 4)) c = cnt (Hx fw ft t (4 * p)) c - (bit (Vx fw ft t (4 * p) c) + bit (Vx fw ft t (4 * p + 1) c) + bit (Vx fw ft t (4 * p + 2) c) + bit (Vx fw ft t (4 * p + 3) c)) := by
  have h0 := S.down (4 * p) c (by omega)
  have h1 := S.down (4 * p + 1) c (by omega)
  have h2 := S.down (4 * p + 2) c (by omega)
  have h3 := S.down (4 * p + 3) c (by omega)
  rw [show 4 * p + 1 + 1 = 4 * p + 2 by omega] at h1
  rw [show 4 * p + 2 + 1 = 4 * p + 3 by omega] at h2
  rw [show 4 * p + 3 + 1 = 4 * p + 4 by omega] at h3
  omega

theorem Start.top_cnt (S : Start fw ft t p0 q0) (d : Nat) : cnt (Hx fw ft t (4 * p0)) (4 * q0 + d) = d := by
  induction d with
  | zero => rw [Nat.add_zero, S.zero _ (Nat.le_refl _)]; rfl
  | succ d ih => rw [← Nat.add_assoc, cnt, ih, S.top _ (by omega)]; simp [bit]

/-- the strands tell the distance of the pieces -/
theorem Start.semi (S : Start fw ft t p0 q0) (hw : ∀ a, fig4 (fw a)) (ht : ∀ a, fig4 (ft a)) : ∀ (n p q : Nat), p + q = n →
    wf cost ((List.range p).map fun a => fw (p0 + a)) ((List.range q).map fun a => ft (q0 + a)) = 2 * (p : Int) - 2 * q + cnt (Hx fw ft t (4 * (p0 + p))) (4 * (q0 + q)) := by
  intro n
  induction n using Nat.strongRecOn with
  | ind n ih =>
    intro p q hn
    cases p with
    | zero =>
      have h := S.top_cnt (4 * q)
      rw [show 4 * q0 + 4 * q = 4 * (q0 + q) by omega] at h
      rw [Nat.add_zero, h]
      simp [wf_nil_left]
      omega
    | succ p =>
      cases q with
      | zero =>
        have h := S.zero (4 * (p0 + (p + 1))) (by omega)
        rw [show q0 + 0 = q0 from rfl, h]
        simp [wf_nil_right]
      | succ q =>
        have h1 := ih (p + q) (by omega) p q rfl
        have h2 := ih (p + (q + 1)) (by omega) p (q + 1) rfl
        have h3 := ih (p + 1 + q) (by omega) (p + 1) q rfl
        rw [List.range_succ, List.map_append, List.map_cons, List.map_nil] at h3
        rw [List.range_succ (n := q), List.map_append, List.map_cons, List.map_nil] at h2
        rw [List.range_succ, List.range_succ (n := q), List.map_append, List.map_append, List.map_cons, List.map_nil, List.map_cons, List.map_nil, wf_snoc _ _ _ _ _ rfl, h1, h2, h3]
        obtain ⟨e1, e2⟩ := S.edges hw ht (p0 + p) (by omega) (q0 + q) (by omega)
        have ht := (tile_at fw ft t hw ht (p0 + p) (q0 + q) e1 e2).2.2
        have d1 := S.down4 (p0 + p) (4 * (q0 + q)) (by omega)
        have d2 := cnt4 (Hx fw ft t (4 * (p0 + p))) (4 * (q0 + q))
        have d3 := cnt4 (Hx fw ft t (4 * (p0 + p) + 4)) (4 * (q0 + q))
        rw [show 4 * (p0 + (p + 1)) = 4 * (p0 + p) + 4 by omega, show 4 * (q0 + (q + 1)) = 4 * (q0 + q) + 4 by omega]
        rw [d2, d3, d1]
        rw [d3, d1] at *
        push_cast
        omega
end
end Mine

namespace Mine

theorem start_neg (fw ft : Nat → Int) (k : Nat) : Start fw ft (-(4 * (k : Int))) k 0 where
  top := fun c _ => by
    have h := (low (rowOf fw) (rowOf ft) (4 * k)).1 c
    simp only [Hx, Hb, decide_eq_true_eq]
    push_cast at h
    omega
  zero := fun _ _ => rfl
  left := fun r hr => decide_eq_false (by rw [Nat.mul_zero, vF_zero]; omega)
  side := fun r hr => decide_eq_false (by rw [vF_zero]; omega)

theorem start_pos (fw ft : Nat → Int) (k : Nat) : Start fw ft (4 * (k : Int)) 0 k := by
  have hv : ∀ r, (∀ c, c < 4 * k → Hx fw ft (4 * (k : Int)) r c = false) → ∀ c, c ≤ 4 * k → Vx fw ft (4 * (k : Int)) r c = false := by
    intro r hH c
    induction c with
    | zero => intro _; exact decide_eq_false (by rw [vF_zero]; omega)
    | succ c ih =>
      intro hc
      have h := cell_bits (rowOf fw) (rowOf ft) (4 * (k : Int)) r c
      have h1 := ih (by omega)
      have h2 := hH c (by omega)
      simp only [Hx, Vx] at h1 h2 ⊢
      rw [h1, h2] at h
      have h3 := congrArg Prod.snd h
      dsimp only at h3
      rw [h3]
      unfold cellB; split <;> rfl
  have hh : ∀ r c, c < 4 * k → Hx fw ft (4 * (k : Int)) r c = false := by
    intro r
    induction r with
    | zero => intro c hc; exact decide_eq_false (by rw [belowF_zero]; omega)
    | succ r ih =>
      intro c hc
      have h := cell_bits (rowOf fw) (rowOf ft) (4 * (k : Int)) r c
      have h1 := hv r ih c (by omega)
      have h2 := ih c hc
      simp only [Hx, Vx] at h1 h2 ⊢
      rw [h1, h2] at h
      have h3 := congrArg Prod.fst h
      dsimp only at h3
      rw [h3]
      unfold cellB; split <;> rfl
  have hz : ∀ r d, d ≤ 4 * k → cnt (Hx fw ft (4 * (k : Int)) r) d = 0 := by
    intro r d
    induction d with
    | zero => intro _; rfl
    | succ d ih => intro hd; rw [cnt, ih (by omega), hh r d (by omega)]; rfl
  exact {
    top := fun c hc => decide_eq_true (by rw [Nat.mul_zero, belowF_zero]; omega)
    zero := fun r _ => hz r _ (Nat.le_refl _)
    left := fun r _ => hv r (hh r) _ (Nat.le_refl _)
    side := fun r _ => hv r (hh r) 0 (Nat.zero_le _) }

section
variable (row col : Nat → Int) (R C : Nat)
def belowL : List Int := (List.range C).map (belowF row col R)
def besideL : List Int := (List.range R).map (fun r => vF row col r C)
def strandsL : List Int := (List.range (R + C)).map (fun (k : Nat) => 1 - (R : Int) + (k : Int))
def placeF (x : Int) : Int := if x ∈ belowL row col R C then ((belowL row col R C).idxOf x : Int) else (R : Int) + C - 1 - ((besideL row col R C).idxOf x : Int)
def placesL : List Int := (strandsL R C).map (placeF row col R C)

theorem left_perm : ∀ R : Nat, List.Perm ((List.range R).map (fun (k : Nat) => 1 - (R : Int) + (k : Int))) ((List.range R).map (fun (r : Nat) => -(r : Int))) := by
  intro R
  induction R with
  | zero => exact List.Perm.refl _
  | succ R ih =>
    rw [List.range_succ_eq_map, List.map_cons, List.map_map]
    have e : ((List.range R).map ((fun (k : Nat) => 1 - ((R + 1 : Nat) : Int) + (k : Int)) ∘ Nat.succ)) = (List.range R).map (fun (k : Nat) => 1 - (R : Int) + (k : Int)) := by
      apply List.map_congr_left
      intro k _
      simp only [Function.comp, Nat.succ_eq_add_one]
      push_cast
      omega
    rw [e, ← List.range_succ_eq_map, List.range_succ, List.map_append, List.map_cons, List.map_nil]
    have e2 : 1 - ((R + 1 : Nat) : Int) + ((0 : Nat) : Int) = -(R : Int) := by push_cast; omega
    rw [e2]
    exact (List.Perm.cons _ ih).trans (List.perm_append_comm (l₁ := [-(R : Int)]))

theorem strands_perm : List.Perm (strandsL R C) (belowL row col R C ++ besideL row col R C) := by
  refine List.Perm.trans ?_ (all_perm row col C R).symm
  unfold strandsL
  rw [List.range_add, List.map_append, List.map_map]
  have e : (List.range C).map ((fun (k : Nat) => 1 - (R : Int) + (k : Int)) ∘ fun x => R + x) = (List.range C).map (fun (c : Nat) => (c : Int) + 1) := by
    apply List.map_congr_left
    intro k _
    simp only [Function.comp]
    push_cast
    omega
  rw [e]
  exact ((left_perm R).append_right _).trans List.perm_append_comm

theorem strands_nodup : (strandsL R C).Nodup := by
  unfold strandsL
  rw [List.nodup_iff_pairwise_ne, List.pairwise_map]
  refine List.Pairwise.imp ?_ (List.nodup_iff_pairwise_ne.mp List.nodup_range)
  intro a b hab h
  exact hab (by omega)
theorem out_nodup : (belowL row col R C ++ besideL row col R C).Nodup := (strands_perm row col R C).nodup_iff.mp (strands_nodup R C)

theorem idxOf_at {l : List Int} (hn : l.Nodup) (i : Nat) (hi : i < l.length) : l.idxOf l[i] = i := by
  have := List.Nodup.idxOf_getElem hn i hi
  exact this

theorem place_below (c : Nat) (hc : c < C) : placeF row col R C (belowF row col R c) = c := by
  have hl : c < (belowL row col R C).length := by simp [belowL, hc]
  have hg : (belowL row col R C)[c] = belowF row col R c := by simp [belowL]
  have hn := (List.nodup_append.mp (out_nodup row col R C)).1
  have hm : belowF row col R c ∈ belowL row col R C := by rw [← hg]; exact List.getElem_mem hl
  unfold placeF
  rw [if_pos hm, ← hg, idxOf_at hn c hl]
theorem not_below (r : Nat) (hr : r < R) : vF row col r C ∉ belowL row col R C := by
  intro hm
  have hb : vF row col r C ∈ besideL row col R C := by unfold besideL; exact List.mem_map.mpr ⟨r, List.mem_range.mpr hr, rfl⟩
  exact (List.nodup_append.mp (out_nodup row col R C)).2.2 _ hm _ hb rfl
theorem place_beside (r : Nat) (hr : r < R) : placeF row col R C (vF row col r C) = (R : Int) + C - 1 - r := by
  have hl : r < (besideL row col R C).length := by simp [besideL, hr]
  have hg : (besideL row col R C)[r] = vF row col r C := by simp [besideL]
  have hn := (List.nodup_append.mp (out_nodup row col R C)).2.1
  unfold placeF
  rw [if_neg (not_below row col R C r hr), ← hg, idxOf_at hn r hl]

theorem cnt_countP (f : Nat → Bool) (n : Nat) : cnt f n = ((List.range n).countP f : Nat) := by
  induction n with
  | zero => rfl
  | succ n ih => rw [cnt, ih, List.range_succ, List.countP_append, List.countP_singleton]; unfold bit; split <;> simp
theorem cnt_congr {f g : Nat → Bool} : ∀ n, (∀ k, k < n → f k = g k) → cnt f n = cnt g n
  | 0, _ => rfl
  | n + 1, h => by rw [cnt, cnt, cnt_congr n (fun k hk => h k (by omega)), h n (by omega)]

/-- what countOf finds -/
theorem count_out (d : Nat) (hd : d ≤ R + C) (t b : Int) (ht : t = (d : Int) - R) :
    ((((placesL row col R C).drop d).map (fun pl => decide (pl < b))).count true : Nat) =
      cnt (fun c => Hb row col t R c && decide ((c : Int) < b)) C + cnt (fun r => Vb row col t r C && decide ((R : Int) + C - 1 - r < b)) R := by
  have e1 : (((placesL row col R C).drop d).map (fun pl => decide (pl < b))).count true = (strandsL R C).countP (fun x => decide (t < x) && decide (placeF row col R C x < b)) := by
    unfold placesL
    rw [← List.map_drop, List.map_map, List.count_eq_countP, List.countP_map]
    conv => rhs; rw [← List.take_append_drop d (strandsL R C), List.countP_append]
    have z : ((strandsL R C).take d).countP (fun x => decide (t < x) && decide (placeF row col R C x < b)) = 0 := by
      rw [List.countP_eq_zero]
      intro x hx
      obtain ⟨k, hk, rfl⟩ := List.mem_take_iff_getElem.mp hx
      simp only [strandsL, List.length_map, List.length_range] at hk
      simp only [strandsL, List.getElem_map, List.getElem_range, Bool.and_eq_true, decide_eq_true_eq, not_and]
      intro h1
      omega
    rw [z, Nat.zero_add]
    apply List.countP_congr
    intro x hx
    obtain ⟨k, hk, rfl⟩ := List.mem_drop_iff_getElem.mp hx
    simp only [strandsL, List.length_map, List.length_range] at hk
    have h1 : t < (strandsL R C)[d + k]'(by simp only [strandsL, List.length_map, List.length_range]; omega) := by
      simp only [strandsL, List.getElem_map, List.getElem_range]
      push_cast
      omega
    simp [h1]
  rw [e1, (strands_perm row col R C).countP_eq, List.countP_append]
  unfold belowL besideL
  rw [List.countP_map, List.countP_map, cnt_countP, cnt_countP]
  push_cast
  congr 1
  · congr 1
    apply List.countP_congr
    intro c hc
    have hc' := List.mem_range.mp hc
    simp only [Function.comp, Hb]
    rw [place_below row col R C c hc']
  · congr 1
    apply List.countP_congr
    intro r hr
    have hr' := List.mem_range.mp hr
    simp only [Function.comp, Vb]
    rw [place_beside row col R C r hr']

theorem not_found_count : (strandsL R C).countP (fun x => decide (x ∉ belowL row col R C)) = R := by
  rw [(strands_perm row col R C).countP_eq, List.countP_append]
  have z : (belowL row col R C).countP (fun x => decide (x ∉ belowL row col R C)) = 0 := by
    rw [List.countP_eq_zero]
    intro x hx
    simp [hx]
  have a : (besideL row col R C).countP (fun x => decide (x ∉ belowL row col R C)) = (besideL row col R C).length := by
    rw [List.countP_eq_length]
    intro x hx
    unfold besideL at hx
    obtain ⟨r, hr, rfl⟩ := List.mem_map.mp hx
    simpa using not_below row col R C r (List.mem_range.mp hr)
  rw [z, a]
  simp [besideL]
theorem found_beside {x : Int} (hx : x ∈ strandsL R C) (hn : x ∉ belowL row col R C) : x ∈ besideL row col R C := by
  have := (strands_perm row col R C).mem_iff.mp hx
  rcases List.mem_append.mp this with h | h
  · exact absurd h hn
  · exact h
end
end Mine

namespace Mine

theorem cnt_false (f : Nat → Bool) : ∀ n, (∀ k, k < n → f k = false) → cnt f n = 0
  | 0, _ => rfl
  | n + 1, h => by rw [cnt, cnt_false f n (fun k hk => h k (by omega)), h n (by omega)]; rfl
theorem cnt_split (f : Nat → Bool) (b : Nat) : ∀ d, cnt (fun k => f k && decide (k < b)) (b + d) = cnt f b
  | 0 => cnt_congr b fun k hk => by simp [hk]
  | d + 1 => by
    rw [← Nat.add_assoc, cnt, cnt_split f b d]
    have h : ¬ b + d < b := by omega
    simp only [h, decide_false, Bool.and_false, bit, Bool.false_eq_true, if_false]
    omega

theorem Start.tail {fw ft : Nat → Int} {t : Int} {p0 q0 : Nat} (S : Start fw ft t p0 q0) (C r1 : Nat) (h : 4 * p0 ≤ r1) : ∀ d,
    cnt (Hx fw ft t (r1 + d)) C + cnt (fun r => Vx fw ft t r C && decide (r1 ≤ r)) (r1 + d) = cnt (Hx fw ft t r1) C
  | 0 => by
    have z : cnt (fun r => Vx fw ft t r C && decide (r1 ≤ r)) (r1 + 0) = 0 := cnt_false _ _ fun k hk => by
      have : ¬ r1 ≤ k := by omega
      simp [this]
    rw [z, Nat.add_zero]; omega
  | d + 1 => by
    have ih := Start.tail S C r1 h d
    have h1 := S.down (r1 + d) C (by omega)
    rw [← Nat.add_assoc, cnt, h1]
    have e : (Vx fw ft t (r1 + d) C && decide (r1 ≤ r1 + d)) = Vx fw ft t (r1 + d) C := by simp
    rw [e]
    omega

theorem start_at (fw ft : Nat → Int) (i : Int) : Start fw ft (4 * i) (-i).toNat i.toNat := by
  by_cases h : 0 ≤ i
  · have S := start_pos fw ft i.toNat
    rw [show (i.toNat : Int) = i by omega] at S
    rw [show (-i).toNat = 0 by omega]
    exact S
  · have S := start_neg fw ft (-i).toNat
    rw [show -(4 * ((-i).toNat : Int)) = 4 * i by omega] at S
    rw [show i.toNat = 0 by omega]
    exact S

/-- what the law calls due is the distance -/
theorem due_law (fw ft : Nat → Int) (hw : ∀ a, fig4 (fw a)) (ht : ∀ a, fig4 (ft a)) (m n : Nat) (i j : Int) (hi0 : -(m : Int) ≤ i) (hi1 : i ≤ n) (hij : i ≤ j) (hj0 : 0 ≤ j) (hj1 : j ≤ m + n) (hj2 : j ≤ m + n + i) :
    wf cost ((List.range (m - (j - n).toNat - (-i).toNat)).map fun a => fw ((-i).toNat + a)) ((List.range ((min j n).toNat - i.toNat)).map fun a => ft (i.toNat + a)) =
      2 * (((m - (j - n).toNat - (-i).toNat : Nat) : Int) - (((min j n).toNat - i.toNat : Nat) : Int)) +
        ((((placesL (rowOf fw) (rowOf ft) (4 * m) (4 * n)).drop (4 * (i + m)).toNat).map (fun pl => decide (pl < 4 * j))).count true : Nat) := by
  have S := start_at fw ft i
  rw [count_out (rowOf fw) (rowOf ft) (4 * m) (4 * n) (4 * (i + m)).toNat (by omega) (4 * i) (4 * j) (by omega)]
  rw [S.semi hw ht _ _ _ rfl]
  by_cases hn : j ≤ n
  · have e1 : m - (j - n).toNat - (-i).toNat = m - (-i).toNat := by omega
    have e2 : (min j n).toNat - i.toNat = j.toNat - i.toNat := by omega
    have z : cnt (fun r => Vb (rowOf fw) (rowOf ft) (4 * i) r (4 * n) && decide (((4 * m : Nat) : Int) + ((4 * n : Nat) : Int) - 1 - (r : Int) < 4 * j)) (4 * m) = 0 := cnt_false _ _ fun k hk => by
      have : ¬ (((4 * m : Nat) : Int) + ((4 * n : Nat) : Int) - 1 - (k : Int) < 4 * j) := by omega
      simp only [this, decide_false, Bool.and_false]
    have a : cnt (fun c => Hb (rowOf fw) (rowOf ft) (4 * i) (4 * m) c && decide ((c : Int) < 4 * j)) (4 * n) = cnt (Hx fw ft (4 * i) (4 * m)) (4 * j.toNat) := by
      have hs := cnt_split (Hx fw ft (4 * i) (4 * m)) (4 * j.toNat) (4 * n - 4 * j.toNat)
      rw [show 4 * j.toNat + (4 * n - 4 * j.toNat) = 4 * n by omega] at hs
      rw [← hs]
      refine cnt_congr _ fun k _ => ?_
      have : ((k : Int) < 4 * j) ↔ k < 4 * j.toNat := by omega
      simp only [this]
    rw [z, a, e1, e2, show (-i).toNat + (m - (-i).toNat) = m by omega, show i.toNat + (j.toNat - i.toNat) = j.toNat by omega]
    omega
  · have e2 : (min j n).toNat - i.toNat = n - i.toNat := by omega
    have a : cnt (fun c => Hb (rowOf fw) (rowOf ft) (4 * i) (4 * m) c && decide ((c : Int) < 4 * j)) (4 * n) = cnt (Hx fw ft (4 * i) (4 * m)) (4 * n) := by
      refine cnt_congr _ fun k _ => ?_
      have : (k : Int) < 4 * j := by omega
      simp only [this, decide_true, Bool.and_true]
    have tl := S.tail (4 * n) (4 * (m - (j - n).toNat)) (by omega) (4 * m - 4 * (m - (j - n).toNat))
    rw [show 4 * (m - (j - n).toNat) + (4 * m - 4 * (m - (j - n).toNat)) = 4 * m by omega] at tl
    have b : cnt (fun r => Vb (rowOf fw) (rowOf ft) (4 * i) r (4 * n) && decide (((4 * m : Nat) : Int) + ((4 * n : Nat) : Int) - 1 - (r : Int) < 4 * j)) (4 * m) = cnt (fun r => Vx fw ft (4 * i) r (4 * n) && decide (4 * (m - (j - n).toNat) ≤ r)) (4 * m) := by
      refine cnt_congr _ fun k _ => ?_
      have : (((4 * m : Nat) : Int) + ((4 * n : Nat) : Int) - 1 - (k : Int) < 4 * j) ↔ 4 * (m - (j - n).toNat) ≤ k := by omega
      simp only [this]
    rw [a, b, e2, show (-i).toNat + (m - (j - n).toNat - (-i).toNat) = m - (j - n).toNat by omega, show i.toNat + (n - i.toNat) = n by omega]
    omega
end Mine

open PySem PySem.W PyProof.Rows

namespace Mine
set_option maxRecDepth 100000 in
set_option maxHeartbeats 8000000 in
open_top hd for PySem.Challenge.rw_pg0086_01
end Mine

namespace Mine
local macro_rules | `(tactic| walk_at "go") => `(tactic| repeat' (walk_at "go1"))
local macro_rules | `(tactic| walk_at "drop") => `(tactic| ((repeat (rename Fr _ _ _ _ => zF; clear zF)); (repeat (rename News _ _ _ _ => zN; clear zN))))

section
/-! several witnesses, several facts, in one go -/
inductive An2 (p1 p2 : Prop) : Prop
  | mk (h1 : p1) (h2 : p2) : An2 p1 p2
inductive An3 (p1 p2 p3 : Prop) : Prop
  | mk (h1 : p1) (h2 : p2) (h3 : p3) : An3 p1 p2 p3
inductive An4 (p1 p2 p3 p4 : Prop) : Prop
  | mk (h1 : p1) (h2 : p2) (h3 : p3) (h4 : p4) : An4 p1 p2 p3 p4
inductive An5 (p1 p2 p3 p4 p5 : Prop) : Prop
  | mk (h1 : p1) (h2 : p2) (h3 : p3) (h4 : p4) (h5 : p5) : An5 p1 p2 p3 p4 p5
inductive An6 (p1 p2 p3 p4 p5 p6 : Prop) : Prop
  | mk (h1 : p1) (h2 : p2) (h3 : p3) (h4 : p4) (h5 : p5) (h6 : p6) : An6 p1 p2 p3 p4 p5 p6
inductive An7 (p1 p2 p3 p4 p5 p6 p7 : Prop) : Prop
  | mk (h1 : p1) (h2 : p2) (h3 : p3) (h4 : p4) (h5 : p5) (h6 : p6) (h7 : p7) : An7 p1 p2 p3 p4 p5 p6 p7
inductive An8 (p1 p2 p3 p4 p5 p6 p7 p8 : Prop) : Prop
  | mk (h1 : p1) (h2 : p2) (h3 : p3) (h4 : p4) (h5 : p5) (h6 : p6) (h7 : p7) (h8 : p8) : An8 p1 p2 p3 p4 p5 p6 p7 p8
inductive An11 (p1 p2 p3 p4 p5 p6 p7 p8 p9 p10 p11 : Prop) : Prop
  | mk (h1 : p1) (h2 : p2) (h3 : p3) (h4 : p4) (h5 : p5) (h6 : p6) (h7 : p7) (h8 : p8) (h9 : p9) (h10 : p10) (h11 : p11) : An11 p1 p2 p3 p4 p5 p6 p7 p8 p9 p10 p11
inductive An12 (p1 p2 p3 p4 p5 p6 p7 p8 p9 p10 p11 p12 : Prop) : Prop
  | mk (h1 : p1) (h2 : p2) (h3 : p3) (h4 : p4) (h5 : p5) (h6 : p6) (h7 : p7) (h8 : p8) (h9 : p9) (h10 : p10) (h11 : p11) (h12 : p12) : An12 p1 p2 p3 p4 p5 p6 p7 p8 p9 p10 p11 p12
inductive An17 (p1 p2 p3 p4 p5 p6 p7 p8 p9 p10 p11 p12 p13 p14 p15 p16 p17 : Prop) : Prop
  | mk (h1 : p1) (h2 : p2) (h3 : p3) (h4 : p4) (h5 : p5) (h6 : p6) (h7 : p7) (h8 : p8) (h9 : p9) (h10 : p10) (h11 : p11) (h12 : p12) (h13 : p13) (h14 : p14) (h15 : p15) (h16 : p16) (h17 : p17) : An17 p1 p2 p3 p4 p5 p6 p7 p8 p9 p10 p11 p12 p13 p14 p15 p16 p17
inductive Ex2 {α1 α2 : Type} (p : α1 → α2 → Prop) : Prop
  | mk (a1 : α1) (a2 : α2) : p a1 a2 → Ex2 p
inductive Ex3 {α1 α2 α3 : Type} (p : α1 → α2 → α3 → Prop) : Prop
  | mk (a1 : α1) (a2 : α2) (a3 : α3) : p a1 a2 a3 → Ex3 p
inductive Ex4 {α1 α2 α3 α4 : Type} (p : α1 → α2 → α3 → α4 → Prop) : Prop
  | mk (a1 : α1) (a2 : α2) (a3 : α3) (a4 : α4) : p a1 a2 a3 a4 → Ex4 p
inductive Ex5 {α1 α2 α3 α4 α5 : Type} (p : α1 → α2 → α3 → α4 → α5 → Prop) : Prop
  | mk (a1 : α1) (a2 : α2) (a3 : α3) (a4 : α4) (a5 : α5) : p a1 a2 a3 a4 a5 → Ex5 p
inductive Ex6 {α1 α2 α3 α4 α5 α6 : Type} (p : α1 → α2 → α3 → α4 → α5 → α6 → Prop) : Prop
  | mk (a1 : α1) (a2 : α2) (a3 : α3) (a4 : α4) (a5 : α5) (a6 : α6) : p a1 a2 a3 a4 a5 a6 → Ex6 p
inductive Ex7 {α1 α2 α3 α4 α5 α6 α7 : Type} (p : α1 → α2 → α3 → α4 → α5 → α6 → α7 → Prop) : Prop
  | mk (a1 : α1) (a2 : α2) (a3 : α3) (a4 : α4) (a5 : α5) (a6 : α6) (a7 : α7) : p a1 a2 a3 a4 a5 a6 a7 → Ex7 p
inductive Ex8 {α1 α2 α3 α4 α5 α6 α7 α8 : Type} (p : α1 → α2 → α3 → α4 → α5 → α6 → α7 → α8 → Prop) : Prop
  | mk (a1 : α1) (a2 : α2) (a3 : α3) (a4 : α4) (a5 : α5) (a6 : α6) (a7 : α7) (a8 : α8) : p a1 a2 a3 a4 a5 a6 a7 a8 → Ex8 p
inductive Ex9 {α1 α2 α3 α4 α5 α6 α7 α8 α9 : Type} (p : α1 → α2 → α3 → α4 → α5 → α6 → α7 → α8 → α9 → Prop) : Prop
  | mk (a1 : α1) (a2 : α2) (a3 : α3) (a4 : α4) (a5 : α5) (a6 : α6) (a7 : α7) (a8 : α8) (a9 : α9) : p a1 a2 a3 a4 a5 a6 a7 a8 a9 → Ex9 p
inductive Ex11 {α1 α2 α3 α4 α5 α6 α7 α8 α9 α10 α11 : Type} (p : α1 → α2 → α3 → α4 → α5 → α6 → α7 → α8 → α9 → α10 → α11 → Prop) : Prop
  | mk (a1 : α1) (a2 : α2) (a3 : α3) (a4 : α4) (a5 : α5) (a6 : α6) (a7 : α7) (a8 : α8) (a9 : α9) (a10 : α10) (a11 : α11) : p a1 a2 a3 a4 a5 a6 a7 a8 a9 a10 a11 → Ex11 p
inductive Ex12 {α1 α2 α3 α4 α5 α6 α7 α8 α9 α10 α11 α12 : Type} (p : α1 → α2 → α3 → α4 → α5 → α6 → α7 → α8 → α9 → α10 → α11 → α12 → Prop) : Prop
  | mk (a1 : α1) (a2 : α2) (a3 : α3) (a4 : α4) (a5 : α5) (a6 : α6) (a7 : α7) (a8 : α8) (a9 : α9) (a10 : α10) (a11 : α11) (a12 : α12) : p a1 a2 a3 a4 a5 a6 a7 a8 a9 a10 a11 a12 → Ex12 p
end

section
abbrev Ar (hd : Option Value) (dp un : Nat) (gd : Option (List Code)) (outer : List Env) : Around :=
  { handled := hd, depth := dp, frames := some outer, guards := gd, units := un }
abbrev Prg : Program := PySem.Challenge.rw_pg0086_01.row.prog

/-- every object of h stands in h' as it stood -/
abbrev Kept (h h' : Heap) : Prop := ∀ b o, h.get? b = some o → h'.get? b = some o

/-- what a frame's ground must know to call: the frames below, the text's own objects, the top -/
structure Site (w : World) (s0 : Shared) (mg mb : Str → Option Value) (A : Around) (base : Heap) (outer : List Env) (h : Heap) : Prop where
  B : Below A base outer h
  X : (Mine.hd.heap_39 w.params).In h
  T : Top Mine.hd.view_39 (looseW Mine.hd.view_39 []) (ExcName.means s0.heap) mg mb h

/-- a def's contract: a call that never raises, keeps all that stood, and gives back what Post says -/
def Does (room : Nat) (w : World) (s0 : Shared) (mg mb : Str → Option Value) (f : Addr) (args : List Value) (Pre : Heap → Prop) (Post : Heap → Value → Heap → Prop) : Prop :=
  ∀ (dp un : Nat) (gd : Option (List Code)) (outer : List Env) (base : Heap) (s : Shared) (R : Result → Shared → Prop),
    Site w s0 mg mb (Ar none dp un gd outer) base outer s.heap → Pre s.heap → dp + room < recursionLimit → un + 10 * room < cLine →
    (∀ v h' tk', Kept s.heap h' → Post s.heap v h' → R (.ok (.ret v)) { s with heap := h', toks := tk' }) →
    codeAny (model Prg w) (Ar none dp un gd outer) (.call (.ref f) ⟨args, []⟩) R s

section
variable {w : World} {s0 : Shared} {mg mb : Str → Option Value} {A : Around} {base : Heap} {outer : List Env} {s : Shared} {R : Result → Shared → Prop}
  {name qual : Str} {params : Arguments} {body : List Stmt} {scope : Scope} {dV kV doc pm cdv ct oc : Value} {an od : Option Addr} {osl : Array (Option Value)} {f : Addr} {args : Args} {binds : List (Str × Value)}

theorem lookup_kstB : ∀ (ps : List (Str × Value)) (y : Str), List.lookup y ps = kstB (fun _ => none) ps y
  | [], _ => rfl
  | p :: r, y => by
    show (match y == p.1 with | true => some p.2 | false => List.lookup y r) = if y = p.1 then some p.2 else kstB (fun _ => none) r y
    by_cases h : y = p.1
    · rw [if_pos h, beq_iff_eq.mpr h]
    · have hb : (y == p.1) = false := by
        cases e : y == p.1 with
        | false => rfl
        | true => exact absurd (beq_iff_eq.mp e) h
      rw [if_neg h, hb]
      exact lookup_kstB r y

/-- a call is entered, its frame on the whole heap -/
theorem enterR (S : Site w s0 mg mb A base outer s.heap)
    (ho : (Mine.hd.heap_39 w.params).lookup f = some ⟨oc, od, .func (fnOf name qual params body scope dV kV doc pm an cdv ct), osl⟩) (hcd : codeIn (Mine.hd.heap_39 w.params) cdv qual = true) (hroom : A.depth < recursionLimit)
    (hbind : BindsTo s (fnOf name qual params body scope dV kV doc pm an cdv ct) args binds) (hloc : ∀ y ∈ binds, scope.names.lookup y.1 = some .local)
    (hco : scope.isCoroutine = false) (hgen : scope.isGenerator = false) (hk : scope.kind = .function) (hcell : ∀ x ∈ scope.names, x.2 ≠ .cell)
    (h : ∀ L' h₁, Fr s.heap L' h₁ (kstB (fun _ => none) binds.reverse) → News s.heap L' h₁ [] →
      wpAny (model Prg w) (A.deeper (envOf qual scope L' f cdv)) (execs body (envOf qual scope L' f cdv))
        (fun fl s' => R (.ok (.ret (match fl with | .ret v => v | _ => .none))) s')
        (fun e s' => wpAny (model Prg w) (A.deeper (envOf qual scope L' f cdv)) (leaving (envOf qual scope L' f cdv) e) (fun _ s'' => R (.error e) s'') (fun e' s'' => R (.error e') s'') s')
        { s with heap := h₁, toks := s.toks + binds.length }) :
    codeAny (model Prg w) A (.call (.ref f) args) R s := by
  refine codeAny_call_def (fd := fnOf name qual params body scope dV kV doc pm an cdv ct) (body := body) (binds := binds) hroom (S.X _ _ ho) rfl S.T.nolimit (codeRec_of S.X hcd) rfl hbind hcell hloc (fun h₁ hns hk₁ => ?_) hco hgen hk
  exact h s.heap.objs.size h₁ ⟨by rw [show kstB (fun _ => none) binds.reverse = fun y => binds.reverse.lookup y from funext fun y => (lookup_kstB _ y).symm]; exact hns, hk₁, Nat.le_refl _⟩ News.nil

theorem enter (S : Site w s0 mg mb A base outer s.heap)
    (ho : (Mine.hd.heap_39 w.params).lookup f = some ⟨oc, od, .func (fnOf name qual params body scope dV kV doc pm an cdv ct), osl⟩) (hcd : codeIn (Mine.hd.heap_39 w.params) cdv qual = true) (hroom : A.depth < recursionLimit)
    (hbind : BindsTo s (fnOf name qual params body scope dV kV doc pm an cdv ct) args binds) (hloc : ∀ y ∈ binds, scope.names.lookup y.1 = some .local)
    (hco : scope.isCoroutine = false) (hgen : scope.isGenerator = false) (hk : scope.kind = .function) (hcell : ∀ x ∈ scope.names, x.2 ≠ .cell)
    (h : ∀ L' h₁, Fr s.heap L' h₁ (kstB (fun _ => none) binds.reverse) → News s.heap L' h₁ [] →
      wpAny (model Prg w) (A.deeper (envOf qual scope L' f cdv)) (execs body (envOf qual scope L' f cdv))
        (fun fl s' => R (.ok (.ret (match fl with | .ret v => v | _ => .none))) s') (fun _ _ => False)
        { s with heap := h₁, toks := s.toks + binds.length }) :
    codeAny (model Prg w) A (.call (.ref f) args) R s :=
  enterR S ho hcd hroom hbind hloc hco hgen hk hcell fun L' h₁ F N => wpAny_mono (h L' h₁ F N) (fun _ _ x => x) fun _ _ x => x.elim

/-- a contract is used in a caller's frame -/
theorem Does.use {room dp un : Nat} {gd : Option (List Code)} {A₀ : Around} {h₀ : Heap} {L : Addr} {m : Str → Option Value} {news : List (Addr × Obj)} {env : Env} {vs : List Value} {Pre : Heap → Prop} {Post : Heap → Value → Heap → Prop}
    {Q E : Value → Shared → Prop} (C : Does room w s0 mg mb f vs Pre Post) (B : Below A₀ base outer h₀) (X : (Mine.hd.heap_39 w.params).In h₀) (T : Top Mine.hd.view_39 (looseW Mine.hd.view_39 []) (ExcName.means s0.heap) mg mb h₀)
    (F : Fr h₀ L s.heap m) (N : News h₀ L s.heap news) (hA : A = Ar none dp un gd (env :: outer)) (hf : env.frame = some L) (hke : env.scope.kind = .function) (hp : Pre s.heap) (hd : dp + room < recursionLimit) (hu : un + 10 * room < cLine)
    (ret : ∀ v h' tk', Kept s.heap h' → Fr h₀ L h' m → News h₀ L h' news → Post s.heap v h' → Q v { s with heap := h', toks := tk' }) :
    wpAny (model Prg w) A (call (.ref f) vs) Q E s := by
  subst hA
  refine wpAny_call (C dp un gd (env :: outer) base s _ ⟨?_, X.keeps F.keep, T.keeps F.keep⟩ hp hd hu fun v h' tk' hk hP => ret v h' tk' hk (F.keeps hk) (N.grown hk) hP)
  exact (groundX (A := Ar none dp un gd (env :: outer)) (R := fun _ _ => True) (news := []) B F News.nil rfl hf hke).2.1
end
end

section
section
variable {prog : Program} {w : World} {A : Around} {E : Value → Shared → Prop} {s : Shared} {env : Env} {target : Expr} {body orelse : List Stmt} {Q : Flow → Shared → Prop} {it : Value}

/-- the rest of a for, from its next turn on -/
def ForRest (prog : Program) (w : World) (A : Around) (E : Value → Shared → Prop) (env : Env) (target : Expr) (body orelse : List Stmt) (Q : Flow → Shared → Prop) (it : Value) (s : Shared) : Prop :=
  codeAny (model prog w) A (.forLoop target it body orelse env) (fun r s' => match r with | .ok f => Q f s' | .error e => cameBackBy (model prog w) A env E e s') s

/-- behind a turn -/
def ForPost (prog : Program) (w : World) (A : Around) (E : Value → Shared → Prop) (env : Env) (target : Expr) (body orelse : List Stmt) (Q : Flow → Shared → Prop) (it : Value) (f : Flow) (s : Shared) : Prop :=
  match f with
  | .next => ForRest prog w A E env target body orelse Q it s
  | .cont => ForRest prog w A E env target body orelse Q it s
  | .brk => Q .next s
  | .ret v => Q (.ret v) s

theorem for_start {iter : Expr} {pos : Pos} (h : wpAny (model prog w) A (eval iter env) (fun x s₁ => wpAny (model prog w) A (pyIter x) (fun it s₂ => ForRest prog w A E env target body orelse Q it s₂) E s₁) E s)
    (hs : ∀ x, foldedSetIterable iter env x = pure x := by intro _; rfl) : wpAny (model prog w) A (exec (.For target iter body orelse pos) env) Q E s := wpAny_For h hs

theorem for_turn (hE : PassesOwn (model prog w) A env E)
    (h : wpAny (model prog w) A (pyNext it) (fun r s₁ => match r with
      | none => wpAny (model prog w) A (execs orelse env) Q E s₁
      | some v => wpAny (model prog w) A (letOwnedTupleGo target it v) (fun _ s₂ => wpAny (model prog w) A (assign target env v) (fun _ s₃ =>
          wpAny (model prog w) A (execs body env) (ForPost prog w A E env target body orelse Q it) E s₃) E s₂) E s₁) E s) :
    ForRest prog w A E env target body orelse Q it s := by
  refine codeAny_of_tree ?_
  show wpAny _ A ((forTurn target it body orelse env).onRaise (fun x => do noteFrame x env; theTreesLotGoes x)) _ _ s
  refine wpAny_noted ?_
  simp only [forTurn]
  refine wpAny_bind (wpAny_standAt (wpAny_bind (wpAny_onRaise (wpAny_mono h (fun r s₁ h₁ => ?_) fun e s' h' => wpAny_standAt (hE e s' h')))))
  cases r with
  | none => exact wpAny_pure ⟨rfl, codeAny_block (wpAny_mono h₁ (fun _ _ x => x) fun e s' h' => hE e s' h')⟩
  | some v =>
    refine wpAny_bind (wpAny_mono h₁ (fun _ s₂ h₂ => ?_) fun e s' h' => hE e s' h')
    refine wpAny_bind (wpAny_mono h₂ (fun _ s₃ h₃ => wpAny_bind (wpAny_mono h₃ (fun f s₄ h₄ => ?_) fun e s' h' => hE e s' h')) fun e s' h' => hE e s' h')
    cases f with
    | next => exact wpAny_pure ⟨rfl, h₄⟩
    | cont => exact wpAny_pure ⟨rfl, h₄⟩
    | brk => exact wpAny_pure h₄
    | ret v => exact wpAny_pure h₄
end

/-- the map holds the named values -/
def Has (m : Str → Option Value) : List (Str × Value) → Prop
  | [] => True
  | p :: r => m p.1 = some p.2 ∧ Has m r
theorem Has.mem {m : Str → Option Value} : ∀ {ps : List (Str × Value)}, Has m ps → ∀ p ∈ ps, m p.1 = some p.2
  | _ :: _, h, _, .head _ => h.1
  | _ :: _, h, p, .tail _ hp => Has.mem h.2 p hp
theorem Has.kst {m : Str → Option Value} {ps : List (Str × Value)} (h : Has m ps) : kstB m ps = m := by
  funext z
  exact kstB_eq h.mem fun _ => rfl
/-- the frame's names, as far as they are named -/
def Fv (g : Heap) (L : Addr) (h : Heap) (ps : List (Str × Value)) : Prop := ∃ m, Fr g L h m ∧ Has m ps
theorem Fv.out {g h : Heap} {L : Addr} {ps : List (Str × Value)} (F : Fv g L h ps) : ∃ m, Fr g L h (kstB m ps) := by
  obtain ⟨m, F, H⟩ := F
  exact ⟨m, by rw [H.kst]; exact F⟩
theorem Fv.mk {g h : Heap} {L : Addr} {ps : List (Str × Value)} {m : Str → Option Value} (F : Fr g L h m) (H : Has m ps) : Fv g L h ps := ⟨m, F, H⟩

/-- a for by what holds between its turns, and a measure -/
theorem for_inv {prog : Program} {w : World} {A : Around} {E : Value → Shared → Prop} {env : Env} {target : Expr} {body orelse : List Stmt} {Q : Flow → Shared → Prop} {it : Value} {σ : Type} (μ : σ → Nat) (Inv : σ → Shared → Prop)
    (step : ∀ c s, Inv c s → (∀ c' s', μ c' < μ c → Inv c' s' → ForRest prog w A E env target body orelse Q it s') → ForRest prog w A E env target body orelse Q it s) {c : σ} {s : Shared} (h : Inv c s) :
    ForRest prog w A E env target body orelse Q it s := by
  have all : ∀ n c s, μ c < n → Inv c s → ForRest prog w A E env target body orelse Q it s := by
    intro n
    induction n with
    | zero => intro c s h; exact absurd h (Nat.not_lt_zero _)
    | succ n ih => exact fun c s hc hI => step c s hI fun c' s' h' hI' => ih c' s' (Nat.lt_of_lt_of_le h' (Nat.le_of_lt_succ hc)) hI'
  exact all _ c s (Nat.lt_succ_self _) h

/-- a while by what holds between its turns, and a measure -/
theorem while_inv {prog : Program} {w : World} {A : Around} {E : Value → Shared → Prop} {env : Env} {test : Expr} {body orelse : List Stmt} {Q : Flow → Shared → Prop} {pos : Pos} {σ : Type} (μ : σ → Nat) (Inv : σ → Shared → Prop)
    (step : ∀ c s, Inv c s → (∀ k c' s', μ c' < μ c → Inv c' s' → WhlRest prog w A E env test body orelse Q k s') → WhlRest prog w A E env test body orelse Q 1 s) {c : σ} {s : Shared} (h : Inv c s) :
    wpAny (model prog w) A (exec (.While test body orelse pos) env) Q E s := by
  have all : ∀ n c s, μ c < n → Inv c s → WhlRest prog w A E env test body orelse Q 1 s := by
    intro n
    induction n with
    | zero => intro c s h; exact absurd h (Nat.not_lt_zero _)
    | succ n ih => exact fun c s hc hI => step c s hI fun k c' s' h' hI' => (ih c' s' (Nat.lt_of_lt_of_le h' (Nat.le_of_lt_succ hc)) hI' : WhlRest prog w A E env test body orelse Q 1 s')
  exact whl_start 1 (all _ c s (Nat.lt_succ_self _) h)

/-- a statement's end that goes on, with what holds there -/
structure Mid (P : Shared → Prop) (f : Flow) (s : Shared) : Prop where
  nx : f = .next
  hp : P s
theorem cut_stmt {prog : Program} {w : World} {A : Around} {env : Env} {st : Stmt} {rest : List Stmt} {s : Shared} {Q : Flow → Shared → Prop} {E : Value → Shared → Prop} (P : Shared → Prop)
    (h : wpAny (model prog w) A (exec st env) (Mid P) E s) (k : ∀ s', P s' → wpAny (model prog w) A (execs rest env) Q E s') :
    wpAny (model prog w) A (exec st env) (fun f s' => match f with | .next => wpAny (model prog w) A (execs rest env) Q E s' | f => Q f s') E s :=
  wpAny_mono h (fun f s' x => by obtain ⟨rfl, hp⟩ := x; exact k s' hp) fun _ _ x => x
/-- a statement's end that goes on, or leaves the def with a value -/
inductive MidR (P : Shared → Prop) (V : Value → Shared → Prop) : Flow → Shared → Prop
  | nx {s : Shared} : P s → MidR P V .next s
  | ret {v : Value} {s : Shared} : V v s → MidR P V (.ret v) s
theorem cut_ifs {prog : Program} {w : World} {A : Around} {env : Env} {st : Stmt} {rest : List Stmt} {s : Shared} {Q : Flow → Shared → Prop} {E : Value → Shared → Prop} (P : Shared → Prop)
    (h : wpAny (model prog w) A (exec st env) (MidR P fun v s' => Q (.ret v) s') E s) (k : ∀ s', P s' → wpAny (model prog w) A (execs rest env) Q E s') :
    wpAny (model prog w) A (exec st env) (fun f s' => match f with | .next => wpAny (model prog w) A (execs rest env) Q E s' | f => Q f s') E s :=
  wpAny_mono h (fun f s' x => by cases x with | nx hp => exact k s' hp | ret hv => exact hv) fun _ _ x => x
theorem cut_if {prog : Program} {w : World} {A : Around} {env : Env} {st : Stmt} {rest : List Stmt} {s : Shared} {Q : Flow → Shared → Prop} {E : Value → Shared → Prop} (P : Shared → Prop)
    (h : wpAny (model prog w) A (exec st env) (MidR P fun v s' => Q (.ret v) s') E s) (k : ∀ s', P s' → wpAny (model prog w) A (execs rest env) Q E s') :
    wpAny (model prog w) A (execs (st :: rest) env) Q E s :=
  wpAny_execs_cons (wpAny_mono h (fun f s' x => by cases x with | nx hp => exact k s' hp | ret hv => exact hv) fun _ _ x => x)
theorem cut_cons {prog : Program} {w : World} {A : Around} {env : Env} {st : Stmt} {rest : List Stmt} {s : Shared} {Q : Flow → Shared → Prop} {E : Value → Shared → Prop} (P : Shared → Prop)
    (h : wpAny (model prog w) A (exec st env) (Mid P) E s) (k : ∀ s', P s' → wpAny (model prog w) A (execs rest env) Q E s') :
    wpAny (model prog w) A (execs (st :: rest) env) Q E s := wpAny_execs_cons (cut_stmt P h k)

/-- a range's iterator, as it lies -/
abbrev rangeIt (x left : Int) : Obj := { cls := .type "range_iterator", data := .fields #[rawInt x, rawInt left, rawInt 1] }

section
variable {prog : Program} {w : World} {A : Around} {E : Value → Shared → Prop} {s : Shared} {g : Heap} {L : Addr} {m : Str → Option Value} {news : List (Addr × Obj)}

theorem upd_head {h h' : Heap} {I : Addr} {o o' : Obj} (F : Fr g L h m) (N : News g L h ((I, o) :: news)) (hne : ∀ p ∈ news, p.1 ≠ I) (ho : h'.get? I = some o') (hk : ∀ b x, b ≠ I → h.get? b = some x → h'.get? b = some x) :
    Fr g L h' m ∧ News g L h' ((I, o') :: news) := by
  have hI := N _ (List.Mem.head _)
  refine ⟨⟨F.ns.at' fun x e => hk _ _ (Ne.symm hI.2.1) e, fun b x e => hk b x (fun q => ?_) (F.keep b x e), F.above⟩, fun p hp => ?_⟩
  · subst q
    have := hI.2.2
    rw [e] at this
    cases this
  · rcases List.mem_cons.mp hp with rfl | hp
    · exact ⟨ho, hI.2⟩
    · have P := N p (List.Mem.tail _ hp)
      exact ⟨hk _ _ (hne p hp) P.1, P.2⟩

theorem range_iter {r : Addr} {a b : Int} {t u v : Tok} {n : Nat} {Q : Value → Shared → Prop} (F : Fr g L s.heap m) (N : News g L s.heap news) (hr : IsRange s.heap r a b 1 t u v) (hsmall : Builtin.Range.small a b 1 = true) (hsz : Builtin.Range.rangeSize a b 1 = (n : Int))
    (k : ∀ I h', (∀ p ∈ news, p.1 < I) → Fr g L h' m → News g L h' ((I, rangeIt a n) :: news) → Q (.ref I) { s with heap := h' }) :
    wpAny (model prog w) A (pyIter (.ref r)) Q E s := by
  refine wpAny_pyIter_range hr hsmall ?_
  rw [hsz]
  exact k _ _ (fun p hp => Heap.lt_size (N p hp).1) (F.push _) (N.push F _)

theorem range_next {I : Addr} {x : Int} {k : Nat} {Q : Option Value → Shared → Prop} (F : Fr g L s.heap m) (N : News g L s.heap ((I, rangeIt x ((k + 1 : Nat) : Int)) :: news)) (hne : ∀ p ∈ news, p.1 ≠ I)
    (hQ : ∀ h', Fr g L h' m → News g L h' ((I, rangeIt (x + 1) (k : Int)) :: news) → Q (some (.int x s.toks)) { s with heap := h', toks := s.toks + 1 }) :
    wpAny (model prog w) A (pyNext (.ref I)) Q E s := by
  refine wpAny_pyNext_range_item (N _ (List.Mem.head _)).1 (by omega) fun h' hit hs => ?_
  rw [show ((k + 1 : Nat) : Int) - 1 = (k : Int) by omega] at hit
  obtain ⟨F', N'⟩ := upd_head F N hne hit fun b x hb e => (hs.2 b hb).trans e
  exact hQ h' F' N'

theorem range_stop {I : Addr} {x : Int} {Q : Option Value → Shared → Prop} (hh : A.handled = none) (F : Fr g L s.heap m) (N : News g L s.heap ((I, rangeIt x 0) :: news)) (hne : ∀ p ∈ news, p.1 ≠ I)
    (hQ : ∀ h', Fr g L h' m → News g L h' news → Q none { s with heap := h' }) :
    wpAny (model prog w) A (pyNext (.ref I)) Q E s := by
  refine wpAny_pyNext_range_end hh (N _ (List.Mem.head _)).1 (by omega) fun h' he => ?_
  have hI := N _ (List.Mem.head _)
  refine hQ h' ⟨F.ns.at' fun x e => he _ _ (Ne.symm hI.2.1) e, fun b x e => he b x (fun q => ?_) (F.keep b x e), F.above⟩ fun p hp => ⟨he _ _ (hne p hp) (N p (List.Mem.tail _ hp)).1, (N p (List.Mem.tail _ hp)).2⟩
  subst q
  have := hI.2.2
  rw [e] at this
  cases this

/-- a list's iterator at a place -/
def IterAt (o : Obj) (l : Addr) (i : Nat) : Prop := o.cls = .type "list_iterator" ∧ o.data = .fields #[.ref l, .int i 0]

theorem list_iter {l : Addr} {items : Array Value} {Q : Value → Shared → Prop} (F : Fr g L s.heap m) (N : News g L s.heap news) (hl : s.heap.IsList l items)
    (k : ∀ I h' o, (∀ p ∈ news, p.1 < I) → IterAt o l 0 → Fr g L h' m → News g L h' ((I, o) :: news) → Q (.ref I) { s with heap := h' }) :
    wpAny (model prog w) A (pyIter (.ref l)) Q E s :=
  wpAny_pyIter_list hl (k _ _ _ (fun p hp => Heap.lt_size (N p hp).1) ⟨rfl, rfl⟩ (F.push _) (N.push F _))

theorem list_next {I l : Addr} {o : Obj} {i : Nat} {items : Array Value} {v : Value} {Q : Option Value → Shared → Prop} (F : Fr g L s.heap m) (N : News g L s.heap ((I, o) :: news)) (hne : ∀ p ∈ news, p.1 ≠ I) (hi : IterAt o l i) (hl : s.heap.IsList l items) (hv : items[i]? = some v)
    (hQ : ∀ h' o', IterAt o' l (i + 1) → Fr g L h' m → News g L h' ((I, o') :: news) → Q (some v) { s with heap := h' }) :
    wpAny (model prog w) A (pyNext (.ref I)) Q E s := by
  refine wpAny_pyNext_list_item ⟨o, (N _ (List.Mem.head _)).1, hi⟩ hl hv fun h' hit hs => ?_
  obtain ⟨o', ho', hi'⟩ := hit
  obtain ⟨F', N'⟩ := upd_head F N hne ho' fun b x hb e => (hs.2 b hb).trans e
  exact hQ h' o' hi' F' N'

theorem list_stop {I l : Addr} {o : Obj} {i : Nat} {items : Array Value} {Q : Option Value → Shared → Prop} (hh : A.handled = none) (F : Fr g L s.heap m) (N : News g L s.heap ((I, o) :: news)) (hne : ∀ p ∈ news, p.1 ≠ I) (hi : IterAt o l i) (hl : s.heap.IsList l items) (hv : items[i]? = none)
    (hQ : ∀ h', Fr g L h' m → News g L h' news → Q none { s with heap := h' }) :
    wpAny (model prog w) A (pyNext (.ref I)) Q E s := by
  refine wpAny_pyNext_list_end hh ⟨o, (N _ (List.Mem.head _)).1, hi⟩ hl hv fun h' he => ?_
  have hI := N _ (List.Mem.head _)
  refine hQ h' ⟨F.ns.at' fun x e => he _ _ (Ne.symm hI.2.1) e, fun b x e => he b x (fun q => ?_) (F.keep b x e), F.above⟩ fun p hp => ⟨he _ _ (hne p hp) (N p (List.Mem.tail _ hp)).1, (N p (List.Mem.tail _ hp)).2⟩
  subst q
  have := hI.2.2
  rw [e] at this
  cases this

end

section
variable {prog : Program} {w : World} {A : Around} {E : Value → Shared → Prop} {s : Shared} {env : Env} {body orelse : List Stmt} {Q : Flow → Shared → Prop} {g : Heap} {m : Str → Option Value} {news : List (Addr × Obj)} {x : Str} {px : Pos}

theorem store_loc {v : Value} {R : Unit → Shared → Prop} (F : Fr g env.locals s.heap m) (N : News g env.locals s.heap news) (hx : env.kindOf x = some .local) (hk : env.scope.kind = .function)
    (h : ∀ h', Fr g env.locals h' (fun y => if y = x then some v else m y) → News g env.locals h' news → R () { s with heap := h', toks := s.toks + 1 }) :
    wpAny (model prog w) A (assign (.Name x px) env v) R E s :=
  wpAny_assign_Name (wpAny_storeName_local hx F.ns (fun h' hn hs => h h' (F.set hn hs) (N.set hs)) (by rw [hk]; rfl))

/-- one turn of a for over a range, its name a local -/
theorem range_turn {I : Addr} {a : Int} {k : Nat} (F : Fr g env.locals s.heap m) (N : News g env.locals s.heap ((I, rangeIt a ((k + 1 : Nat) : Int)) :: news)) (hne : ∀ p ∈ news, p.1 ≠ I) (hx : env.kindOf x = some .local) (hk : env.scope.kind = .function)
    (hE : PassesOwn (model prog w) A env E)
    (h : ∀ h', Fr g env.locals h' (fun y => if y = x then some (.int a s.toks) else m y) → News g env.locals h' ((I, rangeIt (a + 1) (k : Int)) :: news) →
      wpAny (model prog w) A (execs body env) (ForPost prog w A E env (.Name x px) body orelse Q (.ref I)) E { s with heap := h', toks := s.toks + 1 + 1 }) :
    ForRest prog w A E env (.Name x px) body orelse Q (.ref I) s := by
  refine for_turn hE (range_next F N hne fun h' F' N' => ?_)
  refine wpAny_of_eq (rfl : letOwnedTupleGo (.Name x px) (.ref I) (.int a s.toks) = pure ()) ?_
  exact store_loc F' N' hx hk fun h'' F'' N'' => h h'' F'' N''

theorem range_done {I : Addr} {a : Int} {target : Expr} (hh : A.handled = none) (F : Fr g env.locals s.heap m) (N : News g env.locals s.heap ((I, rangeIt a 0) :: news)) (hne : ∀ p ∈ news, p.1 ≠ I)
    (hE : PassesOwn (model prog w) A env E)
    (h : ∀ h', Fr g env.locals h' m → News g env.locals h' news → wpAny (model prog w) A (execs orelse env) Q E { s with heap := h' }) :
    ForRest prog w A E env target body orelse Q (.ref I) s :=
  for_turn hE (range_stop hh F N hne fun h' F' N' => h h' F' N')

theorem list_turn {I l : Addr} {o : Obj} {i : Nat} {items : Array Value} {v : Value} (F : Fr g env.locals s.heap m) (N : News g env.locals s.heap ((I, o) :: news)) (hne : ∀ p ∈ news, p.1 ≠ I) (hi : IterAt o l i) (hl : s.heap.IsList l items) (hv : items[i]? = some v)
    (hx : env.kindOf x = some .local) (hk : env.scope.kind = .function) (hE : PassesOwn (model prog w) A env E)
    (h : ∀ h' o', IterAt o' l (i + 1) → Fr g env.locals h' (fun y => if y = x then some v else m y) → News g env.locals h' ((I, o') :: news) →
      wpAny (model prog w) A (execs body env) (ForPost prog w A E env (.Name x px) body orelse Q (.ref I)) E { s with heap := h', toks := s.toks + 1 }) :
    ForRest prog w A E env (.Name x px) body orelse Q (.ref I) s := by
  refine for_turn hE (list_next F N hne hi hl hv fun h' o' hi' F' N' => ?_)
  refine wpAny_of_eq (rfl : letOwnedTupleGo (.Name x px) (.ref I) v = pure ()) ?_
  exact store_loc F' N' hx hk fun h'' F'' N'' => h h'' o' hi' F'' N''

theorem list_done {I l : Addr} {o : Obj} {i : Nat} {items : Array Value} {target : Expr} (hh : A.handled = none) (F : Fr g env.locals s.heap m) (N : News g env.locals s.heap ((I, o) :: news)) (hne : ∀ p ∈ news, p.1 ≠ I) (hi : IterAt o l i) (hl : s.heap.IsList l items) (hv : items[i]? = none)
    (hE : PassesOwn (model prog w) A env E)
    (h : ∀ h', Fr g env.locals h' m → News g env.locals h' news → wpAny (model prog w) A (execs orelse env) Q E { s with heap := h' }) :
    ForRest prog w A E env target body orelse Q (.ref I) s :=
  for_turn hE (list_stop hh F N hne hi hl hv fun h' F' N' => h h' F' N')
end

section
variable {prog : Program} {w : World} {A : Around} {E : Value → Shared → Prop} {s : Shared} {g : Heap} {L : Addr} {m : Str → Option Value} {news : List (Addr × Obj)}
theorem small_of {a b c : Int} (h1 : -1000000 ≤ a) (h2 : a ≤ 1000000) (h3 : -1000000 ≤ b) (h4 : b ≤ 1000000) (h5 : 0 < c) (h6 : c ≤ 1000) : Builtin.Range.small a b c = true := by
  unfold Builtin.Range.small
  have hs : Builtin.Range.rangeFitsLong (Builtin.Range.rangeSize a b c) = true := by
    unfold Builtin.Range.rangeSize Builtin.Range.rangeFitsLong
    rw [if_pos h5]
    split
    · have q1 : 0 ≤ (b - a - 1) / c := Int.ediv_nonneg (by omega) (by omega)
      have q2 : (b - a - 1) / c ≤ b - a - 1 := Int.ediv_le_self _ (by omega)
      simp only [Bool.and_eq_true, decide_eq_true_eq]; omega
    · rfl
  simp only [hs, Bool.and_true]
  have f : ∀ x : Int, -10000000 ≤ x → x ≤ 10000000 → Builtin.Range.rangeFitsLong x = true := by
    intro x h1 h2
    unfold Builtin.Range.rangeFitsLong
    simp only [Bool.and_eq_true, decide_eq_true_eq]; omega
  rw [f a (by omega) (by omega), f b (by omega) (by omega), f c (by omega) (by omega), if_pos h5, f (b + (c - 1)) (by omega) (by omega)]
  simp
theorem size_one {a b : Int} {n : Nat} (h : b - a = n) : Builtin.Range.rangeSize a b 1 = (n : Int) := by
  unfold Builtin.Range.rangeSize
  rw [if_pos (by omega)]
  split
  · rw [Int.ediv_one]; omega
  · omega
/-- list(range(2, 2 * (n + 1), 2)) -/
theorem list_range2 {r : Addr} {b : Int} {t u v : Tok} {n : Nat} {Q : Value → Shared → Prop} (hh : A.handled = none) (F : Fr g L s.heap m) (N : News g L s.heap news) (hr : IsRange s.heap r 2 b 2 t u v) (hb : b = 2 * ((n : Int) + 1)) (hn : n ≤ 1000)
    (k : ∀ D h' tk ys c, (∀ p ∈ news, p.1 ≠ D) → IntsAre ys ((List.range n).map fun (i : Nat) => 2 * ((i : Int) + 1)) → Fr g L h' m → News g L h' ((D, listOf ys.toArray c) :: news) → Q (.ref D) { s with heap := h', toks := tk }) :
    wpAny (model prog w) A (call (.type "list") [.ref r]) Q E s := by
  have hsz : Builtin.Range.rangeSize 2 b 2 = (n : Int) := by
    unfold Builtin.Range.rangeSize
    rw [if_pos (by omega)]
    split <;> omega
  refine list_rangeD hh F N hr (small_of (by omega) (by omega) (by omega) (by omega) (by omega) (by omega)) hsz (by omega) fun h' tk ys F' N' hk h0 hl hp hc => ?_
  obtain ⟨c, N''⟩ := made_enters hp F' N' h0
  have hi : IntsAre ys ((rangeInts 2 2 n).map fun i => i) := CarriedAll.intsOf (f := fun i => i) hc
  have e : ((rangeInts 2 2 n).map fun i => i) = (List.range n).map fun (i : Nat) => 2 * ((i : Int) + 1) := by
    rw [List.map_id']
    unfold rangeInts
    refine List.map_congr_left fun i _ => ?_
    omega
  rw [e] at hi
  refine k _ h' tk ys c (fun p hp' e' => ?_) hi F' N''
  exact absurd (Heap.lt_size (N p hp').1) (by rw [e']; exact Nat.lt_irrefl _)
end
end

section
set_option maxRecDepth 100000

/-- a run of ints, each with a token of its own, the tokens in a row -/
def freshInts (x : Int) (t : Nat) : Nat → List Value
  | 0 => []
  | k + 1 => .int x t :: freshInts (x + 1) (t + 1) k
theorem freshInts_length (x : Int) (t k : Nat) : (freshInts x t k).length = k := by
  induction k generalizing x t with
  | zero => rfl
  | succ k ih => simp [freshInts, ih]

section
variable {prog : Program} {w : World} {A : Around} {R : Result → Shared → Prop}

theorem extend_loop_range (hh : A.handled = none) (S I : Addr) (hSI : S ≠ I) (res : Value) : ∀ (k : Nat) (s : Shared) (acc : List Value) (c : Nat) (x : Int),
    s.heap.get? S = some { cls := .type "list", dict := none, data := .seq acc.toArray c, slots := #[] } → IsRangeIter s.heap I x k 1 → acc.length + k ≤ 10000 →
    (∀ h' c', (∀ b o, b ≠ S → b ≠ I → s.heap.get? b = some o → h'.get? b = some o) → h'.get? S = some { cls := .type "list", dict := none, data := .seq (acc ++ freshInts x s.toks k).toArray c', slots := #[] } →
      R (.ok (.ret res)) { s with heap := h', toks := s.toks + k }) →
    codeAny (model prog w) A (.builtin "list.extend.loop" ⟨[.ref S, .ref I, res], []⟩) R s := by
  intro k
  induction k with
  | zero =>
    intro s acc c x hS hI hz hR
    refine codeAny_builtin F.entry_extend_loop ?_
    rw [Around.under_plainId F.plain_extend_loop _]
    show wpAny _ A.in1 (pyNext (.ref I) >>= _) _ _ s
    refine wpAny_bind (wpAny_pyNext_range_end hh hI (by omega) fun h' he => ?_)
    exact wpAny_pure (hR h' c (fun b o _ hb e => he b o hb e) (by simpa [freshInts] using he S _ hSI hS))
  | succ k ih =>
    intro s acc c x hS hI hz hR
    refine codeAny_builtin F.entry_extend_loop ?_
    rw [Around.under_plainId F.plain_extend_loop _]
    show wpAny _ A.in1 (pyNext (.ref I) >>= _) _ _ s
    refine wpAny_bind (wpAny_pyNext_range_item hI (by omega) fun h' hit hs => ?_)
    have hS' := (hs.2 S hSI).trans hS
    show wpAny _ A.in1 (updateSeq S (·.push (.int x s.toks)) >>= _) _ _ _
    refine wpAny_bind ?_
    refine wpAny_updateSeq hS' rfl (wpAny_pure ⟨plainId_quiet F.plain_extend_loop _, ?_⟩) (by rw [sizeLine_eq]; simp; omega) (by rw [sizeLine_eq]; simp; omega)
    have hS₂ := Heap.get?_update_self (Obj.mapSeq (·.push (Value.int x s.toks))) hS' rfl
    refine ih { s with heap := h'.update S (Obj.mapSeq (·.push (Value.int x s.toks))), toks := s.toks + 1 } (acc ++ [.int x s.toks]) _ (x + 1) (by rw [hS₂]; simp [Obj.mapSeq]; rfl) ?_ (by simp; omega) fun h'' c' hk hS'' => ?_
    · have := (Heap.get?_update_other h' (Obj.mapSeq (·.push (Value.int x s.toks))) hSI).trans hit
      rw [show ((k + 1 : Nat) : Int) - 1 = (k : Int) by omega] at this
      exact this
    · have := hR h'' c' (fun b o hb hb' e => hk b o hb hb' ((Heap.get?_update_other _ _ (Ne.symm hb)).trans ((hs.2 b hb').trans e))) (by simpa [freshInts] using hS'')
      rw [show s.toks + (k + 1) = s.toks + 1 + k by omega] at this
      exact this
end

section
variable {prog : Program} {w : World} {A : Around} {E : Value → Shared → Prop} {s : Shared}

theorem extend_range_t {R : Result → Shared → Prop} {r : Addr} {a b : Int} {t u v : Tok} {n : Nat} (hh : A.handled = none) (hr : IsRange s.heap r a b 1 t u v) (hsmall : Builtin.Range.small a b 1 = true)
    (hn : Builtin.Range.rangeSize a b 1 = n) (hlen : n ≤ 1000) (S : Addr) (res : Value) (c₀ : Nat) (hS : s.heap.get? S = some { cls := .type "list", data := .seq #[] c₀ })
    (hR : ∀ h' t₀ c', s.toks ≤ t₀ → (∀ b o, b ≠ S → s.heap.get? b = some o → h'.get? b = some o) → h'.get? S = some { cls := .type "list", dict := none, data := .seq (freshInts a t₀ n).toArray c', slots := #[] } →
      R (.ok (.ret res)) { s with heap := h', toks := t₀ + n }) :
    wpAny (model prog w) A.in1 (Builtin.List.listExtendWith (.ref S) (.ref r) res)
      (fun fin s' => match fin with | .done f => R (.ok f) s' | .again c' => c'.quiet = true ∧ codeAny (model prog w) A c' R s') (fun e s' => R (.error e) s') s := by
  have hSr : S ≠ r := fun e => by rw [e, hr] at hS; simp at hS
  have hSI : S ≠ s.heap.objs.size := Nat.ne_of_lt (Heap.lt_size hS)
  have key : ∀ (h : Heap) (c₁ tk : Nat), s.toks ≤ tk → IsRangeIter h s.heap.objs.size a (n : Int) 1 → (∀ b o, b ≠ S → s.heap.get? b = some o → h.get? b = some o) →
      h.get? S = some { cls := .type "list", data := .seq #[] c₁ } → codeAny (model prog w) A (.builtin "list.extend.loop" ⟨[.ref S, .ref s.heap.objs.size, res], []⟩) R { s with heap := h, toks := tk } := by
    intro h c₁ tk htk hit hk hS₁
    refine extend_loop_range hh S _ hSI res n { s with heap := h, toks := tk } [] c₁ a hS₁ hit (by simp; omega) fun h' c' hk' hS' => ?_
    exact hR h' tk c' htk (fun b o hb e => hk' b o hb (Nat.ne_of_lt (Heap.lt_size e)) (hk b o hb e)) (by simpa using hS')
  unfold Builtin.List.listExtendWith
  refine wpAny_bind (wpAny_typeOf (T := "range") ⟨_, hr, rfl⟩ ?_)
  have h1 : Builtin.List.listSameRef (.ref S) (.ref r) = false := by simp [Builtin.List.listSameRef, hSr]
  have h2 : (Value.type "range" == Value.type "list") = false := by decide
  have h3 : (Value.type "range" == Value.type "tuple") = false := by decide
  simp only [h1, h2, h3, Bool.or_false, Bool.false_eq_true, if_false]
  refine wpAny_bind (wpAny_pyIter_range hr hsmall ?_)
  refine wpAny_bind (wpAny_holding (wpAny_hint_range (n := n) (Heap.get?_push_of_some _ hr) hn (by omega) ?_))
  have hit₁ : IsRangeIter (s.heap.push { cls := .type "range_iterator", data := .fields #[rawInt a, rawInt (Builtin.Range.rangeSize a b 1), rawInt 1] }) s.heap.objs.size a (n : Int) 1 := by
    show IsRangeIter _ _ _ _ _; rw [hn]; exact Heap.get?_push_size _ rfl
  have hS₁ := Heap.get?_push_of_some { cls := .type "range_iterator", data := .fields #[rawInt a, rawInt (Builtin.Range.rangeSize a b 1), rawInt 1] } hS
  refine wpAny_ite_split (fun _ => ?_) (fun _ => wpAny_pure ⟨plainId_quiet F.plain_extend_loop _, key _ c₀ _ (by dsimp only; omega) hit₁ (fun b o _ e => Heap.get?_push_of_some _ e) hS₁⟩)
  refine wpAny_bind (wpAny_rule ?_)
  refine wpAny_bind ?_
  show wpAny _ _ (updateSeq S (·.push .none) >>= fun _ => updateSeq S (·.pop)) _ _ _
  refine wpAny_bind (wpAny_updateSeq hS₁ rfl ?_)
  have hS₂ := Heap.get?_update_self (Obj.mapSeq (·.push Value.none)) hS₁ rfl
  refine wpAny_updateSeq (hz := by seq_fits) hS₂ rfl ?_
  have hS₃ := Heap.get?_update_self (Obj.mapSeq (·.pop)) hS₂ rfl
  refine wpAny_pure ⟨plainId_quiet F.plain_extend_loop _, key _ _ _ (by dsimp only; omega) ?_ (fun b o hb e => ?_) hS₃⟩
  · exact (Heap.get?_update_other _ _ hSI).trans ((Heap.get?_update_other _ _ hSI).trans hit₁)
  · exact (Heap.get?_update_other _ _ (Ne.symm hb)).trans ((Heap.get?_update_other _ _ (Ne.symm hb)).trans (Heap.get?_push_of_some _ e))

theorem list_range_t {r : Addr} {a b : Int} {t u v : Tok} {n : Nat} {g : Heap} {L : Addr} {m : Str → Option Value} {news : List (Addr × Obj)} {Q : Value → Shared → Prop} (hh : A.handled = none) (Fh : Fr g L s.heap m) (N : News g L s.heap news) (hr : IsRange s.heap r a b 1 t u v) (hsmall : Builtin.Range.small a b 1 = true)
    (hn : Builtin.Range.rangeSize a b 1 = n) (hlen : n ≤ 1000)
    (hQ : ∀ D h' t₀ c', (∀ p ∈ news, p.1 ≠ D) → s.toks ≤ t₀ → Fr g L h' m → News g L h' ((D, listOf (freshInts a t₀ n).toArray c') :: news) → Q (.ref D) { s with heap := h', toks := t₀ + n }) :
    wpAny (model prog w) A (call (.type "list") [.ref r]) Q E s := by
  refine callType_codes (Q₁ := fun obj s₁ => obj = .ref s.heap.objs.size ∧ s₁ = { s with heap := s.heap.push { cls := .type "list", data := .seq #[] } }) F.called_list (F.typeCall_list_1 _) F.entry_list_init
    (code_list_new _ ⟨rfl, rfl⟩) fun obj s₁ h₁ => ?_
  obtain ⟨rfl, rfl⟩ := h₁
  have hS : (s.heap.push { cls := .type "list", data := .seq #[] }).get? s.heap.objs.size = some { cls := .type "list", data := .seq #[] } := Heap.get?_push_size _ rfl
  have hSr : s.heap.objs.size ≠ r := fun e => by have := Heap.lt_size hr; rw [← e] at this; exact Nat.lt_irrefl _ this
  refine ⟨⟨_, hS, rfl⟩, F.args_list_init_2 _ _, ?_⟩
  show wpAny _ _ (do let old ← Builtin.List.listItems (.ref s.heap.objs.size); Builtin.List.listUpdate (.ref s.heap.objs.size) (fun _ => #[]); letGo old.toList.reverse; Builtin.List.listExtendWith (.ref s.heap.objs.size) (.ref r) .none) _ _ _
  refine wpAny_bind ?_
  unfold Builtin.List.listItems
  refine wpAny_bind (wpAny_seqItems hS rfl (wpAny_pure ?_))
  show wpAny _ _ (updateSeq s.heap.objs.size (fun _ => #[]) >>= fun _ => letGo (#[] : Array Value).toList.reverse >>= fun _ => Builtin.List.listExtendWith (.ref s.heap.objs.size) (.ref r) .none) _ _ _
  refine wpAny_bind (wpAny_updateSeq hS rfl ?_)
  have hS₂ := Heap.get?_update_self (Obj.mapSeq (fun _ => (#[] : Array Value))) hS rfl
  have oth : ∀ b o, b ≠ s.heap.objs.size → s.heap.get? b = some o → ((s.heap.push { cls := .type "list", data := .seq #[] }).update s.heap.objs.size (Obj.mapSeq (fun _ => (#[] : Array Value)))).get? b = some o :=
    fun b o hb e => (Heap.get?_update_other _ _ (Ne.symm hb)).trans (Heap.get?_push_of_some _ e)
  refine wpAny_bind (wpAny_letGo ?_)
  refine extend_range_t (A := A.in1) hh (oth r _ (Ne.symm hSr) hr) hsmall hn hlen s.heap.objs.size .none _ hS₂ fun h' t₀ c' ht hk hS' => ?_
  have hk' : Kept s.heap h' := fun b o e => hk b o (Nat.ne_of_lt (Heap.lt_size e)) (oth b o (Nat.ne_of_lt (Heap.lt_size e)) e)
  have Fh' := Fh.keeps hk'
  refine ⟨rfl, hQ s.heap.objs.size h' t₀ c' (fun p hp e => ?_) ht Fh' (News.more Fh' (N.grown hk') hS' (fun es n q => by cases q) ?_)⟩
  · exact absurd (Heap.lt_size (N p hp).1) (by rw [e]; exact Nat.lt_irrefl _)
  · cases e : g.get? s.heap.objs.size with
    | none => rfl
    | some o => exact absurd (Heap.lt_size (Fh.keep _ _ e)) (Nat.lt_irrefl _)
end
end

section
/-- ints with tokens of their own, from a up to b -/
def TokIn (a b : Nat) (vs : List Value) : Prop := ∀ v ∈ vs, ∃ (p : Int) (t : Nat), v = .int p t ∧ a ≤ t ∧ t < b
theorem TokIn.nil {a b : Nat} : TokIn a b [] := fun _ h => nomatch h
theorem TokIn.mono {a b a' b' : Nat} {vs : List Value} (h : TokIn a b vs) (ha : a' ≤ a) (hb : b ≤ b') : TokIn a' b' vs := fun v hv => by
  obtain ⟨p, t, e, h1, h2⟩ := h v hv
  exact ⟨p, t, e, by omega, by omega⟩
theorem TokIn.app {a b : Nat} {vs us : List Value} (h : TokIn a b vs) (g : TokIn a b us) : TokIn a b (vs ++ us) := fun v hv => (List.mem_append.mp hv).elim (h v) (g v)
theorem TokIn.cons {a b : Nat} {p : Int} {t : Nat} {us : List Value} (h1 : a ≤ t) (h2 : t < b) (g : TokIn a b us) : TokIn a b (.int p t :: us) := fun v hv => by
  rcases List.mem_cons.mp hv with rfl | hv
  · exact ⟨p, t, rfl, h1, h2⟩
  · exact g v hv
theorem TokIn.sub {a b : Nat} {vs us : List Value} (h : TokIn a b vs) (hs : ∀ v ∈ us, v ∈ vs) : TokIn a b us := fun v hv => h v (hs v hv)
theorem TokIn.fresh (x : Int) (t k : Nat) : TokIn t (t + k) (freshInts x t k) := by
  induction k generalizing x t with
  | zero => exact TokIn.nil
  | succ k ih => exact TokIn.cons (Nat.le_refl _) (by omega) ((ih (x + 1) (t + 1)).mono (by omega) (by omega))

/-- a def's contract that tells of the tokens, too -/
def DoesT (room : Nat) (w : World) (s0 : Shared) (mg mb : Str → Option Value) (f : Addr) (args : List Value) (Pre : Heap → Prop) (Post : Heap → Nat → Value → Heap → Nat → Prop) : Prop :=
  ∀ (dp un : Nat) (gd : Option (List Code)) (outer : List Env) (base : Heap) (s : Shared) (R : Result → Shared → Prop),
    Site w s0 mg mb (Ar none dp un gd outer) base outer s.heap → Pre s.heap → dp + room < recursionLimit → un + 10 * room < cLine →
    (∀ v h' tk', Kept s.heap h' → s.toks ≤ tk' → Post s.heap s.toks v h' tk' → R (.ok (.ret v)) { s with heap := h', toks := tk' }) →
    codeAny (model Prg w) (Ar none dp un gd outer) (.call (.ref f) ⟨args, []⟩) R s

section
variable {w : World} {s0 : Shared} {mg mb : Str → Option Value} {A : Around} {base : Heap} {outer : List Env} {s : Shared} {f : Addr}
theorem DoesT.use {room dp un : Nat} {gd : Option (List Code)} {A₀ : Around} {h₀ : Heap} {L : Addr} {m : Str → Option Value} {news : List (Addr × Obj)} {env : Env} {vs : List Value} {Pre : Heap → Prop} {Post : Heap → Nat → Value → Heap → Nat → Prop}
    {Q E : Value → Shared → Prop} (C : DoesT room w s0 mg mb f vs Pre Post) (B : Below A₀ base outer h₀) (X : (Mine.hd.heap_39 w.params).In h₀) (T : Top Mine.hd.view_39 (looseW Mine.hd.view_39 []) (ExcName.means s0.heap) mg mb h₀)
    (F : Fr h₀ L s.heap m) (N : News h₀ L s.heap news) (hA : A = Ar none dp un gd (env :: outer)) (hf : env.frame = some L) (hke : env.scope.kind = .function) (hp : Pre s.heap) (hd : dp + room < recursionLimit) (hu : un + 10 * room < cLine)
    (ret : ∀ v h' tk', Kept s.heap h' → s.toks ≤ tk' → Fr h₀ L h' m → News h₀ L h' news → Post s.heap s.toks v h' tk' → Q v { s with heap := h', toks := tk' }) :
    wpAny (model Prg w) A (call (.ref f) vs) Q E s := by
  subst hA
  refine wpAny_call (C dp un gd (env :: outer) base s _ ⟨?_, X.keeps F.keep, T.keeps F.keep⟩ hp hd hu fun v h' tk' hk ht hP => ret v h' tk' hk ht (F.keeps hk) (N.grown hk) hP)
  exact (groundX (A := Ar none dp un gd (env :: outer)) (R := fun _ _ => True) (news := []) B F News.nil rfl hf hke).2.1

/-- the call site of a def, for a contract that is no Does -/
theorem site_call {dp un : Nat} {gd : Option (List Code)} {A₀ : Around} {hd : Option Value} {h₀ : Heap} {L : Addr} {m : Str → Option Value} {env : Env}
    (B : Below A₀ base outer h₀) (X : (Mine.hd.heap_39 w.params).In h₀) (T : Top Mine.hd.view_39 (looseW Mine.hd.view_39 []) (ExcName.means s0.heap) mg mb h₀)
    (F : Fr h₀ L s.heap m) (hf : env.frame = some L) (hke : env.scope.kind = .function) : Site w s0 mg mb (Ar hd dp un gd (env :: outer)) base (env :: outer) s.heap :=
  ⟨(groundX (A := Ar hd dp un gd (env :: outer)) (R := fun _ _ => True) (news := []) B F News.nil rfl hf hke).2.1, X.keeps F.keep, T.keeps F.keep⟩
end

theorem with_toks {α : Type} {M : Model} {A : Around} {s : Shared} {t : Sem α} {Q : α → Shared → Prop} {E : Value → Shared → Prop}
    (h : wpAny M A t (fun a s' => s.toks ≤ s'.toks → Q a s') (fun e s' => s.toks ≤ s'.toks → E e s') s) : wpAny M A t Q E s :=
  wpAny_mono (wpAny_toks h) (fun _ _ x => x.2 x.1) (fun _ _ x => x.2 x.1)
/-- a statement cut off, the tokens told -/
theorem cut_toks {prog : Program} {w : World} {A : Around} {env : Env} {st : Stmt} {rest : List Stmt} {s : Shared} {Q : Flow → Shared → Prop} {E : Value → Shared → Prop} (P : Shared → Prop)
    (h : wpAny (model prog w) A (exec st env) (Mid P) E s) (k : ∀ s', s.toks ≤ s'.toks → P s' → wpAny (model prog w) A (execs rest env) Q E s') :
    wpAny (model prog w) A (execs (st :: rest) env) Q E s :=
  cut_cons (fun s' => s.toks ≤ s'.toks ∧ P s') (wpAny_mono (wpAny_toks h) (fun f s' x => by obtain ⟨x1, x2⟩ := x; obtain ⟨rfl, hp⟩ := x2; exact ⟨rfl, x1, hp⟩) fun _ _ x => x.2) fun s' x => k s' x.1 x.2
/-- two trees in a row, the tokens told at the end -/
theorem turn_toks {α β : Type} {M : Model} {A : Around} {s : Shared} {t : Sem α} {u : α → Sem β} {Q : β → Shared → Prop} {E : Value → Shared → Prop}
    (h : wpAny M A t (fun a s₁ => wpAny M A (u a) (fun b s₂ => s.toks ≤ s₂.toks → Q b s₂) E s₁) E s) : wpAny M A t (fun a s₁ => wpAny M A (u a) Q E s₁) E s :=
  wpAny_mono (wpAny_toks h) (fun _ _ x => wpAny_mono (wpAny_toks_of x.1 x.2) (fun _ _ y => y.2 y.1) fun _ _ y => y.2) fun _ _ x => x.2
end

section
theorem fillK_countOf : PySem.Challenge.rw_pg0086_01 = PySem.Challenge.rw_pg0086_01 ∧ Mine.hd.heap_39 = Mine.hd.heap_39 := by k_fill; exact ⟨rfl, rfl⟩
local macro_rules | `(tactic| walk_at "go1") => `(tactic| ((fail_if_success (with_reducible show wpAny _ _ (exec (Stmt.For _ _ _ _ _) _) _ _ _)); (fail_if_success (with_reducible show wpAny _ _ (exec (Stmt.While _ _ _ _) _) _ _ _)); (fail_if_success (with_reducible show wpAny _ _ (pyIter _) _ _ _)); (fail_if_success (with_reducible show wpAny _ _ (call (Value.ref _) _ _) _ _ _)); (first | (k_unfold; (try dsimp only)) | walk1 | (dsimp only; walk1))))
local macro_rules | `(tactic| walk_at "compareOp Is") => `(tactic| (refine wpAny_is_plain rfl ?_))

set_option maxRecDepth 100000 in
set_option maxHeartbeats 2000000 in
theorem countOf_c (w : World) (s0 : Shared) (mg mb : Str → Option Value) (l : Addr) (bs : List Bool) (t : Tok) :
    Does 4 w s0 mg mb 35 [.ref l, .int 1 t] (fun h => h.IsList l (bs.map Value.bool).toArray) (fun _ v _ => ∃ t, v = .int (bs.count true) t) := by
  unfold Does
  intro dp un gd outer base s R S hl hd hu hret
  have X := S.X
  have T := S.T
  have B := S.B
  refine enter S (by k_is) (by k_is) (by dsimp only; omega) (binds := [("a", .ref l), ("b", .int 1 t)]) (BindsTo.of_eq rfl) (locs rfl) rfl rfl rfl (by decide) ?_
  intro L' h₁ F N
  dsimp only [List.reverse, List.reverseAux, List.length, kstB] at F ⊢
  k_fold
  walk_at "go"
  refine for_start ?_
  walk_at "go"
  refine list_iter (by assumption) (by assumption) (hl.at fun o e => Fr.keep (by assumption) _ _ e) fun I h' o _ hi F' N' => ?_
  refine for_inv (σ := Nat) (fun i => bs.length - i) (fun i s' => Ex5 fun h tk o t' c => An6 (s' = { s with heap := h, toks := tk }) (i ≤ bs.length) (IterAt o l i) (c = (((bs.take i).count true : Nat) : Int)) (Fv s.heap L' h [("count", .int c t'), ("b", .int 1 t)]) (News s.heap L' h [(I, o)])) ?_ (c := 0) ?_
  rotate_left
  · exact ⟨h', _, o, _, _, rfl, Nat.zero_le _, hi, rfl, Fv.mk F' ⟨rfl, rfl, trivial⟩, N'⟩
  · rintro i s' ⟨h, tk, o', t', c, rfl, hle, hi', hc, F₁, N₁⟩ IH
    obtain ⟨m₁, F₁⟩ := F₁.out
    dsimp only [kstB] at F₁
    by_cases hlt : i < bs.length
    · refine list_turn (v := .bool bs[i]) F₁ N₁ (fun _ hp => nomatch hp) hi' (hl.at fun o e => F₁.keep _ _ e) (by simp [hlt]) rfl rfl PassesOwn.never fun h₂ o₂ hi₂ F₂ N₂ => ?_
      have hcnt : (bs.take (i + 1)).count true = (bs.take i).count true + if bs[i] = true then 1 else 0 := by
        rw [List.take_succ_eq_append_getElem hlt, List.count_append]; cases bs[i] <;> simp
      walk_at "go"
      all_goals (dsimp only [ForPost]; refine IH (i + 1) _ (by omega) ⟨_, _, o₂, _, _, rfl, hlt, hi₂, ?_, Fv.mk (by assumption) ⟨rfl, rfl, trivial⟩, by assumption⟩)
      all_goals (rw [hcnt]; simp_all)
    · have hin : i = bs.length := by omega
      refine list_done rfl F₁ N₁ (fun _ hp => nomatch hp) hi' (hl.at fun o e => F₁.keep _ _ e) (by simp [hin]) PassesOwn.never fun h₂ F₂ N₂ => ?_
      walk_at "go"
      exact hret _ _ _ F₂.keep ⟨t', by rw [hc, hin, List.take_length]⟩
theorem fillK_sub : PySem.Challenge.rw_pg0086_01 = PySem.Challenge.rw_pg0086_01 ∧ Mine.hd.heap_39 = Mine.hd.heap_39 := by k_fill; exact ⟨rfl, rfl⟩


def subF (a b : Str) : Int := if a = b then 0 else if Txt.lower a = Txt.lower b then 1 else 2
set_option maxRecDepth 100000 in
set_option maxHeartbeats 2000000 in
theorem sub_c (w : World) (s0 : Shared) (mg mb : Str → Option Value) (a b : Str) (ta tb : Tok) (ha : a.length ≤ 100) (hb : b.length ≤ 100) :
    Does 4 w s0 mg mb 21 [.str a ta, .str b tb] (fun _ => True) (fun _ v _ => ∃ t, v = .int (subF a b) t) := by
  unfold Does
  intro dp un gd outer base s R S hl hd hu hret
  have X := S.X
  have T := S.T
  have B := S.B
  refine enter S (by k_is) (by k_is) (by dsimp only; omega) (binds := [("ch_a", .str a ta), ("ch_b", .str b tb)]) (BindsTo.of_eq rfl) (locs rfl) rfl rfl rfl (by decide) ?_
  intro L' h₁ F N
  dsimp only [List.reverse, List.reverseAux, List.length, kstB] at F ⊢
  k_fold
  walk_at "go"
  · rename (a == b) = true => e
    exact hret _ _ _ F.keep ⟨_, by rw [subF, if_pos (by simpa using e)]⟩
  · rename (a == b) = false => e
    rename (_ == _) = true => e'
    exact hret _ _ _ F.keep ⟨_, by rw [subF, if_neg (by simpa using e), if_pos (by simpa using e')]⟩
  · rename (a == b) = false => e
    rename (Txt.lower a == Txt.lower b) = false => e'
    exact hret _ _ _ F.keep ⟨_, by rw [subF, if_neg (by simpa using e), if_neg (by simpa using e')]⟩
theorem fillK_ln : PySem.Challenge.rw_pg0086_01 = PySem.Challenge.rw_pg0086_01 ∧ Mine.hd.heap_39 = Mine.hd.heap_39 := by k_fill; exact ⟨rfl, rfl⟩
/-- the four lines of each sign, in a row -/
def linesL (fs : List Int) : List Int := fs.flatMap fun f => [0, 1, 2 + f.fdiv 2, 4 + f]
set_option maxRecDepth 100000 in
set_option maxHeartbeats 4000000 in
theorem lines_c (w : World) (s0 : Shared) (mg mb : Str → Option Value) (l : Addr) (vs : List Value) (fs : List Int) (hi : IntsAre vs fs) (hb : ∀ f ∈ fs, 0 ≤ f ∧ f ≤ 3) (hlen : fs.length ≤ 10) :
    DoesT 4 w s0 mg mb 49 [.ref l] (fun h => h.IsList l vs.toArray) (fun h t v h' t' => ∃ D us c, v = .ref D ∧ h.get? D = none ∧ h'.get? D = some (listOf us.toArray c) ∧ IntsAre us (linesL fs) ∧ TokIn t t' us) := by
  unfold DoesT
  intro dp un gd outer base s R S hl hdp hun hret
  have X := S.X
  have T := S.T
  have B := S.B
  refine enter S (by k_is) (by k_is) (by dsimp only; omega) (binds := [("figures", .ref l)]) (BindsTo.of_eq rfl) (locs rfl) rfl rfl rfl (by decide) ?_
  intro L' h₁ F N
  dsimp only [List.reverse, List.reverseAux, List.length, kstB] at F ⊢
  k_fold
  refine cut_toks (fun s' => Ex3 fun h tk l' => An3 (s' = { s with heap := h, toks := tk }) (News s.heap L' h [(l', listOf #[] 0)]) (Fv s.heap L' h [("lines", .ref l'), ("figures", .ref l)])) ?_ ?_
  · walk_at "go"
    exact ⟨rfl, _, _, _, rfl, by assumption, Fv.mk (by assumption) ⟨rfl, rfl, trivial⟩⟩
  walk_at "drop"
  rintro s' ht ⟨h₂, tk₂, l', rfl, N₂, FV⟩
  obtain ⟨m₂, F₂⟩ := FV.out; clear FV
  dsimp only [kstB] at F₂ ht
  refine wpAny_execs_cons ?_
  refine for_start ?_
  k_fold
  walk_at "go"
  refine list_iter F₂ N₂ (hl.at fun o e => F₂.keep _ _ e) fun I h₃ o hlt hit F₃ N₃ => ?_
  have hlI : l' < I := hlt _ (.head _)
  refine for_inv (σ := Nat) (fun k => fs.length - k) (fun i s' => Ex5 fun (h : Heap) (tk : Nat) (o : Obj) (us : List Value) (c : Nat) => An8 (s' = { s with heap := h, toks := tk }) (i ≤ fs.length) (s.toks ≤ tk) (IterAt o l i) (IntsAre us (linesL (fs.take i))) (TokIn s.toks tk us) (News s.heap L' h [(I, o), (l', listOf us.toArray c)]) (Fv s.heap L' h [("lines", .ref l')])) ?_ (c := 0) ?_
  rotate_left
  · exact ⟨h₃, _, o, [], 0, rfl, Nat.zero_le _, by dsimp only; omega, hit, IntsAre.nil, TokIn.nil, N₃, Fv.mk F₃ ⟨rfl, trivial⟩⟩
  clear F₂ N₂ F₃ N₃ hit o
  rintro i s' ⟨h₄, tk₄, o, us, c, rfl, hle, htk, hit, hus, htok, N₄, FV⟩ IH
  obtain ⟨m₄, F₄⟩ := FV.out; clear FV
  dsimp only [kstB] at F₄
  have hne : ∀ p ∈ [(l', listOf us.toArray c)], p.1 ≠ I := fun p hp => by
    obtain rfl := List.mem_singleton.mp hp
    exact Nat.ne_of_lt hlI
  by_cases hil : i < fs.length
  · obtain ⟨t, hx⟩ := hi.get i fs[i] (by simp [hil])
    have hfb := hb fs[i] (List.getElem_mem hil)
    refine list_turn F₄ N₄ hne hit (hl.at fun o e => F₄.keep _ _ e) (by simpa using hx) rfl rfl (by passes_own) fun h₅ o₅ hit₅ F₅ N₅ => ?_
    clear F₄ N₄
    dsimp only
    k_fold
    refine cut_toks (fun s' => Ex4 fun h tk c us' => An5 (s' = { s with heap := h, toks := tk }) (IntsAre us' [0, 1, 2 + fs[i].fdiv 2, 4 + fs[i]]) (TokIn tk₄ tk us') (News s.heap L' h [(I, o₅), (l', listOf (us ++ us').toArray c)]) (Fv s.heap L' h [("lines", .ref l')])) ?_ ?_
    · walk_at "go"
      rename _ ∧ _ => l1
      rename Fr _ _ _ _ => F₆
      rename News _ _ _ _ => N₆
      refine extend_in (own := [_, (I, o₅)]) (rest := []) F₆ N₆ ?_ (fun _ hp => nomatch hp) (N₆ _ (.head _)).1 (fun h₇ n₇ F₇ N₇ => ?_) ?_
      · intro p hp
        rcases List.mem_cons.mp hp with rfl | hp
        · exact Nat.ne_of_gt l1.2
        · obtain rfl := List.mem_singleton.mp hp
          exact Nat.ne_of_gt hlI
      · refine ⟨rfl, h₇, _, n₇, _, rfl, ?_, ?_, fun p hp => N₇ p (.tail _ hp), Fv.mk F₇ ⟨rfl, trivial⟩⟩
        · exact .cons _ _ (.cons _ _ (.cons _ _ (.cons _ _ .nil)))
        · refine TokIn.cons ?_ ?_ (TokIn.cons ?_ ?_ (TokIn.cons ?_ ?_ (TokIn.cons ?_ ?_ TokIn.nil))) <;> (try dsimp only) <;> omega
      · have h1 := hus.length
        have h2 : (linesL (fs.take i)).length = 4 * (fs.take i).length := by
          generalize fs.take i = z
          induction z with
          | nil => rfl
          | cons a r ih => simp only [linesL, List.flatMap_cons, List.length_append, List.length_cons, List.length_nil] at ih ⊢; omega
        have h3 : (fs.take i).length ≤ 10 := by simp; omega
        rw [sizeLine_eq]
        show us.length + 4 ≤ _
        omega
    · walk_at "drop"
      rintro s' ht' ⟨h₆, tk₆, c₆, us', rfl, hus', htok', N₆, FV⟩
      dsimp only at ht'
      refine wpAny_execs_nil ?_
      show ForPost _ _ _ _ _ _ _ _ _ _ _ _
      unfold ForPost
      dsimp only
      refine IH (i + 1) _ (by omega) ⟨_, _, o₅, us ++ us', c₆, rfl, hil, by omega, hit₅, ?_, (htok.mono (Nat.le_refl _) (by omega)).app (htok'.mono htk (Nat.le_refl _)), N₆, FV⟩
      have : linesL (fs.take (i + 1)) = linesL (fs.take i) ++ [0, 1, 2 + fs[i].fdiv 2, 4 + fs[i]] := by
        rw [List.take_succ_eq_append_getElem hil]; unfold linesL; rw [List.flatMap_append]; simp only [List.flatMap_cons, List.flatMap_nil, List.append_nil]
      rw [this]
      exact hus.append hus'
  · have hin : i = fs.length := by omega
    refine list_done rfl F₄ N₄ hne hit (hl.at fun o e => F₄.keep _ _ e) (by simp [hin, ← hi.length]) (by passes_own) fun h₅ F₅ N₅ => ?_
    clear F₄ N₄
    k_fold
    refine wpAny_execs_nil ?_
    walk_at "go"
    rw [hin, List.take_length] at hus
    exact hret _ _ _ F₅.keep htk ⟨l', us, c, rfl, (N₅ _ (.head _)).2.2, (N₅ _ (.head _)).1, hus, htok⟩
end

section
/-- a text by its signs' numbers -/
abbrev S (l : List Nat) : Str := ⟨l.toArray⟩
theorem S_length (l : List Nat) : (S l).length = l.length := by simp [Str.length]
theorem S_inj {a b : List Nat} : S a = S b ↔ a = b := by simp [S]
theorem S_beq {a b : List Nat} : (S a == S b) = decide (a = b) := by
  by_cases h : a = b
  · simp [h]
  · have : S a ≠ S b := fun e => h (S_inj.mp e)
    simp [this, h]

theorem slice_from (l : List Nat) (i : Nat) : Txt.slice (S l) (some (i : Int)) none = S (l.drop i) := by
  by_cases h : i ≤ l.length
  · rw [slice_from_eq (b := (l.length : Int)) (by omega) (by rw [S_length]; omega) (by rw [S_length])]
    simp only [Int.toNat_natCast]
    rw [S_inj, List.take_of_length_le (by rw [List.length_drop]; omega)]
  · rw [slice_from_beyond (by rw [S_length]; omega)]
    rw [List.drop_eq_nil_of_le (by omega)]
theorem slice_ss (l : List Nat) (i j : Nat) (h : i ≤ j) (hj : j ≤ l.length) : Txt.slice (S l) (some (i : Int)) (some (j : Int)) = S ((l.drop i).take (j - i)) := by
  have := beq_iff_eq.mp (slice_closes (x := S l) (i := (i : Int)) (j := (j : Int)) ⟨by omega, by omega, by simp; omega⟩)
  rw [this]
  simp only [Int.toNat_natCast]
  rw [S_inj]
  congr 1
  omega
theorem slice_to (l : List Nat) (j : Nat) (hj : j ≤ l.length) : Txt.slice (S l) none (some (j : Int)) = S (l.take j) := by
  have := beq_iff_eq.mp (slice_closes_to (x := S l) (j := (j : Int)) ⟨by omega, by simp; omega⟩)
  rw [this]
  simp
theorem slice_neg (l : List Nat) (j : Nat) (h0 : 0 < j) (hj : j ≤ l.length) : Txt.slice (S l) none (some (-(j : Int))) = S (l.take (l.length - j)) := by
  rw [slice_to_neg (by omega), S_length, show max 0 ((l.length : Int) + -(j : Int)) = ((l.length - j : Nat) : Int) by omega, slice_to _ _ (by omega)]
theorem slice_all (l : List Nat) : Txt.slice (S l) none none = S l := by
  unfold Txt.slice
  have e : (Builtin.Str.strSliceIndices none none 1 (S l).length).length = (S l).length := by
    unfold Builtin.Str.strSliceIndices sliceRange
    simp only [show (1 : Int) > 0 by decide, if_true, List.length_map, List.length_range]
    split <;> omega
  rw [e]
  simp

section
variable {prog : Program} {w : World} {A : Around} {E : Value → Shared → Prop} {s : Shared} {g : Heap} {L : Addr} {m : Str → Option Value} {news : List (Addr × Obj)} {Q : Value → Shared → Prop} {value slice : Expr} {l : List Nat} {t : Tok}

theorem cut_from {i : Nat} {ui : Tok} (hF : Fr g L s.heap m) (hN : News g L s.heap news) (hl : l.length ≤ 1000) (h : ∀ h' t' k, Fr g L h' m → News g L h' news → Q (.str (S (l.drop i)) t') { s with heap := h', toks := k })
    (hs : subscripted slice false (.str (S l) t) (.ref s.heap.objs.size) = operate [.ref s.heap.objs.size, .str (S l) t] (getItem (.str (S l) t) (.ref s.heap.objs.size)) := by with_unfolding_all rfl)
    (ht : ∀ r, letTemporaryGo value (.str (S l) t) r = pure () := by intro _; with_unfolding_all rfl) :
    wpAny (model prog w) A (subscriptTail value slice (.str (S l) t) (.ref s.heap.objs.size)) Q E { s with heap := s.heap.push { cls := .type "slice", data := .fields #[.int (i : Int) ui, .none, .none] } } :=
  slice_strN_sn_len hF hN (fun h' t' k F N _ => by rw [slice_from]; exact h h' t' k F N) hs ht (by rw [S_length, sizeLine_eq]; omega)
theorem cut_to {j : Nat} {uj : Tok} (hF : Fr g L s.heap m) (hN : News g L s.heap news) (hl : l.length ≤ 1000) (h0 : 0 < j) (hj : j ≤ l.length) (h : ∀ h' t' k, Fr g L h' m → News g L h' news → Q (.str (S (l.take (l.length - j))) t') { s with heap := h', toks := k })
    (hs : subscripted slice false (.str (S l) t) (.ref s.heap.objs.size) = operate [.ref s.heap.objs.size, .str (S l) t] (getItem (.str (S l) t) (.ref s.heap.objs.size)) := by with_unfolding_all rfl)
    (ht : ∀ r, letTemporaryGo value (.str (S l) t) r = pure () := by intro _; with_unfolding_all rfl) :
    wpAny (model prog w) A (subscriptTail value slice (.str (S l) t) (.ref s.heap.objs.size)) Q E { s with heap := s.heap.push { cls := .type "slice", data := .fields #[.none, .int (-(j : Int)) uj, .none] } } :=
  slice_strN_ns_len hF hN (fun h' t' k F N _ => by rw [slice_neg l j h0 hj]; exact h h' t' k F N) hs ht (by rw [S_length, sizeLine_eq]; omega)
theorem cut_all (hF : Fr g L s.heap m) (hN : News g L s.heap news) (hl : l.length ≤ 1000) (h : ∀ h' t' k, Fr g L h' m → News g L h' news → Q (.str (S l) t') { s with heap := h', toks := k })
    (hs : subscripted slice false (.str (S l) t) (.ref s.heap.objs.size) = operate [.ref s.heap.objs.size, .str (S l) t] (getItem (.str (S l) t) (.ref s.heap.objs.size)) := by with_unfolding_all rfl)
    (ht : ∀ r, letTemporaryGo value (.str (S l) t) r = pure () := by intro _; with_unfolding_all rfl) :
    wpAny (model prog w) A (subscriptTail value slice (.str (S l) t) (.ref s.heap.objs.size)) Q E { s with heap := s.heap.push { cls := .type "slice", data := .fields #[.none, .none, .none] } } :=
  slice_strN_nn_len hF hN (fun h' t' k F N _ => by rw [slice_all]; exact h h' t' k F N) hs ht (by rw [S_length, sizeLine_eq]; omega)
theorem cut_ss {i j : Nat} {ui uj : Tok} (hF : Fr g L s.heap m) (hN : News g L s.heap news) (hl : l.length ≤ 1000) (hij : i ≤ j) (hj : j ≤ l.length) (h : ∀ h' t' k, Fr g L h' m → News g L h' news → Q (.str (S ((l.drop i).take (j - i))) t') { s with heap := h', toks := k })
    (hs : subscripted slice false (.str (S l) t) (.ref s.heap.objs.size) = operate [.ref s.heap.objs.size, .str (S l) t] (getItem (.str (S l) t) (.ref s.heap.objs.size)) := by with_unfolding_all rfl)
    (ht : ∀ r, letTemporaryGo value (.str (S l) t) r = pure () := by intro _; with_unfolding_all rfl) :
    wpAny (model prog w) A (subscriptTail value slice (.str (S l) t) (.ref s.heap.objs.size)) Q E { s with heap := s.heap.push { cls := .type "slice", data := .fields #[.int (i : Int) ui, .int (j : Int) uj, .none] } } :=
  slice_strN_ss_len hF hN (fun h' t' k F N _ => by rw [slice_ss l i j hij hj]; exact h h' t' k F N) hs ht (by rw [S_length, sizeLine_eq]; omega)

theorem item_S (l : List Nat) (i : Nat) (hi : i < l.length) : Txt.item (S l) (i : Int) = S [l[i]] := by
  unfold Txt.item Txt.charAt seqIndex?
  have h : ¬ ((i : Int) < 0) := by omega
  have h1 : (decide (0 ≤ (i : Int)) && decide ((i : Int) < ((S l).length : Nat))) = true := by rw [S_length]; simp; omega
  simp only [h, if_false, h1, if_true, Option.bind_some, Int.toNat_natCast]
  simp [hi]
theorem item_S_neg (l : List Nat) (j : Nat) (hj : j < l.length) : Txt.item (S l) (-(j : Int) - 1) = S [l[l.length - 1 - j]] := by
  unfold Txt.item Txt.charAt seqIndex?
  have h : -(j : Int) - 1 < 0 := by omega
  have h2 : -(j : Int) - 1 + ((S l).length : Nat) = ((l.length - 1 - j : Nat) : Int) := by rw [S_length]; omega
  have h1 : (decide (0 ≤ ((l.length - 1 - j : Nat) : Int)) && decide (((l.length - 1 - j : Nat) : Int) < ((S l).length : Nat))) = true := by rw [S_length]; simp; omega
  simp only [h, if_true, h2, h1, Option.bind_some, Int.toNat_natCast]
  have h3 : l.length - 1 - j < l.length := by omega
  simp [h3]
theorem get_S {i : Nat} {u : Tok} (hi : i < l.length) (hl : l.length ≤ 1000) (h : Q (.str (S [l[i]]) s.toks) { s with toks := s.toks + 1 })
    (hs : subscripted slice false (.str (S l) t) (.int (i : Int) u) = operate [.str (S l) t, .int (i : Int) u] (getItem (.str (S l) t) (.int (i : Int) u)) := by with_unfolding_all rfl)
    (ht : ∀ r, letTemporaryGo value (.str (S l) t) r = pure () := by intro _; with_unfolding_all rfl) :
    wpAny (model prog w) A (subscriptTail value slice (.str (S l) t) (.int (i : Int) u)) Q E s :=
  item_str (fitsSsize_of (N := 9223372036854775808) (by omega) (by omega) (Int.le_refl _)) (by rw [S_length]; omega) (by rw [S_length]; omega) (fun _ => by rw [item_S l i hi]; exact h) hs ht
theorem get_S_neg {j : Nat} {z : Int} {u : Tok} (hz : z = -(j : Int) - 1) (hj : j < l.length) (hl : l.length ≤ 1000) (h : Q (.str (S [l[l.length - 1 - j]]) s.toks) { s with toks := s.toks + 1 })
    (hs : subscripted slice false (.str (S l) t) (.int z u) = operate [.str (S l) t, .int z u] (getItem (.str (S l) t) (.int z u)) := by with_unfolding_all rfl)
    (ht : ∀ r, letTemporaryGo value (.str (S l) t) r = pure () := by intro _; with_unfolding_all rfl) :
    wpAny (model prog w) A (subscriptTail value slice (.str (S l) t) (.int z u)) Q E s :=
  item_str (fitsSsize_of (N := 9223372036854775808) (by omega) (by omega) (Int.le_refl _)) (by rw [S_length]; omega) (by rw [S_length]; omega) (fun _ => by rw [hz, item_S_neg l j hj]; exact h) hs ht
theorem truthy_S {R : Bool → Shared → Prop} (hl : l.length ≤ 1000) (h : R (decide (l ≠ [])) { s with toks := s.toks + 1 + 1 }) : wpAny (model prog w) A (truthy (.str (S l) t)) R E s := by
  refine P.truthy_str (by rw [S_length]; omega) ?_
  rw [S_length]
  have e : ((l.length : Int) != 0) = decide (l ≠ []) := by
    cases l with
    | nil => rfl
    | cons a r => simp; omega
  rw [e]; exact h
theorem len_S {t : Tok} (hl : l.length ≤ 1000) (h : Q (.int (l.length : Nat) (s.toks + 1)) { s with toks := s.toks + 1 + 1 }) : wpAny (model prog w) A (call (.builtin "len") [.str (S l) t]) Q E s := by
  refine P.len_str (by rw [S_length]; omega) ?_
  rw [S_length]; exact h
theorem eq_S {a b : List Nat} {t u : Tok} (h : Q (.bool (decide (a = b))) s) : wpAny (model prog w) A (compareOp .Eq (.str (S a) t) (.str (S b) u)) Q E s := by
  rw [← S_beq] at h
  exact PyProof.Rows.eq_str h
end
end

section
/-- an enumerate's object, over the iterator it, at i -/
def EnumAt (o : Obj) (it : Addr) (i : Int) : Prop := ∃ old, ∀ (h : Heap) (e : Addr), h.get? e = some o → IsEnum h e it i old
abbrev tupOf (vs : List Value) : Obj := { cls := .type "tuple", data := .seq vs.toArray }

section
variable {prog : Program} {w : World} {A : Around} {E : Value → Shared → Prop} {s : Shared} {g : Heap} {L : Addr} {m : Str → Option Value} {news : List (Addr × Obj)}

theorem enum_make {l : Addr} {items : Array Value} {Q : Value → Shared → Prop} (F : Fr g L s.heap m) (N : News g L s.heap news) (hl : s.heap.IsList l items)
    (k : ∀ e it h' oe oi, @LT.lt Nat _ it e → (∀ p ∈ news, @LT.lt Nat _ p.1 it) → EnumAt oe it 0 → IterAt oi l 0 → Fr g L h' m → News g L h' ((e, oe) :: (it, oi) :: news) → Q (.ref e) { s with heap := h' }) :
    wpAny (model prog w) A (call (.type "enumerate") [.ref l]) Q E s := by
  refine call_enumerate_list hl fun h' he hi hsz hk => ?_
  obtain ⟨oi, hoi, hia⟩ := hi
  refine k _ _ h' _ oi (Nat.lt_succ_self _) (fun p hp => Heap.lt_size (N p hp).1) ⟨.none, fun _ _ q => q⟩ hia (F.keeps hk) fun p hp => ?_
  have new : ∀ a, s.heap.objs.size ≤ a → a ≠ L ∧ g.get? a = none := fun a ha => by
    refine ⟨fun e => ?_, ?_⟩
    · have := F.ns.lt
      rw [e] at ha
      exact absurd (Nat.lt_of_lt_of_le this ha) (Nat.lt_irrefl _)
    · cases q : g.get? a with
      | none => rfl
      | some o => exact absurd (Heap.lt_size (F.keep _ _ q)) (Nat.not_lt.mpr ha)
  rcases List.mem_cons.mp hp with rfl | hp
  · exact ⟨he, new _ (Nat.le_succ _)⟩
  · rcases List.mem_cons.mp hp with rfl | hp
    · exact ⟨hoi, new _ (Nat.le_refl _)⟩
    · exact ⟨hk _ _ (N p hp).1, (N p hp).2⟩

theorem enum_iter {e it : Addr} {oe : Obj} {i : Int} {Q : Value → Shared → Prop} (N : News g L s.heap ((e, oe) :: news)) (he : EnumAt oe it i) (h : Q (.ref e) s) : wpAny (model prog w) A (pyIter (.ref e)) Q E s := by
  obtain ⟨old, he⟩ := he
  exact wpAny_pyIter_enum (he _ _ (N _ (List.Mem.head _)).1) h

theorem enum_next {e it l : Addr} {oe oi : Obj} {i : Nat} {items : Array Value} {x : Value} {elts : List Expr} {k1 : Nat} {pos : Pos} {R : Value → Unit → Shared → Prop} (F : Fr g L s.heap m) (N : News g L s.heap ((e, oe) :: (it, oi) :: news))
    (hei : @LT.lt Nat _ it e) (hne : ∀ p ∈ news, @LT.lt Nat _ p.1 it) (he : EnumAt oe it i) (hi : IterAt oi l i) (hl : g.IsList l items) (hx : items[i]? = some x)
    (Q : Option Value → Shared → Prop) (hQ : ∀ v s₁, wpAny (model prog w) A (letOwnedTupleGo (.Tuple elts k1 pos) (.ref e) v) (R v) E s₁ → Q (some v) s₁)
    (h : ∀ T h' oe' oi', @LT.lt Nat _ e T → EnumAt oe' it ((i + 1 : Nat) : Int) → IterAt oi' l (i + 1) → Fr g L h' m → News g L h' ((T, tupOf [.int i s.toks, x]) :: (e, oe') :: (it, oi') :: news) → R (.ref T) () { s with heap := h', toks := s.toks + 1 }) :
    wpAny (model prog w) A (pyNext (.ref e)) Q E s := by
  obtain ⟨old, he⟩ := he
  have he' := he _ _ (N _ (List.Mem.head _)).1
  have hi0 := N (it, oi) (List.Mem.tail _ (List.Mem.head _))
  have hls : s.heap.IsList l items := hl.at fun o q => F.keep l o q
  obtain ⟨ol, hol, _⟩ := id hl
  refine wpAny_pyNext_enum_item he' ⟨oi, hi0.1, hi⟩ hls hx (Nat.ne_of_gt hei) fun h₁ ho hit hT hsz hk => ?_
  refine hQ _ _ (wpAny_letOwnedTupleGo_enum ho fun h₂ he₂ hs₂ => ?_)
  obtain ⟨oi', hoi', hia'⟩ := hit
  have hle : e < s.heap.objs.size := Heap.lt_size he'
  have hE := N _ (List.Mem.head _)
  have back : ∀ b o, b ≠ e → b ≠ it → s.heap.get? b = some o → h₂.get? b = some o := fun b o h1 h2 q => (hs₂.2 b h1).trans (hk b o h1 h2 q)
  have hg : ∀ b o, g.get? b = some o → b ≠ e ∧ b ≠ it := fun b o q => ⟨(fun z => by subst z; rw [hE.2.2] at q; cases q), (fun z => by subst z; rw [hi0.2.2] at q; cases q)⟩
  have F₂ : Fr g L h₂ m := ⟨F.ns.at' fun o q => back _ _ (Ne.symm hE.2.1) (Ne.symm hi0.2.1) q, fun b o q => back b o (hg b o q).1 (hg b o q).2 (F.keep b o q), F.above⟩
  refine h _ h₂ _ oi' hle ⟨x, fun _ _ q => by rw [show ((i + 1 : Nat) : Int) = (i : Int) + 1 by omega]; exact q⟩ hia' F₂ fun p hp => ?_
  rcases List.mem_cons.mp hp with rfl | hp
  · refine ⟨(hs₂.2 _ (Nat.ne_of_gt hle)).trans hT, fun q => ?_, ?_⟩
    · have := F.ns.lt
      rw [← q] at this
      exact absurd this (Nat.lt_irrefl _)
    · cases q : g.get? s.heap.objs.size with
      | none => rfl
      | some o => exact absurd (Heap.lt_size (F.keep _ _ q)) (Nat.lt_irrefl _)
  · rcases List.mem_cons.mp hp with rfl | hp
    · exact ⟨he₂, hE.2⟩
    · rcases List.mem_cons.mp hp with rfl | hp
      · exact ⟨(hs₂.2 it (Nat.ne_of_lt hei)).trans hoi', hi0.2⟩
      · have P := N p (List.Mem.tail _ (List.Mem.tail _ hp))
        have l1 := hne p hp
        exact ⟨back _ _ (Nat.ne_of_lt (Nat.lt_trans l1 hei)) (Nat.ne_of_lt l1) P.1, P.2⟩

theorem enum_stop {e it l : Addr} {oe oi : Obj} {i : Nat} {items : Array Value} {Q : Option Value → Shared → Prop} (hh : A.handled = none) (F : Fr g L s.heap m) (N : News g L s.heap ((e, oe) :: (it, oi) :: news))
    (hei : @LT.lt Nat _ it e) (hne : ∀ p ∈ news, @LT.lt Nat _ p.1 it) (he : EnumAt oe it i) (hi : IterAt oi l i) (hl : g.IsList l items) (hx : items[i]? = none)
    (h : ∀ h', Fr g L h' m → News g L h' news → Q none { s with heap := h' }) : wpAny (model prog w) A (pyNext (.ref e)) Q E s := by
  obtain ⟨old, he⟩ := he
  have he' := he _ _ (N _ (List.Mem.head _)).1
  have hi0 := N (it, oi) (List.Mem.tail _ (List.Mem.head _))
  have hls : s.heap.IsList l items := hl.at fun o q => F.keep l o q
  refine wpAny_pyNext_enum_end hh he' ⟨oi, hi0.1, hi⟩ hls hx fun h₁ hk => ?_
  refine h h₁ ⟨F.ns.at' fun o q => hk _ _ (Ne.symm hi0.2.1) q, fun b o q => hk b o (fun z => by subst z; rw [hi0.2.2] at q; cases q) (F.keep b o q), F.above⟩ fun p hp => ?_
  have P := N p (List.Mem.tail _ (List.Mem.tail _ hp))
  exact ⟨hk _ _ (Nat.ne_of_lt (hne p hp)) P.1, P.2⟩
end

section
variable {prog : Program} {w : World} {A : Around} {E : Value → Shared → Prop} {s : Shared} {env : Env} {body orelse : List Stmt} {Q : Flow → Shared → Prop} {g : Heap} {m : Str → Option Value} {news : List (Addr × Obj)}
theorem enum_turn {e it l : Addr} {oe oi : Obj} {i : Nat} {items : Array Value} {x : Value} {elts : List Expr} {k1 : Nat} {pos : Pos} (F : Fr g env.locals s.heap m) (N : News g env.locals s.heap ((e, oe) :: (it, oi) :: news))
    (hei : @LT.lt Nat _ it e) (hne : ∀ p ∈ news, @LT.lt Nat _ p.1 it) (he : EnumAt oe it i) (hi : IterAt oi l i) (hl : g.IsList l items) (hx : items[i]? = some x) (hE : PassesOwn (model prog w) A env E)
    (h : ∀ T h' oe' oi', @LT.lt Nat _ e T → EnumAt oe' it ((i + 1 : Nat) : Int) → IterAt oi' l (i + 1) → Fr g env.locals h' m → News g env.locals h' ((T, tupOf [.int i s.toks, x]) :: (e, oe') :: (it, oi') :: news) →
      wpAny (model prog w) A (assign (.Tuple elts k1 pos) env (.ref T)) (fun _ s₃ => wpAny (model prog w) A (execs body env) (ForPost prog w A E env (.Tuple elts k1 pos) body orelse Q (.ref e)) E s₃) E { s with heap := h', toks := s.toks + 1 }) :
    ForRest prog w A E env (.Tuple elts k1 pos) body orelse Q (.ref e) s :=
  for_turn hE (enum_next F N hei hne he hi hl hx _ (fun _ _ q => q) fun T h' oe' oi' a b c d f => h T h' oe' oi' a b c d f)
theorem enum_done {e it l : Addr} {oe oi : Obj} {i : Nat} {items : Array Value} {target : Expr} (hh : A.handled = none) (F : Fr g env.locals s.heap m) (N : News g env.locals s.heap ((e, oe) :: (it, oi) :: news))
    (hei : @LT.lt Nat _ it e) (hne : ∀ p ∈ news, @LT.lt Nat _ p.1 it) (he : EnumAt oe it i) (hi : IterAt oi l i) (hl : g.IsList l items) (hx : items[i]? = none) (hE : PassesOwn (model prog w) A env E)
    (h : ∀ h', Fr g env.locals h' m → News g env.locals h' news → wpAny (model prog w) A (execs orelse env) Q E { s with heap := h' }) :
    ForRest prog w A E env target body orelse Q (.ref e) s :=
  for_turn hE (enum_stop hh F N hei hne he hi hl hx fun h' F' N' => h h' F' N')
end
end

section
theorem fillK_is : PySem.Challenge.rw_pg0086_01 = PySem.Challenge.rw_pg0086_01 ∧ Mine.hd.heap_39 = Mine.hd.heap_39 := by k_fill; exact ⟨rfl, rfl⟩

theorem statics_none {w : World} {h : Heap} (X : (Mine.hd.heap_39 w.params).In h) (N : h.NoLimit) (x : Str) : ∃ mc, h.Ns cStatics mc ∧ mc x = none := by
  obtain ⟨mc, hn, _⟩ := N
  refine ⟨mc, hn, ?_⟩
  obtain ⟨o, es, ep, ho, hd, hk, hf⟩ := hn
  have e : (Mine.hd.heap_39 w.params).lookup 2 = some { cls := Value.none, data := Data.dict #[] } := by k_is
  have h2 := X 2 _ e
  have h3 : h.get? 2 = some o := ho
  rw [h3] at h2
  cases h2
  cases hd
  rw [← hf]
  rfl

section
variable {w : World} {A : Around} {E : Value → Shared → Prop} {s : Shared} {p q : Int} {t u : Tok}
theorem not_told {Q : Bool → Shared → Prop} {prog : Program} (X : (Mine.hd.heap_39 w.params).In s.heap) (N : s.heap.NoLimit) (h : Q false s) : wpAny (model prog w) A (sharingNotTold t) Q E s := by
  obtain ⟨mc, hn, h0⟩ := statics_none X N sharingNotToldKey
  unfold sharingNotTold
  refine wpAny_bind (wpAny_nsGet hn ?_)
  rw [h0]
  exact wpAny_pure h
/-- «is» of two ints: it may be told so for equal ones alone -/
theorem is_ints {Q : Value → Shared → Prop} {prog : Program} (X : (Mine.hd.heap_39 w.params).In s.heap) (N : s.heap.NoLimit) (ht : t ≠ 0) (hu : u ≠ 0) (hne : t = u → p = q) (h : ∀ b : Bool, (b = true → p = q) → Q (.bool b) s) :
    wpAny (model prog w) A (compareOp .Is (.int p t) (.int q u)) Q E s := by
  show wpAny (model prog w) A (do return .bool (← isSame (.int p t) (.int q u))) Q E s
  have h0 : (t == 0 || u == 0) = false := by simp [ht, hu]
  have key : ∀ R : Bool → Shared → Prop, (∀ b : Bool, (b = true → p = q) → R b s) → wpAny (model prog w) A (isSame (.int p t) (.int q u)) R E s := by
    intro R hR
    show wpAny (model prog w) A (if (p == q && smallInt p) = true then isSame.cachedInt t u else isSame.created (p == q) t u) R E s
    by_cases hs : (p == q && smallInt p) = true
    · rw [if_pos hs]
      have hpq : p = q := by simpa using (Bool.and_eq_true_iff.mp hs).1
      unfold isSame.cachedInt
      rw [h0]
      exact wpAny_bind (wpAny_rule (wpAny_pure (hR true fun _ => hpq)))
    · rw [if_neg hs]
      unfold isSame.created
      rw [h0]
      simp only [Bool.false_eq_true, if_false]
      by_cases htu : t = u
      · simp only [htu, beq_self_eq_true, if_true]
        exact wpAny_pure (hR true fun _ => hne htu)
      · have e1 : (t == u) = false := by simpa using htu
        simp only [e1, Bool.false_eq_true, if_false]
        by_cases hpq : p = q
        · have e2 : (!(p == q)) = false := by simp [hpq]
          simp only [e2, Bool.false_eq_true, if_false]
          refine wpAny_bind (not_told X N ?_)
          simp only [Bool.false_eq_true, if_false]
          refine wpAny_bind (not_told X N ?_)
          simp only [Bool.false_eq_true, if_false]
          refine wpAny_bind (wpAny_rule ?_)
          refine wpAny_bind (m := ask) (fun _ _ _ => ?_)
          rw [Sem.wp_cmd_ask]
          exact wpAny_pure (hR _ fun _ => hpq)
        · have e2 : (!(p == q)) = true := by simp [hpq]
          simp only [e2, if_true]
          exact wpAny_pure (hR false fun e => by cases e)
  exact wpAny_bind (key _ fun b hb => wpAny_pure (h b hb))
end
end

section
theorem fillK_lev : PySem.Challenge.rw_pg0086_01 = PySem.Challenge.rw_pg0086_01 ∧ Mine.hd.heap_39 = Mine.hd.heap_39 := by k_fill; exact ⟨rfl, rfl⟩
theorem lt_of_drop {l : List Nat} {i : Nat} (h : l.drop i ≠ []) : i < l.length := by
  rcases Nat.lt_or_ge i l.length with h1 | h1
  · exact h1
  · exact absurd (List.drop_eq_nil_of_le h1) h
theorem lt_of_take {l : List Nat} {j : Nat} (h : l.take (l.length - j) ≠ []) : j < l.length := by
  rcases Nat.lt_or_ge j l.length with h1 | h1
  · exact h1
  · exact absurd (by rw [Nat.sub_eq_zero_of_le h1, List.take_zero]) h
local macro_rules | `(tactic| walk_at "go1") => `(tactic| ((fail_if_success (with_reducible show wpAny _ _ (exec (Stmt.For _ _ _ _ _) _) _ _ _)); (fail_if_success (with_reducible show wpAny _ _ (exec (Stmt.While _ _ _ _) _) _ _ _)); (fail_if_success (with_reducible show wpAny _ _ (pyIter _) _ _ _)); (fail_if_success (with_reducible show wpAny _ _ (call (Value.ref _) _ _) _ _ _)); (fail_if_success (with_reducible show WhlPost _ _ _ _ _ _ _ _ _ _ _ _)); (fail_if_success (with_reducible show WhlRest _ _ _ _ _ _ _ _ _ _ _)); (first | (k_unfold; (try dsimp only)) | walk1 | (dsimp only; walk1))))
local macro_rules | `(tactic| walk_at "drop") => `(tactic| ((repeat (rename Fr _ _ _ _ => zF; clear zF)); (repeat (rename News _ _ _ _ => zN; clear zN)); (repeat (rename IsRange _ _ _ _ _ _ _ _ => zR; clear zR))))
local macro_rules | `(tactic| walk_at "drop2") => `(tactic| skip)
local macro_rules | `(tactic| walk_at "slen") => `(tactic| first | assumption | omega | exact lt_of_drop (by assumption) | exact lt_of_take (by assumption) | (simp only [List.length_drop, List.length_take]; omega))
local macro_rules | `(tactic| walk_at "subscriptTail Name Slice str ref") => `(tactic| ((with_reducible show wpAny _ _ (subscriptTail _ (Expr.Slice (some _) none none _) (Value.str (S _) _) _) _ _ _); (with_unfolding_all refine cut_from (s := ⟨_, _, _, _, _⟩) (by assumption) (by assumption) (by walk_at "slen") ?_); intro _ _ _ _ _))
local macro_rules | `(tactic| walk_at "subscriptTail Name Slice str ref") => `(tactic| ((with_reducible show wpAny _ _ (subscriptTail _ (Expr.Slice none (some _) none _) (Value.str (S _) _) _) _ _ _); (with_unfolding_all first | refine cut_all (s := ⟨_, _, _, _, _⟩) (by assumption) (by assumption) (by walk_at "slen") ?_ | refine cut_to (s := ⟨_, _, _, _, _⟩) (by assumption) (by assumption) (by walk_at "slen") (by walk_at "slen") (by walk_at "slen") ?_); intro _ _ _ _ _))
local macro_rules | `(tactic| walk_at "subscriptTail Name BinOp str int") => `(tactic| ((with_reducible show wpAny _ _ (subscriptTail _ _ (Value.str (S _) _) (Value.int _ _)) _ _ _); (refine get_S_neg rfl (by walk_at "slen") (by walk_at "slen") ?_)))
local macro_rules | `(tactic| walk_at "subscriptTail Name Name str int") => `(tactic| ((with_reducible show wpAny _ _ (subscriptTail _ _ (Value.str (S _) _) (Value.int _ _)) _ _ _); (refine get_S (by walk_at "slen") (by walk_at "slen") ?_)))
local macro_rules | `(tactic| walk_at "call builtin:len") => `(tactic| ((with_reducible show wpAny _ _ (call (Value.builtin _) [Value.str (S _) _]) _ _ _); (refine len_S (by walk_at "slen") ?_)))
local macro_rules | `(tactic| walk_at "truthy str") => `(tactic| ((with_reducible show wpAny _ _ (truthy (Value.str (S _) _)) _ _ _); (refine truthy_S (by walk_at "slen") ?_)))
local macro_rules | `(tactic| walk_at "compareOp Eq str str") => `(tactic| ((with_reducible show wpAny _ _ (compareOp CmpOp.Eq (Value.str (S _) _) (Value.str (S _) _)) _ _ _); (refine eq_S ?_)))
def cS (x y : Nat) : Int := subF (S [x]) (S [y])
theorem lt_of_ne {l : List Nat} (h : l ≠ []) : 0 < l.length := List.length_pos_iff.mpr h
theorem suf_step {a b : List Nat} {j : Nat} (h : a.drop (a.length - j) = b.drop (b.length - j)) (ha : j < a.length) (hb : j < b.length) (e : a[a.length - 1 - j] = b[b.length - 1 - j]) :
    a.drop (a.length - (j + 1)) = b.drop (b.length - (j + 1)) := by
  have h1 : a.length - (j + 1) < a.length := by omega
  have h2 : b.length - (j + 1) < b.length := by omega
  rw [List.drop_eq_getElem_cons h1, List.drop_eq_getElem_cons h2]
  have e1 : a.length - (j + 1) + 1 = a.length - j := by omega
  have e2 : b.length - (j + 1) + 1 = b.length - j := by omega
  rw [e1, e2, h]
  congr 1
  have e3 : a.length - (j + 1) = a.length - 1 - j := by omega
  have e4 : b.length - (j + 1) = b.length - 1 - j := by omega
  simp only [e3, e4]
  exact e
theorem wf_self {α : Type} {c : α → α → Int} (h0 : ∀ x y, 0 ≤ c x y) (hs : ∀ x, c x x = 0) (a : List α) : wf c a a = 0 := by
  have := wf_pre h0 hs a [] []
  rw [List.append_nil, wf_nil_left] at this
  simpa using this
theorem cS_nonneg (x y : Nat) : 0 ≤ cS x y := by unfold cS subF; split <;> (try split) <;> omega
theorem cS_le (x y : Nat) : cS x y ≤ 2 := by unfold cS subF; split <;> (try split) <;> omega
theorem cS_self (x : Nat) : cS x x = 0 := by simp [cS, subF]
theorem cS_symm (x y : Nat) : cS x y = cS y x := by
  unfold cS subF
  by_cases h : S [x] = S [y]
  · simp [h]
  · by_cases h2 : Txt.lower (S [x]) = Txt.lower (S [y])
    · rw [if_neg h, if_pos h2, if_neg (Ne.symm h), if_pos h2.symm]
    · rw [if_neg h, if_neg h2, if_neg (Ne.symm h), if_neg (Ne.symm h2)]

/-- the row of the table: new up to k, old from there on -/
def rowMix (a b : List Nat) (j k : Nat) : List Int := (List.range a.length).map fun x => if x < k then wf cS (b.take (j + 1)) (a.take (x + 1)) else wf cS (b.take j) (a.take (x + 1))
theorem rowMix_zero (a b : List Nat) : rowMix a b 0 0 = (List.range a.length).map fun (i : Nat) => 2 * ((i : Int) + 1) := by
  unfold rowMix
  refine List.map_congr_left fun i hi => ?_
  have := List.mem_range.mp hi
  rw [if_neg (by omega), List.take_zero, wf_nil_left, List.length_take, Nat.min_eq_left (by omega)]
  push_cast; omega
theorem rowMix_length (a b : List Nat) (j k : Nat) : (rowMix a b j k).length = a.length := by simp [rowMix]
theorem rowMix_get (a b : List Nat) (j k : Nat) (hk : k < a.length) : (rowMix a b j k).getD k 0 = wf cS (b.take j) (a.take (k + 1)) := by
  unfold rowMix
  rw [List.getD_eq_getElem?_getD, List.getElem?_map, List.getElem?_range hk]
  simp
theorem rowMix_set (a b : List Nat) (j k : Nat) (hk : k < a.length) : (rowMix a b j k).set k (wf cS (b.take (j + 1)) (a.take (k + 1))) = rowMix a b j (k + 1) := by
  apply List.ext_getElem
  · simp [rowMix]
  · intro x h1 h2
    rw [List.getElem_set]
    by_cases hx : k = x
    · subst hx
      simp [rowMix]
    · rw [if_neg hx]
      simp only [rowMix, List.getElem_map, List.getElem_range]
      by_cases h3 : x < k
      · rw [if_pos h3, if_pos (by omega)]
      · rw [if_neg h3, if_neg (by omega)]
theorem rowMix_next (a b : List Nat) (j : Nat) : rowMix a b j a.length = rowMix a b (j + 1) 0 := by
  unfold rowMix
  refine List.map_congr_left fun x hx => ?_
  rw [if_pos (List.mem_range.mp hx), if_neg (by omega)]
theorem dp_step (a b : List Nat) (j k : Nat) (hj : j < b.length) (hk : k < a.length) (res : Int) (hres : res = if k = 0 then 2 * (j : Int) else wf cS (b.take (j + 1)) (a.take k)) :
    min (min res (wf cS (b.take j) (a.take (k + 1))) + 2) (wf cS (b.take j) (a.take k) + cS b[j] a[k]) = wf cS (b.take (j + 1)) (a.take (k + 1)) := by
  have hs := wf_snoc (c := cS) b[j] a[k] _ (b.take j) (a.take k) rfl
  rw [← List.take_succ_eq_append_getElem hj, ← List.take_succ_eq_append_getElem hk] at hs
  rw [hs]
  by_cases h0 : k = 0
  · subst h0
    rw [if_pos rfl] at hres
    have hc := cS_le b[j] a[0]
    rw [List.take_zero, wf_nil_right, wf_nil_right, List.length_take, List.length_take, Nat.min_eq_left (by omega), Nat.min_eq_left (by omega)]
    rw [hres]
    push_cast
    omega
  · rw [if_neg h0] at hres
    rw [hres]
    omega
theorem dp_val (a b : List Nat) (j k : Nat) (hj : j < b.length) (hk : k < a.length) (r : Int) (hres : r = if k = 0 then 2 * (j : Int) else wf cS (b.take (j + 1)) (a.take k)) (dist : Int) (hd : dist = wf cS (b.take j) (a.take k)) :
    (if dist + subF (Mine.S [b[j]]) (Mine.S [a[k]]) < (if (rowMix a b j k).getD (k : Int).toNat 0 < r then (rowMix a b j k).getD (k : Int).toNat 0 else r) + 2 then dist + subF (Mine.S [b[j]]) (Mine.S [a[k]])
      else (if (rowMix a b j k).getD (k : Int).toNat 0 < r then (rowMix a b j k).getD (k : Int).toNat 0 else r) + 2) = wf cS (b.take (j + 1)) (a.take (k + 1)) := by
  rw [Int.toNat_natCast, rowMix_get a b j k hk, ← dp_step a b j k hj hk r hres, hd]
  show (if wf cS (b.take j) (a.take k) + cS b[j] a[k] < _ then wf cS (b.take j) (a.take k) + cS b[j] a[k] else _) = _
  split <;> split <;> omega
set_option maxRecDepth 100000 in
set_option maxHeartbeats 4000000 in
theorem lev_c (w : World) (s0 : Shared) (mg mb : Str → Option Value) (a b : List Nat) (mc : Int) (ta tb tc : Tok) (ha : a.length ≤ 20) (hb : b.length ≤ 20) (hmc : -100 ≤ mc ∧ mc ≤ 100) :
    Does 8 w s0 mg mb 28 [.str (S a) ta, .str (S b) tb, .int mc tc] (fun _ => True) (fun _ v _ => ∃ r t, v = .int r t ∧ min r (mc + 1) = min (wf cS a b) (mc + 1)) := by
  unfold Does
  intro dp un gd outer base s R S hl hd hu hret
  have X := S.X
  have T := S.T
  have B := S.B
  refine enter S (by k_is) (by k_is) (by dsimp only; omega) (binds := [("a", .str (Mine.S a) ta), ("b", .str (Mine.S b) tb), ("max_cost", .int mc tc)]) (BindsTo.of_eq rfl) (locs rfl) rfl rfl rfl (by decide) ?_
  intro L' h₁ F N
  dsimp only [List.reverse, List.reverseAux, List.length, kstB] at F ⊢
  k_fold
  walk_at "go"
  · rename a = b => e
    subst e
    exact hret _ _ _ F.keep ⟨0, _, rfl, by rw [wf_self cS_nonneg cS_self]⟩
  · refine cut_stmt (fun s' => Ex4 fun (i : Nat) (h : Heap) (tk : Nat) (t' : Tok) => An5 (s' = { s with heap := h, toks := tk }) (a.take i = b.take i) (i ≤ a.length) (i ≤ b.length) (Fv s.heap L' h [("a", .str (Mine.S a) ta), ("b", .str (Mine.S b) tb), ("max_cost", .int mc tc), ("pre", .int i t')])) ?_ ?_
    · rename Fr _ _ _ _ => lF
      rename News _ _ _ _ => lN
      refine while_inv (σ := Nat) (fun i => a.length - i) (fun i s' => Ex3 fun h tk t' => An5 (s' = { s with heap := h, toks := tk }) (a.take i = b.take i) (i ≤ a.length) (i ≤ b.length) (Fv s.heap L' h [("a", .str (Mine.S a) ta), ("b", .str (Mine.S b) tb), ("max_cost", .int mc tc), ("pre", .int i t')])) ?_ (c := 0) ?_
      rotate_left
      · exact ⟨_, _, _, rfl, rfl, Nat.zero_le _, Nat.zero_le _, Fv.mk lF ⟨rfl, rfl, rfl, rfl, trivial⟩⟩
      · clear lF lN
        rintro i s' ⟨h, tk, t', rfl, hpre, hla, hlb, FV⟩ IH
        obtain ⟨m₁, F₁⟩ := FV.out; clear FV
        dsimp only [kstB] at F₁
        have N₁ : News s.heap L' h [] := News.nil
        refine whl_turn PassesOwn.never ?_
        k_fold
        walk_at "go"
        · have e1 : a[i]'(lt_of_drop (by assumption)) = b[i]'(lt_of_drop (by assumption)) := by simpa using ‹[_] = [_]›
          exact IH 0 (i + 1) _ (by have := lt_of_drop ‹a.drop i ≠ []›; omega) ⟨_, _, _, rfl, by rw [List.take_succ_eq_append_getElem (lt_of_drop (by assumption)), List.take_succ_eq_append_getElem (lt_of_drop (by assumption)), hpre, e1], lt_of_drop (by assumption), lt_of_drop (by assumption), Fv.mk (by assumption) ⟨rfl, rfl, rfl, rfl, trivial⟩⟩
        all_goals (refine ⟨rfl, i, _, _, _, rfl, hpre, hla, hlb, Fv.mk (by assumption) ⟨rfl, rfl, rfl, rfl, trivial⟩⟩)
    · rintro s' ⟨i, h, tk, t', rfl, hpre, hla, hlb, FV⟩
      obtain ⟨m₁, F₁⟩ := FV.out; clear FV
      dsimp only [kstB] at F₁
      have N₁ : News s.heap L' h [] := News.nil
      walk_at "go"
      rename Fr _ _ _ _ => lF
      rename News _ _ _ _ => lN
      have hwf : wf cS (a.drop i) (b.drop i) = wf cS a b := by
        conv => rhs; rw [← List.take_append_drop i a, ← List.take_append_drop i b, hpre]
        rw [wf_pre cS_nonneg cS_self]
      have hA : (a.drop i).length ≤ 20 := by rw [List.length_drop]; omega
      have hB : (b.drop i).length ≤ 20 := by rw [List.length_drop]; omega
      generalize a.drop i = a1 at lF hwf hA
      generalize b.drop i = b1 at lF hwf hB
      refine cut_stmt (fun s' => Ex6 fun (j : Nat) (h : Heap) (tk : Nat) (t1 t2 t' : Tok) => An5 (s' = { s with heap := h, toks := tk }) (a1.drop (a1.length - j) = b1.drop (b1.length - j)) (j ≤ a1.length) (j ≤ b1.length) (Fv s.heap L' h [("a", .str (Mine.S a1) t1), ("b", .str (Mine.S b1) t2), ("max_cost", .int mc tc), ("post", .int (-(j : Int)) t')])) ?_ ?_
      · refine while_inv (σ := Nat) (fun j => a1.length - j) (fun j s' => Ex6 fun h tk t1 t2 t' z => An6 (s' = { s with heap := h, toks := tk }) (a1.drop (a1.length - j) = b1.drop (b1.length - j)) (j ≤ a1.length) (j ≤ b1.length) (z = -(j : Int)) (Fv s.heap L' h [("a", .str (Mine.S a1) t1), ("b", .str (Mine.S b1) t2), ("max_cost", .int mc tc), ("post", .int z t')])) ?_ (c := 0) ?_
        rotate_left
        · exact ⟨_, _, _, _, _, _, rfl, by simp, Nat.zero_le _, Nat.zero_le _, rfl, Fv.mk lF ⟨rfl, rfl, rfl, rfl, trivial⟩⟩
        · clear lF lN
          rintro j s' ⟨h, tk, t1, t2, t', z, rfl, hsuf, hla, hlb, rfl, FV⟩ IH
          obtain ⟨m₁, F₁⟩ := FV.out; clear FV
          dsimp only [kstB] at F₁
          have N₁ : News s.heap L' h [] := News.nil
          refine whl_turn PassesOwn.never ?_
          k_fold
          rcases Nat.eq_zero_or_pos j with rfl | hj
          · walk_at "go"
            · have h1 := lt_of_ne ‹a1 ≠ []›
              have h2 := lt_of_ne ‹b1 ≠ []›
              exact IH 0 1 _ (by omega) ⟨_, _, _, _, _, _, rfl, suf_step hsuf h1 h2 (by simpa using ‹[_] = [_]›), h1, h2, rfl, Fv.mk (by assumption) ⟨rfl, rfl, rfl, rfl, trivial⟩⟩
            all_goals (refine ⟨rfl, 0, _, _, _, _, _, rfl, hsuf, hla, hlb, Fv.mk (by assumption) ⟨rfl, rfl, rfl, rfl, trivial⟩⟩)
          · walk_at "go"
            · have h1 := lt_of_take ‹a1.take (a1.length - j) ≠ []›
              have h2 := lt_of_take ‹b1.take (b1.length - j) ≠ []›
              refine IH 0 (j + 1) _ (by omega) ⟨_, _, _, _, _, _, rfl, suf_step hsuf h1 h2 (by simpa using ‹[_] = [_]›), h1, h2, ?_, Fv.mk (by assumption) ⟨rfl, rfl, rfl, rfl, trivial⟩⟩
              omega
            all_goals first | (refine ⟨rfl, j, _, _, _, _, _, rfl, hsuf, hla, hlb, Fv.mk (by assumption) ⟨rfl, rfl, rfl, rfl, trivial⟩⟩) | (exfalso; omega)
      · clear lF lN
        rintro s' ⟨j, h, tk, t1, t2, t', rfl, hsuf, hja, hjb, FV⟩
        obtain ⟨m₁, F₁⟩ := FV.out; clear FV
        dsimp only [kstB] at F₁
        have N₁ : News s.heap L' h [] := News.nil
        refine cut_cons (fun s' => Ex5 fun (h : Heap) (tk : Nat) (t1 t2 t' : Tok) => An2 (s' = { s with heap := h, toks := tk }) (Fv s.heap L' h [("a", .str (Mine.S (a1.take (a1.length - j))) t1), ("b", .str (Mine.S b1) t2), ("max_cost", .int mc tc), ("post", .int (-(j : Int)) t')])) ?_ ?_
        · rcases Nat.eq_zero_or_pos j with rfl | hj
          · walk_at "go"
            rw [Nat.sub_zero, List.take_length]
            exact ⟨rfl, _, _, _, _, _, rfl, Fv.mk (by assumption) ⟨rfl, rfl, rfl, rfl, trivial⟩⟩
          · walk_at "go"
            all_goals first | exact ⟨rfl, _, _, _, _, _, rfl, Fv.mk (by assumption) ⟨rfl, rfl, rfl, rfl, trivial⟩⟩ | (exfalso; omega)
        clear F₁ N₁
        rintro s' ⟨h, tk, t1, t2, t', rfl, FV⟩
        obtain ⟨m₁, F₁⟩ := FV.out; clear FV
        dsimp only [kstB] at F₁
        have N₁ : News s.heap L' h [] := News.nil
        refine cut_cons (fun s' => Ex4 fun (h : Heap) (tk : Nat) (t1 t2 : Tok) => An2 (s' = { s with heap := h, toks := tk }) (Fv s.heap L' h [("a", .str (Mine.S (a1.take (a1.length - j))) t1), ("b", .str (Mine.S (b1.take (b1.length - j))) t2), ("max_cost", .int mc tc)])) ?_ ?_
        · rcases Nat.eq_zero_or_pos j with rfl | hj
          · walk_at "go"
            rw [Nat.sub_zero, List.take_length, Nat.sub_zero, List.take_length] at *
            exact ⟨rfl, _, _, _, _, rfl, Fv.mk (by assumption) ⟨rfl, rfl, rfl, trivial⟩⟩
          · walk_at "go"
            all_goals first | exact ⟨rfl, _, _, _, _, rfl, Fv.mk (by assumption) ⟨rfl, rfl, rfl, trivial⟩⟩ | (exfalso; omega)
        clear F₁ N₁
        rintro s' ⟨h, tk, t1, t2, rfl, FV⟩
        obtain ⟨m₁, F₁⟩ := FV.out; clear FV
        dsimp only [kstB] at F₁
        have N₁ : News s.heap L' h [] := News.nil
        have hwf2 : wf cS (a1.take (a1.length - j)) (b1.take (b1.length - j)) = wf cS a b := by
          rw [← hwf]
          conv => rhs; rw [← List.take_append_drop (a1.length - j) a1, ← List.take_append_drop (b1.length - j) b1, hsuf]
          rw [wf_suf cS_nonneg cS_self]
        have hA2 : (a1.take (a1.length - j)).length ≤ 20 := by rw [List.length_take]; omega
        have hB2 : (b1.take (b1.length - j)).length ≤ 20 := by rw [List.length_take]; omega
        clear hsuf hja hjb hwf
        generalize a1.take (a1.length - j) = a2 at F₁ hwf2 hA2
        generalize b1.take (b1.length - j) = b2 at F₁ hwf2 hB2
        refine cut_if (fun s' => a2 ≠ [] ∧ b2 ≠ [] ∧ ∃ (h : Heap) (tk : Nat), s' = { s with heap := h, toks := tk } ∧
          Fv s.heap L' h [("a", .str (Mine.S a2) t1), ("b", .str (Mine.S b2) t2), ("max_cost", .int mc tc)]) ?_ ?_
        · walk_at "go"
          · exact .nx ⟨by assumption, by assumption, _, _, rfl, Fv.mk (by assumption) ⟨rfl, rfl, rfl, trivial⟩⟩
          · have e : b2 = [] := Classical.not_not.mp ‹¬ b2 ≠ []›
            refine .ret (hret _ _ _ (Fr.keep (by assumption)) ⟨_, _, rfl, ?_⟩)
            rw [← hwf2, e, wf_nil_right]; simp
          · have e : a2 = [] := Classical.not_not.mp ‹¬ a2 ≠ []›
            refine .ret (hret _ _ _ (Fr.keep (by assumption)) ⟨_, _, rfl, ?_⟩)
            rw [← hwf2, e, wf_nil_left]; simp
        clear F₁ N₁
        rintro s' ⟨hane, hbne, h, tk, rfl, FV⟩
        obtain ⟨m₁, F₁⟩ := FV.out; clear FV
        dsimp only [kstB] at F₁
        have N₁ : News s.heap L' h [] := News.nil
        refine cut_if (fun s' => Ex2 fun (h : Heap) (tk : Nat) => An2 (s' = { s with heap := h, toks := tk }) (Fv s.heap L' h [("a", .str (Mine.S a2) t1), ("b", .str (Mine.S b2) t2), ("max_cost", .int mc tc)])) ?_ ?_
        · walk_at "go"
          all_goals first | (exfalso; omega) | exact .nx ⟨_, _, rfl, Fv.mk (by assumption) ⟨rfl, rfl, rfl, trivial⟩⟩
        clear F₁ N₁
        rintro s' ⟨h, tk, rfl, FV⟩
        obtain ⟨m₁, F₁⟩ := FV.out; clear FV
        dsimp only [kstB] at F₁
        have N₁ : News s.heap L' h [] := News.nil
        refine cut_cons (fun s' => Ex6 fun (a3 b3 : List Nat) (h : Heap) (tk : Nat) (t1 t2 : Tok) => An6 (s' = { s with heap := h, toks := tk }) (0 < a3.length) (a3.length ≤ b3.length) (b3.length ≤ 20) (wf cS b3 a3 = wf cS a b) (Fv s.heap L' h [("a", .str (Mine.S a3) t1), ("b", .str (Mine.S b3) t2), ("max_cost", .int mc tc)])) ?_ ?_
        · have p1 := lt_of_ne hane
          have p2 := lt_of_ne hbne
          walk_at "go"
          · refine ⟨rfl, b2, a2, _, _, _, _, rfl, p2, ?_, hA2, hwf2, Fv.mk (by assumption) ⟨rfl, rfl, rfl, trivial⟩⟩
            omega
          · refine ⟨rfl, a2, b2, _, _, _, _, rfl, p1, ?_, hB2, by rw [← hwf2]; exact wf_symm cS_symm _ _ _ rfl, Fv.mk (by assumption) ⟨rfl, rfl, rfl, trivial⟩⟩
            omega
        clear F₁ N₁ hwf2 hA2 hB2 hane hbne hA hB hpre hla hlb
        clear a2 b2 a1 b1
        rintro s' ⟨a3, b3, h, tk, t1, t2, rfl, hpos, hle, h20, hwf, FV⟩
        obtain ⟨m₁, F₁⟩ := FV.out; clear FV
        dsimp only [kstB] at F₁
        have N₁ : News s.heap L' h [] := News.nil
        have h20' : a3.length ≤ 20 := by omega
        have hlow := wf_low cS_nonneg _ b3 a3 rfl
        refine cut_if (fun s' => Ex2 fun (h : Heap) (tk : Nat) => An2 (s' = { s with heap := h, toks := tk }) (Fv s.heap L' h [("a", .str (Mine.S a3) t1), ("b", .str (Mine.S b3) t2), ("max_cost", .int mc tc)])) ?_ ?_
        · walk_at "go"
          · refine .ret (hret _ _ _ (Fr.keep (by assumption)) ⟨_, _, rfl, ?_⟩)
            rw [← hwf]; omega
          · exact .nx ⟨_, _, rfl, Fv.mk (by assumption) ⟨rfl, rfl, rfl, trivial⟩⟩
        clear F₁ N₁
        rintro s' ⟨h, tk, rfl, FV⟩
        obtain ⟨m₁, F₁⟩ := FV.out; clear FV
        dsimp only [kstB] at F₁
        have N₁ : News s.heap L' h [] := News.nil
        refine cut_cons (fun s' => Ex5 fun (D : Addr) (ys : List Value) (c : Nat) (h : Heap) (tk : Nat) => An4 (s' = { s with heap := h, toks := tk }) (IntsAre ys (rowMix a3 b3 0 0)) (News s.heap L' h [(D, listOf ys.toArray c)]) (Fv s.heap L' h [("a", .str (Mine.S a3) t1), ("b", .str (Mine.S b3) t2), ("max_cost", .int mc tc), ("row", .ref D)])) ?_ ?_
        · walk_at "go"
          refine list_range2 rfl (by assumption) (by assumption) (by assumption) rfl (by omega) fun D h' tk' ys c hD hi F' N' => ?_
          rw [← rowMix_zero a3 b3] at hi
          (rename Fr _ _ _ _ => lF)
          walk_at "go"
          exact ⟨rfl, D, ys, c, _, _, rfl, hi, by assumption, Fv.mk (by assumption) ⟨rfl, rfl, rfl, rfl, trivial⟩⟩
        clear F₁ N₁
        rintro s' ⟨D, ys, c, h, tk, rfl, hi, N₁, FV⟩
        obtain ⟨m₁, F₁⟩ := FV.out; clear FV
        dsimp only [kstB] at F₁
        walk_at "go"
        rename Fr _ _ _ _ => lF
        rename News _ _ _ _ => lN
        refine cut_ifs (fun s' => Ex3 fun (h : Heap) (tk : Nat) (t : Tok) => An2 (s' = { s with heap := h, toks := tk }) (Fv s.heap L' h [("result", .int (wf cS b3 a3) t)])) ?_ ?_
        · refine for_start ?_
          walk_at "go"
          refine range_iter (n := b3.length) (by assumption) (by assumption) (by assumption) (small_of (by omega) (by omega) (by omega) (by omega) (by omega) (by omega)) (size_one (by omega)) fun I h' hI F' N' => ?_
          have hDI : @LT.lt Nat _ D I := hI _ (List.Mem.head _)
          refine for_inv (σ := Nat) (fun k => k) (fun k s' => Ex7 fun (j : Nat) (h : Heap) (tk : Nat) (ys : List Value) (c : Nat) (r : Int) (tr : Tok) => An6 (s' = { s with heap := h, toks := tk }) (j + k = b3.length) (IntsAre ys (rowMix a3 b3 j 0)) ((0 < j → r = wf cS (b3.take j) a3)) (News s.heap L' h [(I, rangeIt (j : Int) (k : Int)), (D, listOf ys.toArray c)]) (Fv s.heap L' h [("a", .str (Mine.S a3) t1), ("b", .str (Mine.S b3) t2), ("max_cost", .int mc tc), ("row", .ref D), ("result", .int r tr)])) ?_ (c := b3.length) ?_
          rotate_left
          · exact ⟨0, _, _, ys, c, _, _, rfl, Nat.zero_add _, hi, fun h => absurd h (Nat.lt_irrefl _), N', Fv.mk F' ⟨rfl, rfl, rfl, rfl, rfl, trivial⟩⟩
          walk_at "drop"
          clear hi
          rintro k s' ⟨j, h, tk, ys, c, r, tr, rfl, hjk, hi, hr, N₁, FV⟩ IH
          obtain ⟨m₁, F₁⟩ := FV.out; clear FV
          dsimp only [kstB] at F₁
          cases k with
          | zero =>
            have hj : j = b3.length := hjk
            refine range_done rfl F₁ N₁ (by intro p hp; rw [List.mem_singleton.mp hp]; exact Nat.ne_of_lt hDI) PassesOwn.never fun h₂ F₂ N₂ => ?_
            refine wpAny_execs_nil ?_
            have e := hr (by omega)
            rw [hj, List.take_length] at e
            rw [e] at F₂
            exact .nx ⟨_, _, _, rfl, Fv.mk F₂ ⟨rfl, trivial⟩⟩
          | succ k =>
            have hjb : j < b3.length := by omega
            refine range_turn F₁ N₁ (by intro p hp; rw [List.mem_singleton.mp hp]; exact Nat.ne_of_lt hDI) rfl rfl PassesOwn.never fun h₂ F₂ N₂ => ?_
            clear F₁ N₁
            k_fold
            walk_at "go"
            rename Fr _ _ _ _ => lF
            rename News _ _ _ _ => lN
            refine cut_stmt (fun s' => Ex8 fun (h : Heap) (tk : Nat) (ys : List Value) (c : Nat) (r mn : Int) (tr tm : Tok) => An6 (s' = { s with heap := h, toks := tk }) (IntsAre ys (rowMix a3 b3 j a3.length)) (r = wf cS (b3.take (j + 1)) a3) ((∀ x, x < a3.length → mn ≤ wf cS (b3.take (j + 1)) (a3.take (x + 1)))) (News s.heap L' h [(I, rangeIt ((j : Int) + 1) (k : Int)), (D, listOf ys.toArray c)]) (Fv s.heap L' h [("a", .str (Mine.S a3) t1), ("b", .str (Mine.S b3) t2), ("max_cost", .int mc tc), ("row", .ref D), ("result", .int r tr), ("minimum", .int mn tm)])) ?_ ?_
            · refine for_start ?_
              walk_at "go"
              refine range_iter (n := a3.length) (by assumption) (by assumption) (by assumption) (small_of (by omega) (by omega) (by omega) (by omega) (by omega) (by omega)) (size_one (by omega)) fun I2 h' hI2 F' N' => ?_
              have hII : @LT.lt Nat _ I I2 := hI2 _ (List.Mem.head _)
              have hoff : ∀ (o1 o2 : Obj), ∀ p ∈ [(I, o1), (D, o2)], p.1 ≠ I2 := by
                intro o1 o2 p hp
                rcases List.mem_cons.mp hp with rfl | hp
                · exact Nat.ne_of_lt hII
                · rw [List.mem_singleton.mp hp]; exact Nat.ne_of_lt (Nat.lt_trans hDI hII)
              refine for_inv (σ := Nat) (fun k2 => k2) (fun k2 s' => Ex12 fun (i : Nat) (h : Heap) (tk : Nat) (ys : List Value) (c : Nat) (r mn dist : Int) (tr tm td tb : Tok) => An8 (s' = { s with heap := h, toks := tk }) (i + k2 = a3.length) (IntsAre ys (rowMix a3 b3 j i)) ((r = if i = 0 then 2 * (j : Int) else wf cS (b3.take (j + 1)) (a3.take i))) (dist = wf cS (b3.take j) (a3.take i)) ((∀ x, x < i → mn ≤ wf cS (b3.take (j + 1)) (a3.take (x + 1)))) (News s.heap L' h [(I2, rangeIt (i : Int) (k2 : Int)), (I, rangeIt ((j : Int) + 1) (k : Int)), (D, listOf ys.toArray c)]) (Fv s.heap L' h [("a", .str (Mine.S a3) t1), ("b", .str (Mine.S b3) t2), ("max_cost", .int mc tc), ("row", .ref D), ("result", .int r tr), ("minimum", .int mn tm), ("distance", .int dist td), ("bchar", .str (Mine.S [b3[j]]) tb)])) ?_ (c := a3.length) ?_
              rotate_left
              · refine ⟨0, _, _, ys, c, _, _, _, _, _, _, _, rfl, Nat.zero_add _, hi, ?_, ?_, fun x h => absurd h (Nat.not_lt_zero _), N', Fv.mk F' ⟨rfl, rfl, rfl, rfl, rfl, rfl, rfl, rfl, trivial⟩⟩
                · rw [if_pos rfl]; omega
                · rw [List.take_zero, wf_nil_right, List.length_take, Nat.min_eq_left (by omega)]; omega
              walk_at "drop"
              clear hi hr
              rintro k2 s' ⟨i, h, tk, ys, c, r, mn, dist, tr, tm, td, tb, rfl, hik, hi, hr, hdist, hmn, N₁, FV⟩ IH2
              obtain ⟨m₁, F₁⟩ := FV.out; clear FV
              dsimp only [kstB] at F₁
              cases k2 with
              | zero =>
                have hia : i = a3.length := hik
                refine range_done rfl F₁ N₁ (hoff _ _) PassesOwn.never fun h₂ F₂ N₂ => ?_
                refine wpAny_execs_nil ⟨rfl, _, _, ys, c, _, _, _, _, rfl, by rw [← hia]; exact hi, ?_, by rw [← hia]; exact hmn, N₂, Fv.mk F₂ ⟨rfl, rfl, rfl, rfl, rfl, rfl, trivial⟩⟩
                rw [hr, if_neg (by omega), hia, List.take_length]
              | succ k2 =>
                have hia : i < a3.length := by omega
                have hlen := rowMix_length a3 b3 j i
                refine range_turn F₁ N₁ (hoff _ _) rfl rfl PassesOwn.never fun h₂ F₂ N₂ => ?_
                clear F₁ N₁
                k_fold
                walk_at "go"
                refine Does.use (sub_c w s0 mg mb _ _ _ _ (by rw [S_length]; simp) (by rw [S_length]; simp)) B X T (by assumption) (by assumption) rfl rfl rfl trivial (show dp + 1 + 4 < recursionLimit by omega) (show un + 3 + 10 * 4 < cLine by omega) ?_
                rintro v h' tk' hk F' N' ⟨tv, rfl⟩
                walk_at "go"
                all_goals rename IntsAre _ (List.set _ _ _) => hi'
                all_goals have hval := dp_val a3 b3 j i hjb hia r hr dist hdist
                all_goals refine IH2 k2 _ (Nat.lt_succ_self _) ⟨i + 1, _, _, _, c, _, _, _, _, _, _, _, rfl, by omega, ((congrArg (fun z => List.set (rowMix a3 b3 j i) i z) hval).trans (rowMix_set a3 b3 j i hia)) ▸ hi', ?_, rowMix_get a3 b3 j i hia, ?_, by assumption, Fv.mk (by assumption) ⟨rfl, rfl, rfl, rfl, rfl, rfl, rfl, rfl, trivial⟩⟩
                · exact hval.trans (if_neg (Nat.succ_ne_zero i)).symm
                · rename _ < mn => hlt
                  rw [hval] at hlt ⊢
                  intro x hx
                  rcases Nat.lt_or_ge x i with h1 | h1
                  · exact Int.le_trans (Int.le_of_lt hlt) (hmn x h1)
                  · rw [show x = i by omega]; exact Int.le_refl _
                · exact hval.trans (if_neg (Nat.succ_ne_zero i)).symm
                · rename ¬ (_ < mn) => hlt
                  rw [hval] at hlt
                  intro x hx
                  rcases Nat.lt_or_ge x i with h1 | h1
                  · exact hmn x h1
                  · rw [show x = i by omega]; omega
            · walk_at "drop"
              clear hi hr
              rintro s' ⟨h, tk, ys, c, r, mn, tr, tm, rfl, hi, hr, hmn, N₁, FV⟩
              obtain ⟨m₁, F₁⟩ := FV.out; clear FV
              dsimp only [kstB] at F₁
              walk_at "go"
              · refine MidR.ret (hret _ _ _ (Fr.keep (by assumption)) ⟨_, _, rfl, ?_⟩)
                have hle := wf_row1 cS_nonneg cS_le (b3.take (j + 1)) (b3.drop (j + 1)) a3 (mc + 1) (by intro e; have h9 := congrArg List.length e; rw [List.length_take, List.length_nil] at h9; omega) (by intro e; rw [e] at hpos; exact absurd hpos (Nat.lt_irrefl _)) (by
                  intro x h1 h2
                  have := hmn (x - 1) (by omega)
                  rw [show x - 1 + 1 = x by omega] at this
                  omega)
                rw [List.take_append_drop, hwf] at hle
                omega
              · exact IH k _ (Nat.lt_succ_self _) ⟨j + 1, _, _, ys, c, _, _, rfl, by omega, by rw [← rowMix_next]; exact hi, fun _ => hr, by assumption, Fv.mk (by assumption) ⟨rfl, rfl, rfl, rfl, rfl, trivial⟩⟩
        · rintro s' ⟨h, tk, t, rfl, FV⟩
          obtain ⟨m₁, F₁⟩ := FV.out; clear FV
          dsimp only [kstB] at F₁
          walk_at "go"
          exact hret _ _ _ F₁.keep ⟨_, _, rfl, by rw [hwf]⟩
end

section
/-- every write of the tree keeps I; no call, no resuming -/
def Mild {α : Type} (I : Heap → Prop) : Sem α → Prop
  | .pure _ => True
  | .raise _ => True
  | .unsupported _ => True
  | .finish _ => True
  | .rule _ k => ∀ u, Mild I (k u)
  | .at _ k => ∀ u, Mild I (k u)
  | .load _ _ k => ∀ o, Mild I (k o)
  | .update a _ f k => (∀ h, I h → I (h.update a f)) ∧ ∀ u, Mild I (k u)
  | .loadIfAlive _ k => ∀ o, Mild I (k o)
  | .point _ k => ∀ u, Mild I (k u)
  | .register _ _ => True
  | .alloc o k => (∀ h, I h → I (h.push o)) ∧ ∀ a, Mild I (k a)
  | .fresh k => ∀ t, Mild I (k t)
  | .ask k => ∀ x, Mild I (k x)
  | .choose _ _ k => ∀ x, Mild I (k x)
  | .os _ _ k => ∀ x, Mild I (k x)
  | .call _ _ _ _ _ => False
  | .handled _ k => ∀ x, Mild I (k x)
  | .genState _ k => ∀ x, Mild I (k x)
  | .newGen _ k => ∀ x, Mild I (k x)
  | .resume _ _ _ _ => False
  | .yield _ _ _ _ => True
  | .stack k => ∀ x, Mild I (k x)
  | .fork _ _ => True
  | .thread k => ∀ x, Mild I (k x)
  | .await _ _ _ _ _ => True

theorem wp_mild {α : Type} (M : Model) (Γ : PySem.Ctx) (I : Heap → Prop) (t : Sem α) : ∀ (Q : α → Pos → Shared → Prop) (E : Value → Pos → Shared → Prop) (p : Pos) (s : Shared), Mild I t → I s.heap →
    Sem.wp M Γ t (fun a p' s' => I s'.heap → Q a p' s') (fun e p' s' => I s'.heap → E e p' s') p s → Sem.wp M Γ t Q E p s := by
  induction t with
  | pure a => intro Q E p s _ hn h; exact h hn
  | raise e => intro Q E p s _ hn h; exact h hn
  | unsupported _ => intro Q E p s _ _ h; exact h
  | finish _ => intro Q E p s _ _ h; exact h
  | rule _ k ih => intro Q E p s m hn h; exact ih () Q E p s (m ()) hn h
  | «at» p' k ih => intro Q E p s m hn h; exact ih () Q E p' s (m ()) hn h
  | load a _ k ih => intro Q E p s m hn h; obtain ⟨o, ho, h⟩ := h; exact ⟨o, ho, ih o Q E p s (m o) hn h⟩
  | update a _ f k ih => intro Q E p s m hn h; exact ⟨h.1, ih () Q E p _ (m.2 ()) (m.1 _ hn) h.2⟩
  | loadIfAlive a k ih => intro Q E p s m hn h; exact ih _ Q E p s (m _) hn h
  | point _ k ih => intro Q E p s m hn h; exact ih () Q E p s (m ()) hn h
  | register _ _ => intro Q E p s _ _ h; exact h
  | alloc o k ih => intro Q E p s m hn h; exact ih _ Q E p _ (m.2 _) (m.1 _ hn) h
  | fresh k ih => intro Q E p s m hn h; exact ih _ Q E p _ (m _) hn h
  | ask k ih => intro Q E p s m hn h; exact ih _ Q E p s (m _) hn h
  | choose src n k ih => intro Q E p s m hn h; exact ⟨h.1, ih _ Q E p _ (m _) hn h.2⟩
  | os q _ k ih => intro Q E p s m hn h; exact ih _ Q E p _ (m _) hn h
  | call c hd _ _ k ih => intro Q E p s m hn h; exact m.elim
  | handled own k ih => intro Q E p s m hn h; exact ih _ Q E p s (m _) hn h
  | genState g k ih => intro Q E p s m hn h; obtain ⟨st, hs, h⟩ := h; exact ⟨st, hs, ih _ Q E p s (m _) hn h⟩
  | newGen c k ih => intro Q E p s m hn h; exact ih _ Q E p _ (m _) hn h
  | resume g r _ k ih => intro Q E p s m hn h; exact m.elim
  | yield _ _ _ _ => intro Q E p s _ _ h; exact h
  | stack k ih => intro Q E p s m hn h; exact ih _ Q E p s (m _) hn h
  | fork _ _ => intro Q E p s _ _ h; exact h
  | thread k ih => intro Q E p s m hn h; exact ih _ Q E p s (m _) hn h
  | await _ _ _ _ _ => intro Q E p s _ _ h; exact h

theorem with_mild {α : Type} {M : Model} {A : Around} {s : Shared} {I : Heap → Prop} {t : Sem α} {Q : α → Shared → Prop} {E : Value → Shared → Prop} (m : Mild I t) (hi : I s.heap)
    (h : wpAny M A t (fun a s' => I s'.heap → Q a s') (fun e s' => I s'.heap → E e s') s) : wpAny M A t Q E s :=
  fun Γ p hΓ => wp_mild M Γ I t _ _ p s m hi (h Γ p hΓ)

theorem Mild.bind {α β : Type} {I : Heap → Prop} {t : Sem α} {f : α → Sem β} (m : Mild I t) (k : ∀ a, Mild I (f a)) : Mild I (t >>= f) := by
  show Mild I (t.bind f)
  induction t with
  | pure a => exact k a
  | raise e => trivial
  | unsupported _ => trivial
  | finish _ => trivial
  | update a _ g c ih => exact ⟨m.1, fun u => ih u (m.2 u)⟩
  | alloc o c ih => exact ⟨m.1, fun u => ih u (m.2 u)⟩
  | call c hd _ _ k ih => exact m.elim
  | resume g r _ k ih => exact m.elim
  | register _ _ => trivial
  | yield _ _ _ _ => trivial
  | fork _ _ => trivial
  | await _ _ _ _ _ => trivial
  | rule _ c ih => exact fun u => ih u (m u)
  | «at» _ c ih => exact fun u => ih u (m u)
  | load _ _ c ih => exact fun u => ih u (m u)
  | loadIfAlive _ c ih => exact fun u => ih u (m u)
  | point _ c ih => exact fun u => ih u (m u)
  | fresh c ih => exact fun u => ih u (m u)
  | ask c ih => exact fun u => ih u (m u)
  | choose _ _ c ih => exact fun u => ih u (m u)
  | os _ _ c ih => exact fun u => ih u (m u)
  | handled _ c ih => exact fun u => ih u (m u)
  | genState _ c ih => exact fun u => ih u (m u)
  | newGen _ c ih => exact fun u => ih u (m u)
  | stack c ih => exact fun u => ih u (m u)
  | thread c ih => exact fun u => ih u (m u)

/-- the exception e knows of no context -/
def Bare (e : Addr) (h : Heap) : Prop := ∃ o vs, h.get? e = some o ∧ o.data = .fields vs ∧ vs[2]? = some .none

theorem Bare.push {e : Addr} {h : Heap} (x : Bare e h) (o : Obj) : Bare e (h.push o) := by
  obtain ⟨q, vs, a, b, c⟩ := x
  exact ⟨q, vs, Heap.get?_push_of_some o a, b, c⟩
theorem Bare.upd {e a : Addr} {h : Heap} {f : Obj → Obj} (x : Bare e h) (hf : ∀ o vs, o.data = .fields vs → vs[2]? = some .none → ∃ ws, (f o).data = .fields ws ∧ ws[2]? = some .none) : Bare e (h.update a f) := by
  obtain ⟨q, vs, u, b, c⟩ := x
  by_cases z : a = e
  · subst z
    obtain ⟨ws, d1, d2⟩ := hf q vs b c
    exact ⟨f q, ws, Heap.get?_update_self f u (by revert d1; generalize f q = z; intro d1; obtain ⟨_, _, dd, _⟩ := z; cases d1; rfl), d1, d2⟩
  · exact ⟨q, vs, by rw [Heap.get?_update_other _ _ z]; exact u, b, c⟩
variable {e : Addr}
theorem mild_fieldsOf (v : Value) : Mild (Bare e) (fieldsOf v) := by
  cases v <;> try exact trivial
  intro o
  show Mild _ (match o.data with | .fields vs => Pure.pure vs | _ => unsupported _)
  split <;> trivial
theorem mild_field (v : Value) (i : Nat) : Mild (Bare e) (field v i) := by
  refine Mild.bind (mild_fieldsOf v) fun a => ?_
  split <;> trivial
theorem mild_updateField (a : Addr) (i : Nat) (x : Value) (hi : i ≠ 2) : Mild (Bare e) (updateField a i x) := by
  intro o
  show Mild _ (match o.data with | .fields vs => if i < vs.size then update a (Obj.mapFields (·.setIfInBounds i x)) else unsupported _ | _ => unsupported _)
  split
  · split
    · refine ⟨fun h b => b.upd fun o vs d c => ?_, fun _ => trivial⟩
      refine ⟨vs.setIfInBounds i x, ?_, ?_⟩
      · obtain ⟨_, _, dd, _⟩ := o; cases d; rfl
      · rw [Array.getElem?_setIfInBounds_ne hi]; exact c
    · trivial
  · trivial
theorem mild_setField (v : Value) (i : Nat) (x : Value) (hi : i ≠ 2) : Mild (Bare e) (setField v i x) := by
  cases v <;> try exact trivial
  exact mild_updateField _ _ _ hi
theorem mild_setFlight (v : Value) (f : Option Addr) : Mild (Bare e) (setFlight v f) := by
  refine Mild.bind (mild_field _ _) fun tb => ?_
  split
  · exact mild_setField _ _ _ (by decide)
  · trivial
theorem mild_slots (a : Addr) (p : Option Value) (g : Obj → Array (Option Value)) {α : Type} {k : Unit → Sem α} (h : ∀ u, Mild (Bare e) (k u)) : Mild (Bare e) (Sem.update a p (fun o => { o with slots := g o }) k) :=
  ⟨fun _ b => b.upd fun _ vs d c => ⟨vs, d, c⟩, h⟩
theorem mild_behind (env : Env) (outer : List Env) : Mild (Bare e) (behindIsImport env outer) := by
  unfold behindIsImport
  split
  · trivial
  · split
    · trivial
    · exact Mild.bind (mild_field _ _) fun _ => trivial
theorem mild_back (env : Env) (b : Bool) (l : List Env) : Mild (Bare e) (keptBack env b l) := by
  unfold keptBack
  split
  · split
    · trivial
    · intro _; trivial
  · trivial
theorem mild_readyFrames : ∀ l : List Env, Mild (Bare e) (readyFrames l)
  | [] => trivial
  | env :: outer => by
    unfold readyFrames
    split
    · refine Mild.bind (fun _ => trivial) fun o => ?_
      split
      · trivial
      · refine Mild.bind (mild_behind _ _) fun b => ?_
        refine Mild.bind (mild_back _ _ _) fun b => ?_
        exact mild_slots _ _ _ fun _ => mild_readyFrames outer
    · trivial
theorem mild_frameObject (l : List Env) : Mild (Bare e) (frameObject l) := by
  cases l with
  | nil => trivial
  | cons env outer => exact Mild.bind (mild_readyFrames _) fun _ => trivial
theorem mild_frameOf (env : Env) : Mild (Bare e) (frameOf env) := by
  refine Mild.bind (fun _ => trivial) fun x => ?_
  refine Mild.bind (mild_frameObject _) fun r => ?_
  cases r <;> trivial
theorem mild_newEntry (a b c d f : Value) (l : List Value) : Mild (Bare e) (EntryCells.newEntry a b c d f l) := by
  unfold EntryCells.newEntry newFields newObj
  dsimp only
  split <;> split <;> first | trivial | exact ⟨fun _ b => b.push _, fun _ => trivial⟩
theorem mild_entryPlaceOf (f : Addr) (b : Bool) : Mild (Bare e) (entryPlaceOf f b) := by
  refine Mild.bind (fun _ => trivial) fun acts => ?_
  split <;> trivial
theorem mild_noteFrame (v : Value) (env : Env) : Mild (Bare e) (noteFrame v env) := by
  unfold noteFrame
  split
  · refine Mild.bind (mild_field _ _) fun head => ?_
    have fin : ∀ (f : Addr), Mild (Bare e) (do setField v 1 (← EntryCells.newEntry head (← frameOf env) .none (rawInt f) .none (← entryPlaceOf f (head != .none)))) := fun f =>
      Mild.bind (mild_frameOf _) fun _ => Mild.bind (mild_entryPlaceOf _ _) fun _ => Mild.bind (mild_newEntry _ _ _ _ _ _) fun _ => mild_setField _ _ _ (by decide)
    dsimp only
    split
    · refine Mild.bind (mild_field _ _) fun x => ?_
      split
      · trivial
      · exact Mild.bind (mild_setField _ _ _ (by decide)) fun _ => fin _
    · exact fin _
  · trivial
theorem mild_leaving (v : Value) (env : Env) : Mild (Bare e) (leaving env v) :=
  Mild.bind (mild_noteFrame _ _) fun _ => mild_setFlight _ _
end

section
theorem bare_made {h h' : Heap} {e : Addr} {cls : Value} {vs : List Value} (x : Heap.MadeExcOf h h' e cls vs) : Bare e h' := by
  obtain ⟨t, ht, _⟩ := x.there
  exact ⟨_, _, ht, rfl, rfl⟩

/-- the refused def is left: what flies has no context -/
theorem leave_bare {M : Model} {A : Around} {E : Value → Shared → Prop} {s' : Shared} {base g h : Heap} {outer : List Env} {L a e : Addr} {m : Str → Option Value} {name : Str} {scope : Scope} {cd : Value} {Q : Unit → Shared → Prop} {news : List (Addr × Obj)}
    {cls : Value} {vs : List Value} (K : Below A base outer g) (hx : Heap.MadeExcOf h s'.heap e cls vs) (F : Fr g L h m) (N : News g L h news)
    (hQ : ∀ h' t, RaisedS base g outer e cls t vs news h' → g.UpToSlots h' → Bare e h' → Q () { s' with heap := h' }) (hk : scope.kind = .function := by rfl) :
    wpAny M (A.deeper (envOf name scope L a cd)) (leaving (envOf name scope L a cd) (.ref e)) Q E s' :=
  with_mild (mild_leaving _ _) (bare_made hx) (leave_raiseS K hx F N (fun h' t R _ U b => hQ h' t R U b) hk)

/-- a ValueError is caught under a name: its argument, and that it has no context, are known in the suite -/
theorem caught_bare {prog : Program} {w : World} {A₀ : Around} {E : Value → Shared → Prop} {s' : Shared} {KF : Frag} {base g G : Heap} {outer : List Env} {L a e t : Addr} {m : Str → Option Value} {name : Str} {scope : Scope} {cd : Value} {Q : Flow → Shared → Prop}
    {news nws : List (Addr × Obj)} {vs : List Value} {p : Program} {loose : List Str} {mean : ExcName → Option Value} {mg mb : Str → Option Value} {n : Str} {b₀ : Stmt} {suite : List Stmt} {pos np : Pos} {rest : List ExceptHandler}
    (R : RaisedS base G (envOf name scope L a cd :: outer) e (.type "ValueError") t vs news s'.heap) (C : Bare e s'.heap) (F : Fr g L G m) (N : News g L G nws) (K : Below A₀ base outer g) (hsm : G.UpToSlots s'.heap) (XB : KF.In base) (TB : Top p loose mean mg mb base)
    (D : KtsDicts (outer.filterMap (·.frame)) g)
    (ex : nsIn KF mainGlobals "ValueError" = some none)
    (hexc : isSubtype (.type "ValueError") (.type "BaseException") = pure true) (hnt : isSubtype (.type ((Manifest.find? "ValueError").elim "type" fun y => y.metatype)) (.type "tuple") = pure false) (hsub : isSubtype (.type "ValueError") (.type "ValueError") = pure true)
    (k : ∀ h' g' oe ot ws nt, KtsTurn (outer.filterMap (·.frame)) g g' → Fr g' L h' (fun y => if y = n then some (.ref e) else m y) → News g' L h' ([(e, oe), (t, ot)] ++ nws) →
      oe.cls = .type "ValueError" → oe.data = .fields ws → ws[0]? = some (.ref t) → ws[2]? = some .none → ot.cls = .type "tuple" → ot.data = .seq vs.toArray nt →
      Below A₀ base outer g' → KF.In g' → Top p loose mean mg mb g' → KtsDicts (outer.filterMap (·.frame)) g' → (∀ q ∈ nws, q.1 ≠ e ∧ q.1 ≠ t) →
      wpAny (model prog w) ((A₀.deeper (envOf name scope L a cd)).mark (some (.ref e))) (execs (b₀ :: suite) (envOf name scope L a cd))
        (fun f s₄ => wpAny (model prog w) (A₀.deeper (envOf name scope L a cd)) (do bindName (envOf name scope L a cd) n .none; unbindBehindTheSuite (envOf name scope L a cd) n pos) (fun _ s₅ => Q f s₅) E s₄)
        (AsSuiteRaised (model prog w) ((A₀.deeper (envOf name scope L a cd)).mark (some (.ref e))) (envOf name scope L a cd) n pos (notedBy (model prog w) ((A₀.deeper (envOf name scope L a cd)).mark (some (.ref e))) (envOf name scope L a cd) (cameBackBy (model prog w) (A₀.deeper (envOf name scope L a cd)) (envOf name scope L a cd) E)))
        { s' with heap := h', toks := s'.toks + 1 })
    (hk : scope.kind = .function := by rfl) (hlo : (envOf name scope L a cd).kindOf n = some .local := by rfl) (hx : (envOf name scope L a cd).kindOf "ValueError" = some .globalImplicit := by rfl) :
    wpAny (model prog w) (A₀.deeper (envOf name scope L a cd)) (noteFrame (.ref e) (envOf name scope L a cd))
      (fun _ s₂ => wpAny (model prog w) (A₀.deeper (envOf name scope L a cd)) (setFlight (.ref e) none) (fun _ s₃ =>
        wpAny (model prog w) (A₀.deeper (envOf name scope L a cd)) (handleBy (.ref e) (envOf name scope L a cd) (.ExceptHandler (some (.Name "ValueError" np)) (some n) (b₀ :: suite) pos :: rest)) Q E s₃) E s₂) E s' := by
  obtain ⟨⟨B, hB, hBG, hl, hfl, hnew⟩, htup⟩ := R
  have hL : B.get? L = none := by
    obtain ⟨_, ⟨L', _, hf, hn', _⟩, _⟩ := hfl.2.2.1
    obtain rfl : L = L' := Option.some.inj hf
    exact hn'
  refine with_mild (mild_noteFrame _ _) C (wpAny_looks_onW (Around.frames_deeper K.stack) rfl hfl fun h₄ hw₄ u₄ C₄ => ?_)
  refine with_mild (mild_setFlight _ _) C₄ (wpAny_landsW hw₄ fun h₅ hw₅ u₅ C₅ => ?_)
  have v₅ := hsm.trans (u₄.trans u₅)
  obtain ⟨g₅, T₅, F₅, K₅⟩ := kts_ground K F hBG hw₅.1 v₅
  obtain ⟨ob, hob, hobc⟩ := hw₅.there
  refine wpAny_handleBy_builtin_as (X := "ValueError") (T := "ValueError") (b := true) hexc hnt hsub (name_B F₅ (XB.keeps K₅.stays) (topRead_of (TB.keeps K₅.stays)) ex PyProof.Rows.Boot.«ValueError» (by decide) ⟨rfl, ⟨ob, hob, hobc⟩, ?_⟩ hk hx (by decide))
  refine with_mild (mild_setFlight _ _) C₅ (lands_againW hw₅ fun h₆ hw₆ u₆ C₆ => ?_)
  have v₆ := v₅.trans u₆
  obtain ⟨g₆, T₆, F₆, K₆⟩ := kts_ground K F hBG hw₆.1 v₆
  obtain ⟨oe, ws, hoe, hoec, hoed, hoe0⟩ := hw₆.first
  obtain ⟨oe', ws', hoe', hoed', hoe2⟩ := C₆
  dsimp only at hoe'
  rw [hoe] at hoe'
  cases hoe'
  rw [hoed] at hoed'
  cases hoed'
  obtain ⟨ot, nt, hot, hotc, hotd⟩ := htup.of_slots ((u₄.trans u₅).trans u₆)
  have ne₆ : g₆.get? e = none := T₆.none_ _ (kts_fresh F hBG hw₆.2.1 fun o ho mm => by
    obtain ⟨_, o', ho', hd⟩ := K.frames.mem mm
    rw [ho] at ho'
    cases ho'
    obtain ⟨sl, hs⟩ := v₆ _ _ (F.keep _ _ ho) hd
    rw [hoe] at hs
    cases hs
    exact hd _ hoed)
  have nt₆ : g₆.get? t = none := T₆.none_ _ (kts_fresh F hBG hnew fun o ho mm => by
    obtain ⟨o', es, n', ho', hd⟩ := D _ mm
    rw [ho] at ho'
    cases ho'
    obtain ⟨sl, hs⟩ := v₆ _ _ (F.keep _ _ ho) (fun vs q => by rw [hd] at q; cases q)
    rw [hot] at hs
    cases hs
    have z := hd.symm.trans hotd
    cases z)
  have N₆ := News.more F₆ (News.more F₆ News.nil hot (fun es n q => by rw [hotd] at q; cases q) nt₆) hoe (fun es n q => by rw [hoed] at q; cases q) ne₆
  have Nb : ∀ q ∈ nws, B.get? q.1 = some q.2 := fun q hq => by
    obtain ⟨q1, q2, q3⟩ := N q hq
    refine hBG _ _ q1 fun hm => ?_
    rcases kts_mem hm with z | z
    · exact q2 z
    · obtain ⟨_, o', ho', _⟩ := K.frames.mem z
      rw [q3] at ho'
      cases ho'
  have Ne : ∀ q ∈ nws, q.1 ≠ e ∧ q.1 ≠ t := fun q hq => by
    have z := Nb q hq
    refine ⟨fun y => ?_, fun y => ?_⟩
    · rw [y, hfl.2.1] at z; cases z
    · rw [y, hnew] at z; cases z
  have Nl : News g₆ L h₆ nws := fun q hq => by
    obtain ⟨q1, q2, q3⟩ := N q hq
    refine ⟨hw₆.1 _ _ (hBG _ _ q1 fun hm => ?_), q2, T₆.none_ _ q3⟩
    rcases kts_mem hm with z | z
    · exact q2 z
    · obtain ⟨_, o', ho', _⟩ := K.frames.mem z
      rw [q3] at ho'
      cases ho'
  refine stN F₆ (news := [(e, oe), (t, ot)] ++ nws) (fun q hq => (List.mem_append.mp hq).elim (N₆ q) (Nl q)) (fun h₇ F₇ N₇ => ?_) hk hlo
  exact k h₇ g₆ oe ot ws nt T₆ F₇ N₇ hoec hoed hoe0 hoe2 hotc hotd K₆ (XB.keeps K₆.stays) (TB.keeps K₆.stays) (D.turn T₆) Ne
end

section
theorem entry_unchain : entryFor table "proto.unchain" = some Builtin.«proto.unchain» := entryFor_of_fast (by kernel_rfl)

section
variable {prog : Program} {w : World} {A : Around} {E : Value → Shared → Prop} {s : Shared}

/-- a new exception raised while a context-free one is being handled -/
theorem raiseNew_bare {α : Type} {a ex : Addr} {o : Obj} {vs : Array Value} {Q : α → Shared → Prop} (hh : A.handled = some (.ref ex)) (hne : ex ≠ a) (hB : Bare ex s.heap) (ha : s.heap.get? a = some o) (hd : o.data = .fields vs) (hsz : 2 < vs.size)
    (hE : E (.ref a) { s with heap := s.heap.update a (Obj.mapFields (·.setIfInBounds 2 (.ref ex))) }) : wpAny (model prog w) A (raiseNew (α := α) (.ref a)) Q E s := by
  obtain ⟨ox, ws, hx, hxd, hx2⟩ := hB
  unfold raiseNew
  refine wpAny_bind (wpAny_handled ?_)
  rw [hh]
  dsimp only
  have hne' : (Value.ref ex != Value.ref a) = true := by simp [hne]
  rw [if_pos hne']
  refine wpAny_bind ?_
  refine wpAny_holding (wpAny_runValue (codeAny_builtin entry_unchain ?_))
  unfold Builtin.«proto.unchain»
  dsimp only
  refine wpAny_bind (wpAny_field hx hxd hx2 ?_)
  rw [if_pos (by rfl)]
  refine wpAny_pure ?_
  dsimp only
  refine wpAny_bind ?_
  refine wpAny_setField (a := a) ha hd hsz ?_
  exact wpAny_throw hE

theorem pyNext_tuple_end_bare {it t ex : Addr} {i : Nat} {items} {Q : Option Value → Shared → Prop} (hh : A.handled = some (.ref ex)) (hB : Bare ex s.heap)
    (hit : s.heap.IsTupleIter it t i) (ht : s.heap.IsTuple t items) (hx : items[i]? = none)
    (hQ : ∀ h', Heap.ExtBut it s.heap h' → Q none { s with heap := h' }) : wpAny (model prog w) A (pyNext (.ref it)) Q E s := by
  obtain ⟨o, ho, hc, hd⟩ := id hit
  obtain ⟨ol, hol, _, nl, hdl⟩ := ht
  unfold pyNext
  refine wpAny_bind (wpAny_attempt (wpAny_callSpecial?_slot (name := Str.ofString "__next__") hit.typeIs F.slot_tuple_iterator_next
    (wpAny_call_entry F.slot_tuple_iterator_next hit.typeIs F.entry_tuple_iterator_next ?_ (F.args_tuple_iterator_next_1 _))))
  show wpAny _ _ (field (.ref it) 0 >>= _) _ _ s
  refine wpAny_bind (wpAny_field ho hd (x := .ref t) rfl ?_)
  show wpAny _ _ (if (Value.ref t == Value.none) = true then _ else _) _ _ s
  rw [if_neg (show ¬ ((Value.ref t == Value.none) = true) from Bool.false_ne_true)]
  show wpAny _ _ (field (.ref it) 1 >>= _) _ _ s
  refine wpAny_bind (wpAny_field ho hd (x := .int i 0) rfl ?_)
  show wpAny _ _ (seqItems? (.ref t) >>= _) _ _ s
  refine wpAny_bind (wpAny_seqItems hol hdl ?_)
  simp only [Int.toNat_natCast, hx]
  refine wpAny_bind (wpAny_rule (wpAny_bind (wpAny_setField ho hd (by simp) ?_)))
  show wpAny _ _ (newExc (.type "StopIteration") [] >>= _) _ _ _
  refine wpAny_bind ?_
  simp only [newExc, newTuple]
  refine wpAny_bind (wpAny_newObj_type ?_ (by size_fits))
  refine wpAny_bind (m := firstArgMember _ _) (wpAny_of_eq (a := Value.none) (by first | rfl | (simp only [firstArgMember]; rfl)) ?_)
  refine wpAny_newObj_type ?_ (by size_fits)
  have hB' : Bare ex (s.heap.update it (Obj.mapFields fun x => x.setIfInBounds 0 Value.none)) := hB.upd fun o vs d c => by
    refine ⟨vs.setIfInBounds 0 .none, ?_, ?_⟩
    · obtain ⟨_, _, dd, _⟩ := o; cases d; rfl
    · rw [Array.getElem?_setIfInBounds_ne (by decide)]; exact c
  have hlt : ex < s.heap.objs.size := by obtain ⟨q, _, hq, _⟩ := hB; exact Heap.lt_size hq
  refine raiseNew_bare hh (ex := ex) ?_ ((hB'.push _).push _) (Heap.get?_push_size _ rfl) rfl (by show 2 < 6; decide) ?_
  · intro z
    subst z
    rw [Heap.size_push, Heap.size_after_update] at hlt
    exact absurd (show @LT.lt Nat _ (s.heap.objs.size + 1) s.heap.objs.size from hlt) (by omega)
  refine wpAny_bind (wpAny_isInstance (T := "StopIteration") (b := true) ⟨_, Heap.get?_update_self _ (Heap.get?_push_size _ rfl) rfl, rfl⟩ isSubtype_stop ?_)
  refine wpAny_pure (hQ _ ?_)
  intro b o' hb e
  rw [Heap.get?_update_other]
  · exact (((Heap.SameBut.update ..).extBut.push _).push _) b o' hb e
  · intro z
    subst z
    have := Heap.lt_size e
    rw [Heap.size_push, Heap.size_after_update] at this
    exact absurd (show @LT.lt Nat _ (s.heap.objs.size + 1) s.heap.objs.size from this) (by omega)

theorem unpackItems_tuple_bare {t ex : Addr} {items : Array Value} {Q : List Value → Shared → Prop} (hh : A.handled = some (.ref ex)) (hB : Bare ex s.heap) (ht : s.heap.IsTuple t items)
    (hQ : ∀ h', Heap.ExtBut s.heap.objs.size s.heap h' → Q items.toList { s with heap := h' }) : wpAny (model prog w) A (unpackItems (.ref t) items.size none) Q E s := by
  have hlt : t ≠ s.heap.objs.size := by obtain ⟨o, ho, _⟩ := ht; exact Nat.ne_of_lt (Heap.lt_size ho)
  have hex : ex ≠ s.heap.objs.size := by obtain ⟨o, _, ho, _⟩ := hB; exact Nat.ne_of_lt (Heap.lt_size ho)
  unfold unpackItems
  refine wpAny_bind ?_
  unfold notIterableAtAll
  refine wpAny_bind (wpAny_specialOf ht.typeIs F.slot_tuple_iter.lookup ?_)
  refine wpAny_pure ?_
  simp only [Bool.false_eq_true, if_false]
  refine wpAny_bind (wpAny_holding (wpAny_pyIter_tuple ht ?_))
  refine wpAny_bind (wpAny_holding (wpAny_draw_tuple hlt items.size 0 _ _ ⟨_, Heap.get?_push_size _ rfl, rfl, rfl⟩ (ht.push _) (by omega) fun h₁ hit₁ hs₁ => ?_))
  have hall : List.take items.size (List.drop 0 items.toList) = items.toList := by
    rw [List.drop_zero]; exact List.take_of_length_le (by simp)
  rw [hall]
  rw [if_neg (by simp)]
  have ht₁ : h₁.IsTuple t items := (ht.push _).extBut hs₁.extBut hlt
  have hB₁ : Bare ex h₁ := by
    obtain ⟨o, vs, b1, b2, b3⟩ := hB
    exact ⟨o, vs, hs₁.extBut _ _ hex (Heap.get?_push_of_some _ b1), b2, b3⟩
  refine wpAny_bind (wpAny_holding (pyNext_tuple_end_bare hh hB₁ hit₁ ht₁ (by simp) fun h₂ he₂ => ?_))
  simp only [Option.isSome_none, Bool.false_eq_true, if_false]
  refine wpAny_pure (hQ h₂ fun b o hb e => he₂ b o hb (hs₁.extBut b o hb (Heap.get?_push_of_some _ e)))

/-- a tuple unpacked while a context-free exception is being handled -/
theorem unpack_bare {env : Env} {elts : List Expr} {k} {pos : Pos} {t ex L : Addr} {h₀ : Heap} {m : Str → Option Value} {news : List (Addr × Obj)} {items : Array Value} {Q : Unit → Shared → Prop}
    (F : Fr h₀ L s.heap m) (N : News h₀ L s.heap news) (hh : A.handled = some (.ref ex)) (hB : Bare ex s.heap) (ht : s.heap.IsTuple t items)
    (hn : (assignEach elts env).length = items.size) (hstar : (assignEach elts env).findIdx? (·.1) = none)
    (h : ∀ h', Fr h₀ L h' m → News h₀ L h' news → Kept s.heap h' → wpAny (model prog w) A (assignInOrder ((assignEach elts env).map (·.2)) items.toList) Q E { s with heap := h' }) :
    wpAny (model prog w) A (assign (.Tuple elts k pos) env (.ref t)) Q E s := by
  rw [arm_assign_Tuple]
  refine wpAny_bind (wpAny_standAt ?_)
  unfold unpack
  rw [hn, hstar]
  refine wpAny_bind (wpAny_holding (unpackItems_tuple_bare hh hB ht fun h' he => h h' (F.extBut he (Nat.le_refl _)) (N.extBut he (Nat.le_refl _)) fun b o hb => he b o (Nat.ne_of_lt (Heap.lt_size hb)) hb))

theorem unpack_any {env : Env} {elts : List Expr} {k} {pos : Pos} {t L : Addr} {h₀ : Heap} {m : Str → Option Value} {news : List (Addr × Obj)} {items : Array Value} {Q : Unit → Shared → Prop}
    (F : Fr h₀ L s.heap m) (N : News h₀ L s.heap news) (hh : A.handled = none ∨ ∃ ex, A.handled = some (.ref ex) ∧ Bare ex h₀) (ht : IsTup s.heap t items)
    (hn : (assignEach elts env).length = items.size) (hstar : (assignEach elts env).findIdx? (·.1) = none)
    (h : ∀ h', Fr h₀ L h' m → News h₀ L h' news → wpAny (model prog w) A (assignInOrder ((assignEach elts env).map (·.2)) items.toList) Q E { s with heap := h' }) :
    wpAny (model prog w) A (assign (.Tuple elts k pos) env (.ref t)) Q E s := by
  rcases hh with hh | ⟨ex, hh, o, vs, b1, b2, b3⟩
  · exact unpackN_ F N ht hh hn hstar h
  · exact unpack_bare F N hh ⟨o, vs, F.keep _ _ b1, b2, b3⟩ ht hn hstar fun h' F' N' _ => h h' F' N'
end
end

section
theorem fillK_ix : PySem.Challenge.rw_pg0086_01 = PySem.Challenge.rw_pg0086_01 ∧ Mine.hd.heap_39 = Mine.hd.heap_39 := by k_fill; exact ⟨rfl, rfl⟩
local macro_rules | `(tactic| walk_at "go1") => `(tactic| ((fail_if_success (with_reducible show wpAny _ _ (exec (Stmt.For _ _ _ _ _) _) _ _ _)); (fail_if_success (with_reducible show wpAny _ _ (exec (Stmt.While _ _ _ _) _) _ _ _)); (fail_if_success (with_reducible show wpAny _ _ (pyIter _) _ _ _)); (fail_if_success (with_reducible show wpAny _ _ (call (Value.ref _) _ _) _ _ _)); (fail_if_success (with_reducible show wpAny _ _ (call (Value.type "enumerate") _ _) _ _ _)); (first | (k_unfold; (try dsimp only)) | walk1 | (dsimp only; walk1))))
/-- the ints of a list, with tokens of their own: «is» may be asked of them and of q -/
def Askable (vs : List Value) (q : Int) (u : Tok) : Prop := u ≠ 0 ∧ ∀ v ∈ vs, ∃ p t, v = .int p t ∧ t ≠ 0 ∧ (t = u → p = q)
theorem idx_none {ns : List Int} {q : Int} {i : Nat} (h : i < ns.idxOf q) (hi : i < ns.length) : ns[i] ≠ q := by
  intro e
  have := List.not_of_lt_findIdx (xs := ns) (p := (· == q)) h
  simp [e] at this
set_option maxRecDepth 100000 in
set_option maxHeartbeats 4000000 in
theorem indexOf_found (hd : Option Value) (w : World) (s0 : Shared) (mg mb : Str → Option Value) (l : Addr) (vs : List Value) (ns : List Int) (q : Int) (u : Tok) (hi : IntsAre vs ns) (ha : Askable vs q u) (hq : q ∈ ns)
    (dp un : Nat) (gd : Option (List Code)) (outer : List Env) (base : Heap) (s : Shared) (R : Result → Shared → Prop)
    (S : Site w s0 mg mb (Ar hd dp un gd outer) base outer s.heap) (hl : s.heap.IsList l vs.toArray) (hh : hd = none ∨ ∃ ex, hd = some (.ref ex) ∧ Bare ex s.heap) (hdp : dp + 4 < recursionLimit) (hun : un + 10 * 4 < cLine)
    (hret : ∀ t h' tk', Kept s.heap h' → R (.ok (.ret (.int (ns.idxOf q : Nat) t))) { s with heap := h', toks := tk' }) :
    codeAny (model Prg w) (Ar hd dp un gd outer) (.call (.ref 42) ⟨[.ref l, .int q u], []⟩) R s := by
  have X := S.X
  have T := S.T
  have B := S.B
  refine enter S (by k_is) (by k_is) (by dsimp only; omega) (binds := [("a", .ref l), ("b", .int q u)]) (BindsTo.of_eq rfl) (locs rfl) rfl rfl rfl (by decide) ?_
  intro L' h₁ F N
  dsimp only [List.reverse, List.reverseAux, List.length, kstB] at F ⊢
  k_fold
  refine wpAny_execs_cons ?_
  refine for_start ?_
  walk_at "go"
  refine enum_make (by assumption) (by assumption) (hl.at fun o e => Fr.keep (by assumption) _ _ e) fun e it h' oe oi hei hne he hit F' N' => ?_
  refine enum_iter N' he ?_
  refine for_inv (σ := Nat) (fun k => ns.length - k) (fun i s' => Ex4 fun (h : Heap) (tk : Nat) (oe oi : Obj) => An6 (s' = { s with heap := h, toks := tk }) (i ≤ ns.idxOf q) (EnumAt oe it i) (IterAt oi l i) (News s.heap L' h [(e, oe), (it, oi)]) (Fv s.heap L' h [("b", .int q u)])) ?_ (c := 0) ?_
  rotate_left
  · exact ⟨h', _, oe, oi, rfl, Nat.zero_le _, he, hit, N', Fv.mk F' ⟨rfl, trivial⟩⟩
  walk_at "drop"
  rintro i s' ⟨h, tk, oe, oi, rfl, hle, he, hit, N₁, FV⟩ IH
  obtain ⟨m₁, F₁⟩ := FV.out; clear FV
  dsimp only [kstB] at F₁
  have hil : i < ns.length := Nat.lt_of_le_of_lt hle (List.idxOf_lt_length_of_mem hq)
  have hvl : i < vs.length := by rw [hi.length]; exact hil
  obtain ⟨t, hx⟩ := hi.get i ns[i] (by simp [hil])
  obtain ⟨p', t', e1, ht0, htu⟩ := ha.2 _ (List.mem_of_getElem? hx)
  cases e1
  refine enum_turn F₁ N₁ hei (fun _ hp => nomatch hp) he hit hl (by simpa using hx) PassesOwn.never fun Tt h₂ oe₂ oi₂ hT he₂ hit₂ F₂ N₂ => ?_
  clear F₁ N₁
  k_fold
  walk_at "go"
  refine unpack_any F₂ N₂ hh (N₂.isTup (by first | exact .head _ | exact .tail _ (.head _) | exact .tail _ (.tail _ (.head _)))) rfl rfl fun h₃ F₃ N₃ => ?_
  clear F₂ N₂
  walk_at "go"
  clear F₃ N₃
  rename Fr _ _ _ _ => F₄
  rename News _ _ _ _ => N₄
  have hfirst : ns[i] = q → i = ns.idxOf q := fun hq' => by
    rcases Nat.lt_or_ge i (ns.idxOf q) with hlt | hge
    · exact absurd hq' (idx_none hlt hil)
    · omega
  refine is_ints (X.keeps F₄.keep) (T.keeps F₄.keep).nolimit ht0 ha.1 htu fun b hb => ?_
  cases b
  · walk_at "go"
    · have hq' : ns[i] = q := by assumption
      have e := hfirst hq'
      rw [e]
      exact hret _ _ _ (Fr.keep (by assumption))
    · have hq' : ns[i] ≠ q := by assumption
      have hle' : i + 1 ≤ ns.idxOf q := by
        rcases Nat.lt_or_ge i (ns.idxOf q) with hlt | hge
        · omega
        · exact absurd (by have : i = ns.idxOf q := by omega
                           subst this; exact List.getElem_idxOf _) hq'
      dsimp only [ForPost]
      rename Fr _ _ _ _ => F₅
      rename News _ _ _ _ => N₅
      refine IH (i + 1) _ (by omega) ⟨_, _, oe₂, oi₂, rfl, hle', he₂, hit₂, fun p hp => N₅ p (.tail _ hp), Fv.mk F₅ ⟨rfl, trivial⟩⟩
  · have e := hfirst (hb rfl)
    walk_at "go"
    rw [e]
    exact hret _ _ _ (Fr.keep (by assumption))
end

section
theorem fillK_ix2 : PySem.Challenge.rw_pg0086_01 = PySem.Challenge.rw_pg0086_01 ∧ Mine.hd.heap_39 = Mine.hd.heap_39 := by k_fill; exact ⟨rfl, rfl⟩
local macro_rules | `(tactic| walk_at "go1") => `(tactic| ((fail_if_success (with_reducible show wpAny _ _ (exec (Stmt.For _ _ _ _ _) _) _ _ _)); (fail_if_success (with_reducible show wpAny _ _ (exec (Stmt.While _ _ _ _) _) _ _ _)); (fail_if_success (with_reducible show wpAny _ _ (pyIter _) _ _ _)); (fail_if_success (with_reducible show wpAny _ _ (exec (Stmt.Raise _ _ _) _) _ _ _)); (fail_if_success (with_reducible show wpAny _ _ (leaving _ _) _ _ _));  (fail_if_success (with_reducible show wpAny _ _ (call (Value.ref _) _ _) _ _ _)); (fail_if_success (with_reducible show wpAny _ _ (call (Value.type "enumerate") _ _) _ _ _)); (first | (k_unfold; (try dsimp only)) | walk1 | (dsimp only; walk1))))
set_option maxRecDepth 100000 in
set_option maxHeartbeats 4000000 in
theorem indexOf_missed (w : World) (s0 : Shared) (mg mb : Str → Option Value) (l : Addr) (vs : List Value) (ns : List Int) (q : Int) (u : Tok) (hi : IntsAre vs ns) (ha : Askable vs q u) (hq : q ∉ ns)
    (dp un : Nat) (gd : Option (List Code)) (outer : List Env) (base : Heap) (s : Shared) (R : Result → Shared → Prop)
    (S : Site w s0 mg mb (Ar none dp un gd outer) base outer s.heap) (hl : s.heap.IsList l vs.toArray) (hdp : dp + 4 < recursionLimit) (hun : un + 10 * 4 < cLine)
    (hret : ∀ e t u' h' tk', RaisedS base s.heap outer e (.type "ValueError") t [.str "sequence.index(x): x not in sequence" u'] [] h' → s.heap.UpToSlots h' → Bare e h' → R (.error (.ref e)) { s with heap := h', toks := tk' }) :
    codeAny (model Prg w) (Ar none dp un gd outer) (.call (.ref 42) ⟨[.ref l, .int q u], []⟩) R s := by
  have X := S.X
  have T := S.T
  have B := S.B
  refine enterR S (by k_is) (by k_is) (by dsimp only; omega) (binds := [("a", .ref l), ("b", .int q u)]) (BindsTo.of_eq rfl) (locs rfl) rfl rfl rfl (by decide) ?_
  intro L' h₁ F N
  dsimp only [List.reverse, List.reverseAux, List.length, kstB] at F ⊢
  k_fold
  refine wpAny_execs_cons ?_
  refine for_start ?_
  walk_at "go"
  refine enum_make (by assumption) (by assumption) (hl.at fun o e => Fr.keep (by assumption) _ _ e) fun e it h' oe oi hei hne he hit F' N' => ?_
  refine enum_iter N' he ?_
  refine for_inv (σ := Nat) (fun k => ns.length - k) (fun i s' => Ex4 fun (h : Heap) (tk : Nat) (oe oi : Obj) => An6 (s' = { s with heap := h, toks := tk }) (i ≤ ns.length) (EnumAt oe it i) (IterAt oi l i) (News s.heap L' h [(e, oe), (it, oi)]) (Fv s.heap L' h [("b", .int q u)])) ?_ (c := 0) ?_
  rotate_left
  · exact ⟨h', _, oe, oi, rfl, Nat.zero_le _, he, hit, N', Fv.mk F' ⟨rfl, trivial⟩⟩
  walk_at "drop"
  rintro i s' ⟨h, tk, oe, oi, rfl, hle, he, hit, N₁, FV⟩ IH
  obtain ⟨m₁, F₁⟩ := FV.out; clear FV
  dsimp only [kstB] at F₁
  by_cases hil : i < ns.length
  · have hvl : i < vs.length := by rw [hi.length]; exact hil
    obtain ⟨t, hx⟩ := hi.get i ns[i] (by simp [hil])
    obtain ⟨p', t', e1, ht0, htu⟩ := ha.2 _ (List.mem_of_getElem? hx)
    cases e1
    refine enum_turn F₁ N₁ hei (fun _ hp => nomatch hp) he hit hl (by simpa using hx) (by passes_own) fun Tt h₂ oe₂ oi₂ hT he₂ hit₂ F₂ N₂ => ?_
    clear F₁ N₁
    k_fold
    walk_at "go"
    rename Fr _ _ _ _ => F₄
    rename News _ _ _ _ => N₄
    have hno : ns[i] ≠ q := fun z => hq (z ▸ List.getElem_mem hil)
    refine is_ints (X.keeps F₄.keep) (T.keeps F₄.keep).nolimit ht0 ha.1 htu fun b hb => ?_
    cases b
    · walk_at "go"
      · exact absurd (by assumption) hno
      · dsimp only [ForPost]
        rename Fr _ _ _ _ => F₅
        rename News _ _ _ _ => N₅
        refine IH (i + 1) _ (by omega) ⟨_, _, oe₂, oi₂, rfl, hil, he₂, hit₂, fun p hp => N₅ p (.tail _ hp), Fv.mk F₅ ⟨rfl, trivial⟩⟩
    · exact absurd (hb rfl) hno
  · have hin : i = ns.length := by omega
    refine enum_done rfl F₁ N₁ hei (fun _ hp => nomatch hp) he hit hl (by simp [hin, ← hi.length]) (by passes_own) fun h₂ F₂ N₂ => ?_
    clear F₁ N₁
    k_fold
    walk_at "go"
    refine Raise_madeB PySem.F.excCall_ValueError PySem.F.excRaise_ValueError rfl (name_B F₂ X (topRead_of T) (by k_is) PyProof.Rows.Boot.«ValueError» (by decide) ⟨rfl, ?_⟩)
    walk_at "go"
    rename Heap.MadeExc _ _ _ _ _ => hx
    exact leave_bare B hx.of F₂ N₂ fun h' t R' U b => hret _ _ _ _ _ R' U b
end

section
/-- a zip's object, over the pair of iterators TI, with TO as its last pair -/
abbrev zipO (TI TO : Addr) : Obj := { cls := .type "zip", data := .fields #[.none, .bool false, .bool false, .ref TI, .ref TO] }

section
variable {prog : Program} {w : World} {A : Around} {E : Value → Shared → Prop} {s : Shared} {g : Heap} {L : Addr} {m : Str → Option Value} {news : List (Addr × Obj)}

theorem new_addr {h : Heap} (F : Fr g L h m) {a : Addr} (ha : h.objs.size ≤ a) : a ≠ L ∧ g.get? a = none := by
  refine ⟨fun e => ?_, ?_⟩
  · have := F.ns.lt
    rw [e] at ha
    exact absurd (Nat.lt_of_lt_of_le this ha) (Nat.lt_irrefl _)
  · cases q : g.get? a with
    | none => rfl
    | some o => exact absurd (Heap.lt_size (F.keep _ _ q)) (Nat.not_lt.mpr ha)

theorem zip_make {l1 l2 : Addr} {xs ys : Array Value} {Q : Value → Shared → Prop} (F : Fr g L s.heap m) (N : News g L s.heap news) (hl1 : s.heap.IsList l1 xs) (hl2 : s.heap.IsList l2 ys)
    (k : ∀ (z TO TI i2 i1 : Addr) h' o1 o2, @LT.lt Nat _ i1 i2 → @LT.lt Nat _ i2 TI → @LT.lt Nat _ TI TO → @LT.lt Nat _ TO z → (∀ p ∈ news, @LT.lt Nat _ p.1 i1) → @LT.lt Nat _ l1 i1 → @LT.lt Nat _ l2 i1 → IterAt o1 l1 0 → IterAt o2 l2 0 → Fr g L h' m →
      News g L h' ((z, zipO TI TO) :: (TO, tupOf [.none, .none]) :: (TI, tupOf [.ref i1, .ref i2]) :: (i2, o2) :: (i1, o1) :: news) → Q (.ref z) { s with heap := h' }) :
    wpAny (model prog w) A (call (.type "zip") [.ref l1, .ref l2]) Q E s := by
  have h1l : l1 < s.heap.objs.size := by obtain ⟨_, h, _⟩ := id hl1; exact Heap.lt_size h
  have h2l : l2 < s.heap.objs.size := by obtain ⟨_, h, _⟩ := id hl2; exact Heap.lt_size h
  refine call_zip_2 hl1 hl2 fun h' hz hTI hTO hi1 hi2 hsz hk => ?_
  obtain ⟨o1, ho1, hia1⟩ := hi1
  obtain ⟨o2, ho2, hia2⟩ := hi2
  refine k (s.heap.objs.size + 4) (s.heap.objs.size + 3) (s.heap.objs.size + 2) (s.heap.objs.size + 1) s.heap.objs.size h' o1 o2 (Nat.lt_succ_self _) (Nat.lt_succ_self _) (Nat.lt_succ_self _) (Nat.lt_succ_self _) (fun p hp => Heap.lt_size (N p hp).1) h1l h2l hia1 hia2 (F.keeps hk) fun p hp => ?_
  rcases List.mem_cons.mp hp with rfl | hp
  · exact ⟨hz, new_addr F (Nat.le_add_right _ _)⟩
  rcases List.mem_cons.mp hp with rfl | hp
  · exact ⟨hTO, new_addr F (Nat.le_add_right _ _)⟩
  rcases List.mem_cons.mp hp with rfl | hp
  · exact ⟨hTI, new_addr F (Nat.le_add_right _ _)⟩
  rcases List.mem_cons.mp hp with rfl | hp
  · exact ⟨ho2, new_addr F (Nat.le_add_right _ _)⟩
  rcases List.mem_cons.mp hp with rfl | hp
  · exact ⟨ho1, new_addr F (Nat.le_refl _)⟩
  exact ⟨hk _ _ (N p hp).1, (N p hp).2⟩

theorem zip_iter {z TI TO : Addr} {Q : Value → Shared → Prop} (N : News g L s.heap ((z, zipO TI TO) :: news)) (h : Q (.ref z) s) : wpAny (model prog w) A (pyIter (.ref z)) Q E s :=
  wpAny_pyIter_zip (N _ (.head _)).1 h

theorem zip_apart {z TO TI i2 i1 l1 l2 : Addr} (a1 : @LT.lt Nat _ i1 i2) (a2 : @LT.lt Nat _ i2 TI) (a3 : @LT.lt Nat _ TI TO) (a4 : @LT.lt Nat _ TO z) (b1 : @LT.lt Nat _ l1 i1) (b2 : @LT.lt Nat _ l2 i1) : ZipApart z TI TO i1 i2 l1 l2 := by
  constructor <;> exact fun e => by
    have e' : (_ : Nat) = _ := e
    omega

theorem zip_next {z TO TI i2 i1 l1 l2 : Addr} {o1 o2 : Obj} {i : Nat} {xs ys : Array Value} {x y x0 y0 : Value} {elts : List Expr} {k1 : Nat} {pos : Pos} {R : Value → Unit → Shared → Prop} (F : Fr g L s.heap m)
    (N : News g L s.heap ((z, zipO TI TO) :: (TO, tupOf [x0, y0]) :: (TI, tupOf [.ref i1, .ref i2]) :: (i2, o2) :: (i1, o1) :: news))
    (a1 : @LT.lt Nat _ i1 i2) (a2 : @LT.lt Nat _ i2 TI) (a3 : @LT.lt Nat _ TI TO) (a4 : @LT.lt Nat _ TO z) (b1 : @LT.lt Nat _ l1 i1) (b2 : @LT.lt Nat _ l2 i1) (hne : ∀ p ∈ news, @LT.lt Nat _ p.1 i1)
    (h1 : IterAt o1 l1 i) (h2 : IterAt o2 l2 i) (hl1 : s.heap.IsList l1 xs) (hl2 : s.heap.IsList l2 ys) (hx : xs[i]? = some x) (hy : ys[i]? = some y)
    (Q : Option Value → Shared → Prop) (hQ : ∀ v s₁, wpAny (model prog w) A (letOwnedTupleGo (.Tuple elts k1 pos) (.ref z) v) (R v) E s₁ → Q (some v) s₁)
    (h : ∀ T h' o1' o2', @LT.lt Nat _ z T → IterAt o1' l1 (i + 1) → IterAt o2' l2 (i + 1) → Fr g L h' m → News g L h' ((T, tupOf [x, y]) :: (z, zipO TI TO) :: (TO, tupOf [x, y]) :: (TI, tupOf [.ref i1, .ref i2]) :: (i2, o2') :: (i1, o1') :: news) → R (.ref T) () { s with heap := h' }) :
    wpAny (model prog w) A (pyNext (.ref z)) Q E s := by
  have nz := N _ (.head _)
  have nTO := N _ (.tail _ (.head _))
  have nTI := N _ (.tail _ (.tail _ (.head _)))
  have n2 := N _ (.tail _ (.tail _ (.tail _ (.head _))))
  have n1 := N _ (.tail _ (.tail _ (.tail _ (.tail _ (.head _)))))
  dsimp only at nz nTO nTI n2 n1
  refine wpAny_pyNext_zip_item (zip_apart a1 a2 a3 a4 b1 b2) nz.1 nTI.1 nTO.1 ⟨o1, n1.1, h1⟩ ⟨o2, n2.1, h2⟩ hl1 hl2 hx hy fun h₁ kz kTO k1' k2' kT hsz hk => ?_
  refine hQ _ _ (wpAny_letOwnedTupleGo_zip kz fun h₂ kz₂ hs₂ => ?_)
  obtain ⟨o1', ho1, hi1⟩ := k1'
  obtain ⟨o2', ho2, hi2⟩ := k2'
  have hlz : @LT.lt Nat _ z s.heap.objs.size := Heap.lt_size nz.1
  have back : ∀ b o, b ≠ z → b ≠ TO → b ≠ i1 → b ≠ i2 → s.heap.get? b = some o → h₂.get? b = some o := fun b o q1 q2 q3 q4 q => (hs₂.2 b q1).trans (hk b o q1 q2 q3 q4 q)
  have off : ∀ b o, g.get? b = some o → b ≠ z ∧ b ≠ TO ∧ b ≠ i1 ∧ b ≠ i2 := fun b o q =>
    ⟨(fun e => by subst e; rw [nz.2.2] at q; cases q), (fun e => by subst e; rw [nTO.2.2] at q; cases q), (fun e => by subst e; rw [n1.2.2] at q; cases q), (fun e => by subst e; rw [n2.2.2] at q; cases q)⟩
  have F₂ : Fr g L h₂ m := ⟨F.ns.at' fun o q => back _ _ (Ne.symm nz.2.1) (Ne.symm nTO.2.1) (Ne.symm n1.2.1) (Ne.symm n2.2.1) q,
    fun b o q => back b o (off b o q).1 (off b o q).2.1 (off b o q).2.2.1 (off b o q).2.2.2 (F.keep b o q), F.above⟩
  have ne : ∀ {a b : Addr}, @LT.lt Nat _ a b → a ≠ b := fun q e => Nat.ne_of_lt q e
  refine h _ h₂ o1' o2' hlz hi1 hi2 F₂ fun p hp => ?_
  rcases List.mem_cons.mp hp with rfl | hp
  · exact ⟨(hs₂.2 _ (Ne.symm (ne hlz))).trans kT, new_addr F (Nat.le_refl _)⟩
  rcases List.mem_cons.mp hp with rfl | hp
  · exact ⟨kz₂, nz.2⟩
  rcases List.mem_cons.mp hp with rfl | hp
  · exact ⟨(hs₂.2 _ (ne a4)).trans kTO, nTO.2⟩
  rcases List.mem_cons.mp hp with rfl | hp
  · exact ⟨back _ _ (ne (Nat.lt_trans a3 a4)) (ne a3) (Ne.symm (ne (Nat.lt_trans a1 a2))) (Ne.symm (ne a2)) nTI.1, nTI.2⟩
  rcases List.mem_cons.mp hp with rfl | hp
  · exact ⟨(hs₂.2 _ (ne (Nat.lt_trans a2 (Nat.lt_trans a3 a4)))).trans ho2, n2.2⟩
  rcases List.mem_cons.mp hp with rfl | hp
  · exact ⟨(hs₂.2 _ (ne (Nat.lt_trans a1 (Nat.lt_trans a2 (Nat.lt_trans a3 a4))))).trans ho1, n1.2⟩
  have P := N p (.tail _ (.tail _ (.tail _ (.tail _ (.tail _ hp)))))
  have q := hne p hp
  exact ⟨back _ _ (ne (Nat.lt_trans q (Nat.lt_trans a1 (Nat.lt_trans a2 (Nat.lt_trans a3 a4))))) (ne (Nat.lt_trans q (Nat.lt_trans a1 (Nat.lt_trans a2 a3)))) (ne q) (ne (Nat.lt_trans q a1)) P.1, P.2⟩

theorem zip_stop {z TO TI i2 i1 l1 l2 : Addr} {o1 o2 : Obj} {i : Nat} {xs ys : Array Value} {x0 y0 : Value} {Q : Option Value → Shared → Prop} (hh : A.handled = none) (F : Fr g L s.heap m)
    (N : News g L s.heap ((z, zipO TI TO) :: (TO, tupOf [x0, y0]) :: (TI, tupOf [.ref i1, .ref i2]) :: (i2, o2) :: (i1, o1) :: news))
    (a1 : @LT.lt Nat _ i1 i2) (a2 : @LT.lt Nat _ i2 TI) (a3 : @LT.lt Nat _ TI TO) (a4 : @LT.lt Nat _ TO z) (b1 : @LT.lt Nat _ l1 i1) (b2 : @LT.lt Nat _ l2 i1) (hne : ∀ p ∈ news, @LT.lt Nat _ p.1 i1)
    (h1 : IterAt o1 l1 i) (h2 : IterAt o2 l2 i) (hl1 : s.heap.IsList l1 xs) (hl2 : s.heap.IsList l2 ys) (hend : xs[i]? = none ∨ ys[i]? = none)
    (h : ∀ h', Fr g L h' m → News g L h' news → Q none { s with heap := h' }) : wpAny (model prog w) A (pyNext (.ref z)) Q E s := by
  have nz := N _ (.head _)
  have nTO := N _ (.tail _ (.head _))
  have nTI := N _ (.tail _ (.tail _ (.head _)))
  have n2 := N _ (.tail _ (.tail _ (.tail _ (.head _))))
  have n1 := N _ (.tail _ (.tail _ (.tail _ (.tail _ (.head _)))))
  dsimp only at nz nTO nTI n2 n1
  refine wpAny_pyNext_zip_end hh (zip_apart a1 a2 a3 a4 b1 b2) nz.1 nTI.1 nTO.1 ⟨o1, n1.1, h1⟩ ⟨o2, n2.1, h2⟩ hl1 hl2 hend fun h₂ back => ?_
  have off : ∀ b o, g.get? b = some o → b ≠ z ∧ b ≠ TO ∧ b ≠ i1 ∧ b ≠ i2 := fun b o q =>
    ⟨(fun e => by subst e; rw [nz.2.2] at q; cases q), (fun e => by subst e; rw [nTO.2.2] at q; cases q), (fun e => by subst e; rw [n1.2.2] at q; cases q), (fun e => by subst e; rw [n2.2.2] at q; cases q)⟩
  have ne : ∀ {a b : Addr}, @LT.lt Nat _ a b → a ≠ b := fun q e => Nat.ne_of_lt q e
  refine h h₂ ⟨F.ns.at' fun o q => back _ _ (Ne.symm nz.2.1) (Ne.symm nTO.2.1) (Ne.symm n1.2.1) (Ne.symm n2.2.1) q,
    fun b o q => back b o (off b o q).1 (off b o q).2.1 (off b o q).2.2.1 (off b o q).2.2.2 (F.keep b o q), F.above⟩ fun p hp => ?_
  have P := N p (.tail _ (.tail _ (.tail _ (.tail _ (.tail _ hp)))))
  have q := hne p hp
  exact ⟨back _ _ (ne (Nat.lt_trans q (Nat.lt_trans a1 (Nat.lt_trans a2 (Nat.lt_trans a3 a4))))) (ne (Nat.lt_trans q (Nat.lt_trans a1 (Nat.lt_trans a2 a3)))) (ne q) (ne (Nat.lt_trans q a1)) P.1, P.2⟩
end

section
variable {prog : Program} {w : World} {A : Around} {E : Value → Shared → Prop} {s : Shared} {env : Env} {body orelse : List Stmt} {Q : Flow → Shared → Prop} {g : Heap} {m : Str → Option Value} {news : List (Addr × Obj)}
theorem zip_turn {z TO TI i2 i1 l1 l2 : Addr} {o1 o2 : Obj} {i : Nat} {xs ys : Array Value} {x y x0 y0 : Value} {elts : List Expr} {k1 : Nat} {pos : Pos} (F : Fr g env.locals s.heap m)
    (N : News g env.locals s.heap ((z, zipO TI TO) :: (TO, tupOf [x0, y0]) :: (TI, tupOf [.ref i1, .ref i2]) :: (i2, o2) :: (i1, o1) :: news))
    (a1 : @LT.lt Nat _ i1 i2) (a2 : @LT.lt Nat _ i2 TI) (a3 : @LT.lt Nat _ TI TO) (a4 : @LT.lt Nat _ TO z) (b1 : @LT.lt Nat _ l1 i1) (b2 : @LT.lt Nat _ l2 i1) (hne : ∀ p ∈ news, @LT.lt Nat _ p.1 i1)
    (h1 : IterAt o1 l1 i) (h2 : IterAt o2 l2 i) (hl1 : s.heap.IsList l1 xs) (hl2 : s.heap.IsList l2 ys) (hx : xs[i]? = some x) (hy : ys[i]? = some y) (hE : PassesOwn (model prog w) A env E)
    (h : ∀ T h' o1' o2', @LT.lt Nat _ z T → IterAt o1' l1 (i + 1) → IterAt o2' l2 (i + 1) → Fr g env.locals h' m → News g env.locals h' ((T, tupOf [x, y]) :: (z, zipO TI TO) :: (TO, tupOf [x, y]) :: (TI, tupOf [.ref i1, .ref i2]) :: (i2, o2') :: (i1, o1') :: news) →
      wpAny (model prog w) A (assign (.Tuple elts k1 pos) env (.ref T)) (fun _ s₃ => wpAny (model prog w) A (execs body env) (ForPost prog w A E env (.Tuple elts k1 pos) body orelse Q (.ref z)) E s₃) E { s with heap := h' }) :
    ForRest prog w A E env (.Tuple elts k1 pos) body orelse Q (.ref z) s :=
  for_turn hE (zip_next F N a1 a2 a3 a4 b1 b2 hne h1 h2 hl1 hl2 hx hy _ (fun _ _ q => q) fun T h' o1' o2' a b c d f => h T h' o1' o2' a b c d f)
theorem zip_done {z TO TI i2 i1 l1 l2 : Addr} {o1 o2 : Obj} {i : Nat} {xs ys : Array Value} {x0 y0 : Value} {target : Expr} (hh : A.handled = none) (F : Fr g env.locals s.heap m)
    (N : News g env.locals s.heap ((z, zipO TI TO) :: (TO, tupOf [x0, y0]) :: (TI, tupOf [.ref i1, .ref i2]) :: (i2, o2) :: (i1, o1) :: news))
    (a1 : @LT.lt Nat _ i1 i2) (a2 : @LT.lt Nat _ i2 TI) (a3 : @LT.lt Nat _ TI TO) (a4 : @LT.lt Nat _ TO z) (b1 : @LT.lt Nat _ l1 i1) (b2 : @LT.lt Nat _ l2 i1) (hne : ∀ p ∈ news, @LT.lt Nat _ p.1 i1)
    (h1 : IterAt o1 l1 i) (h2 : IterAt o2 l2 i) (hl1 : s.heap.IsList l1 xs) (hl2 : s.heap.IsList l2 ys) (hend : xs[i]? = none ∨ ys[i]? = none) (hE : PassesOwn (model prog w) A env E)
    (h : ∀ h', Fr g env.locals h' m → News g env.locals h' news → wpAny (model prog w) A (execs orelse env) Q E { s with heap := h' }) :
    ForRest prog w A E env target body orelse Q (.ref z) s :=
  for_turn hE (zip_stop hh F N a1 a2 a3 a4 b1 b2 hne h1 h2 hl1 hl2 hend fun h' F' N' => h h' F' N')
end
end

section
theorem fillK_ws : PySem.Challenge.rw_pg0086_01 = PySem.Challenge.rw_pg0086_01 ∧ Mine.hd.heap_39 = Mine.hd.heap_39 := by k_fill; exact ⟨rfl, rfl⟩
local macro_rules | `(tactic| walk_at "go1") => `(tactic| ((fail_if_success (with_reducible show wpAny _ _ (exec (Stmt.For _ _ _ _ _) _) _ _ _)); (fail_if_success (with_reducible show wpAny _ _ (exec (Stmt.While _ _ _ _) _) _ _ _)); (fail_if_success (with_reducible show wpAny _ _ (pyIter _) _ _ _)); (fail_if_success (with_reducible show wpAny _ _ (call (Value.ref _) _ _) _ _ _)); (fail_if_success (with_reducible show wpAny _ _ (call (Value.type "list") _ _) _ _ _)); (fail_if_success (with_reducible show wpAny _ _ (call (Value.type "zip") _ _) _ _ _)); (fail_if_success (with_reducible show wpAny _ _ (assign (Expr.Tuple _ _ _) _ _) _ _ _)); (fail_if_success (with_reducible show wpAny _ _ (subscriptTail _ _ (Value.ref _) _) _ _ _)); (fail_if_success (with_reducible show wpAny _ _ (binaryOp _ (Value.ref _) (Value.ref _)) _ _ _)); (first | (k_unfold; (try dsimp only)) | walk1 | (dsimp only; walk1))))
local macro_rules | `(tactic| walk_at "goR") => `(tactic| repeat' ((fail_if_success (with_reducible show wpAny _ _ (call (Value.type "range") _ _) _ _ _)); (walk_at "go1")))
theorem fresh_ints (x : Int) (t : Nat) : ∀ n : Nat, IntsAre (freshInts x t n) ((List.range n).map fun (c : Nat) => x + (c : Int)) := by
  intro n
  induction n generalizing x t with
  | zero => exact .nil
  | succ n ih =>
    rw [List.range_succ_eq_map, List.map_cons, List.map_map]
    have e : ((List.range n).map ((fun (c : Nat) => x + (c : Int)) ∘ Nat.succ)) = (List.range n).map fun (c : Nat) => x + 1 + (c : Int) := List.map_congr_left fun k _ => by simp only [Function.comp, Nat.succ_eq_add_one]; push_cast; omega
    rw [e, show x + ((0 : Nat) : Int) = x by simp]
    exact .cons _ _ (ih (x + 1) (t + 1))
abbrev rowL (rs : List Int) (r : Nat) : Int := rs.getD r 0
set_option maxRecDepth 100000 in
set_option maxHeartbeats 4000000 in
theorem ways_c (w : World) (s0 : Shared) (mg mb : Str → Option Value) (lr lc : Addr) (rv cv : List Value) (rs cs : List Int) (hr : IntsAre rv rs) (hc : IntsAre cv cs) (a b c : Nat) (ha : 0 < a) (tr : TokIn a b rv) (tc : TokIn b c cv) (hrl : rs.length ≤ 100) (hcl : cs.length ≤ 100) :
    DoesT 8 w s0 mg mb 56 [.ref lr, .ref lc] (fun h => h.IsList lr rv.toArray ∧ h.IsList lc cv.toArray) (fun h t v h' t' => ∃ (T D1 D2 : Addr) (us vs : List Value) (c1 c2 : Nat), v = .ref T ∧ h.get? T = none ∧ h.get? D1 = none ∧ h.get? D2 = none ∧
      h'.get? T = some (tupOf [.ref D1, .ref D2]) ∧ h'.get? D1 = some (listOf us.toArray c1) ∧ h'.get? D2 = some (listOf vs.toArray c2) ∧
      IntsAre us (belowL (rowL rs) (rowL cs) rs.length cs.length) ∧ IntsAre vs (besideL (rowL rs) (rowL cs) rs.length cs.length) ∧ TokIn 1 t' us ∧ TokIn 1 t' vs) := by
  unfold DoesT
  intro dp un gd outer base s R S hl hdp hun hret
  obtain ⟨hlr, hlc⟩ := hl
  have X := S.X
  have T := S.T
  have B := S.B
  refine enter S (by k_is) (by k_is) (by dsimp only; omega) (binds := [("rows", .ref lr), ("columns", .ref lc)]) (BindsTo.of_eq rfl) (locs rfl) rfl rfl rfl (by decide) ?_
  intro L' h₁ F N
  dsimp only [List.reverse, List.reverseAux, List.length, kstB] at F ⊢
  (try k_fold)
  refine cut_toks (fun s' => Ex5 fun h tk D us c => An5 (s' = { s with heap := h, toks := tk }) (IntsAre us (belowL (rowL rs) (rowL cs) 0 cs.length)) (TokIn 1 tk us) (News s.heap L' h [(D, listOf us.toArray c)]) (Fv s.heap L' h [("below", .ref D), ("rows", .ref lr), ("columns", .ref lc)])) ?_ ?_
  · walk_at "goR"
    refine with_toks ?_
    walk_at "go"
    rename _ ≤ _ => htr
    dsimp only at htr
    rename Fr _ _ _ _ => F₂
    rename News _ _ _ _ => N₂
    rename IsRange _ _ _ _ _ _ _ _ => hir
    have hsz : Builtin.Range.rangeSize 1 ((cs.length : Int) + 1) 1 = ((cs.length : Nat) : Int) := by
      unfold Builtin.Range.rangeSize
      rw [if_pos (by omega)]
      split <;> omega
    refine list_range_t rfl F₂ N₂ hir (small_of (by omega) (by omega) (by omega) (by omega) (by omega) (by omega)) hsz (by omega) fun D h₃ t₀ c' hne ht₀ F₃ N₃ => ?_
    clear F₂ N₂
    walk_at "go"
    refine ⟨rfl, _, _, D, freshInts 1 t₀ cs.length, c', rfl, ?_, (TokIn.fresh _ _ _).mono (by dsimp only at ht₀; omega) (by dsimp only; omega), by assumption, Fv.mk (by assumption) ⟨rfl, rfl, rfl, trivial⟩⟩
    have e : belowL (rowL rs) (rowL cs) 0 cs.length = (List.range cs.length).map fun (c : Nat) => 1 + (c : Int) := List.map_congr_left fun k _ => by rw [belowF_zero]; omega
    rw [e]
    exact fresh_ints _ _ _
  walk_at "drop"
  rintro s' ht ⟨h₂, tk₂, D1, us, c1, rfl, hus, tus, N₂, FV⟩
  obtain ⟨m₂, F₂⟩ := FV.out; clear FV
  dsimp only [kstB] at F₂ ht
  (try k_fold)
  refine cut_toks (fun s' => Ex3 fun h tk D2 => An4 (s' = { s with heap := h, toks := tk }) (@LT.lt Nat _ D1 D2) (News s.heap L' h [(D2, listOf #[] 0), (D1, listOf us.toArray c1)]) (Fv s.heap L' h [("beside", .ref D2), ("below", .ref D1), ("rows", .ref lr), ("columns", .ref lc)])) ?_ ?_
  · walk_at "go"
    refine ⟨rfl, _, _, _, rfl, by assumption, by assumption, Fv.mk (by assumption) ⟨rfl, rfl, rfl, rfl, trivial⟩⟩
  walk_at "drop"
  rintro s' ht₃ ⟨h₃, tk₃, D2, rfl, h12, N₃, FV⟩
  obtain ⟨m₃, F₃⟩ := FV.out; clear FV
  dsimp only [kstB] at F₃ ht₃
  refine wpAny_execs_cons ?_
  refine for_start ?_
  refine with_toks ?_
  (try k_fold)
  walk_at "go"
  rename _ ≤ _ => ht₄
  show wpAny _ _ (pyIter (.ref _)) _ _ _
  rename IsRange _ _ _ _ _ _ _ _ => hir
  rename Fr _ _ _ _ => F₄
  rename News _ _ _ _ => N₄
  (try dsimp only at ht₄)
  have hsz : Builtin.Range.rangeSize 0 (rs.length : Int) 1 = ((rs.length : Nat) : Int) := by
    unfold Builtin.Range.rangeSize
    split <;> (try split) <;> omega
  refine range_iter F₄ N₄ hir (small_of (by omega) (by omega) (by omega) (by omega) (by omega) (by omega)) hsz fun I h₅ hI F₅ N₅ => ?_
  have hI1 : @LT.lt Nat _ D1 I := hI _ (.tail _ (.head _))
  have hI2 : @LT.lt Nat _ D2 I := hI _ (.head _)
  refine for_inv (σ := Nat) (fun k => rs.length - k) (fun k s' => Ex7 fun (h : Heap) (tk : Nat) (D1 : Addr) (us vs : List Value) (c1 c2 : Nat) => An11 (s' = { s with heap := h, toks := tk }) (k ≤ rs.length) (s.toks < tk) (D1 ≠ I) (D1 ≠ D2) (IntsAre us (belowL (rowL rs) (rowL cs) k cs.length)) (IntsAre vs (besideL (rowL rs) (rowL cs) k cs.length)) (TokIn 1 tk us) (TokIn 1 tk vs) (News s.heap L' h [(I, rangeIt k ((rs.length - k : Nat) : Int)), (D2, listOf vs.toArray c2), (D1, listOf us.toArray c1)]) (Fv s.heap L' h [("beside", .ref D2), ("below", .ref D1), ("rows", .ref lr), ("columns", .ref lc)])) ?_ (c := 0) ?_
  rotate_left
  · exact ⟨h₅, _, D1, us, [], c1, 0, rfl, Nat.zero_le _, by dsimp only; omega, Nat.ne_of_lt hI1, Nat.ne_of_lt h12, hus, .nil, tus.mono (Nat.le_refl _) (by dsimp only; omega), TokIn.nil, N₅, Fv.mk F₅ ⟨rfl, rfl, rfl, rfl, trivial⟩⟩
  walk_at "drop"
  clear hir tus hus ht₃ ht₄ h12 hI hI1 hsz
  rintro k s' ⟨h, tk, D1, us, vs, c1, c2, rfl, hk, htk, n1, n2, hus, hvs, tus, tvs, N₁, FV⟩ IH
  obtain ⟨m₁, F₁⟩ := FV.out; clear FV
  dsimp only [kstB] at F₁
  have hne : ∀ p ∈ [(D2, listOf vs.toArray c2), (D1, listOf us.toArray c1)], p.1 ≠ I := fun p hp => by
    rcases List.mem_cons.mp hp with rfl | hp
    · exact Nat.ne_of_lt hI2
    · obtain rfl := List.mem_singleton.mp hp
      exact n1
  by_cases hlt : k < rs.length
  · rw [show rs.length - k = (rs.length - (k + 1)) + 1 by omega] at N₁
    refine range_turn F₁ N₁ hne rfl rfl (by passes_own) fun h₂ F₂ N₂ => ?_
    clear F₁ N₁
    (try k_fold)
    dsimp only
    obtain ⟨u, hrk⟩ := hr.get k rs[k] (by simp [hlt])
    have hcl' : cv.length = cs.length := hc.length
    have hrl' : rv.length = rs.length := hr.length
    have hask : Askable (cv ++ [.int rs[k] u]) rs[k] u := by
      obtain ⟨p, t, e1, e2, e3⟩ := tr _ (List.mem_of_getElem? hrk)
      cases e1
      refine ⟨by exact Nat.ne_of_gt (by omega), fun v hv => ?_⟩
      rcases List.mem_append.mp hv with hv | hv
      · obtain ⟨p', t', e1', e2', e3'⟩ := tc _ hv
        exact ⟨p', t', e1', by exact Nat.ne_of_gt (by omega), fun z => absurd z (by exact Nat.ne_of_gt (by omega))⟩
      · obtain rfl := List.mem_singleton.mp hv
        exact ⟨_, _, rfl, by exact Nat.ne_of_gt (by omega), fun _ => rfl⟩
    refine cut_toks (fun s' => Ex3 fun h tk' t' => An3 (s' = { s with heap := h, toks := tk' }) (News s.heap L' h [(I, rangeIt (k + 1 : Nat) ((rs.length - (k + 1) : Nat) : Int)), (D2, listOf vs.toArray c2), (D1, listOf us.toArray c1)]) (Fv s.heap L' h [("first", .int ((cs ++ [rs[k]]).idxOf rs[k] : Nat) t'), ("k", .int k tk), ("beside", .ref D2), ("below", .ref D1), ("rows", .ref lr), ("columns", .ref lc)])) ?_ ?_
    · walk_at "go"
      refine item_listL (hlr.at fun o e => Fr.keep (by assumption) _ _ e) (by omega) (by omega) (by simpa using hrk) ?_
      walk_at "go"
      refine kmk_add_lit (its := cv.toArray) (its2 := #[.int rs[k] u]) (zs := cv ++ [.int rs[k] u]) (by assumption) (by assumption) (hlc.at fun o e => Fr.keep (by assumption) _ _ e) ⟨_, News.get (by assumption) (.head _), rfl, _, rfl⟩ (by simp) ?_ (by rw [sizeLine_eq]; simp; omega)
      intro D' h' F' N' l1
      try k_lt l1
      walk_at "go"
      refine item_listL (hlr.at fun o e => Fr.keep (by assumption) _ _ e) (by omega) (by omega) (by simpa using hrk) ?_
      walk_at "go"
      refine wpAny_call (indexOf_found none w s0 mg mb D' (cv ++ [.int rs[k] u]) (cs ++ [rs[k]]) rs[k] u (hc.append (.cons _ _ .nil)) hask (by simp) (dp + 1) (un + 3) gd (_ :: outer) base _ _ (site_call B X T F' rfl rfl) ⟨_, N'.get (.head _), rfl, _, rfl⟩ (.inl rfl) (by omega) (by omega) fun t' h'' tk'' hk' => ?_)
      have F₃ := F'.keeps hk'
      have N₃ : News s.heap L' h'' [(I, rangeIt (k + 1 : Nat) ((rs.length - (k + 1) : Nat) : Int)), (D2, listOf vs.toArray c2), (D1, listOf us.toArray c1)] := fun p hp => N'.grown hk' p (.tail _ (.tail _ hp))
      clear F' N'
      dsimp only
      walk_at "go"
      exact ⟨rfl, _, _, _, rfl, by assumption, Fv.mk (by assumption) ⟨rfl, rfl, rfl, rfl, rfl, rfl, trivial⟩⟩
    walk_at "drop"
    rintro s' ht₆ ⟨h₆, tk₆, t₆, rfl, N₆, FV⟩
    obtain ⟨m₆, F₆⟩ := FV.out; clear FV
    dsimp only [kstB] at F₆ ht₆
    have hf : (cs ++ [rs[k]]).idxOf rs[k] ≤ cs.length := by
      have := List.idxOf_lt_length_of_mem (show rs[k] ∈ cs ++ [rs[k]] by simp)
      simp at this
      omega
    have hff : ∀ c, c < (cs ++ [rs[k]]).idxOf rs[k] → rowL rs k ≠ rowL cs c := fun c hc' => by
      have hcc : c < cs.length := by omega
      have := idx_none hc' (by simp; omega)
      rw [List.getElem_append_left hcc] at this
      simp only [rowL, List.getD_eq_getElem?_getD, List.getElem?_eq_getElem hcc, List.getElem?_eq_getElem hlt, Option.getD_some]
      exact fun e => this e.symm
    generalize (cs ++ [rs[k]]).idxOf rs[k] = f at hf hff F₆
    refine cut_toks (fun s' => Ex3 fun h tk' t' => An5 (s' = { s with heap := h, toks := tk' }) (1 ≤ t') (t' < tk') (News s.heap L' h [(I, rangeIt (k + 1 : Nat) ((rs.length - (k + 1) : Nat) : Int)), (D2, listOf vs.toArray c2), (D1, listOf us.toArray c1)]) (Fv s.heap L' h [("held", .int (-(k : Int)) t'), ("first", .int (f : Nat) t₆), ("k", .int k tk), ("beside", .ref D2), ("below", .ref D1), ("rows", .ref lr), ("columns", .ref lc)])) ?_ ?_
    · walk_at "go"
      refine ⟨rfl, _, _, _, rfl, ?_, ?_, by assumption, Fv.mk (by assumption) ⟨rfl, rfl, rfl, rfl, rfl, rfl, rfl, trivial⟩⟩ <;> (try dsimp only) <;> omega
    walk_at "drop"
    rintro s' ht₇ ⟨h₇, tk₇, t₇, rfl, ht7a, ht7b, N₇, FV⟩
    obtain ⟨m₇, F₇⟩ := FV.out; clear FV
    dsimp only [kstB] at F₇ ht₇
    refine cut_toks (fun s' => Ex3 fun h tk' D3 => An6 (s' = { s with heap := h, toks := tk' }) (@LT.lt Nat _ I D3) (@LT.lt Nat _ D2 D3) (@LT.lt Nat _ D1 D3) (News s.heap L' h [(D3, listOf (us.take f).toArray 0), (I, rangeIt (k + 1 : Nat) ((rs.length - (k + 1) : Nat) : Int)), (D2, listOf vs.toArray c2), (D1, listOf us.toArray c1)]) (Fv s.heap L' h [("passed", .ref D3), ("held", .int (-(k : Int)) t₇), ("first", .int (f : Nat) t₆), ("k", .int k tk), ("beside", .ref D2), ("below", .ref D1), ("rows", .ref lr), ("columns", .ref lc)])) ?_ ?_
    · walk_at "go"
      refine kmk_slice (its := us.toArray) (lo := none) (hi := some (f : Int)) (by assumption) (by assumption) ⟨_, News.get (by assumption) (.tail _ (.tail _ (.head _))), rfl, _, rfl⟩ .none (.int _ _) (fun D3 h' F' N' l1 => ?_) (by with_unfolding_all rfl) (by intro _; with_unfolding_all rfl) (by have := hus.length; simp [belowL] at this; rw [sizeLine_eq]; simp; omega)
      rw [slicePick_upto' us.toArray f, List.toList_toArray] at N'
      have l3 := l1 _ (.head _)
      have l4 := l1 _ (.tail _ (.head _))
      have l5 := l1 _ (.tail _ (.tail _ (.head _)))
      walk_at "go"
      exact ⟨rfl, _, _, _, rfl, l3, l4, l5, by assumption, Fv.mk (by assumption) ⟨rfl, rfl, rfl, rfl, rfl, rfl, rfl, rfl, trivial⟩⟩
    walk_at "drop"
    rintro s' ht₈ ⟨h₈, tk₈, D3, rfl, l3, l4, l5, N₈, FV⟩
    obtain ⟨m₈, F₈⟩ := FV.out; clear FV
    dsimp only [kstB] at F₈ ht₈
    refine cut_toks (fun s' => Ex5 fun h tk' t' ps c3 => An7 (s' = { s with heap := h, toks := tk' }) (1 ≤ t') (t' < tk') (IntsAre ps (belowL (rowL rs) (rowL cs) (k + 1) cs.length)) (TokIn 1 tk' ps) (News s.heap L' h [(D3, listOf ps.toArray c3), (I, rangeIt (k + 1 : Nat) ((rs.length - (k + 1) : Nat) : Int)), (D2, listOf vs.toArray c2), (D1, listOf us.toArray c1)]) (Fv s.heap L' h [("passed", .ref D3), ("held", .int (vF (rowL rs) (rowL cs) k cs.length) t'), ("k", .int k tk), ("beside", .ref D2), ("below", .ref D1), ("rows", .ref lr), ("columns", .ref lc)])) ?_ ?_
    · refine for_start ?_
      refine with_toks ?_
      walk_at "go"
      refine kmk_slice (its := us.toArray) (lo := some (f : Int)) (hi := none) (by assumption) (by assumption) ⟨_, News.get (by assumption) (.tail _ (.tail _ (.tail _ (.head _)))), rfl, _, rfl⟩ (.int _ _) .none (fun D4 h' F' N' l1 => ?_) (by with_unfolding_all rfl) (by intro _; with_unfolding_all rfl) (by have := hus.length; simp [belowL] at this; rw [sizeLine_eq]; simp; omega)
      rw [slicePick_from' us.toArray f, List.toList_toArray] at N'
      have l6 := l1 _ (.head _)
      walk_at "go"
      refine kmk_slice (its := cv.toArray) (lo := some (f : Int)) (hi := none) (by assumption) (by assumption) (hlc.at fun o e => Fr.keep (by assumption) _ _ e) (.int _ _) .none (fun D5 h' F' N' l1 => ?_) (by with_unfolding_all rfl) (by intro _; with_unfolding_all rfl) (by rw [sizeLine_eq]; simp; omega)
      rw [slicePick_from' cv.toArray f, List.toList_toArray] at N'
      have l7 := l1 _ (.head _)
      have l8 := l1 _ (.tail _ (.head _))
      walk_at "go"
      have N₉ : News s.heap L' h' _ := N'
      have F₉ : Fr s.heap L' h' _ := F'
      refine zip_make (xs := (us.drop f).toArray) (ys := (cv.drop f).toArray) F₉ N₉ ⟨_, N₉.get (.tail _ (.head _)), rfl, _, rfl⟩ ⟨_, N₉.get (.head _), rfl, _, rfl⟩ fun z TO TI i2 i1 h₉ o1 o2 a1 a2 a3 a4 hni b1 b2 hi1 hi2 F₁₀ N₁₀ => ?_
      walk_at "go"
      refine zip_iter N₁₀ ?_
      rename _ ≤ _ => ht₉
      have p1 := hni _ (.tail _ (.tail _ (.head _)))
      have hul : us.length = cs.length := by rw [hus.length]; simp [belowL]
      have hfp := first_part (rowL rs) (rowL cs) k f hff
      refine for_inv (σ := Nat) (fun i => cs.length - f - i) (fun i s' => Ex9 fun (h : Heap) (tk' th : Nat) (ps : List Value) (c3 : Nat) (x0 y0 : Value) (o1 o2 : Obj) => An11 (s' = { s with heap := h, toks := tk' }) (f + i ≤ cs.length) (tk₈ ≤ tk') (1 ≤ th) (th < tk') (IterAt o1 D4 i) (IterAt o2 D5 i) (IntsAre ps ((List.range (f + i)).map (belowF (rowL rs) (rowL cs) (k + 1)))) (TokIn 1 tk' ps) (News s.heap L' h [(z, zipO TI TO), (TO, tupOf [x0, y0]), (TI, tupOf [.ref i1, .ref i2]), (i2, o2), (i1, o1), (D5, listOf (cv.drop f).toArray 0), (D4, listOf (us.drop f).toArray 0), (D3, listOf ps.toArray c3), (I, rangeIt (k + 1 : Nat) ((rs.length - (k + 1) : Nat) : Int)), (D2, listOf vs.toArray c2), (D1, listOf us.toArray c1)]) (Fv s.heap L' h [("passed", .ref D3), ("held", .int (vF (rowL rs) (rowL cs) k (f + i)) th), ("k", .int k tk), ("beside", .ref D2), ("below", .ref D1), ("rows", .ref lr), ("columns", .ref lc)])) ?_ (c := 0) ?_
      rotate_left
      · refine ⟨h₉, _, t₇, us.take f, 0, .none, .none, o1, o2, rfl, by omega, ?_, by omega, ?_, hi1, hi2, ?_, ?_, N₁₀, Fv.mk F₁₀ ⟨rfl, ?_, rfl, rfl, rfl, rfl, rfl, trivial⟩⟩
        · (try dsimp only); omega
        · (try dsimp only); omega
        · have e : (List.range (f + 0)).map (belowF (rowL rs) (rowL cs) (k + 1)) = (belowL (rowL rs) (rowL cs) k cs.length).take f := by
            unfold belowL
            rw [← List.map_take, List.take_range, Nat.min_eq_left hf, Nat.add_zero]
            exact List.map_congr_left fun c hc' => hfp.2 c (List.mem_range.mp hc')
          rw [e]
          exact hus.take f
        · exact (tus.sub fun v hv => List.mem_of_mem_take hv).mono (Nat.le_refl _) (by (try dsimp only); omega)
        · rw [Nat.add_zero, hfp.1 f (Nat.le_refl _)]; rfl
      clear F₉ N₉ F₁₀ N₁₀ hi1 hi2 ht₉
      walk_at "drop"
      rintro i s' ⟨h, tk', th, ps, c3, x0, y0, o1, o2, rfl, hic, htk', hth1, hth2, hi1, hi2, hps, tps, N₁, FV⟩ IH
      obtain ⟨m₁, F₁⟩ := FV.out; clear FV
      dsimp only [kstB] at F₁
      have hni' : ∀ p ∈ [(D5, listOf (cv.drop f).toArray 0), (D4, listOf (us.drop f).toArray 0), (D3, listOf ps.toArray c3), (I, rangeIt (k + 1 : Nat) ((rs.length - (k + 1) : Nat) : Int)), (D2, listOf vs.toArray c2), (D1, listOf us.toArray c1)], @LT.lt Nat _ p.1 i1 := by
        intro p hp
        rcases List.mem_cons.mp hp with rfl | hp
        · exact b2
        rcases List.mem_cons.mp hp with rfl | hp
        · exact b1
        rcases List.mem_cons.mp hp with rfl | hp
        · exact p1
        exact hni p (.tail _ (.tail _ (.tail _ hp)))
      have hL4 : h.IsList D4 (us.drop f).toArray := ⟨_, N₁.get (.tail _ (.tail _ (.tail _ (.tail _ (.tail _ (.tail _ (.head _))))))), rfl, _, rfl⟩
      have hL5 : h.IsList D5 (cv.drop f).toArray := ⟨_, N₁.get (.tail _ (.tail _ (.tail _ (.tail _ (.tail _ (.head _)))))), rfl, _, rfl⟩
      by_cases hif : f + i < cs.length
      · obtain ⟨tx, hx⟩ := hus.get (f + i) (belowF (rowL rs) (rowL cs) k (f + i)) (by simp [belowL, hif])
        obtain ⟨ty, hy⟩ := hc.get (f + i) cs[f + i] (by simp [hif])
        obtain ⟨_, _, e1, etx1, etx2⟩ := tus _ (List.mem_of_getElem? hx)
        cases e1
        have hsz5 : ps.length ≤ sizeLine := by rw [hps.length, sizeLine_eq]; simp; omega
        have hrest : ∀ p ∈ [(I, rangeIt (k + 1 : Nat) ((rs.length - (k + 1) : Nat) : Int)), (D2, listOf vs.toArray c2), (D1, listOf us.toArray c1)], p.1 ≠ D3 := by
          intro p hp
          rcases List.mem_cons.mp hp with rfl | hp
          · exact Nat.ne_of_lt l3
          rcases List.mem_cons.mp hp with rfl | hp
          · exact Nat.ne_of_lt l4
          obtain rfl := List.mem_singleton.mp hp
          exact Nat.ne_of_lt l5
        have er : rowL rs k = rs[k] := by simp [rowL, hlt]
        have ec : rowL cs (f + i) = cs[f + i] := by simp [rowL, hif]
        refine zip_turn F₁ N₁ a1 a2 a3 a4 b1 b2 hni' hi1 hi2 hL4 hL5 (x := .int (belowF (rowL rs) (rowL cs) k (f + i)) tx) (y := .int cs[f + i] ty) (by simpa using hx) (by simpa using hy) (by passes_own) fun Tt h₂ o1' o2' hT hi1' hi2' F₂ N₂ => ?_
        clear F₁ N₁
        have hown : ∀ p ∈ [(Tt, tupOf [Value.int (belowF (rowL rs) (rowL cs) k (f + i)) tx, .int cs[f + i] ty]), (z, zipO TI TO), (TO, tupOf [.int (belowF (rowL rs) (rowL cs) k (f + i)) tx, .int cs[f + i] ty]), (TI, tupOf [.ref i1, .ref i2]), (i2, o2'), (i1, o1'), (D5, listOf (cv.drop f).toArray 0), (D4, listOf (us.drop f).toArray 0)], p.1 ≠ D3 := by
          intro p hp
          have gt : ∀ {q : Addr}, @LT.lt Nat _ D3 q → q ≠ D3 := fun q' => Nat.ne_of_gt q'
          rcases List.mem_cons.mp hp with rfl | hp
          · exact gt (Nat.lt_trans p1 (Nat.lt_trans a1 (Nat.lt_trans a2 (Nat.lt_trans a3 (Nat.lt_trans a4 hT)))))
          rcases List.mem_cons.mp hp with rfl | hp
          · exact gt (Nat.lt_trans p1 (Nat.lt_trans a1 (Nat.lt_trans a2 (Nat.lt_trans a3 a4))))
          rcases List.mem_cons.mp hp with rfl | hp
          · exact gt (Nat.lt_trans p1 (Nat.lt_trans a1 (Nat.lt_trans a2 a3)))
          rcases List.mem_cons.mp hp with rfl | hp
          · exact gt (Nat.lt_trans p1 (Nat.lt_trans a1 a2))
          rcases List.mem_cons.mp hp with rfl | hp
          · exact gt (Nat.lt_trans p1 a1)
          rcases List.mem_cons.mp hp with rfl | hp
          · exact gt p1
          rcases List.mem_cons.mp hp with rfl | hp
          · exact gt l8
          obtain rfl := List.mem_singleton.mp hp
          exact gt l6
        refine turn_toks ?_
        (try k_fold)
        refine unpack_any F₂ N₂ (.inl rfl) (N₂.isTup (.head _)) rfl rfl fun h₃ F₃ N₃ => ?_
        clear F₂ N₂
        walk_at "go"
        refine item_listL (hlr.at fun o e => Fr.keep (by assumption) _ _ e) (by omega) (by omega) (by simpa using hrk) ?_
        walk_at "go"
        all_goals rename Fr _ _ _ _ => F₄
        all_goals rename News _ _ _ _ => N₄
        all_goals refine append_in (own := [_, _, _, _, _, _, _, _]) (rest := [_, _, _]) F₄ N₄ hown hrest (fun h₅ F₅ N₅ => ?_) hsz5
        all_goals clear F₄ N₄
        all_goals walk_at "go"
        all_goals rename _ ≤ _ => htk5
        all_goals (try dsimp only at htk5)
        all_goals rename Fr _ _ _ _ => F₆
        all_goals rename News _ _ _ _ => N₆
        all_goals (try unfold ForPost)
        all_goals dsimp only
        · have hcnd : rowL rs k = rowL cs (f + i) ∨ belowF (rowL rs) (rowL cs) k (f + i) < vF (rowL rs) (rowL cs) k (f + i) := by rw [er, ec]; exact .inl (by assumption)
          have hv' := vF_succ (rowL rs) (rowL cs) k (f + i)
          have hb' := belowF_succ (rowL rs) (rowL cs) k (f + i)
          rw [if_pos hcnd] at hv' hb'
          refine IH (i + 1) _ (by omega) ⟨_, _, tx, ps ++ [Value.int (vF (rowL rs) (rowL cs) k (f + i)) th], c3 + 1, .int (belowF (rowL rs) (rowL cs) k (f + i)) tx, .int cs[f + i] ty, o1', o2', rfl, by omega, by omega, etx1, by omega, hi1', hi2', ?_, (tps.mono (Nat.le_refl _) (by omega)).app (TokIn.cons hth1 (by omega) TokIn.nil), fun p hp => N₆ p (.tail _ hp), Fv.mk F₆ ⟨rfl, by rw [← Nat.add_assoc, hv']; rfl, rfl, rfl, rfl, rfl, rfl, trivial⟩⟩
          rw [← Nat.add_assoc, List.range_succ, List.map_append, List.map_cons, List.map_nil, hb']
          exact hps.append (.cons _ _ .nil)
        · have hcnd : rowL rs k = rowL cs (f + i) ∨ belowF (rowL rs) (rowL cs) k (f + i) < vF (rowL rs) (rowL cs) k (f + i) := .inr (by assumption)
          have hv' := vF_succ (rowL rs) (rowL cs) k (f + i)
          have hb' := belowF_succ (rowL rs) (rowL cs) k (f + i)
          rw [if_pos hcnd] at hv' hb'
          refine IH (i + 1) _ (by omega) ⟨_, _, tx, ps ++ [Value.int (vF (rowL rs) (rowL cs) k (f + i)) th], c3 + 1, .int (belowF (rowL rs) (rowL cs) k (f + i)) tx, .int cs[f + i] ty, o1', o2', rfl, by omega, by omega, etx1, by omega, hi1', hi2', ?_, (tps.mono (Nat.le_refl _) (by omega)).app (TokIn.cons hth1 (by omega) TokIn.nil), fun p hp => N₆ p (.tail _ hp), Fv.mk F₆ ⟨rfl, by rw [← Nat.add_assoc, hv']; rfl, rfl, rfl, rfl, rfl, rfl, trivial⟩⟩
          rw [← Nat.add_assoc, List.range_succ, List.map_append, List.map_cons, List.map_nil, hb']
          exact hps.append (.cons _ _ .nil)
        · have hcnd : ¬ (rowL rs k = rowL cs (f + i) ∨ belowF (rowL rs) (rowL cs) k (f + i) < vF (rowL rs) (rowL cs) k (f + i)) := by
            rw [er, ec]
            rintro (q | q)
            · exact absurd q (by assumption)
            · exact absurd q (by assumption)
          have hv' := vF_succ (rowL rs) (rowL cs) k (f + i)
          have hb' := belowF_succ (rowL rs) (rowL cs) k (f + i)
          rw [if_neg hcnd] at hv' hb'
          refine IH (i + 1) _ (by omega) ⟨_, _, th, ps ++ [Value.int (belowF (rowL rs) (rowL cs) k (f + i)) tx], c3 + 1, .int (belowF (rowL rs) (rowL cs) k (f + i)) tx, .int cs[f + i] ty, o1', o2', rfl, by omega, by omega, hth1, by omega, hi1', hi2', ?_, (tps.mono (Nat.le_refl _) (by omega)).app (TokIn.cons etx1 (by omega) TokIn.nil), fun p hp => N₆ p (.tail _ hp), Fv.mk F₆ ⟨rfl, by rw [← Nat.add_assoc, hv']; rfl, rfl, rfl, rfl, rfl, rfl, trivial⟩⟩
          rw [← Nat.add_assoc, List.range_succ, List.map_append, List.map_cons, List.map_nil, hb']
          exact hps.append (.cons _ _ .nil)
      · have hie : f + i = cs.length := by omega
        refine zip_done rfl F₁ N₁ a1 a2 a3 a4 b1 b2 hni' hi1 hi2 hL4 hL5 (.inl (by simp; omega)) (by passes_own) fun h₂ F₂ N₂ => ?_
        clear F₁ N₁
        refine wpAny_execs_nil ?_
        rw [hie] at hps F₂
        exact ⟨rfl, h₂, _, th, ps, c3, rfl, hth1, hth2, hps, tps, fun p hp => N₂ p (.tail _ (.tail _ hp)), Fv.mk F₂ ⟨rfl, rfl, rfl, rfl, rfl, rfl, rfl, trivial⟩⟩
    walk_at "drop"
    rintro s' ht₉ ⟨h₉, tk₉, t₉, ps, c3, rfl, ht9a, ht9b, hps, tps, N₉, FV⟩
    obtain ⟨m₉, F₉⟩ := FV.out; clear FV
    dsimp only [kstB] at F₉ ht₉
    (try k_fold)
    refine with_toks ?_
    walk_at "go"
    rename Fr _ _ _ _ => F₁
    rename News _ _ _ _ => N₁
    have hown : ∀ p ∈ [(D3, listOf ps.toArray c3), (I, rangeIt (k + 1 : Nat) ((rs.length - (k + 1) : Nat) : Int))], p.1 ≠ D2 := by
      intro p hp
      rcases List.mem_cons.mp hp with rfl | hp
      · exact Nat.ne_of_gt l4
      obtain rfl := List.mem_singleton.mp hp
      exact Nat.ne_of_gt hI2
    have hrest : ∀ p ∈ [(D1, listOf us.toArray c1)], p.1 ≠ D2 := by
      intro p hp
      obtain rfl := List.mem_singleton.mp hp
      exact n2
    refine append_in (own := [_, _]) (rest := [_]) F₁ N₁ hown hrest (fun h₂ F₂ N₂ => ?_) (by rw [hvs.length, sizeLine_eq]; simp [besideL]; omega)
    clear F₁ N₁
    walk_at "go"
    rename _ ≤ _ => htk5
    (try dsimp only at htk5)
    (try unfold ForPost)
    dsimp only
    refine IH (k + 1) _ (by omega) ⟨h₂, _, D3, ps, vs ++ [Value.int (vF (rowL rs) (rowL cs) k cs.length) t₉], c3, c2 + 1, rfl, by omega, by omega, Nat.ne_of_gt l3, Nat.ne_of_gt l4, hps, ?_, tps.mono (Nat.le_refl _) (by omega), (tvs.mono (Nat.le_refl _) (by omega)).app (TokIn.cons ht9a (by omega) TokIn.nil), ?_, Fv.mk F₂ ⟨rfl, rfl, rfl, rfl, trivial⟩⟩
    · have e : besideL (rowL rs) (rowL cs) (k + 1) cs.length = besideL (rowL rs) (rowL cs) k cs.length ++ [vF (rowL rs) (rowL cs) k cs.length] := by
        unfold besideL; rw [List.range_succ, List.map_append]; rfl
      rw [e]
      exact hvs.append (.cons _ _ .nil)
    · intro p hp
      rcases List.mem_cons.mp hp with rfl | hp
      · exact N₂ _ (.tail _ (.head _))
      rcases List.mem_cons.mp hp with rfl | hp
      · exact N₂ _ (.tail _ (.tail _ (.head _)))
      obtain rfl := List.mem_singleton.mp hp
      exact N₂ _ (.head _)
  · have hke : k = rs.length := by omega
    subst hke
    rw [Nat.sub_self] at N₁
    refine range_done rfl F₁ N₁ hne (by passes_own) fun h₂ F₂ N₂ => ?_
    clear F₁ N₁
    refine wpAny_execs_nil ?_
    refine with_toks ?_
    (try k_fold)
    walk_at "go"
    rename _ ≤ _ => htk5
    (try dsimp only at htk5)
    rename Fr _ _ _ _ => F₃
    rename News _ _ _ _ => N₃
    exact hret _ _ _ F₃.keep (by omega) ⟨_, D1, D2, us, vs, c1, c2, rfl, (N₃ _ (.head _)).2.2, (N₃ _ (.tail _ (.tail _ (.head _)))).2.2, (N₃ _ (.tail _ (.head _))).2.2, (N₃ _ (.head _)).1, (N₃ _ (.tail _ (.tail _ (.head _)))).1, (N₃ _ (.tail _ (.head _))).1, hus, hvs, tus.mono (Nat.le_refl _) (by omega), tvs.mono (Nat.le_refl _) (by omega)⟩
end

section
theorem fillK_pl : PySem.Challenge.rw_pg0086_01 = PySem.Challenge.rw_pg0086_01 ∧ Mine.hd.heap_39 = Mine.hd.heap_39 := by k_fill; exact ⟨rfl, rfl⟩
local macro_rules | `(tactic| walk_at "go1") => `(tactic| ((fail_if_success (with_reducible show wpAny _ _ (exec (Stmt.For _ _ _ _ _) _) _ _ _)); (fail_if_success (with_reducible show wpAny _ _ (exec (Stmt.Try _ _ _ _ _) _) _ _ _)); (fail_if_success (with_reducible show wpAny _ _ (pyIter _) _ _ _)); (fail_if_success (with_reducible show wpAny _ _ (call (Value.ref _) _ _) _ _ _)); (fail_if_success (with_reducible show wpAny _ _ (call (Value.builtin "list.append") _ _) _ _ _)); (fail_if_success (with_reducible show wpAny _ _ (call (Value.type "str") _ _) _ _ _)); (fail_if_success (with_reducible show wpAny _ _ (assign (Expr.Tuple _ _ _) _ _) _ _ _)); (fail_if_success (with_reducible show wpAny _ _ (noteFrame _ _) _ _ _)); (first | (k_unfold; (try dsimp only)) | walk1 | (dsimp only; walk1))))
/-- indexOf's words when it refuses -/
abbrev refusal : Str := "sequence.index(x): x not in sequence"
/-- a fact kept out of the walk's sight -/
structure Shut (P : Prop) : Prop where
  out : P
theorem strs_app {vs us : List Value} {xs ys : List Str} (h : StrsAre vs xs) (g : StrsAre us ys) : StrsAre (vs ++ us) (xs ++ ys) := by
  induction h with
  | nil => exact g
  | cons n t _ ih => exact .cons n t ih
theorem fresh_in {g h h' : Heap} {L a : Addr} {m m' : Str → Option Value} {news : List (Addr × Obj)} {o : Obj} (F : Fr g L h m) (F' : Fr g L h' m') (N : News g L h' news) (ho : h'.get? a = some o) (hn : h.get? a = none) : News g L h' ((a, o) :: news) := fun p hp => by
  rcases List.mem_cons.mp hp with rfl | hp
  · refine ⟨ho, fun e => ?_, ?_⟩
    · obtain ⟨o', _, _, q, _⟩ := F.ns
      rw [← e, hn] at q
      cases q
    · cases q : g.get? a with
      | none => rfl
      | some o' => have := F.keep _ _ q; rw [hn] at this; cases this
  · exact N p hp
set_option maxRecDepth 100000 in
set_option maxHeartbeats 4000000 in
theorem places_c (w : World) (s0 : Shared) (mg mb : Str → Option Value) (lr lc : Addr) (rv cv : List Value) (rs cs : List Int) (hr : IntsAre rv rs) (hc : IntsAre cv cs) (a b c : Nat) (ha : 0 < a) (tr : TokIn a b rv) (tc : TokIn b c cv) (hrl : rs.length ≤ 100) (hcl : cs.length ≤ 100)
    (dp un : Nat) (gd : Option (List Code)) (outer : List Env) (base : Heap) (s : Shared) (R : Result → Shared → Prop) (S : Site w s0 mg mb (Ar none dp un gd outer) base outer s.heap)
    (XB : (Mine.hd.heap_39 w.params).In base) (TB : Top Mine.hd.view_39 (looseW Mine.hd.view_39 []) (ExcName.means s0.heap) mg mb base) (DD : KtsDicts (outer.filterMap (·.frame)) s.heap)
    (hlr : s.heap.IsList lr rv.toArray) (hlc : s.heap.IsList lc cv.toArray) (hdp : dp + 12 < recursionLimit) (hun : un + 10 * 12 < cLine)
    (hret : ∀ (T D1 D2 : Addr) (ps ws : List Value) (c1 c2 : Nat) (h' g' : Heap) (tk' : Nat), KtsTurn (outer.filterMap (·.frame)) s.heap g' → Kept g' h' → s.heap.get? T = none → s.heap.get? D1 = none → s.heap.get? D2 = none →
      h'.get? T = some (tupOf [.ref D1, .ref D2]) → h'.get? D1 = some (listOf ps.toArray c1) → h'.get? D2 = some (listOf ws.toArray c2) →
      IntsAre ps (placesL (rowL rs) (rowL cs) rs.length cs.length) → StrsAre ws (List.replicate rs.length refusal) → R (.ok (.ret (.ref T))) { s with heap := h', toks := tk' }) :
    codeAny (model Prg w) (Ar none dp un gd outer) (.call (.ref 63) ⟨[.ref lr, .ref lc], []⟩) R s := by
  have X := S.X
  have T := S.T
  have B := S.B
  refine enter S (by k_is) (by k_is) (by dsimp only; omega) (binds := [("rows", .ref lr), ("columns", .ref lc)]) (BindsTo.of_eq rfl) (locs rfl) rfl rfl rfl (by decide) ?_
  intro L' h₁ F N
  dsimp only [List.reverse, List.reverseAux, List.length, kstB] at F ⊢
  k_fold
  refine cut_toks (fun s' => Ex8 fun h tk D1 D2 us vs c1 c2 => An7 (s' = { s with heap := h, toks := tk }) (IntsAre us (belowL (rowL rs) (rowL cs) rs.length cs.length)) (IntsAre vs (besideL (rowL rs) (rowL cs) rs.length cs.length)) (TokIn 1 tk us) (TokIn 1 tk vs) (News s.heap L' h [(D1, listOf us.toArray c1), (D2, listOf vs.toArray c2)]) (Fv s.heap L' h [("beside", .ref D2), ("below", .ref D1), ("rows", .ref lr), ("columns", .ref lc)])) ?_ ?_
  · walk_at "go"
    rename Fr _ _ _ _ => F₁
    rename News _ _ _ _ => N₁
    refine (ways_c w s0 mg mb lr lc rv cv rs cs hr hc a b c ha tr tc hrl hcl).use B X T F₁ N₁ rfl rfl rfl ⟨hlr.at fun o e => F₁.keep _ _ e, hlc.at fun o e => F₁.keep _ _ e⟩ (show dp + 1 + 8 < _ by omega) (show un + 3 + 10 * 8 < _ by omega) fun v h₂ tk₂ hk ht F₂ N₂ hP => ?_
    obtain ⟨Tt, D1, D2, us, vs, c1, c2, rfl, nT, n1, n2, oT, o1, o2, hus, hvs, tus, tvs⟩ := hP
    have N₃ := fresh_in F₁ F₂ (fresh_in F₁ F₂ (fresh_in F₁ F₂ N₂ o2 n2) o1 n1) oT nT
    clear F₁ N₁ N₂
    dsimp only at ht
    refine unpack_any F₂ N₃ (.inl rfl) (N₃.isTup (.head _)) rfl rfl fun h₃ F₃ N₄ => ?_
    clear F₂ N₃
    walk_at "go"
    rename News _ _ _ _ => N₅
    exact ⟨rfl, _, _, D1, D2, us, vs, c1, c2, rfl, hus, hvs, tus.mono (Nat.le_refl _) (by dsimp only; omega), tvs.mono (Nat.le_refl _) (by dsimp only; omega), fun p hp => N₅ p (.tail _ hp), Fv.mk (by assumption) ⟨rfl, rfl, rfl, rfl, trivial⟩⟩
  walk_at "drop"
  rintro s' ht ⟨h₂, tk₂, D1, D2, us, vs, c1, c2, rfl, hus, hvs, tus, tvs, N₂, FV⟩
  have kus : Shut (IntsAre us (belowL (rowL rs) (rowL cs) rs.length cs.length)) := ⟨hus⟩
  have kvs : Shut (IntsAre vs (besideL (rowL rs) (rowL cs) rs.length cs.length)) := ⟨hvs⟩
  clear hus hvs
  obtain ⟨m₂, F₂⟩ := FV.out; clear FV
  dsimp only [kstB] at F₂ ht
  refine cut_toks (fun s' => Ex3 fun h tk D3 => An5 (s' = { s with heap := h, toks := tk }) (@LT.lt Nat _ D1 D3) (@LT.lt Nat _ D2 D3) (News s.heap L' h [(D3, listOf #[] 0), (D1, listOf us.toArray c1), (D2, listOf vs.toArray c2)]) (Fv s.heap L' h [("places", .ref D3), ("beside", .ref D2), ("below", .ref D1), ("rows", .ref lr), ("columns", .ref lc)])) ?_ ?_
  · walk_at "go"
    rename _ ∧ _ => l1
    exact ⟨rfl, _, _, _, rfl, l1.1, l1.2, by assumption, Fv.mk (by assumption) ⟨rfl, rfl, rfl, rfl, rfl, trivial⟩⟩
  walk_at "drop"
  rintro s' ht₃ ⟨h₃, tk₃, D3, rfl, l31, l32, N₃, FV⟩
  obtain ⟨m₃, F₃⟩ := FV.out; clear FV
  dsimp only [kstB] at F₃ ht₃
  refine cut_toks (fun s' => Ex3 fun h tk D4 => An6 (s' = { s with heap := h, toks := tk }) (@LT.lt Nat _ D3 D4) (@LT.lt Nat _ D1 D4) (@LT.lt Nat _ D2 D4) (News s.heap L' h [(D4, listOf #[] 0), (D3, listOf #[] 0), (D1, listOf us.toArray c1), (D2, listOf vs.toArray c2)]) (Fv s.heap L' h [("words", .ref D4), ("places", .ref D3), ("beside", .ref D2), ("below", .ref D1), ("rows", .ref lr), ("columns", .ref lc)])) ?_ ?_
  · walk_at "go"
    rename _ ∧ _ => l1
    exact ⟨rfl, _, _, _, rfl, l1.1, l1.2.1, l1.2.2, by assumption, Fv.mk (by assumption) ⟨rfl, rfl, rfl, rfl, rfl, rfl, trivial⟩⟩
  walk_at "drop"
  rintro s' ht₄ ⟨h₄, tk₄, D4, rfl, l43, l41, l42, N₄, FV⟩
  obtain ⟨m₄, F₄⟩ := FV.out; clear FV
  dsimp only [kstB] at F₄ ht₄
  refine wpAny_execs_cons ?_
  refine for_start ?_
  refine with_toks ?_
  (try k_fold)
  walk_at "go"
  rename _ ≤ _ => ht₅
  rename IsRange _ _ _ _ _ _ _ _ => hir
  rename Fr _ _ _ _ => F₅
  rename News _ _ _ _ => N₅
  have hsz : Builtin.Range.rangeSize (1 - (rs.length : Int)) ((cs.length : Int) + 1) 1 = ((rs.length + cs.length : Nat) : Int) := by
    unfold Builtin.Range.rangeSize
    rw [if_pos (by omega)]
    split <;> omega
  refine range_iter F₅ N₅ hir (small_of (by omega) (by omega) (by omega) (by omega) (by omega) (by omega)) hsz fun I h₆ hI F₆ N₆ => ?_
  have i4 : @LT.lt Nat _ D4 I := hI _ (.head _)
  have i3 : @LT.lt Nat _ D3 I := hI _ (.tail _ (.head _))
  have i1 : @LT.lt Nat _ D1 I := hI _ (.tail _ (.tail _ (.head _)))
  have i2 : @LT.lt Nat _ D2 I := hI _ (.tail _ (.tail _ (.tail _ (.head _))))
  refine for_inv (σ := Nat) (fun i => rs.length + cs.length - i) (fun i s' => Ex7 fun (g h : Heap) (tk : Nat) (ps ws : List Value) (c3 c4 : Nat) => An12 (s' = { s with heap := h, toks := tk }) (i ≤ rs.length + cs.length) (tk₄ ≤ tk) (KtsTurn (outer.filterMap (·.frame)) s.heap g) (Below (Ar none dp un gd outer) base outer g) ((Mine.hd.heap_39 w.params).In g) (Top Mine.hd.view_39 (looseW Mine.hd.view_39 []) (ExcName.means s0.heap) mg mb g) (KtsDicts (outer.filterMap (·.frame)) g) (IntsAre ps (((strandsL rs.length cs.length).take i).map (placeF (rowL rs) (rowL cs) rs.length cs.length))) (StrsAre ws (List.replicate (((strandsL rs.length cs.length).take i).countP fun x => decide (x ∉ belowL (rowL rs) (rowL cs) rs.length cs.length)) refusal)) (News g L' h [(I, rangeIt (1 - (rs.length : Int) + (i : Int)) ((rs.length + cs.length - i : Nat) : Int)), (D4, listOf ws.toArray c4), (D3, listOf ps.toArray c3), (D1, listOf us.toArray c1), (D2, listOf vs.toArray c2)]) (Fv g L' h [("words", .ref D4), ("places", .ref D3), ("beside", .ref D2), ("below", .ref D1), ("rows", .ref lr), ("columns", .ref lc)])) ?_ (c := 0) ?_
  rotate_left
  · exact ⟨s.heap, h₆, _, [], [], 0, 0, rfl, Nat.zero_le _, by (try dsimp only); omega, KtsTurn.refl, B, X, T, DD, .nil, .nil, by simpa using N₆, Fv.mk F₆ ⟨rfl, rfl, rfl, rfl, rfl, rfl, trivial⟩⟩
  walk_at "drop"
  clear hir hsz hI
  rintro i s' ⟨g, h, tkS, ps, ws, c3, c4, rfl, hi, htk, TT, B', X', T', D', hps, hws, N₁, FV⟩ IH
  obtain ⟨m₁, F₁⟩ := FV.out; clear FV
  dsimp only [kstB] at F₁
  have hlr' : g.IsList lr rv.toArray := by
    obtain ⟨o, q1, q2, n, q3⟩ := hlr
    obtain ⟨sl, q⟩ := TT.up q1
    exact ⟨_, q, q2, n, q3⟩
  have hlc' : g.IsList lc cv.toArray := by
    obtain ⟨o, q1, q2, n, q3⟩ := hlc
    obtain ⟨sl, q⟩ := TT.up q1
    exact ⟨_, q, q2, n, q3⟩
  have hne : ∀ p ∈ [(D4, listOf ws.toArray c4), (D3, listOf ps.toArray c3), (D1, listOf us.toArray c1), (D2, listOf vs.toArray c2)], p.1 ≠ I := fun p hp => by
    rcases List.mem_cons.mp hp with rfl | hp
    · exact Nat.ne_of_lt i4
    rcases List.mem_cons.mp hp with rfl | hp
    · exact Nat.ne_of_lt i3
    rcases List.mem_cons.mp hp with rfl | hp
    · exact Nat.ne_of_lt i1
    obtain rfl := List.mem_singleton.mp hp
    exact Nat.ne_of_lt i2
  by_cases hlt : i < rs.length + cs.length
  · rw [show rs.length + cs.length - i = (rs.length + cs.length - (i + 1)) + 1 by omega] at N₁
    refine range_turn F₁ N₁ hne rfl rfl (by passes_own) fun h₂ F₂ N₂ => ?_
    clear F₁ N₁
    dsimp only
    have hsl : (strandsL rs.length cs.length).length = rs.length + cs.length := by simp [strandsL]
    have hsx : (strandsL rs.length cs.length)[i]'(by omega) = 1 - (rs.length : Int) + (i : Int) := by simp [strandsL]
    have htake : (strandsL rs.length cs.length).take (i + 1) = (strandsL rs.length cs.length).take i ++ [1 - (rs.length : Int) + (i : Int)] := by
      rw [List.take_succ_eq_append_getElem (by omega), hsx]
    have hxs : 1 - (rs.length : Int) + (i : Int) ∈ strandsL rs.length cs.length := hsx ▸ List.getElem_mem _
    have hx1 : 1 - (rs.length : Int) + (i : Int) + 1 = 1 - (rs.length : Int) + ((i + 1 : Nat) : Int) := by omega
    rw [hx1] at N₂
    generalize hX : 1 - (rs.length : Int) + (i : Int) = x at F₂ hsx htake hxs hx1
    have ask : ∀ ys, TokIn 1 tk₂ ys → Askable ys x tkS := fun ys ty => ⟨by exact Nat.ne_of_gt (by omega), fun v hv => by
      obtain ⟨p, t, e1, e2, e3⟩ := ty v hv
      exact ⟨p, t, e1, by exact Nat.ne_of_gt (by omega), fun z => absurd z (by exact Nat.ne_of_lt (by omega))⟩⟩
    refine with_toks ?_
    (try k_fold)
    refine wpAny_execs_cons ?_
    refine wpAny_Try_except ?_
    walk_at "go"
    rename Fr _ _ _ _ => F₃
    rename News _ _ _ _ => N₃
    have hsz3 : ps.length ≤ sizeLine := by rw [hps.length, sizeLine_eq]; simp; omega
    have hown3 : ∀ p ∈ [(I, rangeIt (1 - (rs.length : Int) + ((i + 1 : Nat) : Int)) ((rs.length + cs.length - (i + 1) : Nat) : Int)), (D4, listOf ws.toArray c4)], p.1 ≠ D3 := by
      intro p hp
      rcases List.mem_cons.mp hp with rfl | hp
      · exact Nat.ne_of_gt i3
      obtain rfl := List.mem_singleton.mp hp
      exact Nat.ne_of_gt l43
    have hrest3 : ∀ p ∈ [(D1, listOf us.toArray c1), (D2, listOf vs.toArray c2)], p.1 ≠ D3 := by
      intro p hp
      rcases List.mem_cons.mp hp with rfl | hp
      · exact Nat.ne_of_lt l31
      obtain rfl := List.mem_singleton.mp hp
      exact Nat.ne_of_lt l32
    by_cases hxb : x ∈ belowL (rowL rs) (rowL cs) rs.length cs.length
    · refine wpAny_call (indexOf_found none w s0 mg mb D1 us _ x tkS kus.out (ask us tus) hxb (dp + 1) (un + 3) gd (_ :: outer) base _ _ (site_call B' X' T' F₃ rfl rfl) ⟨_, N₃.get (.tail _ (.tail _ (.tail _ (.head _)))), rfl, _, rfl⟩ (.inl rfl) (by omega) (by omega) fun t' h'' tk'' hk' => ?_)
      have F₄ := F₃.keeps hk'
      have N₄ := N₃.grown hk'
      clear F₃ N₃
      dsimp only
      walk_at "go"
      refine append_in (own := [_, _]) (rest := [_, _]) F₄ N₄ hown3 hrest3 (fun h₅ F₅ N₅ => ?_) hsz3
      clear F₄ N₄
      walk_at "go"
      rename _ ≤ _ => htk5
      (try dsimp only at htk5)
      (try unfold ForPost)
      dsimp only
      refine IH (i + 1) _ (by omega) ⟨g, h₅, _, ps ++ [Value.int ((belowL (rowL rs) (rowL cs) rs.length cs.length).idxOf x : Nat) t'], ws, c3 + 1, c4, rfl, hlt, by omega, TT, B', X', T', D', ?_, ?_, N₅, Fv.mk F₅ ⟨rfl, rfl, rfl, rfl, rfl, rfl, trivial⟩⟩
      · rw [htake, List.map_append, List.map_cons, List.map_nil, show placeF (rowL rs) (rowL cs) rs.length cs.length x = ((belowL (rowL rs) (rowL cs) rs.length cs.length).idxOf x : Nat) from if_pos hxb]
        exact hps.append (.cons _ _ .nil)
      · rw [htake, List.countP_append, List.countP_singleton, if_neg (by simp [hxb]), Nat.add_zero]
        exact hws
    · refine wpAny_call (indexOf_missed w s0 mg mb D1 us _ x tkS kus.out (ask us tus) hxb (dp + 1) (un + 3) gd (_ :: outer) base _ _ (site_call B' X' T' F₃ rfl rfl) ⟨_, N₃.get (.tail _ (.tail _ (.tail _ (.head _)))), rfl, _, rfl⟩ (by omega) (by omega) fun e t u' h'' tk'' hR hU hB => ?_)
      dsimp only at hR hU hB ⊢
      show wpAny _ _ (noteFrame _ _) _ _ _
      refine caught_bare (g := g) (nws := [_, _, _, _, _]) hR hB F₃ N₃ B' hU XB TB D' (by k_is) PySem.F.isExc_ValueError PySem.F.notTuple_ValueError (by kts_sub) ?_
      intro h₄ g₄ oe ot es nt T₄ F₄ N₄ hec hed he0 he2 htc htd B₄ X₄ P₄ D₄ hoff
      dsimp only
      clear F₃ N₃
      have hsz4 : ws.length ≤ sizeLine := by
        rw [hws.length, sizeLine_eq, List.length_replicate]
        have := List.countP_le_length (p := fun x => decide (x ∉ belowL (rowL rs) (rowL cs) rs.length cs.length)) (l := (strandsL rs.length cs.length).take i)
        rw [List.length_take] at this
        omega
      have hown4 : ∀ p ∈ [(e, oe), (t, ot), (I, rangeIt (1 - (rs.length : Int) + ((i + 1 : Nat) : Int)) ((rs.length + cs.length - (i + 1) : Nat) : Int))], p.1 ≠ D4 := by
        intro p hp
        have z := hoff _ (.tail _ (.head _))
        rcases List.mem_cons.mp hp with rfl | hp
        · exact Ne.symm z.1
        rcases List.mem_cons.mp hp with rfl | hp
        · exact Ne.symm z.2
        obtain rfl := List.mem_singleton.mp hp
        exact Nat.ne_of_gt i4
      have hrest4 : ∀ p ∈ [(D3, listOf ps.toArray c3), (D1, listOf us.toArray c1), (D2, listOf vs.toArray c2)], p.1 ≠ D4 := by
        intro p hp
        rcases List.mem_cons.mp hp with rfl | hp
        · exact Nat.ne_of_lt l43
        rcases List.mem_cons.mp hp with rfl | hp
        · exact Nat.ne_of_lt l41
        obtain rfl := List.mem_singleton.mp hp
        exact Nat.ne_of_lt l42
      have hlr₄ : g₄.IsList lr rv.toArray := by
        obtain ⟨o, q1, q2, n, q3⟩ := hlr'
        obtain ⟨sl, q⟩ := T₄.up q1
        exact ⟨_, q, q2, n, q3⟩
      have hlc₄ : g₄.IsList lc cv.toArray := by
        obtain ⟨o, q1, q2, n, q3⟩ := hlc'
        obtain ⟨sl, q⟩ := T₄.up q1
        exact ⟨_, q, q2, n, q3⟩
      (try k_fold)
      walk_at "go"
      refine str_got_one PySem.F.excStr_ValueError (m := refusal) (u := u') (e := e) (t := t) (fun p hp => N₄ p hp) ⟨oe, ot, es, nt, .head _, .tail _ (.head _), hec, hed, he0, htc, htd⟩ (show un + 3 + 2 < _ by omega) ?_
      walk_at "go"
      refine append_in (own := [_, _, _]) (rest := [_, _, _]) F₄ N₄ hown4 hrest4 (fun h₅ F₅ N₅ => ?_) hsz4
      clear F₄ N₄
      walk_at "go"
      rename Fr _ _ _ _ => F₆
      rename News _ _ _ _ => N₆
      refine wpAny_call (indexOf_found (some (.ref e)) w s0 mg mb D2 vs _ x tkS kvs.out (ask vs tvs) (found_beside _ _ _ _ hxs hxb) (dp + 1) (un + 3) gd (_ :: outer) base _ _ (site_call B₄ X₄ P₄ F₆ rfl rfl) ⟨_, N₆.get (.tail _ (.tail _ (.tail _ (.tail _ (.tail _ (.tail _ (.head _))))))), rfl, _, rfl⟩ (.inr ⟨e, rfl, oe, es, N₆.get (.head _), hed, he2⟩) (by omega) (by omega) fun t' h'' tk'' hk' => ?_)
      have F₇ := F₆.keeps hk'
      have N₇ := N₆.grown hk'
      clear F₆ N₆
      dsimp only
      walk_at "go"
      have hown5 : ∀ p ∈ [(e, oe), (t, ot), (I, rangeIt (1 - (rs.length : Int) + ((i + 1 : Nat) : Int)) ((rs.length + cs.length - (i + 1) : Nat) : Int)), (D4, listOf (ws ++ [Value.str refusal u']).toArray (c4 + 1))], p.1 ≠ D3 := by
        intro p hp
        have z := hoff _ (.tail _ (.tail _ (.head _)))
        rcases List.mem_cons.mp hp with rfl | hp
        · exact Ne.symm z.1
        rcases List.mem_cons.mp hp with rfl | hp
        · exact Ne.symm z.2
        rcases List.mem_cons.mp hp with rfl | hp
        · exact Nat.ne_of_gt i3
        obtain rfl := List.mem_singleton.mp hp
        exact Nat.ne_of_gt l43
      refine append_in (own := [_, _, _, _]) (rest := [_, _]) F₇ N₇ hown5 hrest3 (fun h₈ F₈ N₈ => ?_) hsz3
      clear F₇ N₇
      walk_at "go"
      rename _ ≤ _ => htk5
      (try dsimp only at htk5)
      rename Fr _ _ _ _ => F₉
      rename News _ _ _ _ => N₉
      (try unfold ForPost)
      dsimp only
      refine IH (i + 1) _ (by omega) ⟨g₄, _, _, ps ++ [Value.int ((rs.length : Int) + cs.length - 1 - ((besideL (rowL rs) (rowL cs) rs.length cs.length).idxOf x : Nat)) tk''], ws ++ [Value.str refusal u'], c3 + 1, c4 + 1, rfl, hlt, by omega, TT.trans T₄, B₄, X₄, P₄, D₄, ?_, ?_, fun p hp => N₉ p (.tail _ (.tail _ hp)), Fv.mk F₉ ⟨rfl, rfl, rfl, rfl, rfl, rfl, trivial⟩⟩
      · rw [htake, List.map_append, List.map_cons, List.map_nil, show placeF (rowL rs) (rowL cs) rs.length cs.length x = (rs.length : Int) + cs.length - 1 - ((besideL (rowL rs) (rowL cs) rs.length cs.length).idxOf x : Nat) from if_neg hxb]
        exact hps.append (.cons _ _ .nil)
      · rw [htake, List.countP_append, List.countP_singleton, if_pos (by simp [hxb]), List.replicate_succ']
        exact strs_app hws (.cons _ _ .nil)
  · have hie : i = rs.length + cs.length := by omega
    rw [hie, Nat.sub_self] at N₁
    refine range_done rfl F₁ N₁ hne (by passes_own) fun h₂ F₂ N₂ => ?_
    clear F₁ N₁
    refine wpAny_execs_nil ?_
    (try k_fold)
    walk_at "go"
    rename Fr _ _ _ _ => F₃
    rename News _ _ _ _ => N₃
    have hsl : (strandsL rs.length cs.length).length = rs.length + cs.length := by simp [strandsL]
    rw [hie, List.take_of_length_le (by omega)] at hps hws
    rw [not_found_count] at hws
    have nn : ∀ a, g.get? a = none → s.heap.get? a = none := fun a q => by
      cases z : s.heap.get? a with
      | none => rfl
      | some o => obtain ⟨sl, z'⟩ := TT.up z; rw [q] at z'; cases z'
    exact hret _ D3 D4 ps ws c3 c4 _ g _ TT F₃.keep (nn _ (N₃ _ (.head _)).2.2) (nn _ (N₃ _ (.tail _ (.tail _ (.head _)))).2.2) (nn _ (N₃ _ (.tail _ (.head _))).2.2) (N₃ _ (.head _)).1 (N₃ _ (.tail _ (.tail _ (.head _)))).1 (N₃ _ (.tail _ (.head _))).1 hps hws
end

section
section
variable {prog : Program} {w : World} {A : Around} {E : Value → Shared → Prop} {s : Shared} {g : Heap} {L : Addr} {m : Str → Option Value} {news : List (Addr × Obj)}

theorem enum_next2 {e it l : Addr} {oe oi : Obj} {i : Nat} {items : Array Value} {x : Value} {elts : List Expr} {k1 : Nat} {pos : Pos} {R : Value → Unit → Shared → Prop} (F : Fr g L s.heap m) (N : News g L s.heap ((e, oe) :: (it, oi) :: news))
    (hei : @LT.lt Nat _ it e) (hne : ∀ p ∈ news, p.1 ≠ e ∧ p.1 ≠ it) (he : EnumAt oe it i) (hi : IterAt oi l i) (hl : g.IsList l items) (hx : items[i]? = some x)
    (Q : Option Value → Shared → Prop) (hQ : ∀ v s₁, wpAny (model prog w) A (letOwnedTupleGo (.Tuple elts k1 pos) (.ref e) v) (R v) E s₁ → Q (some v) s₁)
    (h : ∀ T h' oe' oi', (∀ p ∈ (e, oe') :: (it, oi') :: news, p.1 ≠ T) → EnumAt oe' it ((i + 1 : Nat) : Int) → IterAt oi' l (i + 1) → Fr g L h' m → News g L h' ((T, tupOf [.int i s.toks, x]) :: (e, oe') :: (it, oi') :: news) → R (.ref T) () { s with heap := h', toks := s.toks + 1 }) :
    wpAny (model prog w) A (pyNext (.ref e)) Q E s := by
  obtain ⟨old, he⟩ := he
  have he' := he _ _ (N _ (List.Mem.head _)).1
  have hi0 := N (it, oi) (List.Mem.tail _ (List.Mem.head _))
  have hls : s.heap.IsList l items := hl.at fun o q => F.keep l o q
  refine wpAny_pyNext_enum_item he' ⟨oi, hi0.1, hi⟩ hls hx (Nat.ne_of_gt hei) fun h₁ ho hit hT hsz hk => ?_
  refine hQ _ _ (wpAny_letOwnedTupleGo_enum ho fun h₂ he₂ hs₂ => ?_)
  obtain ⟨oi', hoi', hia'⟩ := hit
  have hle : e < s.heap.objs.size := Heap.lt_size he'
  have hE := N _ (List.Mem.head _)
  have back : ∀ b o, b ≠ e → b ≠ it → s.heap.get? b = some o → h₂.get? b = some o := fun b o h1 h2 q => (hs₂.2 b h1).trans (hk b o h1 h2 q)
  have hg : ∀ b o, g.get? b = some o → b ≠ e ∧ b ≠ it := fun b o q => ⟨(fun z => by subst z; rw [hE.2.2] at q; cases q), (fun z => by subst z; rw [hi0.2.2] at q; cases q)⟩
  have F₂ : Fr g L h₂ m := ⟨F.ns.at' fun o q => back _ _ (Ne.symm hE.2.1) (Ne.symm hi0.2.1) q, fun b o q => back b o (hg b o q).1 (hg b o q).2 (F.keep b o q), F.above⟩
  refine h _ h₂ _ oi' (fun p hp => ?_) ⟨x, fun _ _ q => by rw [show ((i + 1 : Nat) : Int) = (i : Int) + 1 by omega]; exact q⟩ hia' F₂ fun p hp => ?_
  · rcases List.mem_cons.mp hp with rfl | hp
    · exact Nat.ne_of_lt hle
    · rcases List.mem_cons.mp hp with rfl | hp
      · exact Nat.ne_of_lt (Heap.lt_size hi0.1)
      · exact Nat.ne_of_lt (Heap.lt_size (N p (List.Mem.tail _ (List.Mem.tail _ hp))).1)
  rcases List.mem_cons.mp hp with rfl | hp
  · refine ⟨(hs₂.2 _ (Nat.ne_of_gt hle)).trans hT, fun q => ?_, ?_⟩
    · have := F.ns.lt
      rw [← q] at this
      exact absurd this (Nat.lt_irrefl _)
    · cases q : g.get? s.heap.objs.size with
      | none => rfl
      | some o => exact absurd (Heap.lt_size (F.keep _ _ q)) (Nat.lt_irrefl _)
  · rcases List.mem_cons.mp hp with rfl | hp
    · exact ⟨he₂, hE.2⟩
    · rcases List.mem_cons.mp hp with rfl | hp
      · exact ⟨(hs₂.2 it (Nat.ne_of_lt hei)).trans hoi', hi0.2⟩
      · have P := N p (List.Mem.tail _ (List.Mem.tail _ hp))
        have l1 := hne p hp
        exact ⟨back _ _ l1.1 l1.2 P.1, P.2⟩

theorem enum_stop2 {e it l : Addr} {oe oi : Obj} {i : Nat} {items : Array Value} {Q : Option Value → Shared → Prop} (hh : A.handled = none) (F : Fr g L s.heap m) (N : News g L s.heap ((e, oe) :: (it, oi) :: news))
    (hei : @LT.lt Nat _ it e) (hne : ∀ p ∈ news, p.1 ≠ e ∧ p.1 ≠ it) (he : EnumAt oe it i) (hi : IterAt oi l i) (hl : g.IsList l items) (hx : items[i]? = none)
    (h : ∀ h', Fr g L h' m → News g L h' news → Q none { s with heap := h' }) : wpAny (model prog w) A (pyNext (.ref e)) Q E s := by
  obtain ⟨old, he⟩ := he
  have he' := he _ _ (N _ (List.Mem.head _)).1
  have hi0 := N (it, oi) (List.Mem.tail _ (List.Mem.head _))
  have hls : s.heap.IsList l items := hl.at fun o q => F.keep l o q
  refine wpAny_pyNext_enum_end hh he' ⟨oi, hi0.1, hi⟩ hls hx fun h₁ hk => ?_
  refine h h₁ ⟨F.ns.at' fun o q => hk _ _ (Ne.symm hi0.2.1) q, fun b o q => hk b o (fun z => by subst z; rw [hi0.2.2] at q; cases q) (F.keep b o q), F.above⟩ fun p hp => ?_
  have P := N p (List.Mem.tail _ (List.Mem.tail _ hp))
  exact ⟨hk _ _ (hne p hp).2 P.1, P.2⟩
end

section
variable {prog : Program} {w : World} {A : Around} {E : Value → Shared → Prop} {s : Shared} {env : Env}
theorem assign_enum {elt iter : Expr} {xa xb y : Str} {pa pb tp py spos : Pos} {kt : Nat} {scope : Scope} {pos : Pos} {Q : Flow → Shared → Prop} (f : Nat → Int → Int)
    (hsw : swapsWith (.ListComp elt [⟨.Tuple [.Name xa pa, .Name xb pb] kt tp, iter, [], 0⟩] scope pos) (some (.Name y py)) spos.line env = pure true) (hy : env.kindOf y = some .local) (hp : (env.scope.kind == .class || (env.scope.kind == .module && env.locals != env.globals)) = false)
    (hh : A.handled = none) (hfree : ∀ y ∈ scope.names, y.2 ≠ .free) (hcell : ∀ y ∈ scope.names, y.2 ≠ .cell) (hkind : scope.kind = .function)
    (hnames : ∀ y ∈ scope.names, y.2 = .local → scope.names.lookup y.1 = some .local) (hxa : scope.names.lookup xa = some .local) (hxb : scope.names.lookup xb = some .local) (hab : xa ≠ xb)
    (h : wpAny (model prog w) A (eval iter env) (fun x s₁ => Ex11 fun (e it l : Addr) (oe oi : Obj) (h₀ g : Heap) (m₀ : Str → Option Value) (news : List (Addr × Obj)) (vs : List Value) (fs : List Int) => An17 (Fr h₀ env.locals g m₀) (News h₀ env.locals g news) (x = .ref e) (Kept g s₁.heap) (s₁.heap.get? e = some oe) (s₁.heap.get? it = some oi) (g.get? e = none) (g.get? it = none) (g.objs.size ≤ s₁.heap.objs.size) (@LT.lt Nat _ it e) (EnumAt oe it 0) (IterAt oi l 0) (g.IsList l vs.toArray) (IntsAre vs fs) (fs.length ≤ 1000) ((∀ (C : Addr) (i : Nat) (p : Int) (t t' : Tok) (h : Heap) (tk : Nat) (m : Str → Option Value) (E' : Value → Shared → Prop), Fr g C h m → m xa = some (.int i t) → m xb = some (.int p t') → p ∈ fs → i < fs.length →
        wpAny (model prog w) A (eval elt (compEnv scope C env)) (fun y s₃ => ∃ tk' u, y = .int (f i p) u ∧ s₃ = { s₁ with heap := h, toks := tk' }) E' { s₁ with heap := h, toks := tk })) ((∀ (D : Addr) (h' : Heap) (tk : Nat) (us : List Value) (c : Nat), Fr h₀ env.locals h' (fun z => if z = y then some (.ref D) else m₀ z) → News h₀ env.locals h' ((D, listOf us.toArray c) :: news) → IntsAre us (fs.mapIdx f) → Q .next { s₁ with heap := h', toks := tk }))) E s)
    (hs : ∀ x, foldedSetIterable iter env x = pure x := by intro _; rfl) :
    wpAny (model prog w) A (exec (.Assign [.Name y py] (.ListComp elt [⟨.Tuple [.Name xa pa, .Name xb pb] kt tp, iter, [], 0⟩] scope pos) spos) env) Q E s := by
  rw [exec_Assign_Name_used _ _ _ _ hsw]
  refine wpAny_bind (wpAny_standAt (wpAny_bind ?_))
  show wpAny _ A (do let _ ← comprehension (.ListComp elt [⟨.Tuple [.Name xa pa, .Name xb pb] kt tp, iter, [], 0⟩] scope pos) scope env _ (newList []) false (eval iter env) (some (assign (.Name y py) env))) _ _ s
  refine wpAny_bind (wpAny_mono (wpAny_comprehension_use (Q := fun _ s' => Q .next s') rfl hs hfree hkind hnames (wpAny_mono h (fun xv s₁ h₁ => ?_) fun _ _ e => e))
    (fun _ s' hq => wpAny_pure (wpAny_pure hq)) fun _ _ e => e)
  obtain ⟨e, it, l, oe, oi, h₀, g, m₀, news, vs, fs, FB, NB, rfl, hg, he, hi, he', hi', hgs, hei, hEn, hIt, hl, hvs, hlen, helt, hQ⟩ := h₁
  have hEn0 := hEn
  obtain ⟨old, hEn1⟩ := hEn
  refine wpAny_pyIter_enum (hEn1 _ _ he) (wpAny_newList (wpAny_newFunctionEnv hcell (by intro y hy; simp at hy) (fun h₁ hns₁ hsb₁ => ?_) hkind))
  dsimp only at hns₁ hsb₁ ⊢
  generalize hH1 : s₁.heap.push { cls := .type "list", data := .seq ([] : List Value).toArray } = H1 at hns₁ hsb₁ ⊢
  have hC : H1.objs.size = s₁.heap.objs.size + 1 := by rw [← hH1, Heap.size_push]
  have old1 : ∀ b o, s₁.heap.get? b = some o → h₁.get? b = some o := fun b o q => hsb₁.extBut b o (by have := Heap.lt_size q; rw [hC]; exact Nat.ne_of_lt (Nat.lt_succ_of_lt this)) (Heap.get?_push_of_some _ (hH1 ▸ Heap.get?_push_of_some _ q))
  have hDo : h₁.get? s₁.heap.objs.size = some (listOf #[] 0) := hsb₁.extBut _ _ (by rw [hC]; exact Nat.ne_of_lt (Nat.lt_succ_self _)) (Heap.get?_push_of_some _ (hH1 ▸ Heap.get?_push_size _ rfl))
  have none_of : ∀ a, g.objs.size ≤ a → g.get? a = none := fun a ha => by
    cases q : g.get? a with
    | none => rfl
    | some o => exact absurd (Heap.lt_size q) (Nat.not_lt.mpr ha)
  have hle : e < s₁.heap.objs.size := Heap.lt_size he
  have hli : it < s₁.heap.objs.size := Heap.lt_size hi
  have hCg : g.objs.size ≤ H1.objs.size := by rw [hC]; exact Nat.le_succ_of_le hgs
  generalize hCC : H1.objs.size = C at hns₁ hsb₁ hC hCg ⊢
  generalize hDD : s₁.heap.objs.size = D at hDo hle hli hC hgs ⊢
  have hDC : D ≠ C := by rw [hC]; exact Nat.ne_of_lt (Nat.lt_succ_self _)
  have F₁ : Fr g C h₁ (fun x => List.lookup x ([] : List (Str × Value)).reverse) := ⟨hns₁, fun b o q => old1 b o (hg b o q), hCg⟩
  have N₁ : News g C h₁ [(e, oe), (it, oi), (D, listOf #[] 0)] := fun p hp => by
    rcases List.mem_cons.mp hp with rfl | hp
    · exact ⟨old1 _ _ he, by rw [hC]; exact Nat.ne_of_lt (Nat.lt_succ_of_lt hle), he'⟩
    rcases List.mem_cons.mp hp with rfl | hp
    · exact ⟨old1 _ _ hi, by rw [hC]; exact Nat.ne_of_lt (Nat.lt_succ_of_lt hli), hi'⟩
    obtain rfl := List.mem_singleton.mp hp
    exact ⟨hDo, hDC, none_of _ hgs⟩
  have hvl : vs.length = fs.length := hvs.length
  have loop : ∀ s₂ : Shared, s₂ = { s₁ with heap := h₁, toks := s₁.toks + ([] : List (Str × Value)).length } →
      codeAny (model prog w) A (.compLoop (.ListComp elt [⟨.Tuple [.Name xa pa, .Name xb pb] kt tp, iter, [], 0⟩] scope pos) 0 (.ref e) (.ref D) (compEnv scope C env))
        (fun r s' => match r with
          | .ok _ => wpAny (model prog w) A (assign (.Name y py) env (.ref D)) (fun _ s'' => ∃ m, s''.heap.Ns C m ∧ ∀ h', Heap.SameBut C s''.heap h' → Q .next { s'' with heap := h' }) E s'
          | .error x => ∃ m, s'.heap.Ns C m ∧ ∀ h', Heap.SameBut C s'.heap h' → wpAny (model prog w) A (passOn "comprehension.variables-let-go" x (compEnv scope C env)) (fun (_ : Value) s' => Q .next s') E { s' with heap := h' }) s₂ := by
    rintro s₂ rfl
    refine LCp.codeAny_compLoop_pair (fun n s' => Ex8 fun (i : Nat) (h : Heap) (tk : Nat) (us : List Value) (c : Nat) (oe' oi' : Obj) (m : Str → Option Value) => An8 (s' = { s₁ with heap := h, toks := tk }) (n = vs.length + 1 - i) (i ≤ vs.length) (Fr g C h m) (News g C h [(e, oe'), (it, oi'), (D, listOf us.toArray c)]) (EnumAt oe' it (i : Int)) (IterAt oi' l i) (IntsAre us ((fs.mapIdx f).take i))) ?_ (vs.length + 1) ⟨0, h₁, _, [], 0, oe, oi, _, rfl, rfl, Nat.zero_le _, F₁, N₁, hEn0, hIt, .nil⟩
    rintro n s' ⟨i, h, tk, us, c, oe', oi', m, rfl, rfl, hi1, F, N, hE', hI', hus⟩
    have hne : ∀ p ∈ [(D, listOf us.toArray c)], p.1 ≠ e ∧ p.1 ≠ it := fun p hp => by
      obtain rfl := List.mem_singleton.mp hp
      exact ⟨Nat.ne_of_gt hle, Nat.ne_of_gt hli⟩
    by_cases hlt : i < vs.length
    · have hx0 : vs[i]? = some vs[i] := List.getElem?_eq_getElem hlt
      obtain ⟨n0, t', hv', hn'⟩ := hvs.at i _ hx0
      rw [hv'] at hx0
      have hmem : n0 ∈ fs := List.mem_of_getElem? hn'
      refine enum_next2 F N hei hne hE' hI' hl (x := .int n0 t') (by simpa using hx0) _ (fun _ _ q => q) fun T h' oe'' oi'' hT hE2 hI2 F' N' => ?_
      dsimp only
      refine unpack_any F' N' (.inl hh) (N'.isTup (.head _)) rfl rfl fun h₃ F₃ N₃ => ?_
      dsimp only
      refine assignInOrder_cons ?_
      refine store_loc (env := compEnv scope C env) F₃ N₃ hxa hkind fun h₄ F₄ N₄ => ?_
      refine assignInOrder_cons ?_
      refine store_loc (env := compEnv scope C env) F₄ N₄ hxb hkind fun h₅ F₅ N₅ => ?_
      refine wpAny_assignInOrder_none ?_
      refine wpAny_mono (helt C i n0 tk t' h₅ _ _ _ F₅ (by rw [if_neg hab, if_pos rfl]) (if_pos rfl) hmem (by omega)) (fun y s₃ h₃' => ?_) (fun _ _ e => e)
      obtain ⟨tk', u, rfl, rfl⟩ := h₃'
      have hul : us.length = i := by
        rw [hus.length, List.length_take, List.length_mapIdx]
        omega
      refine append_in (own := [_, _, _]) (rest := []) F₅ N₅ (fun p hp => ?_) (fun _ h => nomatch h) (fun h₆ F₆ N₆ => ?_) (by rw [hul, sizeLine_eq]; omega)
      · rcases List.mem_cons.mp hp with rfl | hp
        · exact Ne.symm (hT _ (.tail _ (.tail _ (.head _))))
        rcases List.mem_cons.mp hp with rfl | hp
        · exact Nat.ne_of_lt hle
        obtain rfl := List.mem_singleton.mp hp
        exact Nat.ne_of_lt hli
      refine ⟨vs.length + 1 - (i + 1), by omega, i + 1, h₆, _, us ++ [Value.int (f i n0) u], c + 1, oe'', oi'', _, rfl, rfl, hlt, F₆, fun p hp => N₆ p (.tail _ hp), hE2, hI2, ?_⟩
      rw [List.take_add_one, List.getElem?_mapIdx, hn']
      exact hus.append (.cons _ _ .nil)
    · refine enum_stop2 hh F N hei hne hE' hI' hl (by simpa using (by omega : vs.length ≤ i)) fun h' F' N' => ?_
      have hie : i = vs.length := by omega
      rw [List.take_of_length_le (by simp; omega)] at hus
      have FL : Fr h₀ env.locals h' m₀ := FB.keeps F'.keep
      have hLC : env.locals ≠ C := Nat.ne_of_lt (Nat.lt_of_lt_of_le FB.ns.lt hCg)
      have hLD : D ≠ env.locals := fun z => by
        have := none_of _ hgs
        obtain ⟨o', _, _, q, _⟩ := FB.ns
        rw [z, q] at this
        cases this
      refine wpAny_assign_Name (wpAny_storeName_local hy FL.ns (fun h₂ hn₂ hs₂ => ?_) hp)
      have F₂ : Fr h₀ env.locals h₂ (fun z => if z = y then some (.ref D) else m₀ z) := FL.set hn₂ hs₂
      refine ⟨_, F'.ns.sameBut hs₂ (Ne.symm hLC), fun h'' hs'' => ?_⟩
      have hh0C : ∀ b o, h₀.get? b = some o → b ≠ C := fun b o q => Nat.ne_of_lt (Nat.lt_of_lt_of_le (Heap.lt_size (FB.keep b o q)) hCg)
      refine hQ D h'' _ us c ⟨F₂.ns.sameBut hs'' hLC, fun b o q => hs''.extBut b o (hh0C b o q) (F₂.keep b o q), FB.above⟩ (fun p hp => ?_) hus
      rcases List.mem_cons.mp hp with rfl | hp
      · refine ⟨hs''.extBut _ _ hDC (hs₂.extBut _ _ hLD (N' _ (.head _)).1), hLD, ?_⟩
        cases q : h₀.get? D with
        | none => rfl
        | some o => have := FB.keep _ _ q; rw [none_of _ hgs] at this; cases this
      · have P := NB p hp
        have hpC : p.1 ≠ C := Nat.ne_of_lt (Nat.lt_of_lt_of_le (Heap.lt_size P.1) hCg)
        exact ⟨hs''.extBut _ _ hpC (hs₂.extBut _ _ P.2.1 (F'.keep _ _ P.1)), P.2⟩
  exact codeAny_compStart_list (loop _ rfl) (wpAny_pyIter_enum (hEn1 _ _ (old1 _ _ he)) (loop _ rfl))
end
end

section
/-- the sign of a figure -/
def chr (p : Int) : Nat := if p = 0 then 97 else if p = 1 then 65 else if p = 2 then 98 else 66
def drawnL (ns : List Int) : List Int := (ns.take 7).map (fun x => x.fmod 4) ++ List.replicate (5 - ns.length) 0
def figsL (ns : List Int) : List Int := (drawnL ns).mapIdx fun k x => (x + ((k : Int) * ((k : Int) + 1)).fdiv 2).fmod 4
theorem drawnL_length (ns : List Int) : 5 ≤ (drawnL ns).length ∧ (drawnL ns).length ≤ 7 := by
  unfold drawnL
  simp only [List.length_append, List.length_map, List.length_take, List.length_replicate]
  omega
theorem drawnL_fig (ns : List Int) : ∀ x ∈ drawnL ns, 0 ≤ x ∧ x < 4 := by
  intro x hx
  unfold drawnL at hx
  rcases List.mem_append.mp hx with hx | hx
  · obtain ⟨y, _, rfl⟩ := List.mem_map.mp hx
    exact ⟨Int.fmod_nonneg_of_pos _ (by decide), Int.fmod_lt_of_pos _ (by decide)⟩
  · rw [(List.mem_replicate.mp hx).2]; decide
theorem figsL_length (ns : List Int) : 5 ≤ (figsL ns).length ∧ (figsL ns).length ≤ 7 := by
  unfold figsL
  rw [List.length_mapIdx]
  exact drawnL_length ns
theorem figsL_fig (ns : List Int) : ∀ x ∈ figsL ns, 0 ≤ x ∧ x < 4 := by
  intro x hx
  unfold figsL at hx
  obtain ⟨i, h, rfl⟩ := List.mem_mapIdx.mp hx
  exact ⟨Int.fmod_nonneg_of_pos _ (by decide), Int.fmod_lt_of_pos _ (by decide)⟩

/-- every second figure, from k on -/
def pick (k : Int) (fg : List Int) : List Int :=
  (sliceRange (sliceBounds (some k) none (some 2) fg.length).1 (sliceBounds (some k) none (some 2) fg.length).2.1 (sliceBounds (some k) none (some 2) fg.length).2.2).filterMap (fg[·]?)
theorem pick_mem {k : Int} {fg : List Int} : ∀ x ∈ pick k fg, x ∈ fg := fun x hx => by
  obtain ⟨i, _, h⟩ := List.mem_filterMap.mp hx
  exact List.mem_of_getElem? h
theorem ints_filterMap {vs : List Value} {fs : List Int} (h : IntsAre vs fs) : ∀ idx : List Nat, IntsAre (idx.filterMap (vs[·]?)) (idx.filterMap (fs[·]?))
  | [] => .nil
  | i :: r => by
    rw [List.filterMap_cons, List.filterMap_cons]
    cases e : fs[i]? with
    | some x =>
      have hi : i < fs.length := by
        by_cases q : i < fs.length
        · exact q
        · rw [List.getElem?_eq_none (by omega)] at e; cases e
      obtain ⟨t, ht⟩ := h.get i x (by rw [e])
      rw [ht]
      exact .cons _ _ (ints_filterMap h r)
    | none =>
      have : fs.length ≤ i := List.getElem?_eq_none_iff.mp e
      rw [List.getElem?_eq_none (by rw [h.length]; exact this)]
      exact ints_filterMap h r
theorem pick_ints {k : Int} {vs : List Value} {fg : List Int} (h : IntsAre vs fg) : IntsAre (slicePick vs.toArray (some k) none (some 2)).toList (pick k fg) := by
  unfold slicePick pick
  rw [show vs.toArray.size = fg.length from h.length]
  simpa using ints_filterMap h _
theorem pick_length (k : Int) (fg : List Int) : (pick k fg).length ≤ fg.length := by
  have h := slicePick_size_le (fg.map fun x => Value.int x 0).toArray (some k) none (some 2)
  have hI : IntsAre (fg.map fun x => Value.int x 0) fg := by
    induction fg with
    | nil => exact .nil
    | cons x r ih => exact .cons _ _ (ih (slicePick_size_le _ _ _ _))
  have := (pick_ints (k := k) hI).length
  rw [← this, Array.length_toList]
  simpa using h

theorem chr_ne {p q : Int} (hp : fig4 p) (hq : fig4 q) : (chr p = chr q) ↔ p = q := by
  unfold fig4 at hp hq
  unfold chr
  constructor
  · intro h
    by_cases a : p = 0 <;> by_cases b : p = 1 <;> by_cases c : p = 2 <;> by_cases a' : q = 0 <;> by_cases b' : q = 1 <;> by_cases c' : q = 2 <;> simp_all <;> omega
  · rintro rfl; rfl
theorem cS_chr {p q : Int} (hp : fig4 p) (hq : fig4 q) : cS (chr p) (chr q) = cost p q := by
  have all : ∀ a b : Fin 4, cS (chr (a.val : Int)) (chr (b.val : Int)) = cost (a.val : Int) (b.val : Int) := by decide +kernel
  obtain ⟨h0, h1⟩ := hp
  obtain ⟨g0, g1⟩ := hq
  have := all ⟨p.toNat, by omega⟩ ⟨q.toNat, by omega⟩
  simp only [] at this
  rw [show ((p.toNat : Nat) : Int) = p by omega, show ((q.toNat : Nat) : Int) = q by omega] at this
  exact this
theorem wf_chr : ∀ (n : Nat) (a b : List Int), a.length + b.length = n → (∀ x ∈ a, fig4 x) → (∀ x ∈ b, fig4 x) → wf cS (a.map chr) (b.map chr) = wf cost a b := by
  intro n
  induction n using Nat.strongRecOn with
  | ind n ih =>
    intro a b hn ha hb
    cases a with
    | nil => rw [List.map_nil, wf_nil_left, wf_nil_left, List.length_map]
    | cons x a =>
      cases b with
      | nil => rw [List.map_nil, wf_nil_right, wf_nil_right, List.length_map]
      | cons y b =>
        simp only [List.length_cons] at hn
        rw [List.map_cons, List.map_cons, wf_cons, wf_cons, cS_chr (ha x (.head _)) (hb y (.head _))]
        have ha' : ∀ z ∈ a, fig4 z := fun z hz => ha z (.tail _ hz)
        have hb' : ∀ z ∈ b, fig4 z := fun z hz => hb z (.tail _ hz)
        rw [ih _ (by omega) a b rfl ha' hb', ← List.map_cons, ih _ (by simp only [List.length_cons]; omega) a (y :: b) rfl ha' hb, ← List.map_cons, ih _ (by simp only [List.length_cons]; omega) (x :: a) b rfl ha hb']

theorem linesL_length (fs : List Int) : (linesL fs).length = 4 * fs.length := by
  induction fs with
  | nil => rfl
  | cons x r ih => rw [linesL, List.flatMap_cons, List.length_append, List.length_cons]; unfold linesL at ih; rw [ih]; simp only [List.length_cons, List.length_nil]; omega
theorem linesL_at : ∀ (fs : List Int) (r : Nat), r < 4 * fs.length → (linesL fs).getD r 0 = rowOf (fun a => fs.getD a 0) r
  | [], r, h => absurd h (Nat.not_lt_zero _)
  | f :: fs, r, h => by
    have e : linesL (f :: fs) = [0, 1, 2 + f.fdiv 2, 4 + f] ++ linesL fs := by rw [linesL, List.flatMap_cons]; rfl
    rw [e]
    by_cases hr : r < 4
    · rw [show r = 4 * 0 + r by omega, rowOf_at _ 0 r hr]
      match r, hr with
      | 0, _ => rfl
      | 1, _ => rfl
      | 2, _ => rfl
      | 3, _ => rfl
    · have hl := linesL_at fs (r - 4) (by simp only [List.length_cons] at h; omega)
      have h1 : ([0, 1, 2 + f.fdiv 2, 4 + f] ++ linesL fs).getD r 0 = (linesL fs).getD (r - 4) 0 := by
        rw [List.getD_eq_getElem?_getD, List.getD_eq_getElem?_getD, List.getElem?_append_right (by simp; omega)]
        rfl
      rw [h1, hl]
      unfold rowOf
      rw [show r / 4 = (r - 4) / 4 + 1 by omega, show r % 4 = (r - 4) % 4 by omega]
      rfl
theorem placesL_congr {row col row' col' : Nat → Int} {R C : Nat} (hr : ∀ r, r < R → row r = row' r) (hc : ∀ c, c < C → col c = col' c) : placesL row col R C = placesL row' col' R C := by
  have e1 : belowL row col R C = belowL row' col' R C := List.map_congr_left fun c h => (grid_congr row col hr hc R (Nat.le_refl _)).1 c (List.mem_range.mp h)
  have e2 : besideL row col R C = besideL row' col' R C := List.map_congr_left fun r h => (grid_congr row col hr hc r (Nat.le_of_lt (List.mem_range.mp h))).2 (List.mem_range.mp h) C (Nat.le_refl _)
  unfold placesL
  refine List.map_congr_left fun x _ => ?_
  unfold placeF
  rw [e1, e2]
theorem run_map (l : List Int) (a b : Nat) (h : a + b ≤ l.length) : (l.drop a).take b = (List.range b).map fun k => l.getD (a + k) 0 := by
  refine List.ext_getElem (by rw [List.length_take, List.length_drop, List.length_map, List.length_range]; omega) fun i h1 h2 => ?_
  rw [List.length_map, List.length_range] at h2
  rw [List.getElem_take, List.getElem_drop, List.getElem_map, List.getElem_range, List.getD_eq_getElem?_getD, List.getElem?_eq_getElem (by omega)]
  rfl
theorem run_le (l : List Int) (a b : Nat) : ((l.drop a).take b).length ≤ l.length := by
  rw [List.length_take, List.length_drop]; omega
theorem run_len (l : List Int) (a b : Nat) (h : a + b ≤ l.length) : ((l.drop a).take b).length = b := by
  rw [List.length_take, List.length_drop]; omega
/-- what the law calls due, of the lists -/
theorem due_lists (fw ft : List Int) (hw : ∀ x ∈ fw, 0 ≤ x ∧ x < 4) (ht : ∀ x ∈ ft, 0 ≤ x ∧ x < 4) (i j : Int) (hi0 : -(fw.length : Int) ≤ i) (hi1 : i ≤ ft.length) (hij : i ≤ j) (hj0 : 0 ≤ j) (hj1 : j ≤ (fw.length : Int) + ft.length) (hj2 : j ≤ (fw.length : Int) + ft.length + i) (k : Nat) (hk : (k : Int) = i + fw.length) (pc st : List Int)
    (hpc : pc = (fw.drop (-i).toNat).take (fw.length - (j - ft.length).toNat - (-i).toNat)) (hst : st = (ft.drop i.toNat).take ((min j ft.length).toNat - i.toNat)) :
    wf cost pc st = 2 * ((pc.length : Int) - (st.length : Int)) +
        ((((placesL (rowL (linesL fw)) (rowL (linesL ft)) (4 * fw.length) (4 * ft.length)).drop (4 * k)).map fun p => decide (p < 4 * j)).count true : Nat) := by
  have fig : ∀ l : List Int, (∀ x ∈ l, 0 ≤ x ∧ x < 4) → ∀ a, fig4 (l.getD a 0) := fun l hl a => by
    rw [List.getD_eq_getElem?_getD]
    cases e : l[a]? with
    | none => exact ⟨by decide, by decide⟩
    | some x => exact hl x (List.mem_of_getElem? e)
  have q := due_law (fun a => fw.getD a 0) (fun a => ft.getD a 0) (fig fw hw) (fig ft ht) fw.length ft.length i j hi0 hi1 hij hj0 hj1 hj2
  have b1 : (-i).toNat + (fw.length - (j - ft.length).toNat - (-i).toNat) ≤ fw.length := by omega
  have b2 : i.toNat + ((min j ft.length).toNat - i.toNat) ≤ ft.length := by omega
  have e4 : (4 * (i + (fw.length : Int))).toNat = 4 * k := by omega
  clear hi0 hi1 hij hj0 hj1 hj2 hk
  have e1 : pc.length = fw.length - (j - ft.length).toNat - (-i).toNat := by rw [hpc, run_len _ _ _ b1]
  have e2 : st.length = (min j ft.length).toNat - i.toNat := by rw [hst, run_len _ _ _ b2]
  rw [e1, e2, hpc, hst, run_map fw _ _ b1, run_map ft _ _ b2, q, e4]
  rw [placesL_congr (row := rowL (linesL fw)) (col := rowL (linesL ft)) (fun r hr => linesL_at fw r hr) (fun c hc => linesL_at ft c hc)]
theorem if_max (x : Int) : (if (0 : Int) > x then (0 : Int) else x) = ((x.toNat : Nat) : Int) := by split <;> omega
theorem cut_hi (m : Nat) (x : Int) (h : x.toNat ≤ m) : ((m : Int) - if (0 : Int) > x then (0 : Int) else x) = ((m - x.toNat : Nat) : Int) := by rw [if_max]; omega
theorem cut_lo (n : Nat) (j : Int) (h : 0 ≤ j) : (if (n : Int) < j then (n : Int) else j) = (((min j (n : Int)).toNat : Nat) : Int) := by split <;> omega
theorem if_min (a c : Int) : (if c < a then c else a) = min a c := by split <;> omega
theorem min_ifs {a b c : Int} (h : min a c = min b c) : ¬ ((if c < a then c else a) ≠ if c < b then c else b) := fun z => z (by rw [if_min, if_min, h])
theorem outer_facts {m n : Nat} (hm : m ≤ 7) (hn : n ≤ 7) : Builtin.Range.rangeSize (-(m : Int)) ((n : Int) + 1) 1 = ((m + n + 1 : Nat) : Int) ∧ Builtin.Range.small (-(m : Int)) ((n : Int) + 1) 1 = true :=
  ⟨size_one (by omega), small_of (by omega) (by omega) (by omega) (by omega) (by omega) (by omega)⟩
theorem inner_facts {m n k : Nat} {iv ja jb : Int} (hm : m ≤ 7) (hn : n ≤ 7) (hiv : iv = -(m : Int) + (k : Int)) (hk : k < m + n + 1) (hja : ja = if (0 : Int) > iv then (0 : Int) else iv) (hjb : jb = ((m : Int) + (n : Int) + if (0 : Int) < iv then (0 : Int) else iv) + 1) :
    ∃ c0 : Nat, (c0 : Int) = jb - ja ∧ Builtin.Range.small ja jb 1 = true ∧ 0 ≤ ja ∧ iv ≤ ja ∧ jb ≤ (m : Int) + n + 1 ∧ jb ≤ (m : Int) + n + iv + 1 ∧ -(m : Int) ≤ iv ∧ iv ≤ n ∧ (k : Int) = iv + m := by
  have h1 : 0 ≤ ja ∧ iv ≤ ja ∧ ja ≤ n := by rw [hja]; split <;> omega
  have h2 : jb ≤ (m : Int) + n + 1 ∧ jb ≤ (m : Int) + n + iv + 1 ∧ 0 ≤ jb - ja := by rw [hjb, hja]; split <;> split <;> omega
  clear hja hjb
  exact ⟨(jb - ja).toNat, by omega, small_of (by omega) (by omega) (by omega) (by omega) (by omega) (by omega), h1.1, h1.2.1, h2.1, h2.2.1, by omega, by omega, by omega⟩
theorem turn_facts {m n c0 k2 : Nat} {iv ja jb jv : Int} (hc0 : (c0 : Int) = jb - ja) (h1 : 0 ≤ ja) (h2 : iv ≤ ja) (h3 : jb ≤ (m : Int) + n + 1) (h4 : jb ≤ (m : Int) + n + iv + 1) (h5 : iv ≤ n) (h6 : -(m : Int) ≤ iv) (hjv : jv = ja + (k2 : Int)) (hlt : k2 < c0) :
    iv ≤ jv ∧ 0 ≤ jv ∧ jv ≤ (m : Int) + n ∧ jv ≤ (m : Int) + n + iv ∧ (-iv).toNat ≤ m - (jv - n).toNat ∧ (jv - n).toNat ≤ m ∧ iv.toNat ≤ (min jv n).toNat ∧ (min jv n).toNat ≤ n ∧ ja + ((k2 + 1 : Nat) : Int) = jv + 1 := by
  have g : iv ≤ jv ∧ 0 ≤ jv ∧ jv ≤ (m : Int) + n ∧ jv ≤ (m : Int) + n + iv ∧ ja + ((k2 + 1 : Nat) : Int) = jv + 1 := by omega
  obtain ⟨g1, g2, g3, g4, g5⟩ := g
  clear hc0 h1 h2 h3 h4 hjv hlt
  exact ⟨g1, g2, g3, g4, by omega, by omega, by omega, by omega, g5⟩
theorem beyond_facts {m k : Nat} {iv : Int} (hiv : iv = -(m : Int) + (k : Int)) : 0 ≤ 4 * (iv + (m : Int)) ∧ (4 * (iv + (m : Int))).toNat = 4 * k := by omega
theorem count_bound (pl : List Int) (h : pl.length ≤ 56) (k : Nat) (x : Int) : ((pl.drop k).map fun p => decide (p < x)).count true ≤ 56 := by
  have := List.count_le_length (a := true) (l := (pl.drop k).map fun p => decide (p < x))
  rw [List.length_map, List.length_drop] at this
  omega
theorem due_bound {a b c : Nat} (ha : a ≤ 7) (hb : b ≤ 7) (hc : c ≤ 56) : -20 ≤ 2 * ((a : Int) - (b : Int)) + (c : Int) ∧ 2 * ((a : Int) - (b : Int)) + (c : Int) ≤ 80 := by omega
theorem bnd_bound {d : Int} (h : -20 ≤ d ∧ d ≤ 80) (x : Int) : -100 ≤ d + x.fmod 3 - 1 ∧ d + x.fmod 3 - 1 ≤ 100 := by
  have z0 := Int.fmod_nonneg_of_pos x (show (0 : Int) < 3 by decide)
  have z1 := Int.fmod_lt_of_pos x (show (0 : Int) < 3 by decide)
  omega
theorem join_fold : ∀ (r : List Nat) (acc : Array Nat), (r.map fun c => Mine.S [c]).foldl (fun acc p => acc ++ (#[] : Array Nat) ++ p.cps) acc = acc ++ r.toArray
  | [], acc => by simp
  | c :: r, acc => by
    rw [List.map_cons, List.foldl_cons, join_fold r]
    simp
theorem join_signs : ∀ cs : List Nat, Txt.join ⟨#[]⟩ (cs.map fun c => Mine.S [c]) = Mine.S cs
  | [] => rfl
  | c :: r => by
    show (⟨((r.map fun c => Mine.S [c])).foldl (fun acc p => acc ++ (#[] : Array Nat) ++ p.cps) #[c]⟩ : Str) = Mine.S (c :: r)
    rw [join_fold]
    simp [Mine.S]
end

section
local macro_rules | `(tactic| walk_at "go1") => `(tactic| ((fail_if_success (with_reducible show wpAny _ _ (exec (Stmt.For _ _ _ _ _) _) _ _ _)); (fail_if_success (with_reducible show wpAny _ _ (pyIter _) _ _ _)); (fail_if_success (with_reducible show wpAny _ _ (call (Value.ref _) _ _) _ _ _)); (fail_if_success (with_reducible show wpAny _ _ (assign (Expr.Tuple _ _ _) _ _) _ _ _)); (first | (k_unfold; (try dsimp only)) | walk1 | (dsimp only; walk1))))
local macro_rules | `(tactic| walk_at "goX") => `(tactic| repeat' ((fail_if_success (with_reducible show wpAny _ _ (eval (Expr.ListComp _ _ _ _) _) _ _ _)); (fail_if_success (with_reducible show wpAny _ _ (call (Value.type "enumerate") _ _) _ _ _)); (fail_if_success (with_reducible show wpAny _ _ (call (Value.builtin "len") _ _) _ _ _)); (fail_if_success (with_reducible show wpAny _ _ (call (Value.builtin "str.join") _ _) _ _ _)); (fail_if_success (with_reducible show wpAny _ _ (compareOp _ _ _) _ _ _)); (fail_if_success (with_reducible show wpAny _ _ (subscriptTail _ _ _ _) _ _ _)); (walk_at "go1")))
theorem fillK_law : PySem.Challenge.rw_pg0086_01 = PySem.Challenge.rw_pg0086_01 ∧ Mine.hd.heap_39 = Mine.hd.heap_39 := by k_fill; exact ⟨rfl, rfl⟩

section
variable {w : World} {s0 : Shared} {mg mb : Str → Option Value} {A : Around} {base : Heap} {outer : List Env} {s : Shared} {R : Result → Shared → Prop}
  {name qual : Str} {params : Arguments} {body : List Stmt} {scope : Scope} {dV kV doc pm cdv ct oc : Value} {an od : Option Addr} {osl : Array (Option Value)} {f : Addr} {args : List Value} {binds : List (Str × Value)} {x : Str}
/-- a call of a def with one captured local is entered -/
theorem enterC (S : Site w s0 mg mb A base outer s.heap)
    (ho : (Mine.hd.heap_39 w.params).lookup f = some ⟨oc, od, .func (fnOf name qual params body scope dV kV doc pm an cdv ct), osl⟩) (hcd : codeIn (Mine.hd.heap_39 w.params) cdv qual = true) (hroom : A.depth < recursionLimit)
    (hbind : bindArgs (fnOf name qual params body scope dV kV doc pm an cdv ct) ⟨args, []⟩ = pure binds) (hloc : ∀ y ∈ binds, scope.names.lookup y.1 = some .local)
    (hco : scope.isCoroutine = false) (hgen : scope.isGenerator = false) (hk : scope.kind = .function)
    (hcs : ∀ n, cellsFrom (n + 1) scope.names [] = [(x, n + 1)])
    (h : ∀ L' h₁ tk o, Fr s.heap L' h₁ (bindL (envOfC qual scope L' f cdv).kindOf binds fun _ => none) → News s.heap L' h₁ [(L' + 1, o)] → o.data = .cell (bindC (envOfC qual scope L' f cdv).kindOf binds (fun _ => none) x) →
      wpAny (model Prg w) (A.deeper (envOfC qual scope L' f cdv)) (execs body (envOfC qual scope L' f cdv))
        (fun fl s' => R (.ok (.ret (match fl with | .ret v => v | _ => .none))) s') (fun _ _ => False)
        { s with heap := h₁, toks := tk }) :
    codeAny (model Prg w) A (.call (.ref f) ⟨args, []⟩) R s := by
  refine codeAny_call_cells (fd := fnOf name qual params body scope dV kV doc pm an cdv ct) hroom (S.X _ _ ho) rfl S.T.nolimit (codeRec_of S.X hcd) rfl hbind rfl (fun y hy => .inl (hloc y hy)) (fun s₁ X => ?_) hco hgen hk
  obtain ⟨h₁, tk, rfl, _⟩ := X.done
  have CL : Cl s.heap.objs.size (cellsFrom (s.heap.objs.size + 1) scope.names []) h₁ (bindC (envOfC qual scope s.heap.objs.size f cdv).kindOf binds fun _ => none) := ⟨X.cell, X.apart, X.above⟩
  obtain ⟨o, ho', hd'⟩ := CL.cell x (s.heap.objs.size + 1) (by rw [hcs]; simp)
  refine wpAny_mono (h s.heap.objs.size h₁ tk o ⟨X.toInCall.ns, X.toInCall.keep, X.toInCall.fresh⟩ (fun p hp => ?_) hd') (fun _ _ x => x) (fun _ _ x => x.elim)
  obtain rfl := List.mem_singleton.mp hp
  refine ⟨ho', Nat.ne_of_gt (Nat.lt_succ_self _), ?_⟩
  cases q : s.heap.get? (s.heap.objs.size + 1) with
  | none => rfl
  | some o => exact absurd (Heap.lt_size q) (Nat.not_lt.mpr (Nat.le_succ _))
end

theorem fr_turned {g h g' h' : Heap} {L : Addr} {m : Str → Option Value} (F : Fr g L h m) (T : KtsTurn [L] h g') (k : Kept g' h') : Fr g L h' m := by
  obtain ⟨o, es, ep, ho, hd, hk, hf⟩ := F.ns
  obtain ⟨sl, ho'⟩ := T.frame _ _ ho (.head _)
  refine ⟨⟨_, es, ep, k _ _ ho', hd, hk, hf⟩, fun b o q => k _ _ (T.other _ _ (F.keep b o q) fun z => ?_), F.above⟩
  rw [List.mem_singleton.mp z] at q
  exact absurd (Heap.lt_size q) (Nat.not_lt.mpr F.above)
theorem news_turned {g h g' h' : Heap} {L : Addr} {news : List (Addr × Obj)} (N : News g L h news) (T : KtsTurn [L] h g') (k : Kept g' h') : News g L h' news := fun p hp => by
  have P := N p hp
  exact ⟨k _ _ (T.other _ _ P.1 fun z => P.2.1 (List.mem_singleton.mp z)), P.2⟩
theorem dicts_one {g h : Heap} {L : Addr} {m : Str → Option Value} (F : Fr g L h m) : KtsDicts [L] h := fun b hb => by
  obtain rfl := List.mem_singleton.mp hb
  obtain ⟨o, es, ep, ho, hd, hk, hf⟩ := F.ns
  exact ⟨o, es, ep, ho, hd⟩
theorem sum_ones : ∀ cs : List Nat, ((cs.map fun c => Mine.S [c]).map (·.length)).sum = cs.length
  | [] => rfl
  | c :: r => by
    rw [List.map_cons, List.map_cons, List.sum_cons, sum_ones r, List.length_cons, show (Mine.S [c]).length = 1 from rfl]
    omega
/-- a place and whether it lies ahead of x -/
def AheadOf (x : Int) (v y : Value) : Prop := ∃ p t, v = .int p t ∧ y = .bool (decide (p < x))
theorem aheads_of {x : Int} {vs ys : List Value} {fs : List Int} (h : Paired (AheadOf x) vs ys) (hi : IntsAre vs fs) : ys = (fs.map fun p => decide (p < x)).map Value.bool := by
  induction h generalizing fs with
  | nil => cases hi; rfl
  | cons a _ ih =>
    obtain ⟨p, t, e1, rfl⟩ := a
    cases hi with
    | cons x t' r =>
      cases e1
      rw [ih r]
      rfl
/-- a figure and its sign -/
def SignOf (v y : Value) : Prop := ∃ p t u, v = .int p t ∧ y = .str (Mine.S [chr p]) u
theorem signs_of {vs ys : List Value} {fs : List Int} (h : Paired SignOf vs ys) (hi : IntsAre vs fs) : StrsAre ys (fs.map fun p => Mine.S [chr p]) := by
  induction h generalizing fs with
  | nil => cases hi; exact .nil
  | cons a _ ih =>
    obtain ⟨p, t, u, e1, rfl⟩ := a
    cases hi with
    | cons x t' r =>
      cases e1
      exact .cons _ _ (ih r)
theorem ints_mem {vs : List Value} {fs : List Int} (h : IntsAre vs fs) : ∀ v ∈ vs, ∃ p t, v = .int p t ∧ p ∈ fs := by
  induction h with
  | nil => exact fun _ q => nomatch q
  | cons x t r ih =>
    intro v hv
    rcases List.mem_cons.mp hv with rfl | hv
    · exact ⟨_, _, rfl, .head _⟩
    · obtain ⟨p, u, e, hp⟩ := ih v hv
      exact ⟨p, u, e, .tail _ hp⟩
set_option maxRecDepth 100000 in
set_option maxHeartbeats 4000000 in
theorem law_c (w : World) (s0' : Shared) (mg mb : Str → Option Value) (l : Addr) (vs : List Value) (ns : List Int) (hi : IntsAre vs ns) (hlen : ns.length ≤ 63)
    (s : Shared) (R : Result → Shared → Prop) (S : Site w s0' mg mb callerA s.heap [] s.heap) (hl : s.heap.IsList l vs.toArray)
    (hret : ∀ h' tk', Kept s.heap h' → R (.ok (.ret (.bool true))) { s with heap := h', toks := tk' }) :
    codeAny (model Prg w) callerA (.call (.ref 68) ⟨[.ref l], []⟩) R s := by
  have X := S.X
  have T := S.T
  have B := S.B
  refine enterC S (by k_is) (by k_is) (by decide) (binds := [("script", .ref l)]) rfl (locs rfl) rfl rfl rfl (x := "j") (fun n => rfl) fun L' h₁ tk oc F N hoc => ?_
  k_fold
  have F0 : Fr s.heap L' h₁ (kstB (fun _ => none) [("script", .ref l)]) := F
  clear F
  have hc0 : oc.data = .cell none := hoc
  clear hoc
  dsimp only [kstB] at F0
  refine cut_toks (fun s' => Ex5 fun h tk D c us => An4 (s' = { s with heap := h, toks := tk }) (IntsAre us (drawnL ns)) (News s.heap L' h [(D, listOf us.toArray c), (L' + 1, oc)]) (Fv s.heap L' h [("drawn", .ref D)])) ?_ ?_
  · (try k_fold)
    walk_at "go"
    have e : (List.replicate (5 - (ns.length : Int)).toNat [(0 : Int)]).flatten = List.replicate (5 - ns.length) 0 := by
      rw [List.flatten_replicate_singleton, show (5 - (ns.length : Int)).toNat = 5 - ns.length by omega]
    with_reducible rename IntsAre _ (_ ++ _) => hus
    rename News _ _ _ _ => N₁
    rw [e] at hus
    rename Fr _ _ _ _ => F₁
    refine ⟨rfl, _, _, _, 0, _, rfl, hus, ?_, Fv.mk F₁ ⟨rfl, trivial⟩⟩
    intro p hp
    rcases List.mem_cons.mp hp with rfl | hp
    · exact N₁ _ (.head _)
    obtain rfl := List.mem_singleton.mp hp
    exact N₁ _ (.tail _ (.tail _ (.tail _ (.tail _ (.tail _ (.head _))))))
  walk_at "drop"
  rintro s' ht ⟨h₂, tk₂, D1, c1, us, rfl, hus, N₂, FV⟩
  obtain ⟨m₂, F₂⟩ := FV.out; clear FV
  dsimp only [kstB] at F₂ ht
  (try k_fold)
  have hdl := drawnL_length ns
  have hd4 := drawnL_fig ns
  obtain ⟨fg, hfg⟩ : ∃ fg, fg = figsL ns := ⟨_, rfl⟩
  have hfl := figsL_length ns
  have hf4 := figsL_fig ns
  have hfd : fg = (drawnL ns).mapIdx fun k x => (x + ((k : Int) * ((k : Int) + 1)).fdiv 2).fmod 4 := hfg
  rw [← hfg] at hfl hf4
  clear hfg
  generalize drawnL ns = dr at *
  refine cut_toks (fun s' => Ex5 fun h tk D c us => An4 (s' = { s with heap := h, toks := tk }) (IntsAre us fg) (News s.heap L' h [(D, listOf us.toArray c), (L' + 1, oc)]) (Fv s.heap L' h [("figures", .ref D)])) ?_ ?_
  · refine assign_enum (fun k x => (x + ((k : Int) * ((k : Int) + 1)).fdiv 2).fmod 4) rfl rfl rfl rfl (by decide) (by decide) rfl (by decide) rfl rfl (by decide) ?_
    walk_at "goX"
    refine call_enumerate_list ⟨_, N₂.get (.head _), rfl, _, rfl⟩ fun h₃ he hi hsz hk => ?_
    obtain ⟨oi, hoi, hia⟩ := hi
    have none_of : ∀ a, h₂.objs.size ≤ a → h₂.get? a = none := fun a ha => by
      cases q : h₂.get? a with
      | none => rfl
      | some o => exact absurd (Heap.lt_size q) (Nat.not_lt.mpr ha)
    refine ⟨_, _, _, _, oi, s.heap, h₂, _, _, us, dr, F₂, N₂, rfl, hk, he, hoi, none_of _ (Nat.le_succ _), none_of _ (Nat.le_refl _), by rw [hsz]; exact Nat.le_add_right _ _, Nat.lt_succ_self _, ⟨.none, fun _ _ q => q⟩, hia, ⟨_, N₂.get (.head _), rfl, _, rfl⟩, hus, by omega, ?_, ?_⟩
    · intro C i p t t' h tk' m E' F hm1 hm2 hp hi
      have hi6 : i ≤ 6 := by omega
      have hp4 := hd4 p hp
      clear F₂ N₂
      repeat' (first | refine wpAny_Name (wpAny_loadName_local rfl rfl F.ns hm1 ?_) (by decide) | refine wpAny_Name (wpAny_loadName_local rfl rfl F.ns hm2 ?_) (by decide) | walk_at "go1")
    · intro D h' tk' us' c' F' N' hus'
      rw [← hfd] at hus'
      refine ⟨rfl, h', _, D, c', us', rfl, hus', fun p hp => ?_, Fv.mk F' ⟨rfl, trivial⟩⟩
      rcases List.mem_cons.mp hp with rfl | hp
      · exact N' _ (.head _)
      obtain rfl := List.mem_singleton.mp hp
      exact N' _ (.tail _ (.tail _ (.head _)))
  walk_at "drop"
  clear hfd hdl hd4 hus dr
  rintro s' ht ⟨h₃, tk₃, D2, c2, us, rfl, hus, N₂, FV⟩
  obtain ⟨m₂, F₂⟩ := FV.out; clear FV
  dsimp only [kstB] at F₂ ht
  (try k_fold)
  refine cut_toks (fun s' => Ex3 fun h tk ttext => An3 (s' = { s with heap := h, toks := tk }) (News s.heap L' h [(D2, listOf us.toArray c2), (L' + 1, oc)]) (Fv s.heap L' h [("text", .str (Mine.S ((pick 0 fg).map chr)) ttext), ("figures", .ref D2)])) ?_ ?_
  · (try k_fold)
    walk_at "goX"
    refine wpAny_ListComp_map (fun _ => true) SignOf rfl (by decide) (by decide) rfl (by decide) rfl ?_
    dsimp only
    refine wpAny_mono (Q := fun v s' => Ex3 fun D h tk => An4 (v = .ref D) (s' = { s with heap := h, toks := tk }) (Fv s.heap L' h [("figures", .ref D2)]) (News s.heap L' h [(D, listOf (slicePick us.toArray (some 0) none (some 2)) 0), (D2, listOf us.toArray c2), (L' + 1, oc)])) (E := fun _ _ => False) ?_ ?_ (fun _ _ x => x.elim)
    · (try k_fold)
      walk_at "go"
      exact ⟨_, _, _, rfl, rfl, Fv.mk (by assumption) ⟨rfl, trivial⟩, by assumption⟩
    rintro v s' ⟨D, h, tk', rfl, rfl, FV, N₃⟩
    clear F₂ N₂
    obtain ⟨m₃, F₃⟩ := FV.out; clear FV
    dsimp only [kstB] at F₃ ⊢
    have hp : IntsAre (slicePick us.toArray (some 0) none (some 2)).toList (pick 0 fg) := pick_ints hus
    have hpl := pick_length 0 fg
    refine ⟨D, _, rfl, ⟨_, N₃.get (.head _), rfl, _, rfl⟩, by rw [← Array.length_toList, hp.length, sizeLine_eq]; omega, ?_, ?_, ?_⟩
    · intro C v s₂ m₂ E' hv hn hm hk
      exact wpAny_pure ⟨rfl, s₂.heap, s₂.toks, rfl, fun _ _ q => q⟩
    · intro C v s₂ m₂ E' hv _ hn hm hk
      obtain ⟨p, t, rfl, hpm⟩ := ints_mem hp v (Array.mem_toList_iff.mpr hv)
      have hp4 := hf4 p (pick_mem p hpm)
      have hpc : p = 0 ∨ p = 1 ∨ p = 2 ∨ p = 3 := by omega
      clear F₃ N₃
      rcases hpc with rfl | rfl | rfl | rfl
      all_goals repeat' (first | refine wpAny_Name (wpAny_loadName_local rfl rfl hn hm ?_) (by decide) | walk_at "go1")
      all_goals first | exact ⟨_, _, _, rfl, congrArg (Value.str · _) (by decide +kernel)⟩ | exact ⟨_, _, rfl, fun _ _ q => q⟩
    · intro D' h' tk₄ ys hD hl' hpair hk
      have hst : StrsAre ys.toList (((pick 0 fg).map chr).map fun c => Mine.S [c]) := by
        rw [List.map_map]
        rw [List.filter_eq_self.mpr (fun _ _ => rfl)] at hpair
        exact signs_of hpair hp
      have F₄ := F₃.keeps hk
      have N₄ := N₃.grown hk
      clear F₃ N₃
      walk_at "goX"
      refine join_listW hl' hst (by decide) ?_ fun t' k' => ?_
      · simp only [sum_ones, List.length_map]; omega
      rw [show Txt.join (Str.ofString "") _ = Txt.join ⟨#[]⟩ _ from rfl, join_signs]
      walk_at "go"
      rename News _ _ _ _ => N₅
      exact ⟨rfl, _, _, _, rfl, fun p hp => N₅ p (.tail _ hp), Fv.mk (by assumption) ⟨rfl, rfl, trivial⟩⟩
  walk_at "drop"
  clear ht
  rintro s' ht ⟨h₃, tk₃, ttext, rfl, N₂, FV⟩
  obtain ⟨m₂, F₂⟩ := FV.out; clear FV
  dsimp only [kstB] at F₂ ht
  (try k_fold)
  refine cut_toks (fun s' => Ex3 fun h tk tword => An3 (s' = { s with heap := h, toks := tk }) (News s.heap L' h [(D2, listOf us.toArray c2), (L' + 1, oc)]) (Fv s.heap L' h [("word", .str (Mine.S ((pick 1 fg).map chr)) tword), ("text", .str (Mine.S ((pick 0 fg).map chr)) ttext), ("figures", .ref D2)])) ?_ ?_
  · (try k_fold)
    walk_at "goX"
    refine wpAny_ListComp_map (fun _ => true) SignOf rfl (by decide) (by decide) rfl (by decide) rfl ?_
    dsimp only
    refine wpAny_mono (Q := fun v s' => Ex3 fun D h tk => An4 (v = .ref D) (s' = { s with heap := h, toks := tk }) (Fv s.heap L' h [("text", .str (Mine.S ((pick 0 fg).map chr)) ttext), ("figures", .ref D2)]) (News s.heap L' h [(D, listOf (slicePick us.toArray (some 1) none (some 2)) 0), (D2, listOf us.toArray c2), (L' + 1, oc)])) (E := fun _ _ => False) ?_ ?_ (fun _ _ x => x.elim)
    · (try k_fold)
      walk_at "go"
      exact ⟨_, _, _, rfl, rfl, Fv.mk (by assumption) ⟨rfl, rfl, trivial⟩, by assumption⟩
    rintro v s' ⟨D, h, tk', rfl, rfl, FV, N₃⟩
    clear F₂ N₂
    obtain ⟨m₃, F₃⟩ := FV.out; clear FV
    dsimp only [kstB] at F₃ ⊢
    have hp : IntsAre (slicePick us.toArray (some 1) none (some 2)).toList (pick 1 fg) := pick_ints hus
    have hpl := pick_length 1 fg
    refine ⟨D, _, rfl, ⟨_, N₃.get (.head _), rfl, _, rfl⟩, by rw [← Array.length_toList, hp.length, sizeLine_eq]; omega, ?_, ?_, ?_⟩
    · intro C v s₂ m₂ E' hv hn hm hk
      exact wpAny_pure ⟨rfl, s₂.heap, s₂.toks, rfl, fun _ _ q => q⟩
    · intro C v s₂ m₂ E' hv _ hn hm hk
      obtain ⟨p, t, rfl, hpm⟩ := ints_mem hp v (Array.mem_toList_iff.mpr hv)
      have hp4 := hf4 p (pick_mem p hpm)
      have hpc : p = 0 ∨ p = 1 ∨ p = 2 ∨ p = 3 := by omega
      clear F₃ N₃
      rcases hpc with rfl | rfl | rfl | rfl
      all_goals repeat' (first | refine wpAny_Name (wpAny_loadName_local rfl rfl hn hm ?_) (by decide) | walk_at "go1")
      all_goals first | exact ⟨_, _, _, rfl, congrArg (Value.str · _) (by decide +kernel)⟩ | exact ⟨_, _, rfl, fun _ _ q => q⟩
    · intro D' h' tk₄ ys hD hl' hpair hk
      have hst : StrsAre ys.toList (((pick 1 fg).map chr).map fun c => Mine.S [c]) := by
        rw [List.map_map]
        rw [List.filter_eq_self.mpr (fun _ _ => rfl)] at hpair
        exact signs_of hpair hp
      have F₄ := F₃.keeps hk
      have N₄ := N₃.grown hk
      clear F₃ N₃
      walk_at "goX"
      refine join_listW hl' hst (by decide) ?_ fun t' k' => ?_
      · simp only [sum_ones, List.length_map]; omega
      rw [show Txt.join (Str.ofString "") _ = Txt.join ⟨#[]⟩ _ from rfl, join_signs]
      walk_at "go"
      rename News _ _ _ _ => N₅
      exact ⟨rfl, _, _, _, rfl, fun p hp => N₅ p (.tail _ hp), Fv.mk (by assumption) ⟨rfl, rfl, rfl, trivial⟩⟩
  walk_at "drop"
  clear ht
  rintro s' ht ⟨h₃, tk₃, tword, rfl, N₂, FV⟩
  obtain ⟨m₂, F₂⟩ := FV.out; clear FV
  dsimp only [kstB] at F₂ ht
  (try k_fold)
  have hwI : IntsAre (slicePick us.toArray (some 1) none (some 2)).toList (pick 1 fg) := pick_ints hus
  have htI : IntsAre (slicePick us.toArray (some 0) none (some 2)).toList (pick 0 fg) := pick_ints hus
  have hwl : (pick 1 fg).length ≤ 7 := Nat.le_trans (pick_length 1 fg) hfl.2
  have htl : (pick 0 fg).length ≤ 7 := Nat.le_trans (pick_length 0 fg) hfl.2
  have hw4 : ∀ x ∈ pick 1 fg, 0 ≤ x ∧ x < 4 := fun x hx => hf4 x (pick_mem x hx)
  have ht4 : ∀ x ∈ pick 0 fg, 0 ≤ x ∧ x < 4 := fun x hx => hf4 x (pick_mem x hx)
  generalize pick 1 fg = fw at *
  generalize pick 0 fg = ft at *
  refine cut_toks (fun s' => Ex3 fun h tk tm => An3 (s' = { s with heap := h, toks := tk }) (News s.heap L' h [(D2, listOf us.toArray c2), (L' + 1, oc)]) (Fv s.heap L' h [("m", .int fw.length tm), ("word", .str (Mine.S (fw.map chr)) tword), ("text", .str (Mine.S (ft.map chr)) ttext), ("figures", .ref D2)])) ?_ ?_
  · (try k_fold)
    walk_at "goX"
    refine len_S (by simp only [List.length_map]; omega) ?_
    rw [List.length_map]
    walk_at "go"
    exact ⟨rfl, _, _, _, rfl, by assumption, Fv.mk (by assumption) ⟨rfl, rfl, rfl, rfl, trivial⟩⟩
  walk_at "drop"
  clear ht
  rintro s' ht ⟨h₃, tk₃, tm, rfl, N₂, FV⟩
  obtain ⟨m₂, F₂⟩ := FV.out; clear FV
  dsimp only [kstB] at F₂ ht
  (try k_fold)
  refine cut_toks (fun s' => Ex3 fun h tk tn => An3 (s' = { s with heap := h, toks := tk }) (News s.heap L' h [(D2, listOf us.toArray c2), (L' + 1, oc)]) (Fv s.heap L' h [("n", .int ft.length tn), ("m", .int fw.length tm), ("word", .str (Mine.S (fw.map chr)) tword), ("text", .str (Mine.S (ft.map chr)) ttext), ("figures", .ref D2)])) ?_ ?_
  · (try k_fold)
    walk_at "goX"
    refine len_S (by simp only [List.length_map]; omega) ?_
    rw [List.length_map]
    walk_at "go"
    exact ⟨rfl, _, _, _, rfl, by assumption, Fv.mk (by assumption) ⟨rfl, rfl, rfl, rfl, rfl, trivial⟩⟩
  walk_at "drop"
  clear ht
  rintro s' ht ⟨h₃, tk₃, tn, rfl, N₂, FV⟩
  obtain ⟨m₂, F₂⟩ := FV.out; clear FV
  dsimp only [kstB] at F₂ ht
  (try k_fold)
  refine cut_toks (fun s' => Ex8 fun h tk Dp Dw cp cw ps ws => An5 (s' = { s with heap := h, toks := tk }) (News s.heap L' h [(Dp, listOf (List.toArray ps) cp), (Dw, listOf (List.toArray ws) cw), (L' + 1, oc)]) (IntsAre ps (placesL (rowL (linesL fw)) (rowL (linesL ft)) (4 * fw.length) (4 * ft.length))) (StrsAre ws (List.replicate (4 * fw.length) refusal)) (Fv s.heap L' h [("places", .ref Dp), ("words", .ref Dw), ("n", .int ft.length tn), ("m", .int fw.length tm), ("word", .str (Mine.S (fw.map chr)) tword), ("text", .str (Mine.S (ft.map chr)) ttext)])) ?_ ?_
  · (try k_fold)
    walk_at "go"
    rename Fr _ _ _ _ => F₃
    rename News _ _ _ _ => N₃
    refine (lines_c w s0' mg mb _ _ fw hwI (fun f hf => by have := hw4 f hf; omega) (by omega)).use B X T F₃ N₃ rfl rfl rfl ⟨_, N₃.get (.head _), rfl, _, rfl⟩ (by decide) (by decide) fun v h₄ tk₄ hk htk F₄ N₄ hP => ?_
    obtain ⟨Dr, rv, cr, rfl, nr, or, hrv, trv⟩ := hP
    have N₅ := fresh_in F₃ F₄ N₄ or nr
    clear F₃ N₃ N₄ nr or hk
    dsimp only at htk trv
    walk_at "go"
    rename Fr _ _ _ _ => F₅
    rename News _ _ _ _ => N₆
    refine (lines_c w s0' mg mb _ _ ft htI (fun f hf => by have := ht4 f hf; omega) (by omega)).use B X T F₅ N₆ rfl rfl rfl ⟨_, N₆.get (.head _), rfl, _, rfl⟩ (by decide) (by decide) fun v h₅ tk₅ hk htk5 F₆ N₇ hP => ?_
    obtain ⟨Dc, cv, cc, rfl, nc, oc', hcv, tcv⟩ := hP
    have N₈ := fresh_in F₅ F₆ N₇ oc' nc
    clear F₄ N₅ F₅ N₆ N₇ nc oc' hk
    dsimp only at htk5 tcv
    walk_at "go"
    rename Fr _ _ _ _ => F₇
    rename News _ _ _ _ => N₉
    have hrl := linesL_length fw
    have hcl := linesL_length ft
    refine wpAny_call (places_c w s0' mg mb Dr Dc rv cv (linesL fw) (linesL ft) hrv hcv 1 tk₄ tk₅ (by decide) (trv.mono (by omega) (Nat.le_refl _)) (tcv.mono (by omega) (Nat.le_refl _)) (by omega) (by omega) _ _ _ _ _ _ _ (site_call B X T F₇ rfl rfl) X T (dicts_one F₇)
      ⟨_, N₉.get (.tail _ (.tail _ (.head _))), rfl, _, rfl⟩ ⟨_, N₉.get (.head _), rfl, _, rfl⟩ (by decide) (by decide) fun Tt D1 D2' ps ws c1 c2' h' g' tk' TT K nT n1 n2 oT o1 o2 hps hws => ?_)
    have TT' : KtsTurn [L'] h₅ g' := TT
    have F₈ := fr_turned F₇ TT' K
    have N₁₀ := fresh_in F₇ F₈ (fresh_in F₇ F₈ (fresh_in F₇ F₈ (news_turned N₉ TT' K) o2 n2) o1 n1) oT nT
    clear F₇ N₉ TT TT' K nT n1 n2 oT o1 o2
    dsimp only
    refine unpack_any F₈ N₁₀ (.inl rfl) (N₁₀.isTup (.head _)) rfl rfl fun h₆ F₉ N₁₁ => ?_
    clear F₈ N₁₀
    walk_at "go"
    rename News _ _ _ _ => N₁₂
    rw [hrl, hcl] at hps
    rw [hrl] at hws
    refine ⟨rfl, _, _, D1, D2', c1, c2', ps, ws, rfl, fun p hp => ?_, hps, hws, Fv.mk (by assumption) ⟨rfl, rfl, rfl, rfl, rfl, rfl, trivial⟩⟩
    rcases List.mem_cons.mp hp with rfl | hp
    · exact N₁₂ _ (.tail _ (.head _))
    rcases List.mem_cons.mp hp with rfl | hp
    · exact N₁₂ _ (.tail _ (.tail _ (.head _)))
    obtain rfl := List.mem_singleton.mp hp
    exact N₁₂ _ (.tail _ (.tail _ (.tail _ (.tail _ (.tail _ (.tail _ (.tail _ (.tail _ (.head _)))))))))
  walk_at "drop"
  clear ht
  rintro s' ht ⟨h₃, tk₃, Dp, Dw, cp, cw, ps, ws, rfl, N₂, hps, hws, FV⟩
  obtain ⟨m₂, F₂⟩ := FV.out; clear FV
  dsimp only [kstB] at F₂ ht
  (try k_fold)
  clear hwI htI hus hfl hf4 ht
  obtain ⟨pl, hpl⟩ : ∃ pl, pl = placesL (rowL (linesL fw)) (rowL (linesL ft)) (4 * fw.length) (4 * ft.length) := ⟨_, rfl⟩
  have hpln : pl.length = 4 * fw.length + 4 * ft.length := by rw [hpl]; simp [placesL, strandsL]
  rw [← hpl] at hps
  have hpl56 : pl.length ≤ 56 := by omega
  refine cut_cons (fun s' => Ex2 fun h tk => An3 (s' = { s with heap := h, toks := tk }) (News s.heap L' h [(Dw, listOf (List.toArray ws) cw)]) (Fv s.heap L' h [("words", .ref Dw), ("m", .int fw.length tm)])) ?_ ?_
  · refine for_start ?_
    (try k_fold)
    walk_at "go"
    rename IsRange _ _ _ _ _ _ _ _ => hir
    rename Fr _ _ _ _ => F₃
    rename News _ _ _ _ => N₃
    have hsz := outer_facts hwl htl
    refine range_iter F₃ N₃ hir hsz.2 hsz.1 fun I h₄ hI F₄ N₄ => ?_
    have i1 : @LT.lt Nat _ Dp I := hI _ (.head _)
    have i2 : @LT.lt Nat _ Dw I := hI _ (.tail _ (.head _))
    have i3 : @LT.lt Nat _ (L' + 1) I := hI _ (.tail _ (.tail _ (.head _)))
    refine for_inv (σ := Nat) (fun k => fw.length + ft.length + 1 - k) (fun k s' => Ex4 fun (h : Heap) (tk : Nat) (oc : Obj) (v : Option Value) => An5 (s' = { s with heap := h, toks := tk }) (k ≤ fw.length + ft.length + 1) (oc.data = .cell v) (News s.heap L' h [(I, rangeIt (-(fw.length : Int) + (k : Int)) ((fw.length + ft.length + 1 - k : Nat) : Int)), (Dp, listOf (List.toArray ps) cp), (Dw, listOf (List.toArray ws) cw), (L' + 1, oc)]) (Fv s.heap L' h [("places", .ref Dp), ("words", .ref Dw), ("n", .int ft.length tn), ("m", .int fw.length tm), ("word", .str (Mine.S (fw.map chr)) tword), ("text", .str (Mine.S (ft.map chr)) ttext)])) ?_ (c := 0) ?_
    rotate_left
    · exact ⟨h₄, _, oc, none, rfl, Nat.zero_le _, hc0, by simpa using N₄, Fv.mk F₄ ⟨rfl, rfl, rfl, rfl, rfl, rfl, trivial⟩⟩
    walk_at "drop"
    clear hir hsz hI hc0
    rintro k s' ⟨h, tk₅, oc, v, rfl, hk, hoc, N₁, FV⟩ IH
    obtain ⟨m₁, F₁⟩ := FV.out; clear FV
    dsimp only [kstB] at F₁
    have hne : ∀ p ∈ [(Dp, listOf (List.toArray ps) cp), (Dw, listOf (List.toArray ws) cw), (L' + 1, oc)], p.1 ≠ I := fun p hp => by
      rcases List.mem_cons.mp hp with rfl | hp
      · exact Nat.ne_of_lt i1
      rcases List.mem_cons.mp hp with rfl | hp
      · exact Nat.ne_of_lt i2
      obtain rfl := List.mem_singleton.mp hp
      exact Nat.ne_of_lt i3
    by_cases hlt : k < fw.length + ft.length + 1
    · rw [show fw.length + ft.length + 1 - k = (fw.length + ft.length + 1 - (k + 1)) + 1 by omega] at N₁
      refine range_turn F₁ N₁ hne rfl rfl (by passes_own) fun h₂ F₂ N₂ => ?_
      clear F₁ N₁
      dsimp only
      (try k_fold)
      obtain ⟨iv, hiv⟩ : ∃ iv : Int, iv = -(fw.length : Int) + (k : Int) := ⟨_, rfl⟩
      rw [← hiv] at F₂
      refine cut_cons (fun s' => Ex5 fun h tk Db cb bs => An5 (s' = { s with heap := h, toks := tk }) (@LT.lt Nat _ I Db) (IntsAre bs (pl.drop (4 * k))) (News s.heap L' h [(Db, listOf (List.toArray bs) cb), (I, rangeIt (-(fw.length : Int) + (k : Int) + 1) ((fw.length + ft.length + 1 - (k + 1) : Nat) : Int)), (Dp, listOf (List.toArray ps) cp), (Dw, listOf (List.toArray ws) cw), (L' + 1, oc)]) (Fv s.heap L' h [("beyond", .ref Db), ("i", .int iv tk₅), ("places", .ref Dp), ("words", .ref Dw), ("n", .int ft.length tn), ("m", .int fw.length tm), ("word", .str (Mine.S (fw.map chr)) tword), ("text", .str (Mine.S (ft.map chr)) ttext)])) ?_ ?_
      · (try k_fold)
        walk_at "goX"
        refine kmk_slice (its := (List.toArray ps)) (lo := some (4 * (iv + (fw.length : Int)))) (hi := none) F₂ N₂ ⟨_, N₂.get (.tail _ (.head _)), rfl, _, rfl⟩ (.int _ _) .none (fun Db h' F' N' l1 => ?_) (by with_unfolding_all rfl) (by intro _; with_unfolding_all rfl) (by have := hps.length; rw [sizeLine_eq]; simp; omega)
        clear F₂ N₂
        have hbs : IntsAre (slicePick ps.toArray (some (4 * (iv + (fw.length : Int)))) none none).toList (pl.drop (4 * k)) := by
          have q := kmk_from (x := 4 * (iv + (fw.length : Int))) hps (beyond_facts hiv).1
          rw [(beyond_facts hiv).2] at q
          exact q
        walk_at "go"
        exact ⟨rfl, _, _, Db, 0, _, rfl, l1 _ (.head _), hbs, by assumption, Fv.mk (by assumption) ⟨rfl, rfl, rfl, rfl, rfl, rfl, rfl, rfl, trivial⟩⟩
      walk_at "drop"
      rintro s' ⟨h, tk, Db, cb, bs, rfl, b1, hbs, N₂, FV⟩
      obtain ⟨m₂, F₂⟩ := FV.out; clear FV
      dsimp only [kstB] at F₂
      (try k_fold)
      refine cut_cons (fun s' => Ex4 fun h tk oc v => An4 (s' = { s with heap := h, toks := tk }) (oc.data = .cell v) (News s.heap L' h [(I, rangeIt (-(fw.length : Int) + (k : Int) + 1) ((fw.length + ft.length + 1 - (k + 1) : Nat) : Int)), (Dp, listOf (List.toArray ps) cp), (Dw, listOf (List.toArray ws) cw), (L' + 1, oc)]) (Fv s.heap L' h [("places", .ref Dp), ("words", .ref Dw), ("n", .int ft.length tn), ("m", .int fw.length tm), ("word", .str (Mine.S (fw.map chr)) tword), ("text", .str (Mine.S (ft.map chr)) ttext)])) ?_ ?_
      · refine for_start ?_
        (try k_fold)
        walk_at "go"
        rename IsRange _ _ _ _ _ _ _ _ => hir
        rename Fr _ _ _ _ => F₃
        rename News _ _ _ _ => N₃
        obtain ⟨ja, hja⟩ : ∃ ja : Int, ja = if 0 > iv then 0 else iv := ⟨_, rfl⟩
        obtain ⟨jb, hjb⟩ : ∃ jb : Int, jb = ((fw.length : Int) + (ft.length : Int) + if 0 < iv then 0 else iv) + 1 := ⟨_, rfl⟩
        rw [← hja, ← hjb] at hir
        obtain ⟨c0, hc0, hsm, a1, a2, a3, a4, a5, a6, a7⟩ := inner_facts hwl htl hiv hlt hja hjb
        have ra : Shut ((c0 : Int) = jb - ja ∧ 0 ≤ ja ∧ iv ≤ ja ∧ jb ≤ (fw.length : Int) + ft.length + 1 ∧ jb ≤ (fw.length : Int) + ft.length + iv + 1 ∧ -(fw.length : Int) ≤ iv ∧ iv ≤ ft.length ∧ (k : Int) = iv + fw.length) := ⟨hc0, a1, a2, a3, a4, a5, a6, a7⟩
        have hsz : Builtin.Range.rangeSize ja jb 1 = (c0 : Int) := size_one hc0.symm
        clear hja hjb hc0 a1 a2 a3 a4 a5 a6 a7
        refine range_iter F₃ N₃ hir hsm hsz fun J h₄ hJ F₄ N₄ => ?_
        have j1 : @LT.lt Nat _ Db J := hJ _ (.head _)
        have j2 : @LT.lt Nat _ I J := hJ _ (.tail _ (.head _))
        have j3 : @LT.lt Nat _ Dp J := hJ _ (.tail _ (.tail _ (.head _)))
        have j4 : @LT.lt Nat _ Dw J := hJ _ (.tail _ (.tail _ (.tail _ (.head _))))
        have j5 : @LT.lt Nat _ (L' + 1) J := hJ _ (.tail _ (.tail _ (.tail _ (.tail _ (.head _)))))
        refine for_inv (σ := Nat) (fun k2 => c0 - k2) (fun k2 s' => Ex4 fun (h : Heap) (tk : Nat) (oc : Obj) (v : Option Value) => An5 (s' = { s with heap := h, toks := tk }) (k2 ≤ c0) (oc.data = .cell v) (News s.heap L' h [(J, rangeIt (ja + (k2 : Int)) ((c0 - k2 : Nat) : Int)), (Db, listOf (List.toArray bs) cb), (I, rangeIt (-(fw.length : Int) + (k : Int) + 1) ((fw.length + ft.length + 1 - (k + 1) : Nat) : Int)), (Dp, listOf (List.toArray ps) cp), (Dw, listOf (List.toArray ws) cw), (L' + 1, oc)]) (Fv s.heap L' h [("beyond", .ref Db), ("i", .int iv tk₅), ("places", .ref Dp), ("words", .ref Dw), ("n", .int ft.length tn), ("m", .int fw.length tm), ("word", .str (Mine.S (fw.map chr)) tword), ("text", .str (Mine.S (ft.map chr)) ttext)])) ?_ (c := 0) ?_
        rotate_left
        · exact ⟨h₄, _, oc, v, rfl, Nat.zero_le _, hoc, by simpa using N₄, Fv.mk F₄ ⟨rfl, rfl, rfl, rfl, rfl, rfl, rfl, rfl, trivial⟩⟩
        walk_at "drop"
        clear hir hsz hJ hoc hsm
        rintro k2 s' ⟨h, tk₆, oc, v, rfl, hk2, hoc, N₁, FV⟩ IH2
        obtain ⟨m₁, F₁⟩ := FV.out; clear FV
        dsimp only [kstB] at F₁
        have hne2 : ∀ p ∈ [(Db, listOf (List.toArray bs) cb), (I, rangeIt (-(fw.length : Int) + (k : Int) + 1) ((fw.length + ft.length + 1 - (k + 1) : Nat) : Int)), (Dp, listOf (List.toArray ps) cp), (Dw, listOf (List.toArray ws) cw), (L' + 1, oc)], p.1 ≠ J := fun p hp => by
          rcases List.mem_cons.mp hp with rfl | hp
          · exact Nat.ne_of_lt j1
          rcases List.mem_cons.mp hp with rfl | hp
          · exact Nat.ne_of_lt j2
          rcases List.mem_cons.mp hp with rfl | hp
          · exact Nat.ne_of_lt j3
          rcases List.mem_cons.mp hp with rfl | hp
          · exact Nat.ne_of_lt j4
          obtain rfl := List.mem_singleton.mp hp
          exact Nat.ne_of_lt j5
        by_cases hlt2 : k2 < c0
        · rw [show c0 - k2 = (c0 - (k2 + 1)) + 1 by omega] at N₁
          refine for_turn (by passes_own) (range_next F₁ N₁ hne2 fun h₂ F₂ N₂ => ?_)
          clear F₁ N₁
          refine wpAny_of_eq (rfl : letOwnedTupleGo (.Name _ _) (.ref J) _ = pure ()) ?_
          obtain ⟨jv, hjv⟩ : ∃ jv : Int, jv = ja + (k2 : Int) := ⟨_, rfl⟩
          rw [← hjv] at N₂ ⊢
          refine wpAny_assign_Name (stCNk (own := [_, _, _, _, _]) (rest := []) F₂ N₂ rfl hoc ⟨.inr (fun _ q => nomatch q), .inr (fun _ q => nomatch q), .inr (fun _ q => nomatch q), .inr (fun _ q => nomatch q), .inr (fun _ q => nomatch q), trivial⟩ trivial fun h₃ oj F₃ N₃ hoj => ?_)
          clear F₂ N₂ hoc
          (try dsimp only [List.cons_append, List.nil_append] at N₃)
          (try k_fold)
          dsimp only at hoj ⊢
          generalize (tk₆ : Tok) = tj at hoj
          have rb : Shut (iv ≤ jv ∧ 0 ≤ jv ∧ jv ≤ (fw.length : Int) + ft.length ∧ jv ≤ (fw.length : Int) + ft.length + iv ∧ (-iv).toNat ≤ fw.length - (jv - ft.length).toNat ∧ (jv - ft.length).toNat ≤ fw.length ∧ iv.toNat ≤ (min jv ft.length).toNat ∧ (min jv ft.length).toNat ≤ ft.length ∧ ja + ((k2 + 1 : Nat) : Int) = jv + 1) :=
            ⟨turn_facts ra.out.1 ra.out.2.1 ra.out.2.2.1 ra.out.2.2.2.1 ra.out.2.2.2.2.1 ra.out.2.2.2.2.2.2.1 ra.out.2.2.2.2.2.1 hjv hlt2⟩
          clear hjv hiv
          obtain ⟨pc, hpc⟩ : ∃ pc, Shut (pc = (fw.drop (-iv).toNat).take (fw.length - (jv - ft.length).toNat - (-iv).toNat)) := ⟨_, ⟨rfl⟩⟩
          obtain ⟨st, hst⟩ : ∃ st, Shut (st = (ft.drop iv.toNat).take ((min jv ft.length).toNat - iv.toNat)) := ⟨_, ⟨rfl⟩⟩
          have hpcl : pc.length ≤ 7 := by rw [hpc.out]; exact Nat.le_trans (run_le _ _ _) hwl
          have hstl : st.length ≤ 7 := by rw [hst.out]; exact Nat.le_trans (run_le _ _ _) htl
          refine cut_cons (fun s' => Ex3 fun h tk tp => An3 (s' = { s with heap := h, toks := tk }) (News s.heap L' h [(J, rangeIt (jv + 1) ((c0 - (k2 + 1) : Nat) : Int)), (Db, listOf (List.toArray bs) cb), (I, rangeIt (-(fw.length : Int) + (k : Int) + 1) ((fw.length + ft.length + 1 - (k + 1) : Nat) : Int)), (Dp, listOf (List.toArray ps) cp), (Dw, listOf (List.toArray ws) cw), (L' + 1, oj)]) (Fv s.heap L' h [("piece", .str (Mine.S (pc.map chr)) tp), ("beyond", .ref Db), ("i", .int iv tk₅), ("places", .ref Dp), ("words", .ref Dw), ("n", .int ft.length tn), ("m", .int fw.length tm), ("word", .str (Mine.S (fw.map chr)) tword), ("text", .str (Mine.S (ft.map chr)) ttext)])) ?_ ?_
          · (try k_fold)
            walk_at "goX"
            dsimp only
            rw [if_max, cut_hi _ _ rb.out.2.2.2.2.2.1]
            with_unfolding_all refine cut_ss (s := ⟨_, _, _, _, _⟩) (by assumption) (by assumption) (by rw [List.length_map]; exact Nat.le_trans hwl (by decide)) rb.out.2.2.2.2.1 (by rw [List.length_map]; exact Nat.sub_le _ _) ?_
            intro _ _ _ _ _
            rw [← List.map_drop, ← List.map_take, ← hpc.out]
            walk_at "go"
            exact ⟨rfl, _, _, _, rfl, by assumption, Fv.mk (by assumption) ⟨rfl, rfl, rfl, rfl, rfl, rfl, rfl, rfl, rfl, trivial⟩⟩
          walk_at "drop"
          rintro s' ⟨h, tk, tp, rfl, N₂, FV⟩
          obtain ⟨m₂, F₂⟩ := FV.out; clear FV
          dsimp only [kstB] at F₂
          (try k_fold)
          refine cut_cons (fun s' => Ex3 fun h tk tst => An3 (s' = { s with heap := h, toks := tk }) (News s.heap L' h [(J, rangeIt (jv + 1) ((c0 - (k2 + 1) : Nat) : Int)), (Db, listOf (List.toArray bs) cb), (I, rangeIt (-(fw.length : Int) + (k : Int) + 1) ((fw.length + ft.length + 1 - (k + 1) : Nat) : Int)), (Dp, listOf (List.toArray ps) cp), (Dw, listOf (List.toArray ws) cw), (L' + 1, oj)]) (Fv s.heap L' h [("stretch", .str (Mine.S (st.map chr)) tst), ("piece", .str (Mine.S (pc.map chr)) tp), ("beyond", .ref Db), ("i", .int iv tk₅), ("places", .ref Dp), ("words", .ref Dw), ("n", .int ft.length tn), ("m", .int fw.length tm), ("word", .str (Mine.S (fw.map chr)) tword), ("text", .str (Mine.S (ft.map chr)) ttext)])) ?_ ?_
          · (try k_fold)
            walk_at "goX"
            dsimp only
            rw [if_max, cut_lo _ _ rb.out.2.1]
            with_unfolding_all refine cut_ss (s := ⟨_, _, _, _, _⟩) (by assumption) (by assumption) (by rw [List.length_map]; exact Nat.le_trans htl (by decide)) rb.out.2.2.2.2.2.2.1 (by rw [List.length_map]; exact rb.out.2.2.2.2.2.2.2.1) ?_
            intro _ _ _ _ _
            rw [← List.map_drop, ← List.map_take, ← hst.out]
            walk_at "go"
            exact ⟨rfl, _, _, _, rfl, by assumption, Fv.mk (by assumption) ⟨rfl, rfl, rfl, rfl, rfl, rfl, rfl, rfl, rfl, rfl, trivial⟩⟩
          walk_at "drop"
          rintro s' ⟨h, tk, tst, rfl, N₂, FV⟩
          obtain ⟨m₂, F₂⟩ := FV.out; clear FV
          dsimp only [kstB] at F₂
          (try k_fold)
          obtain ⟨cnt, hcnt⟩ : ∃ cnt : Nat, cnt = ((pl.drop (4 * k)).map fun p => decide (p < 4 * jv)).count true := ⟨_, rfl⟩
          refine cut_cons (fun s' => Ex3 fun h tk td => An3 (s' = { s with heap := h, toks := tk }) (News s.heap L' h [(J, rangeIt (jv + 1) ((c0 - (k2 + 1) : Nat) : Int)), (Db, listOf (List.toArray bs) cb), (I, rangeIt (-(fw.length : Int) + (k : Int) + 1) ((fw.length + ft.length + 1 - (k + 1) : Nat) : Int)), (Dp, listOf (List.toArray ps) cp), (Dw, listOf (List.toArray ws) cw), (L' + 1, oj)]) (Fv s.heap L' h [("due", .int (2 * ((pc.length : Int) - (st.length : Int)) + (cnt : Int)) td), ("stretch", .str (Mine.S (st.map chr)) tst), ("piece", .str (Mine.S (pc.map chr)) tp), ("beyond", .ref Db), ("i", .int iv tk₅), ("places", .ref Dp), ("words", .ref Dw), ("n", .int ft.length tn), ("m", .int fw.length tm), ("word", .str (Mine.S (fw.map chr)) tword), ("text", .str (Mine.S (ft.map chr)) ttext)])) ?_ ?_
          · (try k_fold)
            walk_at "goX"
            refine len_S (by rw [List.length_map]; exact Nat.le_trans hpcl (by decide)) ?_
            rw [List.length_map]
            walk_at "goX"
            refine len_S (by rw [List.length_map]; exact Nat.le_trans hstl (by decide)) ?_
            rw [List.length_map]
            walk_at "goX"
            refine wpAny_ListComp_free (cl := [("j", L' + 1)]) (fun _ => true) (AheadOf (4 * jv)) (by with_unfolding_all rfl) (by decide) rfl (by decide) rfl ?_
            walk_at "go"
            refine wpAny_pyIter_list (items := List.toArray bs) ⟨_, N₂.get (.tail _ (.head _)), rfl, _, rfl⟩ ?_
            have hDb : Db < h.objs.size := Heap.lt_size (N₂.get (.tail _ (.head _)))
            have hjc : h.get? (L' + 1) = some oj := N₂.get (.tail _ (.tail _ (.tail _ (.tail _ (.tail _ (.head _))))))
            have hbl : bs.length ≤ 56 := by rw [hbs.length, List.length_drop]; exact Nat.le_trans (Nat.sub_le _ _) hpl56
            dsimp only
            refine ⟨_, _, _, _, _, _, rfl, Walks.list rfl h.objs.size Db (Nat.ne_of_lt hDb) (List.toArray bs), by rw [sizeLine_eq]; simp; omega, ⟨⟨_, Heap.get?_push_size _ rfl, rfl, rfl⟩, ⟨_, Heap.get?_push_of_some _ (N₂.get (.tail _ (.head _))), rfl, _, rfl⟩⟩, ?_, ⟨?_, ?_⟩, ?_⟩
            · intro b hb
              rw [Heap.size_push]
              rcases List.mem_cons.mp hb with rfl | hb
              · exact Nat.lt_succ_self _
              · rw [List.mem_singleton.mp hb]; exact Nat.lt_succ_of_lt hDb
            · intro C i v s₃ m₃ E' _ _ _ _ _ _
              exact wpAny_pure ⟨rfl, s₃.heap, s₃.toks, rfl, fun _ _ q => q⟩
            · intro C i v s₃ m₃ E' _ hv _ hn hm hkk _
              obtain ⟨p, t, rfl, _⟩ := ints_mem hbs v (by simpa using List.mem_of_getElem? (by simpa using hv))
              have hcell : s₃.heap.IsCell (L' + 1) (some (.int jv tj)) := ⟨oj, hkk _ _ (fun z => by have := Heap.lt_size hjc; rw [List.mem_singleton.mp z] at this; exact Nat.lt_irrefl _ this) (Heap.get?_push_of_some _ hjc), hoj⟩
              clear F₂ N₂ hjc
              repeat' (first | refine wpAny_Name (wpAny_loadName_local rfl rfl hn hm ?_) (by decide) | refine wpAny_Name (wpAny_loadName_cell rfl rfl rfl hcell ?_) (by decide) | walk_at "go1")
              all_goals first | exact ⟨_, _, rfl, rfl⟩ | exact ⟨_, _, rfl, fun _ _ q => q⟩
            · intro D h' tk' ys vs' hD hl' hpl' hlen' hP hpair hkk
              have hK : Kept h h' := fun b o q => hkk b o (fun z => by have := Heap.lt_size q; rw [List.mem_singleton.mp z] at this; exact Nat.lt_irrefl _ this) (Heap.get?_push_of_some _ q)
              have hvs : vs' = bs := by
                refine List.ext_getElem (by simpa using hlen') fun i h1 h2 => ?_
                have := hP i _ (List.getElem?_eq_getElem h1)
                rw [List.getElem?_toArray, List.getElem?_eq_getElem h2] at this
                exact (Option.some.inj this).symm
              subst hvs
              rw [List.filter_eq_self.mpr (fun _ _ => rfl)] at hpair
              have hys := aheads_of hpair hbs
              have hl2 : h'.IsList D ((((pl.drop (4 * k)).map fun p => decide (p < 4 * jv)).map Value.bool).toArray) := by
                rw [← hys, Array.toArray_toList]; exact hl'
              have F₃ := F₂.keeps hK
              have N₃ := N₂.grown hK
              clear F₂ N₂ hkk hl' hpl' hpair hjc
              walk_at "go"
              refine (countOf_c w s0' mg mb D ((pl.drop (4 * k)).map fun p => decide (p < 4 * jv)) _).use B X T F₃ N₃ rfl rfl rfl hl2 (by decide) (by decide) fun v h₄ tk₄ hk' F₄ N₄ hP => ?_
              obtain ⟨tc, rfl⟩ := hP
              clear F₃ N₃ hl2
              rw [← hcnt]
              walk_at "go"
              exact ⟨rfl, _, _, _, rfl, by assumption, Fv.mk (by assumption) ⟨rfl, rfl, rfl, rfl, rfl, rfl, rfl, rfl, rfl, rfl, rfl, trivial⟩⟩
          walk_at "drop"
          rintro s' ⟨h, tk, td, rfl, N₂, FV⟩
          obtain ⟨m₂, F₂⟩ := FV.out; clear FV
          dsimp only [kstB] at F₂
          (try k_fold)
          have hcl : cnt ≤ 56 := by rw [hcnt]; exact count_bound pl hpl56 _ _
          have hdb0 := due_bound hpcl hstl hcl
          obtain ⟨due, hdue⟩ : ∃ due : Int, due = 2 * ((pc.length : Int) - (st.length : Int)) + (cnt : Int) := ⟨_, rfl⟩
          rw [← hdue] at F₂
          have hdb : -20 ≤ due ∧ due ≤ 80 := by rw [hdue]; exact hdb0
          have hwf : Shut (wf cost pc st = due) := ⟨by
            rw [hdue, hcnt, hpl]
            exact due_lists fw ft hw4 ht4 iv jv ra.out.2.2.2.2.2.1 ra.out.2.2.2.2.2.2.1 rb.out.1 rb.out.2.1 rb.out.2.2.1 rb.out.2.2.2.1 k ra.out.2.2.2.2.2.2.2 pc st hpc.out hst.out⟩
          clear hdue hdb0 hcl hcnt
          obtain ⟨bnd, hbnd⟩ : ∃ bnd : Int, bnd = due + (iv + jv + 1).fmod 3 - 1 := ⟨_, rfl⟩
          have hbb : -100 ≤ bnd ∧ bnd ≤ 100 := by rw [hbnd]; exact bnd_bound hdb _
          refine cut_cons (fun s' => Ex3 fun h tk tb => An3 (s' = { s with heap := h, toks := tk }) (News s.heap L' h [(J, rangeIt (jv + 1) ((c0 - (k2 + 1) : Nat) : Int)), (Db, listOf (List.toArray bs) cb), (I, rangeIt (-(fw.length : Int) + (k : Int) + 1) ((fw.length + ft.length + 1 - (k + 1) : Nat) : Int)), (Dp, listOf (List.toArray ps) cp), (Dw, listOf (List.toArray ws) cw), (L' + 1, oj)]) (Fv s.heap L' h [("bound", .int bnd tb), ("due", .int due td), ("stretch", .str (Mine.S (st.map chr)) tst), ("piece", .str (Mine.S (pc.map chr)) tp), ("beyond", .ref Db), ("i", .int iv tk₅), ("places", .ref Dp), ("words", .ref Dw), ("n", .int ft.length tn), ("m", .int fw.length tm), ("word", .str (Mine.S (fw.map chr)) tword), ("text", .str (Mine.S (ft.map chr)) ttext)])) ?_ ?_
          · (try k_fold)
            walk_at "go"
            rename Fr _ _ _ _ => F₃
            rw [← hbnd] at F₃
            exact ⟨rfl, _, _, _, rfl, by assumption, Fv.mk F₃ ⟨rfl, rfl, rfl, rfl, rfl, rfl, rfl, rfl, rfl, rfl, rfl, rfl, trivial⟩⟩
          walk_at "drop"
          rintro s' ⟨h, tk, tb, rfl, N₂, FV⟩
          obtain ⟨m₂, F₂⟩ := FV.out; clear FV
          dsimp only [kstB] at F₂
          (try k_fold)
          refine cut_cons (fun s' => Ex4 fun h tk told tt => An4 (min told (bnd + 1) = min (wf cost pc st) (bnd + 1)) (s' = { s with heap := h, toks := tk }) (News s.heap L' h [(J, rangeIt (jv + 1) ((c0 - (k2 + 1) : Nat) : Int)), (Db, listOf (List.toArray bs) cb), (I, rangeIt (-(fw.length : Int) + (k : Int) + 1) ((fw.length + ft.length + 1 - (k + 1) : Nat) : Int)), (Dp, listOf (List.toArray ps) cp), (Dw, listOf (List.toArray ws) cw), (L' + 1, oj)]) (Fv s.heap L' h [("told", .int told tt), ("bound", .int bnd tb), ("due", .int due td), ("beyond", .ref Db), ("i", .int iv tk₅), ("places", .ref Dp), ("words", .ref Dw), ("n", .int ft.length tn), ("m", .int fw.length tm), ("word", .str (Mine.S (fw.map chr)) tword), ("text", .str (Mine.S (ft.map chr)) ttext)])) ?_ ?_
          · (try k_fold)
            walk_at "go"
            have hpc4 : ∀ x ∈ pc, fig4 x := fun x hx => hw4 x (by rw [hpc.out] at hx; exact List.mem_of_mem_drop (List.mem_of_mem_take hx))
            have hst4 : ∀ x ∈ st, fig4 x := fun x hx => ht4 x (by rw [hst.out] at hx; exact List.mem_of_mem_drop (List.mem_of_mem_take hx))
            refine (lev_c w s0' mg mb (pc.map chr) (st.map chr) bnd tp tst tb (by rw [List.length_map]; exact Nat.le_trans hpcl (by decide)) (by rw [List.length_map]; exact Nat.le_trans hstl (by decide)) hbb).use B X T F₂ N₂ rfl rfl rfl trivial (by decide) (by decide) fun v h₄ tk₄ hk' F₄ N₄ hP => ?_
            obtain ⟨r, tr, rfl, hr⟩ := hP
            rw [wf_chr _ pc st rfl hpc4 hst4] at hr
            clear F₂ N₂
            walk_at "go"
            exact ⟨rfl, _, _, r, tr, hr, rfl, by assumption, Fv.mk (by assumption) ⟨rfl, rfl, rfl, rfl, rfl, rfl, rfl, rfl, rfl, rfl, rfl, trivial⟩⟩
          walk_at "drop"
          rintro s' ⟨h, tk, told, tt, htold, rfl, N₂, FV⟩
          obtain ⟨m₂, F₂⟩ := FV.out; clear FV
          dsimp only [kstB] at F₂
          (try k_fold)
          · rw [hwf.out] at htold
            have hne3 := min_ifs htold
            walk_at "go"
            · exact absurd (by assumption) hne3
            rename Fr _ _ _ _ => F₃
            rename News _ _ _ _ => N₃
            (try unfold ForPost)
            dsimp only
            refine IH2 (k2 + 1) _ (by omega) ⟨_, _, oj, _, rfl, hlt2, hoj, ?_, Fv.mk F₃ ⟨rfl, rfl, rfl, rfl, rfl, rfl, rfl, rfl, trivial⟩⟩
            rw [rb.out.2.2.2.2.2.2.2.2]
            exact N₃
        · have hke : k2 = c0 := by omega
          rw [hke, Nat.sub_self] at N₁
          refine range_done rfl F₁ N₁ hne2 (by passes_own) fun h₂ F₂ N₂ => ?_
          clear F₁ N₁
          refine wpAny_execs_nil ?_
          exact ⟨rfl, h₂, _, oc, v, rfl, hoc, fun p hp => N₂ p (.tail _ hp), Fv.mk F₂ ⟨rfl, rfl, rfl, rfl, rfl, rfl, trivial⟩⟩
      walk_at "drop"
      rintro s' ⟨h, tk, oc, v, rfl, hoc, N₂, FV⟩
      obtain ⟨m₂, F₂⟩ := FV.out; clear FV
      dsimp only [kstB] at F₂
      (try k_fold)
      refine wpAny_execs_nil ?_
      refine IH (k + 1) _ (by omega) ⟨h, tk, oc, v, rfl, hlt, hoc, ?_, Fv.mk F₂ ⟨rfl, rfl, rfl, rfl, rfl, rfl, trivial⟩⟩
      rw [show -(fw.length : Int) + ((k + 1 : Nat) : Int) = -(fw.length : Int) + (k : Int) + 1 by omega]
      exact N₂
    · have hke : k = fw.length + ft.length + 1 := by omega
      rw [hke, Nat.sub_self] at N₁
      refine range_done rfl F₁ N₁ hne (by passes_own) fun h₂ F₂ N₂ => ?_
      clear F₁ N₁
      refine wpAny_execs_nil ?_
      exact ⟨rfl, h₂, _, rfl, fun p hp => N₂ p (by obtain rfl := List.mem_singleton.mp hp; exact .tail _ (.head _)), Fv.mk F₂ ⟨rfl, rfl, trivial⟩⟩
  walk_at "drop"
  rintro s' ⟨h₃, tk₃, rfl, N₂, FV⟩
  obtain ⟨m₂, F₂⟩ := FV.out; clear FV
  dsimp only [kstB] at F₂
  (try k_fold)
  · (try k_fold)
    walk_at "goX"
    rename Heap.IsList _ _ _ => hl2
    rename Fr _ _ _ _ => F₃
    rename News _ _ _ _ => N₃
    have hwl' : ws.length = 4 * fw.length := by rw [hws.len_eq, List.length_replicate]
    have e4 : (4 * (fw.length : Int)).toNat = 4 * fw.length := by omega
    rw [e4] at hl2
    simp only [List.flatten_replicate_singleton] at hl2
    refine SeqAt.eq_listAt (e := fun _ => true) ⟨_, N₃.get (.tail _ (.head _)), rfl, _, rfl⟩ hl2 (by simp [hwl']) (show 7 < cLine by decide) (fun j h1 h2 => ?_) ?_
    · have h1' : j < ws.length := by simpa using h1
      obtain ⟨y, t, e1, e2⟩ := hws.item j (ws[j]'h1') (by simp)
      obtain rfl : refusal = y := by
        rw [List.getElem?_replicate, if_pos (by omega)] at e2
        exact Option.some.inj e2
      have e3 : ws.toArray[j] = .str refusal t := e1
      rw [e3]
      simp only [List.getElem_toArray, List.getElem_replicate]
      rw [← beq_self_eq_true refusal]
      exact SeqAt.EqAt.str_str refusal t refusal tk₃
    · rw [show ((List.range ws.toArray.size).all fun _ => true) = true from by simp]
      exact hret _ _ F₃.keep
end
end Mine

set_option maxRecDepth 100000 in
set_option maxHeartbeats 4000000 in
theorem PySem.Challenge.cw_pg0086_01_holds : PySem.Challenge.rw_pg0086_01.Holds := by
  refine Mine.hd ?_
  k_fill
  intro w s₀ s₁ mg mb G Y fa o pm cd doc dV kV ho hd hcd hD hmg hg args vals as hpre hlay hrd hwl hlo
  have KX := kIn_of Y
  have X := (Ground.X G).1
  refine Ground.open G ?_
  intro T B D TE TW
  have hfa : mg "law" = some (.ref 68) := mg_of KX T.g (by k_is)
  have hfa' : fa = 68 := by
    have e : some (Value.ref 68) = some (Value.ref fa) := hfa.symm.trans hmg
    cases e
    rfl
  wrow_args hpre hlay hrd hwl hlo
  all_goals (
    rename IntsAre _ _ => hI
    rename Heap.IsList _ _ _ => hL
    rename (¬ (_ : Int) < _) => hlen
    subst hfa'
    refine enter_call ?_
    w_top on
    try refine codeAny_mono ?_ (fun _ _ g => GoodW.toG g)
    refine Mine.law_c w s₀ mg mb _ _ _ hI (by omega) s₁ _ ⟨below_caller _, KX, T⟩ hL fun h' tk' hk => ?_
    refine ⟨.inl ⟨_, .bool true, [], rfl, raisesW_false ?_, ReadsW.bool _, ?_, fun h => ⟨.nil, fun _ q => nomatch q⟩⟩, hk, rfl, hg⟩
    · wrow_none_raised
    · wrow_post)
