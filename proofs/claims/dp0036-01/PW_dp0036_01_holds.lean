import PyProof.Rows.All
import Wide.All
import OpenK.AllK
import Wide.FinOn
import KE.KSortAsk
import PySem.Challenge.RW_dp0036_01
set_option Elab.async false

section PartP1
/- Plain law: stable matchings, deferred acceptance, marks. No program in sight. -/
set_option autoImplicit false
namespace Mine

abbrev Rk := Int × Int

def rlt (a b : Rk) : Bool := decide (a.1 < b.1) || (decide (a.1 = b.1) && decide (a.2 < b.2))

theorem rlt_iff {a b : Rk} : rlt a b = true ↔ a.1 < b.1 ∨ (a.1 = b.1 ∧ a.2 < b.2) := by
  unfold rlt; simp
theorem rlt_irrefl (a : Rk) : rlt a a = false := by
  cases h : rlt a a
  · rfl
  · rw [rlt_iff] at h; omega
theorem rlt_trans {a b c : Rk} (h1 : rlt a b = true) (h2 : rlt b c = true) : rlt a c = true := by
  rw [rlt_iff] at *; omega
theorem rlt_asymm {a b : Rk} (h1 : rlt a b = true) : rlt b a = false := by
  cases h : rlt b a
  · rfl
  · rw [rlt_iff] at *; omega
theorem rlt_total {a b : Rk} (h1 : rlt a b = false) (h2 : rlt b a = false) : a = b := by
  have e1 : ¬ (rlt a b = true) := by simp [h1]
  have e2 : ¬ (rlt b a = true) := by simp [h2]
  rw [rlt_iff] at e1 e2
  apply Prod.ext <;> omega
/-- not less: less or equal the other way round, chained with less -/
theorem rlt_of_nlt_lt {a b c : Rk} (h1 : rlt b a = false) (h2 : rlt b c = true) : rlt a c = true := by
  have e1 : ¬ (rlt b a = true) := by simp [h1]
  rw [rlt_iff] at *; omega
theorem rlt_of_lt_nlt {a b c : Rk} (h1 : rlt a b = true) (h2 : rlt c b = false) : rlt a c = true := by
  have e1 : ¬ (rlt c b = true) := by simp [h2]
  rw [rlt_iff] at *; omega
theorem nlt_trans {a b c : Rk} (h1 : rlt b a = false) (h2 : rlt c b = false) : rlt c a = false := by
  have e1 : ¬ (rlt b a = true) := by simp [h1]
  have e2 : ¬ (rlt c b = true) := by simp [h2]
  cases h : rlt c a
  · rfl
  · rw [rlt_iff] at *; omega
theorem rlt_or_of_ne {a b : Rk} (h : a ≠ b) (h1 : rlt a b = false) : rlt b a = true := by
  cases h2 : rlt b a
  · exact absurd (rlt_total h1 h2) h
  · rfl

/-- how many below n -/
def cnt : Nat → (Nat → Bool) → Nat
  | 0, _ => 0
  | n + 1, p => cnt n p + (if p n = true then 1 else 0)

theorem cnt_mono {n : Nat} {p q : Nat → Bool} (h : ∀ j, j < n → p j = true → q j = true) : cnt n p ≤ cnt n q := by
  induction n with
  | zero => exact Nat.le_refl _
  | succ n ih =>
    have h1 := ih fun j hj => h j (by omega)
    have h2 := h n (by omega)
    simp only [cnt]
    by_cases hp : p n = true
    · rw [if_pos hp, if_pos (h2 hp)]; omega
    · rw [if_neg hp]; split <;> omega

theorem cnt_lt {n : Nat} {p q : Nat → Bool} (h : ∀ j, j < n → p j = true → q j = true) {i : Nat} (hi : i < n) (hq : q i = true) (hp : p i = false) : cnt n p < cnt n q := by
  induction n with
  | zero => omega
  | succ n ih =>
    simp only [cnt]
    by_cases e : i = n
    · subst e
      have h1 := cnt_mono (n := i) (p := p) (q := q) fun j hj => h j (by omega)
      rw [if_pos hq, if_neg (by simp [hp])]; omega
    · have h1 := ih (fun j hj => h j (by omega)) (by omega)
      have h2 := h n (by omega)
      by_cases hpn : p n = true
      · rw [if_pos hpn, if_pos (h2 hpn)]; omega
      · rw [if_neg hpn]; split <;> omega

theorem exists_of_cnt_lt {n : Nat} {p q : Nat → Bool} (h : cnt n p < cnt n q) : ∃ j, j < n ∧ q j = true ∧ p j = false := by
  induction n with
  | zero => simp [cnt] at h
  | succ n ih =>
    by_cases hq : q n = true
    · by_cases hp : p n = true
      · simp only [cnt, if_pos hq, if_pos hp] at h
        obtain ⟨j, hj, r⟩ := ih (by omega)
        exact ⟨j, by omega, r⟩
      · exact ⟨n, by omega, hq, by simpa using hp⟩
    · simp only [cnt, if_neg hq] at h
      have : cnt n p < cnt n q := by split at h <;> omega
      obtain ⟨j, hj, r⟩ := ih this
      exact ⟨j, by omega, r⟩

theorem cnt_congr {n : Nat} {p q : Nat → Bool} (h : ∀ j, j < n → p j = q j) : cnt n p = cnt n q := by
  induction n with
  | zero => rfl
  | succ n ih => simp only [cnt]; rw [ih fun j hj => h j (by omega), h n (by omega)]

theorem cnt_false (n : Nat) : cnt n (fun _ => false) = 0 := by
  induction n with
  | zero => rfl
  | succ n ih => simp [cnt, ih]

/-- a list without doubles whose members are below n -/
theorem length_eq_cnt {n : Nat} : ∀ {l : List Nat}, l.Nodup → (∀ j ∈ l, j < n) → l.length = cnt n (fun j => decide (j ∈ l)) := by
  intro l
  induction l with
  | nil => intro _ _; simp [cnt_false]
  | cons a l ih =>
    intro hnd hlt
    obtain ⟨ha, hl⟩ := List.nodup_cons.mp hnd
    have e := ih hl fun j hj => hlt j (List.mem_cons_of_mem _ hj)
    have han : a < n := hlt a List.mem_cons_self
    rw [List.length_cons, e]
    clear e ih hnd hlt hl
    induction n with
    | zero => omega
    | succ n ih2 =>
      simp only [cnt]
      by_cases q : a = n
      · subst q
        have e2 : cnt a (fun j => decide (j ∈ a :: l)) = cnt a (fun j => decide (j ∈ l)) := cnt_congr fun j hj => by
          have : j ≠ a := by omega
          simp [List.mem_cons, this]
        rw [e2]
        simp [ha]
      · have := ih2 (by omega)
        have e3 : decide (n ∈ a :: l) = decide (n ∈ l) := by
          have : n ≠ a := fun h => q h.symm
          simp [List.mem_cons, this]
        simp only [e3]; omega

theorem cnt_filter (n : Nat) (p : Nat → Bool) : ((List.range n).filter p).length = cnt n p := by
  induction n with
  | zero => rfl
  | succ n ih =>
    rw [List.range_succ, List.filter_append, List.length_append, ih]
    simp only [cnt, List.filter_cons, List.filter_nil]
    split <;> simp

section
variable (n : Nat) (w : Nat → Nat → Nat) (rk : Nat → Nat → Rk) (cap : Nat → Nat)

/-- under k pupil i is at school s -/
def inS (k : Nat → Nat) (s i : Nat) : Bool := decide (k i < 3) && decide (w i (k i) = s)

theorem inS_iff {k : Nat → Nat} {s i : Nat} : inS w k s i = true ↔ k i < 3 ∧ w i (k i) = s := by
  unfold inS; simp

structure Stable (k : Nat → Nat) : Prop where
  room : ∀ s, s < 3 → cnt n (inS w k s) ≤ cap s
  just : ∀ i, i < n → ∀ t, t < 3 → t < k i → cap (w i t) ≤ cnt n (fun j => inS w k (w i t) j && rlt (rk (w i t) j) (rk (w i t) i))

variable {n w rk cap}

theorem Stable.never {k r : Nat → Nat} (S : Stable n w rk cap k) (hr : ∀ j, j < n → r j ≤ k j) {s i : Nat} (hs : s < 3) (hi : i < n) {B : Nat → Bool}
    (hB : ∀ j, j < n → B j = true → inS w r s j = true ∧ rlt (rk s j) (rk s i) = true) (hc : cap s ≤ cnt n B) : inS w k s i = false := by
  cases hk : inS w k s i with
  | false => rfl
  | true =>
    exfalso
    have hcap := S.room s hs
    have hiB : B i = false := by
      cases h : B i with
      | false => rfl
      | true => have := (hB i hi h).2; rw [rlt_irrefl] at this; cases this
    have h1 : cnt n (fun j => B j && inS w k s j) < cnt n (inS w k s) := cnt_lt (fun j _ h => by simp at h; exact h.2) hi hk (by simp [hiB])
    obtain ⟨j, hj, hBj, hnj⟩ := exists_of_cnt_lt (n := n) (p := fun j => B j && inS w k s j) (q := B) (by omega)
    have hkj : inS w k s j = false := by simpa [hBj] using hnj
    obtain ⟨hrj, hlt⟩ := hB j hj hBj
    obtain ⟨h3, hw⟩ := (inS_iff w).mp hrj
    have hle := hr j hj
    have hlt' : r j < k j := by
      rcases Nat.lt_or_ge (r j) (k j) with h | h
      · exact h
      · have e : k j = r j := by omega
        have : inS w k s j = true := (inS_iff w).mpr ⟨by omega, by rw [e]; exact hw⟩
        rw [hkj] at this; cases this
    have hJ := S.just j hj (r j) h3 hlt'
    rw [hw] at hJ
    have h2 : cnt n (fun j' => inS w k s j' && rlt (rk s j') (rk s j)) < cnt n (inS w k s) := cnt_lt (fun j' _ h => by simp at h; exact h.1) hi hk (by simp [rlt_asymm hlt])
    omega

/-- deferred acceptance between two turns -/
structure DA (n : Nat) (w : Nat → Nat → Nat) (rk : Nat → Nat → Rk) (cap : Nat → Nat) (r : Nat → Nat) (H : Nat → List Nat) (pile : List Nat) : Prop where
  rle : ∀ i, i < n → r i ≤ 3
  held : ∀ s, s < 3 → ∀ j ∈ H s, j < n ∧ inS w r s j = true
  hnd : ∀ s, s < 3 → (H s).Nodup
  hcap : ∀ s, s < 3 → (H s).length ≤ cap s
  pl : ∀ i ∈ pile, i < n
  pnd : pile.Nodup
  disj : ∀ s, s < 3 → ∀ j ∈ H s, j ∉ pile
  cov : ∀ i, i < n → r i < 3 → i ∈ pile ∨ i ∈ H (w i (r i))
  just : ∀ i, i < n → ∀ t, t < 3 → t < r i → (H (w i t)).length = cap (w i t) ∧ ∀ j ∈ H (w i t), rlt (rk (w i t) j) (rk (w i t) i) = true
  opt : ∀ k, Stable n w rk cap k → ∀ i, i < n → r i ≤ k i

def upd {α : Type} (f : Nat → α) (a : Nat) (v : α) : Nat → α := fun x => if x = a then v else f x
theorem upd_same {α : Type} (f : Nat → α) (a : Nat) (v : α) : upd f a v a = v := by simp [upd]
theorem upd_other {α : Type} (f : Nat → α) {a x : Nat} (v : α) (h : x ≠ a) : upd f a v x = f x := by simp [upd, h]

theorem DA.start : DA n w rk cap (fun _ => 0) (fun _ => []) (List.range n) where
  rle := fun _ _ => by omega
  held := fun _ _ _ h => by cases h
  hnd := fun _ _ => List.nodup_nil
  hcap := fun _ _ => by simp
  pl := fun i h => by simpa using h
  pnd := List.nodup_range
  disj := fun _ _ _ h => by cases h
  cov := fun i hi _ => .inl (by simpa using hi)
  just := fun _ _ _ _ h => by omega
  opt := fun _ _ _ _ => Nat.zero_le _

variable {r : Nat → Nat} {H : Nat → List Nat} {rest : List Nat} {i : Nat}

/-- the popped one has been refused by all -/
theorem DA.out (D : DA n w rk cap r H (rest ++ [i])) (h3 : r i = 3) : DA n w rk cap r H rest where
  rle := D.rle
  held := D.held
  hnd := D.hnd
  hcap := D.hcap
  pl := fun j hj => D.pl j (List.mem_append_left _ hj)
  pnd := (List.nodup_append.mp D.pnd).1
  disj := fun s hs j hj hm => D.disj s hs j hj (List.mem_append_left _ hm)
  cov := fun j hj h => by
    rcases D.cov j hj h with h' | h'
    · rcases List.mem_append.mp h' with h'' | h''
      · exact .inl h''
      · have : j = i := by simpa using h''
        subst this; omega
    · exact .inr h'
  just := D.just
  opt := D.opt

theorem DA.popped (D : DA n w rk cap r H (rest ++ [i])) : i < n ∧ i ∉ rest ∧ rest.Nodup ∧ ∀ s, s < 3 → i ∉ H s := by
  obtain ⟨h1, h2, h3⟩ := List.nodup_append.mp D.pnd
  exact ⟨D.pl i (by simp), fun hm => h3 i hm i (by simp) rfl, h1, fun s hs hm => D.disj s hs i hm (by simp)⟩

/-- a free seat -/
theorem DA.seat (D : DA n w rk cap r H (rest ++ [i])) (h3 : r i < 3) (hw : ∀ i, i < n → ∀ t, t < 3 → w i t < 3) (hf : (H (w i (r i))).length < cap (w i (r i)))
    {l : List Nat} (hl : l.Perm (H (w i (r i)) ++ [i])) : DA n w rk cap r (upd H (w i (r i)) l) rest := by
  obtain ⟨hin, hir, hrn, hiH⟩ := D.popped
  have hs3 : w i (r i) < 3 := hw i hin _ h3
  have hmem : ∀ j, j ∈ l ↔ j ∈ H (w i (r i)) ∨ j = i := fun j => by rw [hl.mem_iff]; simp
  constructor
  · exact D.rle
  · intro s hs j hj
    by_cases e : s = w i (r i)
    · subst e
      rw [upd_same] at hj
      rcases (hmem j).mp hj with h | h
      · exact D.held _ hs j h
      · subst h; exact ⟨hin, (inS_iff w).mpr ⟨h3, rfl⟩⟩
    · rw [upd_other _ _ e] at hj
      exact D.held s hs j hj
  · intro s hs
    by_cases e : s = w i (r i)
    · subst e
      rw [upd_same]
      refine hl.symm.nodup (List.nodup_append.mpr ⟨D.hnd _ hs, by simp, fun a ha b hb => ?_⟩)
      have : b = i := by simpa using hb
      subst this
      intro e; subst e; exact hiH _ hs ha
    · rw [upd_other _ _ e]; exact D.hnd s hs
  · intro s hs
    by_cases e : s = w i (r i)
    · subst e; rw [upd_same, hl.length_eq]; simp; omega
    · rw [upd_other _ _ e]; exact D.hcap s hs
  · exact fun j hj => D.pl j (List.mem_append_left _ hj)
  · exact hrn
  · intro s hs j hj hm
    by_cases e : s = w i (r i)
    · subst e
      rw [upd_same] at hj
      rcases (hmem j).mp hj with h | h
      · exact D.disj _ hs j h (List.mem_append_left _ hm)
      · subst h; exact hir hm
    · rw [upd_other _ _ e] at hj
      exact D.disj s hs j hj (List.mem_append_left _ hm)
  · intro j hj h
    by_cases e : w j (r j) = w i (r i)
    · rw [e, upd_same]
      rcases D.cov j hj h with h' | h'
      · rcases List.mem_append.mp h' with h'' | h''
        · exact .inl h''
        · exact .inr ((hmem j).mpr (.inr (by simpa using h'')))
      · exact .inr ((hmem j).mpr (.inl (by rw [e] at h'; exact h')))
    · rw [upd_other _ _ e]
      rcases D.cov j hj h with h' | h'
      · rcases List.mem_append.mp h' with h'' | h''
        · exact .inl h''
        · have : j = i := by simpa using h''
          subst this; exact absurd rfl e
      · exact .inr h'
  · intro j hj t ht htr
    have J := D.just j hj t ht htr
    by_cases e : w j t = w i (r i)
    · rw [e] at J; omega
    · rw [upd_other _ _ e]; exact J
  · exact D.opt

/-- the count behind a full list -/
theorem cnt_of_full {s : Nat} {l : List Nat} (hnd : l.Nodup) (hlt : ∀ j ∈ l, j < n) (hl : cap s ≤ l.length) : cap s ≤ cnt n (fun j => decide (j ∈ l)) := by
  rw [← length_eq_cnt hnd hlt]; exact hl

/-- the one who asks is worse than all who are held -/
theorem DA.refuse (D : DA n w rk cap r H (rest ++ [i])) (h3 : r i < 3) (hw : ∀ i, i < n → ∀ t, t < 3 → w i t < 3)
    (hf : (H (w i (r i))).length = cap (w i (r i)))
    (hworse : ∀ j ∈ H (w i (r i)), rlt (rk (w i (r i)) j) (rk (w i (r i)) i) = true) : DA n w rk cap (upd r i (r i + 1)) H (rest ++ [i]) := by
  obtain ⟨hin, hir, hrn, hiH⟩ := D.popped
  have hs3 : w i (r i) < 3 := hw i hin _ h3
  have hinS : ∀ s, s < 3 → ∀ j ∈ H s, inS w (upd r i (r i + 1)) s j = true := fun s hs j hj => by
    have hne : j ≠ i := fun e => hiH s hs (e ▸ hj)
    have := (D.held s hs j hj).2
    rw [inS_iff] at this ⊢
    rw [upd_other _ _ hne]; exact this
  constructor
  · intro j hj
    by_cases e : j = i
    · subst e; rw [upd_same]; omega
    · rw [upd_other _ _ e]; exact D.rle j hj
  · exact fun s hs j hj => ⟨(D.held s hs j hj).1, hinS s hs j hj⟩
  · exact D.hnd
  · exact D.hcap
  · exact D.pl
  · exact D.pnd
  · exact D.disj
  · intro j hj h
    by_cases e : j = i
    · subst e; exact .inl (by simp)
    · rw [upd_other _ _ e] at h ⊢
      exact D.cov j hj h
  · intro j hj t ht htr
    by_cases e : j = i
    · subst e
      rw [upd_same] at htr
      by_cases e2 : t = r j
      · subst e2; exact ⟨hf, hworse⟩
      · exact D.just j hj t ht (by omega)
    · rw [upd_other _ _ e] at htr
      exact D.just j hj t ht htr
  · intro k hk j hj
    by_cases e : j = i
    · subst e
      rw [upd_same]
      have hle := D.opt k hk j hj
      have hno := hk.never (D.opt k hk) hs3 hj (B := fun j' => decide (j' ∈ H (w j (r j)))) (fun j' _ hm => by
        have hm' : j' ∈ H (w j (r j)) := by simpa using hm
        exact ⟨(D.held _ hs3 j' hm').2, hworse j' hm'⟩) (cnt_of_full (D.hnd _ hs3) (fun j' hj' => (D.held _ hs3 j' hj').1) (by omega))
      rcases Nat.lt_or_ge (r j) (k j) with h | h
      · exact h
      · have e : k j = r j := by omega
        have : inS w k (w j (r j)) j = true := (inS_iff w).mpr ⟨by omega, by rw [e]⟩
        rw [hno] at this; cases this
    · rw [upd_other _ _ e]; exact D.opt k hk j hj

/-- the worst one has to go -/
theorem DA.swap (D : DA n w rk cap r H (rest ++ [i])) (h3 : r i < 3) (hw : ∀ i, i < n → ∀ t, t < 3 → w i t < 3)
    (hf : (H (w i (r i))).length = cap (w i (r i))) {x : Nat} (hx : x ∈ H (w i (r i))) (hworst : ∀ j ∈ H (w i (r i)), j ≠ x → rlt (rk (w i (r i)) j) (rk (w i (r i)) x) = true)
    (hbetter : rlt (rk (w i (r i)) i) (rk (w i (r i)) x) = true)
    {l : List Nat} (hl : (l ++ [x]).Perm (H (w i (r i)) ++ [i])) : DA n w rk cap (upd r x (r x + 1)) (upd H (w i (r i)) l) (rest ++ [x]) := by
  obtain ⟨hin, hir, hrn, hiH⟩ := D.popped
  have hs3 : w i (r i) < 3 := hw i hin _ h3
  obtain ⟨hxn, hxS⟩ := D.held _ hs3 x hx
  obtain ⟨hx3, hxw⟩ := (inS_iff w).mp hxS
  have hxi : x ≠ i := fun e => hiH _ hs3 (e ▸ hx)
  have hxr : x ∉ rest := fun hm => D.disj _ hs3 x hx (List.mem_append_left _ hm)
  have hnd' : (l ++ [x]).Nodup := hl.symm.nodup (List.nodup_append.mpr ⟨D.hnd _ hs3, by simp, fun a ha b hb => by
    have : b = i := by simpa using hb
    subst this
    intro e; subst e; exact hiH _ hs3 ha⟩)
  obtain ⟨hlnd, _, hlx⟩ := List.nodup_append.mp hnd'
  have hxl : x ∉ l := fun hm => hlx x hm x (by simp) rfl
  have hmem : ∀ j, j ∈ l ↔ (j ∈ H (w i (r i)) ∨ j = i) ∧ j ≠ x := fun j => by
    have := hl.mem_iff (a := j)
    simp only [List.mem_append, List.mem_singleton] at this
    constructor
    · intro hj; exact ⟨this.mp (.inl hj), fun e => hxl (e ▸ hj)⟩
    · rintro ⟨h1, h2⟩
      rcases this.mpr h1 with h | h
      · exact h
      · exact absurd h h2
  have hlen : l.length = cap (w i (r i)) := by
    have := hl.length_eq
    simp at this
    omega
  have hbet : ∀ j ∈ l, rlt (rk (w i (r i)) j) (rk (w i (r i)) x) = true := fun j hj => by
    obtain ⟨h1, h2⟩ := (hmem j).mp hj
    rcases h1 with h1 | h1
    · exact hworst j h1 h2
    · subst h1; exact hbetter
  have hlS : ∀ j ∈ l, j < n ∧ inS w r (w i (r i)) j = true := fun j hj => by
    obtain ⟨h1, h2⟩ := (hmem j).mp hj
    rcases h1 with h1 | h1
    · exact D.held _ hs3 j h1
    · subst h1; exact ⟨hin, (inS_iff w).mpr ⟨h3, rfl⟩⟩
  constructor
  · intro j hj
    by_cases e : j = x
    · subst e; rw [upd_same]; omega
    · rw [upd_other _ _ e]; exact D.rle j hj
  · intro s hs j hj
    have key : j < n ∧ inS w r s j = true ∧ j ≠ x := by
      by_cases e : s = w i (r i)
      · subst e
        rw [upd_same] at hj
        exact ⟨(hlS j hj).1, (hlS j hj).2, fun e => hxl (e ▸ hj)⟩
      · rw [upd_other _ _ e] at hj
        refine ⟨(D.held s hs j hj).1, (D.held s hs j hj).2, fun e' => e ?_⟩
        subst e'
        have := ((inS_iff w).mp (D.held s hs j hj).2).2
        rw [← this, hxw]
    refine ⟨key.1, ?_⟩
    have := key.2.1
    rw [inS_iff] at this ⊢
    rw [upd_other _ _ key.2.2]; exact this
  · intro s hs
    by_cases e : s = w i (r i)
    · subst e; rw [upd_same]; exact hlnd
    · rw [upd_other _ _ e]; exact D.hnd s hs
  · intro s hs
    by_cases e : s = w i (r i)
    · subst e; rw [upd_same]; omega
    · rw [upd_other _ _ e]; exact D.hcap s hs
  · intro j hj
    rcases List.mem_append.mp hj with h | h
    · exact D.pl j (List.mem_append_left _ h)
    · have : j = x := by simpa using h
      subst this; exact hxn
  · refine List.nodup_append.mpr ⟨hrn, by simp, fun a ha b hb => ?_⟩
    have : b = x := by simpa using hb
    subst this
    intro e; subst e; exact hxr ha
  · intro s hs j hj hm
    rcases List.mem_append.mp hm with h | h
    · by_cases e : s = w i (r i)
      · subst e
        rw [upd_same] at hj
        obtain ⟨h1, h2⟩ := (hmem j).mp hj
        rcases h1 with h1 | h1
        · exact D.disj _ hs j h1 (List.mem_append_left _ h)
        · subst h1; exact hir h
      · rw [upd_other _ _ e] at hj
        exact D.disj s hs j hj (List.mem_append_left _ h)
    · have hjx : j = x := by simpa using h
      subst hjx
      by_cases e : s = w i (r i)
      · subst e; rw [upd_same] at hj; exact hxl hj
      · rw [upd_other _ _ e] at hj
        have := ((inS_iff w).mp (D.held s hs j hj).2).2
        exact e (by rw [← this, hxw])
  · intro j hj h
    by_cases ex : j = x
    · subst ex; exact .inl (by simp)
    rw [upd_other _ _ ex] at h ⊢
    by_cases e : w j (r j) = w i (r i)
    · rw [e, upd_same]
      rcases D.cov j hj h with h' | h'
      · rcases List.mem_append.mp h' with h'' | h''
        · exact .inl (List.mem_append_left _ h'')
        · exact .inr ((hmem j).mpr ⟨.inr (by simpa using h''), ex⟩)
      · exact .inr ((hmem j).mpr ⟨.inl (by rw [e] at h'; exact h'), ex⟩)
    · rw [upd_other _ _ e]
      rcases D.cov j hj h with h' | h'
      · rcases List.mem_append.mp h' with h'' | h''
        · exact .inl (List.mem_append_left _ h'')
        · have : j = i := by simpa using h''
          subst this; exact absurd rfl e
      · exact .inr h'
  · intro j hj t ht htr
    by_cases ex : j = x
    · subst ex
      rw [upd_same] at htr
      by_cases e2 : t = r j
      · subst e2
        rw [hxw, upd_same]
        exact ⟨hlen, hbet⟩
      · have J := D.just j hj t ht (by omega)
        by_cases e : w j t = w i (r i)
        · rw [e] at J ⊢
          have := J.2 j hx
          rw [rlt_irrefl] at this; cases this
        · rw [upd_other _ _ e]; exact J
    · rw [upd_other _ _ ex] at htr
      have J := D.just j hj t ht htr
      by_cases e : w j t = w i (r i)
      · rw [e] at J ⊢
        rw [upd_same]
        exact ⟨hlen, fun j' hj' => rlt_trans (hbet j' hj') (J.2 x hx)⟩
      · rw [upd_other _ _ e]; exact J
  · intro k hk j hj
    by_cases e : j = x
    · subst e
      rw [upd_same]
      have hle := D.opt k hk j hj
      have hno := hk.never (D.opt k hk) hs3 hj (B := fun j' => decide (j' ∈ l)) (fun j' _ hm => by
        have hm' : j' ∈ l := by simpa using hm
        exact ⟨(hlS j' hm').2, hbet j' hm'⟩) (cnt_of_full hlnd (fun j' hj' => (hlS j' hj').1) (by omega))
      rcases Nat.lt_or_ge (r j) (k j) with h | h
      · exact h
      · have e : k j = r j := by omega
        have : inS w k (w i (r i)) j = true := (inS_iff w).mpr ⟨by omega, by rw [e]; exact hxw⟩
        rw [hno] at this; cases this
    · rw [upd_other _ _ e]; exact D.opt k hk j hj

theorem DA.stable (D : DA n w rk cap r H []) (hw : ∀ i, i < n → ∀ t, t < 3 → w i t < 3) : Stable n w rk cap r where
  room := fun s hs => by
    refine Nat.le_trans ?_ (D.hcap s hs)
    rw [length_eq_cnt (D.hnd s hs) fun j hj => (D.held s hs j hj).1]
    refine cnt_mono fun j hj h => ?_
    obtain ⟨h3, hw⟩ := (inS_iff w).mp h
    rcases D.cov j hj h3 with h' | h'
    · cases h'
    · rw [hw] at h'; simpa using h'
  just := fun i hi t ht htr => by
    obtain ⟨h1, h2⟩ := D.just i hi t ht htr
    have hs := hw i hi t ht
    rw [← h1, length_eq_cnt (D.hnd _ hs) fun j hj => (D.held _ hs j hj).1]
    refine cnt_mono fun j hj h => ?_
    have h' : j ∈ H (w i t) := by simpa using h
    simp [(D.held _ hs j h').2, h2 j h']

theorem DA.at_end (D : DA n w rk cap r H []) {s : Nat} (hs : s < 3) : (H s).Perm ((List.range n).filter (inS w r s)) := by
  refine (List.perm_ext_iff_of_nodup (D.hnd s hs) (List.nodup_range.filter _)).mpr fun j => ?_
  simp only [List.mem_filter, List.mem_range]
  constructor
  · exact fun h => D.held s hs j h
  · rintro ⟨hj, h⟩
    obtain ⟨h3, hw⟩ := (inS_iff w).mp h
    rcases D.cov j hj h3 with h' | h'
    · cases h'
    · rw [hw] at h'; exact h'

/-- a school's mark lets the pupil in -/
def lets (rk : Nat → Nat → Rk) (marks : Nat → Option Rk) (s i : Nat) : Bool := match marks s with
  | none => true
  | some m => !rlt m (rk s i)

/-- the place of the first school that lets it in -/
def first (w : Nat → Nat → Nat) (rk : Nat → Nat → Rk) (marks : Nat → Option Rk) (i : Nat) : Nat :=
  if lets rk marks (w i 0) i = true then 0 else if lets rk marks (w i 1) i = true then 1 else if lets rk marks (w i 2) i = true then 2 else 3

theorem first_le3 {marks : Nat → Option Rk} {i : Nat} : first w rk marks i ≤ 3 := by
  unfold first; (repeat' split) <;> omega
theorem first_lets {marks : Nat → Option Rk} {i : Nat} (h : first w rk marks i < 3) : lets rk marks (w i (first w rk marks i)) i = true := by
  unfold first at h ⊢
  (repeat' split) <;> (try assumption)
  simp_all
theorem first_least {marks : Nat → Option Rk} {i t : Nat} (h : t < first w rk marks i) : lets rk marks (w i t) i = false := by
  unfold first at h
  (repeat' split at h) <;> first
    | omega
    | (have ht : t = 0 := by omega
       subst ht; simp_all)
    | (have ht : t = 0 ∨ t = 1 := by omega
       rcases ht with ht | ht <;> subst ht <;> simp_all)
    | (have ht : t = 0 ∨ t = 1 ∨ t = 2 := by omega
       rcases ht with ht | ht | ht <;> subst ht <;> simp_all)
theorem first_le {marks : Nat → Option Rk} {i t : Nat} (ht : t ≤ 3) (h : t < 3 → lets rk marks (w i t) i = true) : first w rk marks i ≤ t := by
  rcases Nat.lt_or_ge t (first w rk marks i) with h' | h'
  · have h3 : first w rk marks i ≤ 3 := first_le3
    have := first_least h'
    rw [h (by omega)] at this; cases this
  · exact h'
theorem first_eq {marks : Nat → Option Rk} {i t : Nat} (ht : t < 3) (h : lets rk marks (w i t) i = true) (hno : ∀ u, u < t → lets rk marks (w i u) i = false) : first w rk marks i = t := by
  have h1 := first_le (w := w) (rk := rk) (marks := marks) (i := i) (t := t) (by omega) fun _ => h
  rcases Nat.lt_or_ge (first w rk marks i) t with h' | h'
  · have := hno _ h'
    rw [first_lets (by omega)] at this; cases this
  · omega

/-- the rounds of marks, between two rounds -/
structure MK (n : Nat) (w : Nat → Nat → Nat) (rk : Nat → Nat → Rk) (cap : Nat → Nat) (marks : Nat → Option Rk) : Prop where
  full : ∀ s, s < 3 → ∀ m, marks s = some m → cap s ≤ cnt n (fun j => inS w (first w rk marks) s j && !rlt m (rk s j))
  opt : ∀ k, Stable n w rk cap k → (∀ i, i < n → k i ≤ 3) → ∀ i, i < n → first w rk marks i ≤ k i

theorem MK.start : MK n w rk cap (fun _ => none) where
  full := fun _ _ _ h => by cases h
  opt := fun k _ _ i _ => by
    have : first w rk (fun _ => none) i = 0 := by unfold first lets; simp
    omega

variable {marks marks' : Nat → Option Rk}

/-- one round: a school's mark stays, or goes down to one that cap s of those who ask reach -/
theorem MK.round (M : MK n w rk cap marks) (hw : ∀ i, i < n → ∀ t, t < 3 → w i t < 3)
    (hstep : ∀ s, s < 3 → marks' s = marks s ∨ ∃ m, marks' s = some m ∧ cap s ≤ cnt n (fun j => inS w (first w rk marks) s j && !rlt m (rk s j)) ∧ ∀ m', marks s = some m' → rlt m' m = false) :
    MK n w rk cap marks' := by
  have hfull : ∀ s, s < 3 → ∀ m, marks' s = some m → cap s ≤ cnt n (fun j => inS w (first w rk marks) s j && !rlt m (rk s j)) := fun s hs m hm => by
    rcases hstep s hs with h | ⟨m', h, hc, _⟩
    · exact M.full s hs m (h ▸ hm)
    · rw [hm] at h; cases h; exact hc
  have hlets : ∀ s, s < 3 → ∀ i, lets rk marks' s i = true → lets rk marks s i = true := fun s hs i h => by
    rcases hstep s hs with e | ⟨m', e, _, hm⟩
    · unfold lets at h ⊢; rw [e] at h; exact h
    · unfold lets at h ⊢
      rw [e] at h
      cases hq : marks s with
      | none => rfl
      | some m'' =>
        simp only [Bool.not_eq_true'] at h ⊢
        exact nlt_trans h (hm m'' hq)
  have hstay : ∀ j, j < n → ∀ s, s < 3 → inS w (first w rk marks) s j = true → lets rk marks' s j = true → first w rk marks' j = first w rk marks j := fun j hj s hs h hl => by
    obtain ⟨h3, hwj⟩ := (inS_iff w).mp h
    refine first_eq h3 (by rw [hwj]; exact hl) fun u hu => ?_
    cases hq : lets rk marks' (w j u) j with
    | false => rfl
    | true =>
      have := hlets _ (hw j hj u (by omega)) j hq
      rw [first_least hu] at this; cases this
  constructor
  · intro s hs m hm
    refine Nat.le_trans (hfull s hs m hm) (cnt_mono fun j hj h => ?_)
    simp only [Bool.and_eq_true] at h ⊢
    refine ⟨?_, h.2⟩
    have e := hstay j hj s hs h.1 (by unfold lets; rw [hm]; exact h.2)
    have := h.1
    rw [inS_iff] at this ⊢
    rw [e]; exact this
  · intro k hk hk3 i hi
    refine first_le (hk3 i hi) fun h3 => ?_
    cases hq : lets rk marks' (w i (k i)) i with
    | true => rfl
    | false =>
      exfalso
      have hs := hw i hi _ h3
      unfold lets at hq
      cases hm : marks' (w i (k i)) with
      | none => rw [hm] at hq; cases hq
      | some m =>
        rw [hm] at hq
        simp only [Bool.not_eq_false'] at hq
        have hno := hk.never (M.opt k hk hk3) hs hi (B := fun j => inS w (first w rk marks) (w i (k i)) j && !rlt m (rk (w i (k i)) j)) (fun j _ h => by
          simp only [Bool.and_eq_true, Bool.not_eq_true'] at h
          exact ⟨h.1, rlt_of_nlt_lt h.2 hq⟩) (hfull _ hs m hm)
        rw [(inS_iff w).mpr ⟨h3, rfl⟩] at hno; cases hno

theorem MK.stable (M : MK n w rk cap marks) (hw : ∀ i, i < n → ∀ t, t < 3 → w i t < 3) (hroom : ∀ s, s < 3 → cnt n (inS w (first w rk marks) s) ≤ cap s) : Stable n w rk cap (first w rk marks) where
  room := hroom
  just := fun i hi t ht htr => by
    have hno := first_least htr
    have hs := hw i hi t ht
    unfold lets at hno
    cases hm : marks (w i t) with
    | none => rw [hm] at hno; cases hno
    | some m =>
      rw [hm] at hno
      simp only [Bool.not_eq_false'] at hno
      refine Nat.le_trans (M.full _ hs m hm) (cnt_mono fun j _ h => ?_)
      simp only [Bool.and_eq_true, Bool.not_eq_true'] at h ⊢
      exact ⟨h.1, rlt_of_nlt_lt h.2 hno⟩

/-- both ends are one -/
theorem same_end (D : DA n w rk cap r H []) (M : MK n w rk cap marks) (hw : ∀ i, i < n → ∀ t, t < 3 → w i t < 3) (hroom : ∀ s, s < 3 → cnt n (inS w (first w rk marks) s) ≤ cap s) :
    ∀ i, i < n → r i = first w rk marks i := fun i hi => by
  have h1 := D.opt _ (M.stable hw hroom) i hi
  have h2 := M.opt _ (D.stable hw) D.rle i hi
  omega

def sumTo : Nat → (Nat → Nat) → Nat
  | 0, _ => 0
  | n + 1, f => sumTo n f + f n
theorem sumTo_le {f g : Nat → Nat} : ∀ {n : Nat}, (∀ i, i < n → f i ≤ g i) → sumTo n f ≤ sumTo n g
  | 0, _ => Nat.le_refl _
  | n + 1, h => by
    have := sumTo_le (n := n) fun i hi => h i (by omega)
    have := h n (by omega)
    simp only [sumTo]; omega
theorem sumTo_lt {f g : Nat → Nat} : ∀ {n : Nat}, (∀ i, i < n → f i ≤ g i) → ∀ {i : Nat}, i < n → f i < g i → sumTo n f < sumTo n g
  | 0, _, _, hi, _ => by omega
  | n + 1, h, i, hi, hlt => by
    have hn := h n (by omega)
    simp only [sumTo]
    by_cases e : i = n
    · subst e
      have := sumTo_le (n := i) fun i hi => h i (by omega)
      omega
    · have := sumTo_lt (n := n) (fun i hi => h i (by omega)) (i := i) (by omega) hlt
      omega
theorem sumTo_bound {f : Nat → Nat} {c : Nat} : ∀ {n : Nat}, (∀ i, i < n → f i ≤ c) → sumTo n f ≤ n * c
  | 0, _ => by simp [sumTo]
  | n + 1, h => by
    have := sumTo_bound (n := n) fun i hi => h i (by omega)
    have := h n (by omega)
    simp only [sumTo, Nat.succ_mul]; omega
theorem sumTo_upd {f : Nat → Nat} {a : Nat} : ∀ {n : Nat}, a < n → sumTo n (upd f a (f a + 1)) = sumTo n f + 1
  | 0, h => by omega
  | n + 1, h => by
    simp only [sumTo]
    by_cases e : a = n
    · subst e
      rw [upd_same]
      have : sumTo a (upd f a (f a + 1)) = sumTo a f := by
        clear h
        have : ∀ m, m ≤ a → sumTo m (upd f a (f a + 1)) = sumTo m f := by
          intro m
          induction m with
          | zero => intro _; rfl
          | succ m ih =>
            intro hm
            simp only [sumTo]
            rw [ih (by omega), upd_other _ _ (by omega)]
        exact this a (Nat.le_refl _)
      omega
    · have := sumTo_upd (f := f) (a := a) (n := n) (by omega)
      rw [this, upd_other _ _ (by omega)]; omega

/-- a round lowers what is left -/
theorem first_mono (hw : ∀ i, i < n → ∀ t, t < 3 → w i t < 3) (hstep : ∀ s, s < 3 → marks' s = marks s ∨ ∃ m, marks' s = some m ∧ ∀ m', marks s = some m' → rlt m' m = false) :
    ∀ i, i < n → first w rk marks i ≤ first w rk marks' i := fun i hi => by
  refine first_le first_le3 fun h3 => ?_
  have h := first_lets h3
  have hs := hw i hi _ h3
  rcases hstep _ hs with e | ⟨m', e, hm⟩
  · unfold lets at h ⊢; rw [e] at h; exact h
  · unfold lets at h ⊢
    rw [e] at h
    cases hq : marks (w i (first w rk marks' i)) with
    | none => rfl
    | some m'' =>
      simp only [Bool.not_eq_true'] at h ⊢
      exact nlt_trans h (hm m'' hq)

theorem first_falls (hw : ∀ i, i < n → ∀ t, t < 3 → w i t < 3) (hstep : ∀ s, s < 3 → marks' s = marks s ∨ ∃ m, marks' s = some m ∧ ∀ m', marks s = some m' → rlt m' m = false)
    {s i : Nat} {m : Rk} (hi : i < n) (hin : inS w (first w rk marks) s i = true) (hm : marks' s = some m) (hlt : rlt m (rk s i) = true) : sumTo n (first w rk marks) < sumTo n (first w rk marks') := by
  have hmono := first_mono (rk := rk) hw hstep
  refine sumTo_lt hmono hi ?_
  have h1 := hmono i hi
  rcases Nat.lt_or_ge (first w rk marks i) (first w rk marks' i) with h | h
  · exact h
  · exfalso
    have e : first w rk marks' i = first w rk marks i := by omega
    obtain ⟨h3, hwi⟩ := (inS_iff w).mp hin
    have := first_lets (w := w) (rk := rk) (marks := marks') (i := i) (by omega)
    rw [e, hwi] at this
    unfold lets at this
    rw [hm] at this
    simp [hlt] at this
end

/-- sorted lists of the same things are one -/
theorem sorted_uniq : ∀ {a b : List Rk}, a.Perm b → a.Pairwise (fun x y => rlt y x = false) → b.Pairwise (fun x y => rlt y x = false) → a = b
  | [], b, hp, _, _ => hp.nil_eq
  | x :: a, [], hp, _, _ => by have := hp.length_eq; simp at this
  | x :: a, y :: b, hp, ha, hb => by
    obtain ⟨h1, h2⟩ := List.pairwise_cons.mp ha
    obtain ⟨h3, h4⟩ := List.pairwise_cons.mp hb
    have hx : rlt x y = false := by
      rcases List.mem_cons.mp (hp.mem_iff.mp List.mem_cons_self) with e | e
      · subst e; exact rlt_irrefl _
      · exact h3 x e
    have hy : rlt y x = false := by
      rcases List.mem_cons.mp (hp.mem_iff.mpr List.mem_cons_self) with e | e
      · subst e; exact rlt_irrefl _
      · exact h1 y e
    have e := rlt_total hx hy
    subst e
    rw [sorted_uniq (List.Perm.cons_inv hp) h2 h4]

end Mine
end PartP1

section PartP2
/- Plain law: max-heaps on lists of pupils. No program in sight. -/
set_option autoImplicit false
namespace Mine

def par (i : Nat) : Nat := (i - 1) / 2

theorem getD_set {l : List Nat} {i j v : Nat} (hi : i < l.length) : (l.set i v).getD j 0 = if i = j then v else l.getD j 0 := by
  by_cases e : i = j
  · subst e; simp [List.getD, hi]
  · simp [List.getD, e, List.getElem?_set_ne e]

def IsHeap (key : Nat → Rk) (l : List Nat) : Prop := ∀ i, 0 < i → i < l.length → rlt (key (l.getD (par i) 0)) (key (l.getD i 0)) = false

structure Up (key : Nat → Rk) (l : List Nat) (pos x : Nat) : Prop where
  far : ∀ i, 0 < i → i < l.length → i ≠ pos → par i ≠ pos → rlt (key (l.getD (par i) 0)) (key (l.getD i 0)) = false
  kid : ∀ i, 0 < i → i < l.length → par i = pos → rlt (key x) (key (l.getD i 0)) = false ∧ (0 < pos → rlt (key (l.getD (par pos) 0)) (key (l.getD i 0)) = false)

structure Down (key : Nat → Rk) (l : List Nat) (pos : Nat) : Prop where
  far : ∀ i, 0 < i → i < l.length → i ≠ pos → par i ≠ pos → rlt (key (l.getD (par i) 0)) (key (l.getD i 0)) = false
  kid : ∀ i, 0 < i → i < l.length → par i = pos → 0 < pos → rlt (key (l.getD (par pos) 0)) (key (l.getD i 0)) = false

variable {key : Nat → Rk} {l : List Nat} {pos x : Nat}

theorem par_lt {i : Nat} (h : 0 < i) : par i < i := by unfold par; omega

theorem Up.step (U : Up key l pos x) (h0 : 0 < pos) (hl : pos < l.length) (hlt : rlt (key (l.getD (par pos) 0)) (key x) = true) : Up key (l.set pos (l.getD (par pos) 0)) (par pos) x := by
  have hp := par_lt h0
  constructor
  · intro i hi hil hne hpne
    rw [List.length_set] at hil
    rw [getD_set hl, getD_set hl]
    have e1 : pos ≠ i := fun e => by subst e; exact hpne rfl
    rw [if_neg e1]
    by_cases e2 : pos = par i
    · rw [if_pos e2]
      exact (U.kid i hi hil e2.symm).2 h0
    · rw [if_neg e2]
      exact U.far i hi hil (Ne.symm e1) (Ne.symm e2)
  · intro i hi hil hpi
    rw [List.length_set] at hil
    rw [getD_set hl]
    by_cases e1 : pos = i
    · subst e1
      rw [if_pos rfl]
      refine ⟨rlt_asymm hlt, fun hpp => ?_⟩
      rw [getD_set hl, if_neg (by have := par_lt hpp; omega)]
      exact U.far (par pos) hpp (by omega) (by omega) (by have := par_lt hpp; omega)
    · rw [if_neg e1]
      have hfar := U.far i hi hil (Ne.symm e1) (by rw [hpi]; omega)
      rw [hpi] at hfar
      refine ⟨?_, fun hpp => ?_⟩
      · cases h : rlt (key x) (key (l.getD i 0)) with
        | false => rfl
        | true => rw [rlt_trans hlt h] at hfar; cases hfar
      · rw [getD_set hl, if_neg (by have := par_lt hpp; omega)]
        have h2 := U.far (par pos) hpp (by omega) (by omega) (by have := par_lt hpp; omega)
        exact nlt_trans hfar h2

theorem Up.stop (U : Up key l pos x) (hl : pos < l.length) (h : pos = 0 ∨ rlt (key (l.getD (par pos) 0)) (key x) = false) : IsHeap key (l.set pos x) := by
  intro i hi hil
  rw [List.length_set] at hil
  rw [getD_set hl, getD_set hl]
  by_cases e1 : pos = i
  · subst e1
    rw [if_pos rfl, if_neg (by have := par_lt hi; omega)]
    rcases h with h | h
    · omega
    · exact h
  · rw [if_neg e1]
    by_cases e2 : pos = par i
    · rw [if_pos e2]; exact (U.kid i hi hil e2.symm).1
    · rw [if_neg e2]; exact U.far i hi hil (Ne.symm e1) (Ne.symm e2)

theorem Down.start (h : IsHeap key l) {v : Nat} (hl : 0 < l.length) : Down key (l.set 0 v) 0 := by
  constructor
  · intro i hi hil hne hp
    rw [List.length_set] at hil
    rw [getD_set hl, getD_set hl, if_neg (by omega), if_neg (by omega)]
    exact h i hi hil
  · intro i _ _ _ h0; omega

theorem Down.step (D : Down key l pos) {c : Nat} (hl : pos < l.length) (hc0 : 0 < c) (hcl : c < l.length) (hpc : par c = pos)
    (hbig : ∀ i, 0 < i → i < l.length → par i = pos → rlt (key (l.getD c 0)) (key (l.getD i 0)) = false) : Down key (l.set pos (l.getD c 0)) c := by
  have hlt := par_lt hc0
  constructor
  · intro i hi hil hne hpne
    rw [List.length_set] at hil
    rw [getD_set hl, getD_set hl]
    by_cases e1 : pos = i
    · subst e1
      rw [if_pos rfl, if_neg (by have := par_lt hi; omega)]
      exact D.kid c hc0 hcl hpc hi
    · rw [if_neg e1]
      by_cases e2 : pos = par i
      · rw [if_pos e2]; exact hbig i hi hil e2.symm
      · rw [if_neg e2]; exact D.far i hi hil (Ne.symm e1) (Ne.symm e2)
  · intro i hi hil hpi _
    rw [List.length_set] at hil
    rw [getD_set hl, getD_set hl, if_pos hpc.symm, if_neg (by intro e; subst e; have := par_lt hi; omega)]
    have := D.far i hi hil (by intro e; subst e; have := par_lt hi; omega) (by rw [hpi]; omega)
    rw [hpi] at this; exact this

theorem Down.stop (D : Down key l pos) (h : l.length ≤ 2 * pos + 1) (x : Nat) : Up key l pos x := by
  refine ⟨D.far, fun i hi hil hp => ?_⟩
  exfalso; unfold par at hp; omega

/-- a heap and one more at its end -/
theorem Up.start (h : IsHeap key l) (x y : Nat) : Up key (l ++ [x]) l.length y := by
  constructor
  · intro i hi hil hne hpne
    rw [List.length_append, List.length_singleton] at hil
    have h1 : i < l.length := by omega
    have h2 : par i < l.length := by have := par_lt hi; omega
    have := h i hi h1
    simpa [List.getD, List.getElem?_append_left h1, List.getElem?_append_left h2] using this
  · intro i hi hil hp
    rw [List.length_append, List.length_singleton] at hil
    exfalso; unfold par at hp; omega

theorem heap_top (h : IsHeap key l) : ∀ i, i < l.length → rlt (key (l.getD 0 0)) (key (l.getD i 0)) = false := by
  intro i
  induction i using Nat.strongRecOn with
  | ind i ih =>
    intro hi
    by_cases h0 : i = 0
    · subst h0; exact rlt_irrefl _
    · have hp := par_lt (i := i) (by omega)
      exact nlt_trans (h i (by omega) hi) (ih (par i) hp (by omega))

theorem set_perm (v : Nat) : ∀ {l : List Nat} {i : Nat}, i < l.length → (l.set i v).Perm (v :: l.eraseIdx i)
  | [], i, h => by simp at h
  | a :: l, 0, _ => by simp
  | a :: l, i + 1, h => by
    simp only [List.set_cons_succ, List.eraseIdx_cons_succ]
    exact ((set_perm v (l := l) (i := i) (by simpa using h)).cons a).trans (List.Perm.swap _ _ _)
theorem get_perm : ∀ {l : List Nat} {i : Nat}, i < l.length → l.Perm (l.getD i 0 :: l.eraseIdx i)
  | [], i, h => by simp at h
  | a :: l, 0, _ => by simp
  | a :: l, i + 1, h => by
    simp only [List.getD_cons_succ, List.eraseIdx_cons_succ]
    exact ((get_perm (l := l) (i := i) (by simpa using h)).cons a).trans (List.Perm.swap _ _ _)

theorem perm_move {i j v : Nat} (hi : i < l.length) (hj : j < l.length) (hne : i ≠ j) : ((l.set i (l.getD j 0)).set j v).Perm (l.set i v) := by
  have hj' : j < (l.set i (l.getD j 0)).length := by rw [List.length_set]; exact hj
  have e1 := set_perm v hj'
  have e2 := get_perm hj'
  rw [getD_set hi, if_neg hne] at e2
  have e3 := set_perm (l.getD j 0) hi
  have e4 := (e2.symm.trans e3).cons_inv
  exact e1.trans ((e4.cons v).trans (set_perm v hi).symm)

theorem set_getD {i : Nat} (hi : i < l.length) : l.set i (l.getD i 0) = l := by
  simp [List.getD, hi]

end Mine
end PartP2

section PartW0
open PySem PySem.W PyProof.Rows
set_option Elab.async false
set_option maxRecDepth 100000
set_option maxHeartbeats 4000000
namespace Mine
open PySem.SeqAt

theorem tup_ltAt (l b : Addr) (x1 x2 y1 y2 : Int) (t1 t2 u1 u2 : Tok) (n n2 : Nat) (dd dd2 : Option Addr) (sl sl2 : Array (Option Value)) :
    Meets (Builtin.«tuple.__lt__» ⟨[.ref l, .ref b], []⟩)
      (fun A R s => s.heap.get? l = some { cls := .type "tuple", dict := dd, data := .seq #[.int x1 t1, .int x2 t2] n, slots := sl } ∧ s.heap.get? b = some { cls := .type "tuple", dict := dd2, data := .seq #[.int y1 u1, .int y2 u2] n2, slots := sl2 } ∧
        R (.ok (.ret (.bool (rlt (x1, x2) (y1, y2))))) s) :=
  .of_wp fun prog w A R s h => by
    obtain ⟨hp, g, d, tk, os⟩ := s; obtain ⟨hl, hb, h⟩ := h
    have f2 := AutoSeq1.sub_tuple_tuple
    wp_walk using AutoSeq1.wpAny_loadPart' hl, AutoSeq1.wpAny_loadPart' hb, wpAny_forIn_list _ (fun rest b s' => b.1 = none ∧ s' = ⟨hp, g, d, tk, os⟩ ∧
      (rest = [(Value.int x1 t1, Value.int y1 u1), (Value.int x2 t2, Value.int y2 u2)] ∨ (x1 = y1 ∧ rest = [(Value.int x2 t2, Value.int y2 u2)]) ∨ (x1 = y1 ∧ x2 = y2 ∧ rest = []))) _
    case turn =>
      rintro ⟨y, x⟩ rest b s' ⟨hb', rfl, hz⟩
      rcases hz with hz | ⟨e1, hz⟩ | ⟨_, _, hz⟩
      · cases hz
        refine wpAny_bind (EqAt.int_int x1 t1 y1 u1 prog w _ _ ?_)
        by_cases hxy : x1 = y1
        · rw [beq_iff_eq.mpr hxy]
          wp_walk
          exact ⟨rfl, rfl, .inr (.inl ⟨hxy, rfl⟩)⟩
        · rw [beq_eq_false_iff_ne.mpr hxy]
          have hR : (rlt (x1, x2) (y1, y2)) = decide (x1 < y1) := by simp [rlt, hxy]
          rw [hR] at h
          simp only [Bool.not_false, if_true]
          refine wpAny_bind (wpAny_rule (wpAny_bind (lt_int (wpAny_bind (wpAny_pure (wpAny_pure ?_))))))
          exact wpAny_pure ⟨_, rfl, h⟩
      · cases hz
        refine wpAny_bind (EqAt.int_int x2 t2 y2 u2 prog w _ _ ?_)
        by_cases hxy : x2 = y2
        · rw [beq_iff_eq.mpr hxy]
          wp_walk
          exact ⟨rfl, rfl, .inr (.inr ⟨e1, hxy, rfl⟩)⟩
        · rw [beq_eq_false_iff_ne.mpr hxy]
          have hR : (rlt (x1, x2) (y1, y2)) = decide (x2 < y2) := by subst e1; simp [rlt]
          rw [hR] at h
          simp only [Bool.not_false, if_true]
          refine wpAny_bind (wpAny_rule (wpAny_bind (lt_int (wpAny_bind (wpAny_pure (wpAny_pure ?_))))))
          exact wpAny_pure ⟨_, rfl, h⟩
      · cases hz
    case fin =>
      rintro ⟨b1, b2⟩ s' ⟨hb', rfl, hz⟩
      simp only at hb'
      subst hb'
      rcases hz with hz | ⟨_, hz⟩ | ⟨e1, e2, _⟩
      · cases hz
      · cases hz
      · subst e1 e2
        wp_walk
        have hR : (rlt (x1, x2) (x1, x2)) = false := rlt_irrefl _
        rw [hR] at h
        exact ⟨_, rfl, by simpa [Builtin.Tuple.tupleCompareSizes] using h⟩
    case h =>
      exact ⟨rfl, rfl, .inl rfl⟩

theorem tup_lt {prog : Program} {w : World} {A : Around} {E : Value → Shared → Prop} {s : Shared} {l b : Addr} {x1 x2 y1 y2 : Int} {t1 t2 u1 u2 : Tok} {Q : Value → Shared → Prop}
    (hl : s.heap.IsTuple l #[.int x1 t1, .int x2 t2]) (hb : s.heap.IsTuple b #[.int y1 u1, .int y2 u2]) (hu : A.units < cLine) (h : Q (.bool (rlt (x1, x2) (y1, y2))) s) :
    wpAny (model prog w) A (compareOp .Lt (.ref l) (.ref b)) Q E s := by
  obtain ⟨⟨cls, dd, data, sl⟩, ho, hc, n, hd⟩ := id hl
  obtain ⟨⟨cls2, dd2, data2, sl2⟩, ho2, hc2, n2, hd2⟩ := id hb
  simp only at hc hd hc2 hd2
  subst hc hd hc2 hd2
  exact richCompare_meets_room (op := .Lt) ⟨_, ho, rfl⟩ ⟨_, ho2, rfl⟩ F.slot_tuple_lt F.entry_tuple_lt (F.args_tuple_lt_2 _ _) (tup_ltAt l b x1 x2 y1 y2 t1 t2 u1 u2 n n2 dd dd2 sl sl2)
    ⟨ho, ho2, show Value.bool _ ≠ Value.notImplemented ∧ Q (.bool _) s from ⟨(fun x => nomatch x), h⟩⟩ hu

theorem tup_leAt (l b : Addr) (x1 x2 y1 y2 : Int) (t1 t2 u1 u2 : Tok) (n n2 : Nat) (dd dd2 : Option Addr) (sl sl2 : Array (Option Value)) :
    Meets (Builtin.«tuple.__le__» ⟨[.ref l, .ref b], []⟩)
      (fun A R s => s.heap.get? l = some { cls := .type "tuple", dict := dd, data := .seq #[.int x1 t1, .int x2 t2] n, slots := sl } ∧ s.heap.get? b = some { cls := .type "tuple", dict := dd2, data := .seq #[.int y1 u1, .int y2 u2] n2, slots := sl2 } ∧
        R (.ok (.ret (.bool (!rlt (y1, y2) (x1, x2))))) s) :=
  .of_wp fun prog w A R s h => by
    obtain ⟨hp, g, d, tk, os⟩ := s; obtain ⟨hl, hb, h⟩ := h
    have f2 := AutoSeq1.sub_tuple_tuple
    wp_walk using AutoSeq1.wpAny_loadPart' hl, AutoSeq1.wpAny_loadPart' hb, wpAny_forIn_list _ (fun rest b s' => b.1 = none ∧ s' = ⟨hp, g, d, tk, os⟩ ∧
      (rest = [(Value.int x1 t1, Value.int y1 u1), (Value.int x2 t2, Value.int y2 u2)] ∨ (x1 = y1 ∧ rest = [(Value.int x2 t2, Value.int y2 u2)]) ∨ (x1 = y1 ∧ x2 = y2 ∧ rest = []))) _
    case turn =>
      rintro ⟨y, x⟩ rest b s' ⟨hb', rfl, hz⟩
      rcases hz with hz | ⟨e1, hz⟩ | ⟨_, _, hz⟩
      · cases hz
        refine wpAny_bind (EqAt.int_int x1 t1 y1 u1 prog w _ _ ?_)
        by_cases hxy : x1 = y1
        · rw [beq_iff_eq.mpr hxy]
          wp_walk
          exact ⟨rfl, rfl, .inr (.inl ⟨hxy, rfl⟩)⟩
        · rw [beq_eq_false_iff_ne.mpr hxy]
          have hR : (!rlt (y1, y2) (x1, x2)) = decide (x1 ≤ y1) := by (have hyx : ¬ y1 = x1 := fun e => hxy e.symm); (rw [Bool.eq_iff_iff]; simp only [Bool.not_eq_true', decide_eq_true_eq]; rw [← Bool.not_eq_true, rlt_iff]; simp only; omega)
          rw [hR] at h
          simp only [Bool.not_false, if_true]
          refine wpAny_bind (wpAny_rule (wpAny_bind (le_int (wpAny_bind (wpAny_pure (wpAny_pure ?_))))))
          exact wpAny_pure ⟨_, rfl, h⟩
      · cases hz
        refine wpAny_bind (EqAt.int_int x2 t2 y2 u2 prog w _ _ ?_)
        by_cases hxy : x2 = y2
        · rw [beq_iff_eq.mpr hxy]
          wp_walk
          exact ⟨rfl, rfl, .inr (.inr ⟨e1, hxy, rfl⟩)⟩
        · rw [beq_eq_false_iff_ne.mpr hxy]
          have hR : (!rlt (y1, y2) (x1, x2)) = decide (x2 ≤ y2) := by subst e1; (rw [Bool.eq_iff_iff]; simp only [Bool.not_eq_true', decide_eq_true_eq]; rw [← Bool.not_eq_true, rlt_iff]; constructor <;> intro h' <;> simp at h' ⊢ <;> omega)
          rw [hR] at h
          simp only [Bool.not_false, if_true]
          refine wpAny_bind (wpAny_rule (wpAny_bind (le_int (wpAny_bind (wpAny_pure (wpAny_pure ?_))))))
          exact wpAny_pure ⟨_, rfl, h⟩
      · cases hz
    case fin =>
      rintro ⟨b1, b2⟩ s' ⟨hb', rfl, hz⟩
      simp only at hb'
      subst hb'
      rcases hz with hz | ⟨_, hz⟩ | ⟨e1, e2, _⟩
      · cases hz
      · cases hz
      · subst e1 e2
        wp_walk
        have hR : (!rlt (x1, x2) (x1, x2)) = true := by simp [rlt_irrefl]
        rw [hR] at h
        exact ⟨_, rfl, by simpa [Builtin.Tuple.tupleCompareSizes] using h⟩
    case h =>
      exact ⟨rfl, rfl, .inl rfl⟩

theorem tup_le {prog : Program} {w : World} {A : Around} {E : Value → Shared → Prop} {s : Shared} {l b : Addr} {x1 x2 y1 y2 : Int} {t1 t2 u1 u2 : Tok} {Q : Value → Shared → Prop}
    (hl : s.heap.IsTuple l #[.int x1 t1, .int x2 t2]) (hb : s.heap.IsTuple b #[.int y1 u1, .int y2 u2]) (hu : A.units < cLine) (h : Q (.bool (!rlt (y1, y2) (x1, x2))) s) :
    wpAny (model prog w) A (compareOp .LtE (.ref l) (.ref b)) Q E s := by
  obtain ⟨⟨cls, dd, data, sl⟩, ho, hc, n, hd⟩ := id hl
  obtain ⟨⟨cls2, dd2, data2, sl2⟩, ho2, hc2, n2, hd2⟩ := id hb
  simp only at hc hd hc2 hd2
  subst hc hd hc2 hd2
  exact richCompare_meets_room (op := .LtE) ⟨_, ho, rfl⟩ ⟨_, ho2, rfl⟩ F.slot_tuple_le F.entry_tuple_le (F.args_tuple_le_2 _ _) (tup_leAt l b x1 x2 y1 y2 t1 t2 u1 u2 n n2 dd dd2 sl sl2)
    ⟨ho, ho2, show Value.bool _ ≠ Value.notImplemented ∧ Q (.bool _) s from ⟨(fun x => nomatch x), h⟩⟩ hu

end Mine
end PartW0

section PartW1
open PySem PySem.W PyProof.Rows
set_option Elab.async false
set_option maxRecDepth 100000
set_option maxHeartbeats 4000000
set_option autoImplicit false
namespace Mine

/- the program's parts -/
def fnAt (k : Nat) : Stmt := PySem.Challenge.pw_dp0036_01.main.body.getD k (.Pass ⟨0, 0, 0, 0⟩)
def bodyOf : Stmt → List Stmt
  | .FunctionDef _ _ b _ _ _ _ _ _ _ => b
  | _ => []
def paramsOf : Stmt → Arguments
  | .FunctionDef _ a _ _ _ _ _ _ _ _ => a
  | _ => ⟨[], [], none, [], [], none, []⟩
def scopeOf : Stmt → Scope
  | .FunctionDef _ _ _ _ _ _ s _ _ _ => s
  | _ => default

/-- what the frame's names hold -/
def LV (h : Heap) (L : Addr) (b : List (Str × Value)) : Prop := ∃ m, h.Ns L m ∧ ∀ x v, b.lookup x = some v → m x = some v

/-- objects outside X are kept -/
def Ch (X : List Addr) (h h' : Heap) : Prop := ∀ a o, a ∉ X → h.get? a = some o → h'.get? a = some o
abbrev Sub (h h' : Heap) : Prop := ∀ a o, h.get? a = some o → h'.get? a = some o

theorem Ch.refl (X : List Addr) (h : Heap) : Ch X h h := fun _ _ _ e => e
theorem Ch.trans {X : List Addr} {h h' h'' : Heap} (a : Ch X h h') (b : Ch X h' h'') : Ch X h h'' := fun x o n e => b x o n (a x o n e)
theorem Ch.mono {X Y : List Addr} {h h' : Heap} (a : Ch X h h') (hs : ∀ x, x ∈ X → x ∈ Y) : Ch Y h h' := fun x o n e => a x o (fun m => n (hs x m)) e
theorem Ch.of_sub {X : List Addr} {h h' : Heap} (a : Sub h h') : Ch X h h' := fun x o _ e => a x o e
theorem Ch.sub {h h' : Heap} (a : Ch [] h h') : Sub h h' := fun x o e => a x o (by simp) e
theorem Ch.of_same {X : List Addr} {h h' : Heap} {l : Addr} (a : Heap.SameBut l h h') (hl : l ∈ X) : Ch X h h' := fun x o n e => a.extBut x o (fun q => n (q ▸ hl)) e
theorem Ch.list {X : List Addr} {h h' : Heap} {l : Addr} {vs : Array Value} (a : Ch X h h') (hl : h.PlainList l vs) (hx : l ∉ X) : h'.PlainList l vs := hl.at fun o e => a l o hx e
theorem Ch.tuple {X : List Addr} {h h' : Heap} {l : Addr} {vs : Array Value} (a : Ch X h h') (hl : h.IsTuple l vs) (hx : l ∉ X) : h'.IsTuple l vs :=
  let ⟨o, e, r⟩ := hl; ⟨o, a l o hx e, r⟩

structure FX (hs : Heap) (X : List Addr) (L : Addr) (b : List (Str × Value)) (h : Heap) : Prop where
  lv : LV h L b
  ch : Ch X hs h
  off : hs.get? L = none ∨ L ∈ X

theorem Ns.live {h : Heap} {L : Addr} {m : Str → Option Value} (n : h.Ns L m) : ∃ o, h.get? L = some o ∧ ∃ es ep, o.data = .dict es ep := let ⟨o, es, ep, e, hd, _⟩ := n; ⟨o, e, es, ep, hd⟩
theorem LV.live {h : Heap} {L : Addr} {b : List (Str × Value)} (n : LV h L b) : ∃ o, h.get? L = some o ∧ ∃ es ep, o.data = .dict es ep := let ⟨_, n, _⟩ := n; Ns.live n
theorem LV.ne_list {h : Heap} {L l : Addr} {b : List (Str × Value)} {vs : Array Value} (n : LV h L b) (hl : h.PlainList l vs) : l ≠ L := by
  obtain ⟨o, e, es, ep, hd⟩ := n.live
  obtain ⟨k, e'⟩ := hl
  rintro rfl
  rw [e] at e'; cases e'; cases hd
theorem LV.ne_tuple {h : Heap} {L l : Addr} {b : List (Str × Value)} {vs : Array Value} (n : LV h L b) (hl : h.IsTuple l vs) : l ≠ L := by
  obtain ⟨o, e, es, ep, hd⟩ := n.live
  obtain ⟨o', e', _, k, hd'⟩ := hl
  rintro rfl
  rw [e] at e'; cases e'; rw [hd] at hd'; cases hd'
theorem ne_list_tuple {h : Heap} {l t : Addr} {vs us : Array Value} (hl : h.PlainList l vs) (ht : h.IsTuple t us) : t ≠ l := by
  obtain ⟨k, e⟩ := hl
  obtain ⟨o', e', hc, _⟩ := ht
  rintro rfl
  rw [e] at e'; cases e'; simp at hc

theorem LV.sub {h h' : Heap} {L : Addr} {b : List (Str × Value)} (n : LV h L b) (k : ∀ o, h.get? L = some o → h'.get? L = some o) : LV h' L b :=
  let ⟨m, hn, hv⟩ := n; ⟨m, hn.at' k, hv⟩
/-- fewer names -/
def Knows (b : List (Str × Value)) : List (Str × Value) → Prop
  | [] => True
  | (x, v) :: r => b.lookup x = some v ∧ Knows b r
theorem Knows.look {b : List (Str × Value)} : ∀ {r : List (Str × Value)}, Knows b r → ∀ x v, r.lookup x = some v → b.lookup x = some v
  | [], _, _, _, h => by cases h
  | (y, u) :: r, ⟨h1, h2⟩, x, v, h => by
    rw [List.lookup_cons] at h
    cases e : x == y with
    | true => rw [e] at h; cases h; rw [beq_iff_eq.mp e]; exact h1
    | false => rw [e] at h; exact Knows.look h2 x v h
theorem LV.fewer {h : Heap} {L : Addr} {b r : List (Str × Value)} (n : LV h L b) (k : Knows b r) : LV h L r :=
  let ⟨m, hn, hv⟩ := n; ⟨m, hn, fun x v e => hv x v (k.look x v e)⟩

namespace FX
variable {hs h h' : Heap} {X : List Addr} {L l : Addr} {b b' : List (Str × Value)}
theorem store (F : FX hs X L b h) (lv : LV h' L b') (hsb : Heap.SameBut L h h') : FX hs X L b' h' :=
  ⟨lv, fun a o n e => hsb.extBut a o (fun q => by
    subst q
    rcases F.off with q | q
    · rw [q] at e; cases e
    · exact n q) (F.ch a o n e), F.off⟩
theorem grow (F : FX hs X L b h) (k : Sub h h') : FX hs X L b h' := ⟨F.lv.sub fun o e => k L o e, F.ch.trans (Ch.of_sub k), F.off⟩
theorem upd (F : FX hs X L b h) (hsb : Heap.SameBut l h h') (hl : l ∈ X) (hne : l ≠ L) : FX hs X L b h' :=
  ⟨F.lv.sub fun o e => hsb.extBut L o (Ne.symm hne) e, F.ch.trans (Ch.of_same hsb hl), F.off⟩
theorem chg (F : FX hs X L b h) {Y : List Addr} (k : Ch Y h h') (hY : ∀ y ∈ Y, y ∈ X) (hL : L ∉ Y) : FX hs X L b h' :=
  ⟨F.lv.sub fun o e => k L o hL e, F.ch.trans (k.mono hY), F.off⟩
theorem fewer (F : FX hs X L b h) (k : Knows b b') : FX hs X L b' h := ⟨F.lv.fewer k, F.ch, F.off⟩
end FX

section
variable {M : Model} {A : Around} {E : Value → Shared → Prop} {s : Shared} {env : Env} {hs : Heap} {X : List Addr} {L : Addr} {b : List (Str × Value)}

theorem nm {x : Str} {pos : Pos} {v : Value} {Q : Value → Shared → Prop} (F : FX hs X L b s.heap) (hv : b.lookup x = some v) (h : Q v s) (hL : env.locals = L := by rfl)
    (hk : env.scope.kind = .function := by rfl) (hl : env.kindOf x = some .local := by rfl) (hd : (x == ("__debug__" : Str)) = false := by decide) :
    wpAny M A (eval (.Name x pos) env) Q E s := by
  subst hL
  obtain ⟨m, hn, hm⟩ := F.lv
  exact wpAny_Name (wpAny_loadName_local hk hl hn (hm x v hv) h) hd

theorem stn {x : Str} {v : Value} {Q : Unit → Shared → Prop} (F : FX hs X L b s.heap)
    (h : ∀ h', FX hs X L ((x, v) :: b) h' → Heap.SameBut L s.heap h' → Q () { s with heap := h', toks := s.toks + 1 }) (hL : env.locals = L := by rfl)
    (hk : env.scope.kind = .function := by rfl) (hl : env.kindOf x = some .local := by rfl) : wpAny M A (storeName env x v) Q E s := by
  subst hL
  obtain ⟨m, hn, hm⟩ := F.lv
  refine wpAny_storeName_local hl hn (fun h' hn' hsb => h h' (F.store ⟨_, hn', fun y u e => ?_⟩ hsb) hsb) (by rw [hk]; rfl)
  rw [List.lookup_cons] at e
  cases q : y == x with
  | true => rw [q] at e; cases e; simp [beq_iff_eq.mp q]
  | false => rw [q] at e; have : y ≠ x := by simpa using q
             simp [this]; exact hm y u e
end

section
variable {prog : Program} {w : World} {A : Around} {E : Value → Shared → Prop} {s : Shared}

theorem mapSeq_same {its : Array Value} {n : Nat} (f : Array Value → Array Value) (hz : (f its).size = its.size) : Obj.mapSeq f { cls := .type "list", data := .seq its n } = { cls := .type "list", data := .seq (f its) n } := by
  simp [Obj.mapSeq, hz]

theorem setL {l : Addr} {items : Array Value} {k : Int} {t : Tok} {v : Value} {Q : Unit → Shared → Prop} (hl : s.heap.PlainList l items)
    (h0 : 0 ≤ k) (hfit : k < 2 ^ 63) (hn : k < items.size)
    (hQ : ∀ h', h'.PlainList l (items.setIfInBounds k.toNat v) → Heap.SameBut l s.heap h' → Q () { s with heap := h' }) :
    wpAny (model prog w) A (setItem (.ref l) (.int k t) v) Q E s := by
  obtain ⟨ne, ho⟩ := id hl
  have hL := hl.isList
  unfold setItem
  try with_reducible refine wpAny_holding ?_
  first | refine wpAny_bind (wpAny_pure ?_) | skip
  refine wpAny_bind (wpAny_sequenceKey hL.typeIs (by decide) ?_)
  refine wpAny_bind (wpAny_callSpecial?_slot (name := Str.ofString "__setitem__") hL.typeIs slot_list_setitem
    (wpAny_call_entry slot_list_setitem hL.typeIs entry_list_setitem ?_ (args_list_setitem _ _ _)))
  show wpAny _ _ (Builtin.List.listSubscript? (.int k t) >>= _) _ _ s
  refine wpAny_bind (wpAny_listSubscript_int (fitsIndex_of h0 hfit) ?_)
  clear hfit
  obtain ⟨j, rfl⟩ := Int.eq_ofNat_of_zero_le h0
  have hj : j < items.size := by omega
  have hx' : items[j]? = some items[j] := Array.getElem?_eq_getElem hj
  show wpAny _ _ ((seqItemAt l j >>= fun r => pure (r.map (j, ·))) >>= _) _ _ s
  refine wpAny_bind (wpAny_bind (wpAny_seqItemAt ho rfl (wpAny_pure ?_)))
  rw [hx']
  show wpAny _ _ (setSeqItemAt l j v >>= _) _ _ s
  have hm := mapSeq_same (its := items) (n := ne) (·.setIfInBounds j v) (by simp)
  have hfin : (s.heap.update l (Obj.mapSeq (·.setIfInBounds j v))).PlainList l (items.setIfInBounds j v) :=
    ⟨ne, by rw [Heap.get?_update_self _ ho (by rw [hm]; rfl), hm]⟩
  refine wpAny_bind (wpAny_setSeqItemAt ho rfl ?_)
  first
    | exact wpAny_bind (wpAny_pure (wpAny_pure ⟨.none, rfl, wpAny_pure (hQ _ hfin (Heap.SameBut.update ..))⟩))
    | exact wpAny_pure ⟨.none, rfl, wpAny_pure (hQ _ hfin (Heap.SameBut.update ..))⟩

/-- xs[i] behind a name -/
theorem subL {value slice : Expr} {l : Addr} {vs : List Value} {k : Int} {u : Tok} {v : Value} {Q : Value → Shared → Prop}
    (hl : s.heap.PlainList l vs.toArray) (h0 : 0 ≤ k) (hhi : k < 2 ^ 63) (hx : vs[k.toNat]? = some v) (h : Q v s)
    (hs : subscripted slice false (.ref l) (.int k u) = operate [.ref l, .int k u] (getItem (.ref l) (.int k u)) := by with_unfolding_all rfl) :
    wpAny (model prog w) A (subscriptTail value slice (.ref l) (.int k u)) Q E s :=
  tail_any hl.isList.typeIs slot_list_getitem.lookup (wpAny_getItem_list hl.isList h0 hhi (by simpa using hx) h) hs
end

end Mine
end PartW1

section PartW2
open PySem PySem.W PyProof.Rows
set_option Elab.async false
set_option maxRecDepth 100000
set_option maxHeartbeats 4000000
set_option autoImplicit false
namespace Mine

/-- a pair of ints -/
def TupAt (h : Heap) (a : Addr) (k : Rk) : Prop := ∃ t u, h.IsTuple a #[.int k.1 t, .int k.2 u]

def refs (f : Nat → Addr) (l : List Nat) : List Value := l.map fun j => Value.ref (f j)

theorem refs_get {f : Nat → Addr} {l : List Nat} {i : Nat} (h : i < l.length) : (refs f l)[i]? = some (.ref (f (l.getD i 0))) := by
  simp [refs, List.getD, h]

/-- a def of the text, as it stands in a heap -/
structure Fn (h : Heap) (a : Addr) (name : Str) (k : Nat) : Prop where
  ex : ∃ o pm cd doc, h.get? a = some o ∧ o.data = .func (Calls.docDef name (paramsOf (fnAt k)) (bodyOf (fnAt k)) (scopeOf (fnAt k)) pm cd doc) ∧ h.CodeRec cd name

section
variable {prog : Program} {w : World} {A : Around} {R : Result → Shared → Prop} {s : Shared}

theorem par_int {p : Nat} (h : 0 < p) : ((p : Int) - 1).fdiv (2 ^ (Int.toNat 1)) = ((par p : Nat) : Int) := by
  have e : (2 : Int) ^ (Int.toNat 1) = 2 := by decide
  rw [e, Int.fdiv_eq_ediv_of_nonneg _ (by decide)]
  unfold par
  omega

theorem refs_set {f : Nat → Addr} {l : List Nat} {i v : Nat} : (refs f l).toArray.setIfInBounds i (.ref (f v)) = (refs f (l.set i v)).toArray := by
  simp [refs, List.map_set]

theorem refs_length {f : Nat → Addr} {l : List Nat} : (refs f l).length = l.length := by simp [refs]

theorem mem_set {l : List Nat} {i v j : Nat} (h : j ∈ l.set i v) : j ∈ l ∨ j = v := List.mem_or_eq_of_mem_set h

theorem mem_getD {l : List Nat} {i : Nat} (h : i < l.length) : l.getD i 0 ∈ l := by
  simp [List.getD, h]

theorem siftdown_call {fa l : Addr} {qs : List Nat} {f : Nat → Addr} {key : Nat → Rk} {p0 : Nat} {t0 t1 : Tok}
    (hf : Fn s.heap fa (Str.ofString "_siftdown_max") 2) (hlim : s.heap.NoLimit) (hroom : A.depth < recursionLimit) (hu : A.units + 10 < cLine)
    (hl : s.heap.PlainList l (refs f qs).toArray) (ht : ∀ j ∈ qs, TupAt s.heap (f j) (key j)) (hz : qs.length < 1000) (hp : p0 < qs.length) (U : Up key qs p0 (qs.getD p0 0))
    (hR : ∀ h' tk qs', qs'.Perm qs → IsHeap key qs' → h'.PlainList l (refs f qs').toArray → Ch [l] s.heap h' → R (.ok (.ret .none)) { s with heap := h', toks := tk }) :
    codeAny (model prog w) A (.call (.ref fa) ⟨[.ref l, .int 0 t0, .int p0 t1], []⟩) R s := by
  obtain ⟨o, pm, cd, doc, ho, hd, hc⟩ := hf.ex
  refine call_plain_ret (binds := [(Str.ofString "heap", .ref l), (Str.ofString "startpos", .int 0 t0), (Str.ofString "pos", .int p0 t1)]) hroom ho hd hlim hc rfl (locs rfl) (fun h₁ F₁ => ?_) rfl rfl rfl (by decide)
  have hLl : l ≠ s.heap.objs.size := by
    obtain ⟨n, e⟩ := hl
    exact Nat.ne_of_lt (Heap.lt_size e)
  have hTl : ∀ j ∈ qs, f j ∉ [l] := fun j hj hm => by
    obtain ⟨_, _, h⟩ := ht j hj
    exact ne_list_tuple hl h (by simpa using hm)
  have F : FX s.heap [l] s.heap.objs.size [(Str.ofString "pos", .int p0 t1), (Str.ofString "startpos", .int 0 t0), (Str.ofString "heap", .ref l)] h₁ :=
    ⟨⟨_, F₁.ns, fun x v e => e⟩, Ch.of_sub F₁.keep, .inl (Heap.get?_none_of_le (Nat.le_refl _))⟩
  have hl₁ : h₁.PlainList l (refs f qs).toArray := hl.at fun o e => F₁.keep l o e
  have hx : qs.getD p0 0 ∈ qs := mem_getD hp
  have hU : (A.deeper (envOf (Str.ofString "_siftdown_max") (scopeOf (fnAt 2)) s.heap.objs.size fa cd)).units < cLine := by
    show A.units + 3 < cLine
    omega
  generalize hAd : A.deeper (envOf (Str.ofString "_siftdown_max") (scopeOf (fnAt 2)) s.heap.objs.size fa cd) = A' at hU ⊢
  generalize hL : s.heap.objs.size = L at hLl F ⊢
  obtain ⟨x, hxe⟩ : ∃ x, qs.getD p0 0 = x := ⟨_, rfl⟩
  rw [hxe] at U hx
  refine wpAny_execs_cons (wpAny_Assign_Name (Subscript_ (nm F rfl (nm F rfl (subL hl₁ (by omega) (by omega) (refs_get (by simpa using hp)) ?_)))))
  rw [Int.toNat_natCast, hxe]
  refine stn F fun h₂ F₂ sb₂ => ?_
  have hl₂ : h₂.PlainList l (refs f qs).toArray := hl₁.extBut sb₂.extBut hLl
  refine wpAny_execs_cons (wpAny_While (codeAny_whileLoop (fun n s' => ∃ h tk pos t qs', s' = { s with heap := h, toks := tk } ∧ n = pos ∧ pos < qs'.length ∧ qs'.length = qs.length ∧ (qs'.set pos x).Perm qs ∧ Up key qs' pos x ∧
      (∀ j ∈ qs', j ∈ qs) ∧ h.PlainList l (refs f qs').toArray ∧
      FX s.heap [l] L [(Str.ofString "newitem", .ref (f x)), (Str.ofString "heap", .ref l), (Str.ofString "startpos", .int 0 t0), (Str.ofString "pos", .int (pos : Nat) t)] h) ?_ p0
      ⟨h₂, _, p0, t1, qs, rfl, rfl, hp, rfl, (by rw [← hxe, set_getD hp]), U, fun _ h => h, hl₂, F₂.fewer ⟨rfl, rfl, rfl, rfl, trivial⟩⟩))
  rintro pos s' ⟨h, tk, _, t, qs', rfl, rfl, hpos, hlen, hperm, U', hsub, hlh, Fh⟩
  refine wpAny_isTrue_Compare1 (nm Fh rfl (nm Fh rfl (gt_int (wpAny_truthy_bool (split_dec (fun hgt => ?_) fun hgt => ?_)))))
  · have h0 : 0 < pos := by omega
    have hpp := par_lt h0
    refine wpAny_execs_cons (wpAny_Assign_Name (wpAny_BinOp (wpAny_BinOp (nm Fh rfl (wpAny_Constant_int (sub_int (wpAny_Constant_int (rshift_int (by decide) ?_))))))))
    rw [par_int h0]
    refine stn Fh fun h₃ F₃ sb₃ => ?_
    have hl₃ : h₃.PlainList l (refs f qs').toArray := hlh.extBut sb₃.extBut hLl
    refine wpAny_execs_cons (wpAny_Assign_Name (Subscript_ (nm F₃ rfl (nm F₃ rfl (subL hl₃ (by omega) (by omega) (refs_get (by rw [Int.toNat_natCast]; omega)) ?_)))))
    rw [Int.toNat_natCast]
    refine stn F₃ fun h₄ F₄ sb₄ => ?_
    have hl₄ : h₄.PlainList l (refs f qs').toArray := hl₃.extBut sb₄.extBut hLl
    have hpm : qs'.getD (par pos) 0 ∈ qs := hsub _ (mem_getD (by omega))
    obtain ⟨a1, a2, hT1⟩ := ht _ hpm
    obtain ⟨b1, b2, hT2⟩ := ht _ hx
    refine wpAny_execs_cons (wpAny_If (wpAny_isTrue_Compare1 (nm F₄ rfl (nm F₄ rfl (tup_lt (F₄.ch.tuple hT1 (hTl _ hpm)) (F₄.ch.tuple hT2 (hTl _ hx)) hU (wpAny_truthy_bool (split_bool (fun hlt => ?_) fun hlt => ?_)))))))
    · refine wpAny_execs_cons (wpAny_Assign_Subscript (nm F₄ rfl (nm F₄ rfl (nm F₄ rfl (setL hl₄ (by omega) (by omega) (by simp [refs_length]; omega) fun h₅ hl₅ sb₅ => ?_)))))
      rw [Int.toNat_natCast, refs_set] at hl₅
      have F₅ := F₄.upd sb₅ (by simp) hLl
      refine wpAny_execs_cons (wpAny_Assign_Name (nm F₅ rfl (stn F₅ fun h₆ F₆ sb₆ => ?_)))
      have hl₆ := hl₅.extBut sb₆.extBut hLl
      refine wpAny_execs_cons (wpAny_Continue ?_)
      refine ⟨par pos, hpp, h₆, _, par pos, _, qs'.set pos (qs'.getD (par pos) 0), rfl, rfl, by rw [List.length_set]; omega, by rw [List.length_set]; exact hlen, ?_, U'.step h0 hpos hlt, ?_, hl₆, F₆.fewer ⟨rfl, rfl, rfl, rfl, trivial⟩⟩
      · exact (perm_move hpos (by omega) (by omega)).trans hperm
      · intro j hj
        rcases mem_set hj with hj | hj
        · exact hsub j hj
        · exact hj ▸ hpm
    · refine wpAny_execs_nil ?_
      refine wpAny_execs_cons (wpAny_Break ?_)
      refine wpAny_execs_cons (wpAny_Assign_Subscript (nm F₄ rfl (nm F₄ rfl (nm F₄ rfl (setL hl₄ (by omega) (by omega) (by simp [refs_length]; omega) fun h₅ hl₅ sb₅ => ?_)))))
      rw [Int.toNat_natCast, refs_set] at hl₅
      have F₅ := F₄.upd sb₅ (by simp) hLl
      exact wpAny_execs_nil (hR _ _ _ hperm (U'.stop hpos (.inr hlt)) hl₅ F₅.ch)
  · have h0 : pos = 0 := by omega
    refine wpAny_execs_nil ?_
    refine wpAny_execs_cons (wpAny_Assign_Subscript (nm Fh rfl (nm Fh rfl (nm Fh rfl (setL hlh (by omega) (by omega) (by simp [refs_length]; omega) fun h₅ hl₅ sb₅ => ?_)))))
    rw [Int.toNat_natCast, refs_set] at hl₅
    have F₅ := Fh.upd sb₅ (by simp) hLl
    exact wpAny_execs_nil (hR _ _ _ hperm (U'.stop hpos (.inl h0)) hl₅ F₅.ch)
end
end Mine
end PartW2

section PartW3
open PySem PySem.W PyProof.Rows
set_option Elab.async false
set_option maxRecDepth 100000
set_option maxHeartbeats 4000000
set_option autoImplicit false
namespace Mine

theorem Fn.keeps {h h' : Heap} {a : Addr} {n : Str} {k : Nat} (f : Fn h a n k) (s : Sub h h') : Fn h' a n k :=
  let ⟨o, pm, cd, doc, ho, hd, hc⟩ := f.ex; ⟨o, pm, cd, doc, s _ _ ho, hd, hc.keeps s⟩

def bnames : List String := ["len", "range", "min", "sum", "enumerate", "list", "max", "sorted"]

/-- the text's globals -/
structure Glb (hg : Heap) (mg mb : Str → Option Value) : Prop where
  g : hg.Ns mainGlobals mg
  b : hg.Ns builtinsNs mb
  nolimit : hg.NoLimit
  hr : ∃ a, mg (Str.ofString "_heapreplace_max") = some (.ref a) ∧ Fn hg a (Str.ofString "_heapreplace_max") 1
  sd : ∃ a, mg (Str.ofString "_siftdown_max") = some (.ref a) ∧ Fn hg a (Str.ofString "_siftdown_max") 2
  su : ∃ a, mg (Str.ofString "_siftup_max") = some (.ref a) ∧ Fn hg a (Str.ofString "_siftup_max") 3
  ll : ∃ a, mg (Str.ofString "_law_left") = some (.ref a) ∧ Fn hg a (Str.ofString "_law_left") 5
  miss : ∀ x ∈ bnames, mg (Str.ofString x) = none
  bi : ∀ x : Str, x ≠ "__name__" → mb x = bootBuiltins x

theorem Glb.keeps {h h' : Heap} {mg mb : Str → Option Value} (G : Glb h mg mb) (s : Sub h h') : Glb h' mg mb where
  g := G.g.keeps s
  b := G.b.keeps s
  nolimit := G.nolimit.keeps s
  hr := let ⟨a, h1, h2⟩ := G.hr; ⟨a, h1, h2.keeps s⟩
  sd := let ⟨a, h1, h2⟩ := G.sd; ⟨a, h1, h2.keeps s⟩
  su := let ⟨a, h1, h2⟩ := G.su; ⟨a, h1, h2.keeps s⟩
  ll := let ⟨a, h1, h2⟩ := G.ll; ⟨a, h1, h2.keeps s⟩
  miss := G.miss
  bi := G.bi

section
variable {M : Model} {A : Around} {E : Value → Shared → Prop} {s : Shared} {env : Env} {mg mb : Str → Option Value}

theorem nmG {x : Str} {pos : Pos} {v : Value} {Q : Value → Shared → Prop} (G : Glb s.heap mg mb) (hv : mg x = some v) (h : Q v s) (hg : env.globals = mainGlobals := by rfl)
    (hk : env.scope.kind = .function := by rfl) (hx : env.kindOf x = some .globalImplicit := by rfl) (hd : (x == ("__debug__" : Str)) = false := by decide) :
    wpAny M A (eval (.Name x pos) env) Q E s :=
  Calls.Name_function_global hk hx (Calls.loadGlobal_global (hg ▸ G.g) hv h) hd

theorem nmB {x : String} {pos : Pos} {v : Value} {Q : Value → Shared → Prop} (G : Glb s.heap mg mb) (hm : x ∈ bnames) (hv : bootBuiltins (Str.ofString x) = some v) (hn : Str.ofString x ≠ "__name__") (h : Q v s) (hg : env.globals = mainGlobals := by rfl) (hb : env.builtins = builtinsNs := by rfl)
    (hk : env.scope.kind = .function := by rfl) (hx : env.kindOf (Str.ofString x) = some .globalImplicit := by rfl) (hd : (Str.ofString x == ("__debug__" : Str)) = false := by decide) :
    wpAny M A (eval (.Name (Str.ofString x) pos) env) Q E s :=
  Calls.Name_function_global hk hx (Calls.loadGlobal_builtin (hg ▸ G.g) (G.miss x hm) (hb ▸ G.b) ((G.bi _ hn).trans hv) h) hd
end

/-- a base under a changed heap -/
theorem sub_of {base hs h : Heap} {X : List Addr} (B : Sub base hs) (c : Ch X hs h) (hX : ∀ x ∈ X, base.get? x = none) : Sub base h := fun a o e =>
  c a o (fun m => by rw [hX a m] at e; cases e) (B a o e)

section
variable {prog : Program} {w : World} {A : Around} {R : Result → Shared → Prop} {s : Shared} {base : Heap} {mg mb : Str → Option Value}

theorem boot_len' : bootBuiltins (Str.ofString "len") = some (.builtin "len") := by decide +kernel

theorem mul2_ok (b : Int) : IntMulOk 2 b := IntMulOk.of_left (by decide)

theorem siftup_call {fa l : Addr} {qs : List Nat} {f : Nat → Addr} {key : Nat → Rk} {t0 : Tok}
    (G : Glb base mg mb) (B : Sub base s.heap) (hbl : base.get? l = none)
    (hf : Fn s.heap fa (Str.ofString "_siftup_max") 3) (hroom : A.depth + 1 < recursionLimit) (hu : A.units + 20 < cLine)
    (hl : s.heap.PlainList l (refs f qs).toArray) (ht : ∀ j ∈ qs, TupAt s.heap (f j) (key j)) (hz : qs.length < 1000) (hp : 0 < qs.length) (D : Down key qs 0)
    (hR : ∀ h' tk qs', qs'.Perm qs → IsHeap key qs' → h'.PlainList l (refs f qs').toArray → Ch [l] s.heap h' → R (.ok (.ret .none)) { s with heap := h', toks := tk }) :
    codeAny (model prog w) A (.call (.ref fa) ⟨[.ref l, .int 0 t0], []⟩) R s := by
  obtain ⟨o, pm, cd, doc, ho, hd, hc⟩ := hf.ex
  refine call_plain_ret (binds := [(Str.ofString "heap", .ref l), (Str.ofString "pos", .int 0 t0)]) (by omega) ho hd (G.nolimit.keeps B) hc rfl (locs rfl) (fun h₁ F₁ => ?_) rfl rfl rfl (by decide)
  have hLl : l ≠ s.heap.objs.size := by
    obtain ⟨n, e⟩ := hl
    exact Nat.ne_of_lt (Heap.lt_size e)
  have hTl : ∀ j ∈ qs, f j ∉ [l] := fun j hj hm => by
    obtain ⟨_, _, h⟩ := ht j hj
    exact ne_list_tuple hl h (by simpa using hm)
  have hX : ∀ x ∈ [l], base.get? x = none := fun x hx => by rw [List.mem_singleton.mp hx]; exact hbl
  have F : FX s.heap [l] s.heap.objs.size [(Str.ofString "pos", .int 0 t0), (Str.ofString "heap", .ref l)] h₁ :=
    ⟨⟨_, F₁.ns, fun x v e => e⟩, Ch.of_sub F₁.keep, .inl (Heap.get?_none_of_le (Nat.le_refl _))⟩
  have hl₁ : h₁.PlainList l (refs f qs).toArray := hl.at fun o e => F₁.keep l o e
  have hU : (A.deeper (envOf (Str.ofString "_siftup_max") (scopeOf (fnAt 3)) s.heap.objs.size fa cd)).units + 10 < cLine := by
    show A.units + 3 + 10 < cLine
    omega
  have hDp : (A.deeper (envOf (Str.ofString "_siftup_max") (scopeOf (fnAt 3)) s.heap.objs.size fa cd)).depth < recursionLimit := hroom
  generalize hAd : A.deeper (envOf (Str.ofString "_siftup_max") (scopeOf (fnAt 3)) s.heap.objs.size fa cd) = A' at hU hDp ⊢
  generalize hL : s.heap.objs.size = L at hLl F ⊢
  obtain ⟨x, hxe⟩ : ∃ x, qs.getD 0 0 = x := ⟨_, rfl⟩
  have hx : x ∈ qs := hxe ▸ mem_getD hp
  refine wpAny_execs_cons (wpAny_Assign_Name (Call_ (nmB (G.keeps (sub_of B F.ch hX)) (by decide) boot_len' (by decide) (PyProof.Rows.callWith_builtin1 (args_cons (nm F rfl (args_nil (Calls.call_len_list hl₁.isList (by simp [refs_length]; omega) ?_))))))))
  refine stn F fun h₂ F₂ sb₂ => ?_
  have hl₂ := hl₁.extBut sb₂.extBut hLl
  refine wpAny_execs_cons (wpAny_Assign_Name (nm F₂ rfl (stn F₂ fun h₃ F₃ sb₃ => ?_)))
  have hl₃ := hl₂.extBut sb₃.extBut hLl
  refine wpAny_execs_cons (wpAny_Assign_Name (Subscript_ (nm F₃ rfl (nm F₃ rfl (subL hl₃ (by omega) (by omega) (refs_get (by simpa using hp)) ?_)))))
  rw [show Int.toNat 0 = 0 from rfl, hxe]
  refine stn F₃ fun h₄ F₄ sb₄ => ?_
  have hl₄ := hl₃.extBut sb₄.extBut hLl
  refine wpAny_execs_cons (wpAny_Assign_Name (wpAny_BinOp (wpAny_BinOp (wpAny_Constant_int (nm F₄ rfl (mul_int (hm := mul2_ok _) (wpAny_Constant_int (add_int (stn F₄ fun h₅ F₅ sb₅ => ?_)))))))))
  have hl₅ := hl₄.extBut sb₅.extBut hLl
  refine wpAny_execs_cons (wpAny_While (codeAny_whileLoop (fun n s' => ∃ h tk pos te ts t tc qs', s' = { s with heap := h, toks := tk } ∧ n = qs.length - pos ∧ pos < qs'.length ∧ qs'.length = qs.length ∧ (qs'.set pos x).Perm qs ∧ Down key qs' pos ∧
      (∀ j ∈ qs', j ∈ qs) ∧ h.PlainList l (refs f qs').toArray ∧
      FX s.heap [l] L [(Str.ofString "endpos", .int (qs.length : Nat) te), (Str.ofString "startpos", .int 0 ts), (Str.ofString "newitem", .ref (f x)), (Str.ofString "heap", .ref l), (Str.ofString "pos", .int (pos : Nat) t), (Str.ofString "childpos", .int (2 * (pos : Nat) + 1) tc)] h) ?_ (qs.length - 0)
      ⟨h₅, _, 0, _, _, _, _, qs, rfl, rfl, hp, rfl, (by rw [← hxe, set_getD hp]), D, fun _ h => h, hl₅, F₅.fewer ⟨(by show some (Value.int ((refs f qs).toArray.size : Nat) _) = _; rw [show (refs f qs).toArray.size = qs.length by simp [refs_length]]), rfl, rfl, rfl, rfl, rfl, trivial⟩⟩))
  rintro n s' ⟨h, tk, pos, te, ts, t, tc, qs', rfl, rfl, hpos, hlen, hperm, D', hsub, hlh, Fh⟩
  refine wpAny_isTrue_Compare1 (nm Fh rfl (nm Fh rfl (lt_int (wpAny_truthy_bool (split_dec (fun hlt => ?_) fun hlt => ?_)))))
  · have hc1 : 2 * pos + 1 < qs'.length := by omega
    refine wpAny_execs_cons (wpAny_Assign_Name (wpAny_BinOp (nm Fh rfl (wpAny_Constant_int (add_int (stn Fh fun h₆ F₆ sb₆ => ?_))))))
    have hl₆ := hlh.extBut sb₆.extBut hLl
    refine wpAny_execs_cons (wpAny_mono (Q := fun fl s' => fl = .next ∧ ∃ h tk c tc, s' = { s with heap := h, toks := tk } ∧ 0 < c ∧ c < qs'.length ∧ par c = pos ∧ (∀ i, 0 < i → i < qs'.length → par i = pos → rlt (key (qs'.getD c 0)) (key (qs'.getD i 0)) = false) ∧ h.PlainList l (refs f qs').toArray ∧
      FX s.heap [l] L [(Str.ofString "endpos", .int (qs.length : Nat) te), (Str.ofString "startpos", .int 0 ts), (Str.ofString "newitem", .ref (f x)), (Str.ofString "heap", .ref l), (Str.ofString "pos", .int (pos : Nat) t), (Str.ofString "childpos", .int (c : Nat) tc)] h)
      (wpAny_If (wpAny_isTrue_BoolOp (wpAny_allTrue_And_cons (wpAny_isTrue_Compare1 (nm F₆ rfl (nm F₆ rfl (lt_int (wpAny_truthy_bool (split_dec (fun hr => ?_) fun hr => ?_)))))))) ) (fun fl s' hq => ?_) (fun _ _ x => x))
    · have hc2 : 2 * pos + 2 < qs'.length := by omega
      have m1 : qs'.getD (2 * pos + 1) 0 ∈ qs := hsub _ (mem_getD hc1)
      have m2 : qs'.getD (2 * pos + 2) 0 ∈ qs := hsub _ (mem_getD hc2)
      obtain ⟨a1, a2, hT1⟩ := ht _ m1
      obtain ⟨b1, b2, hT2⟩ := ht _ m2
      refine wpAny_allTrue_And_cons (wpAny_isTrue_Not (wpAny_isTrue_Compare1 (Subscript_ (nm F₆ rfl (nm F₆ rfl (subL hl₆ (by omega) (by omega) (refs_get (by omega)) ?_))))))
      refine Subscript_ (nm F₆ rfl (nm F₆ rfl (subL hl₆ (by omega) (by omega) (refs_get (by omega)) ?_)))
      rw [show Int.toNat (2 * (pos : Int) + 1 + 1) = 2 * pos + 2 by omega, show Int.toNat (2 * (pos : Int) + 1) = 2 * pos + 1 by omega]
      refine tup_lt (F₆.ch.tuple hT2 (hTl _ m2)) (F₆.ch.tuple hT1 (hTl _ m1)) (by omega) (wpAny_truthy_bool ?_)
      refine split_bool (fun hb => ?_) fun hb => ?_
      · refine wpAny_allTrue_And_nil ?_
        show wpAny _ _ _ _ _ _
        refine wpAny_execs_cons (wpAny_Assign_Name (nm F₆ rfl (stn F₆ fun h₇ F₇ sb₇ => ?_)))
        refine wpAny_execs_nil ⟨rfl, h₇, _, 2 * pos + 2, _, rfl, by omega, hc2, by unfold par; omega, ?_, hl₆.extBut sb₇.extBut hLl, F₇.fewer ⟨rfl, rfl, rfl, rfl, rfl, (by show some (Value.int _ _) = some (Value.int _ _); congr 2 <;> omega), trivial⟩⟩
        intro i hi hil hpi
        have e : i = 2 * pos + 1 ∨ i = 2 * pos + 2 := by unfold par at hpi; omega
        rcases e with e | e
        · subst e
          have : rlt (key (qs'.getD (2 * pos + 2) 0)) (key (qs'.getD (2 * pos + 1) 0)) = false := by simpa using hb
          exact this
        · subst e; exact rlt_irrefl _
      · show wpAny _ _ _ _ _ _
        refine wpAny_execs_nil ⟨rfl, _, _, 2 * pos + 1, _, rfl, by omega, hc1, by unfold par; omega, ?_, hl₆, F₆.fewer ⟨rfl, rfl, rfl, rfl, rfl, (by show some (Value.int _ _) = some (Value.int _ _); congr 2), trivial⟩⟩
        intro i hi hil hpi
        have e : i = 2 * pos + 1 ∨ i = 2 * pos + 2 := by unfold par at hpi; omega
        rcases e with e | e
        · subst e; exact rlt_irrefl _
        · subst e
          have : rlt (key (qs'.getD (2 * pos + 2) 0)) (key (qs'.getD (2 * pos + 1) 0)) = true := by simpa using hb
          exact rlt_asymm this
    · show wpAny _ _ _ _ _ _
      refine wpAny_execs_nil ⟨rfl, _, _, 2 * pos + 1, _, rfl, by omega, hc1, by unfold par; omega, ?_, hl₆, F₆.fewer ⟨rfl, rfl, rfl, rfl, rfl, (by show some (Value.int _ _) = some (Value.int _ _); congr 2), trivial⟩⟩
      intro i hi hil hpi
      have e : i = 2 * pos + 1 := by unfold par at hpi; omega
      subst e; exact rlt_irrefl _
    · obtain ⟨rfl, h₇, tk₇, c, tc₇, rfl, hc0, hcl, hpc, hbig, hl₇, F₇⟩ := hq
      have hcp := par_lt hc0
      refine wpAny_execs_cons (wpAny_Assign_Subscript (Subscript_ (nm F₇ rfl (nm F₇ rfl (subL hl₇ (by omega) (by omega) (refs_get (by rw [Int.toNat_natCast]; exact hcl)) ?_)))))
      rw [Int.toNat_natCast]
      refine nm F₇ rfl (nm F₇ rfl (setL hl₇ (by omega) (by omega) (by simp [refs_length]; omega) fun h₈ hl₈ sb₈ => ?_))
      rw [Int.toNat_natCast, refs_set] at hl₈
      have F₈ := F₇.upd sb₈ (by simp) hLl
      refine wpAny_execs_cons (wpAny_Assign_Name (nm F₈ rfl (stn F₈ fun h₉ F₉ sb₉ => ?_)))
      have hl₉ := hl₈.extBut sb₉.extBut hLl
      refine wpAny_execs_cons (wpAny_Assign_Name (wpAny_BinOp (wpAny_BinOp (wpAny_Constant_int (nm F₉ rfl (mul_int (hm := mul2_ok _) (wpAny_Constant_int (add_int (stn F₉ fun h₁₀ F₁₀ sb₁₀ => ?_)))))))))
      have hl₁₀ := hl₉.extBut sb₁₀.extBut hLl
      refine wpAny_execs_nil ⟨qs.length - c, by omega, h₁₀, _, c, _, _, _, _, qs'.set pos (qs'.getD c 0), rfl, rfl, by rw [List.length_set]; exact hcl, by rw [List.length_set]; exact hlen, (perm_move hpos hcl (by omega)).trans hperm, D'.step hpos hc0 hcl hpc hbig, ?_, hl₁₀, F₁₀.fewer ⟨rfl, rfl, rfl, rfl, rfl, rfl, trivial⟩⟩
      intro j hj
      rcases mem_set hj with hj | hj
      · exact hsub j hj
      · exact hj ▸ hsub _ (mem_getD hcl)
  · refine wpAny_execs_nil ?_
    refine wpAny_execs_cons (wpAny_Assign_Subscript (nm Fh rfl (nm Fh rfl (nm Fh rfl (setL hlh (by omega) (by omega) (by simp [refs_length]; omega) fun h₆ hl₆ sb₆ => ?_)))))
    rw [Int.toNat_natCast, refs_set] at hl₆
    have F₆ := Fh.upd sb₆ (by simp) hLl
    have G₆ := G.keeps (sub_of B F₆.ch hX)
    obtain ⟨a, hga, hfa⟩ := G.sd
    have hfa₆ := hfa.keeps (sub_of B F₆.ch hX)
    obtain ⟨o', pm', cd', doc', ho', hd', hc'⟩ := hfa₆.ex
    refine wpAny_execs_cons (wpAny_Expr_any (Call_ (nmG G₆ hga (callWith_def hd' (args_cons (nm F₆ rfl (args_cons (nm F₆ rfl (args_cons (nm F₆ rfl (args_nil ⟨ho', ?_⟩)))))))))))
    refine wpAny_call (siftdown_call (key := key) (qs := qs'.set pos x) (f := f) (p0 := pos) hfa₆ G₆.nolimit hDp hU hl₆ ?_ ?_ ?_ ?_ ?_)
    · intro j hj
      have hjq : j ∈ qs := by
        rcases mem_set hj with h | h
        · exact hsub j h
        · exact h ▸ hx
      obtain ⟨a, b, hT⟩ := ht j hjq
      exact ⟨a, b, F₆.ch.tuple hT (hTl j hjq)⟩
    · rw [List.length_set]; omega
    · rw [List.length_set]; exact hpos
    · have e : (qs'.set pos x).getD pos 0 = x := by rw [getD_set hpos, if_pos rfl]
      rw [e]
      have U := D'.stop (by omega) x
      exact ⟨fun i h1 h2 h3 h4 => by rw [List.length_set] at h2; rw [getD_set hpos, getD_set hpos, if_neg (Ne.symm h3), if_neg (Ne.symm h4)]; exact U.far i h1 h2 h3 h4,
        fun i h1 h2 h3 => by rw [List.length_set] at h2; exfalso; unfold par at h3; omega⟩
    · intro h' tk' qs'' hp'' hh'' hl'' hc''
      exact wpAny_execs_nil (hR _ _ _ (hp''.trans hperm) hh'' hl'' (F₆.ch.trans hc''))
end
end Mine
end PartW3

section PartW4
open PySem PySem.W PyProof.Rows
set_option Elab.async false
set_option maxRecDepth 100000
set_option maxHeartbeats 4000000
set_option autoImplicit false
namespace Mine
section
variable {prog : Program} {w : World} {A : Around} {R : Result → Shared → Prop} {s : Shared} {base : Heap} {mg mb : Str → Option Value}

theorem heapreplace_call {fa l : Addr} {qs : List Nat} {f : Nat → Addr} {key : Nat → Rk} {x : Nat}
    (G : Glb base mg mb) (B : Sub base s.heap) (hbl : base.get? l = none)
    (hf : Fn s.heap fa (Str.ofString "_heapreplace_max") 1) (hroom : A.depth + 2 < recursionLimit) (hu : A.units + 30 < cLine)
    (hl : s.heap.PlainList l (refs f qs).toArray) (ht : ∀ j ∈ qs, TupAt s.heap (f j) (key j)) (hx : TupAt s.heap (f x) (key x)) (hz : qs.length < 1000) (hp : 0 < qs.length) (D : IsHeap key qs)
    (hR : ∀ h' tk qs', qs'.Perm (qs.set 0 x) → IsHeap key qs' → h'.PlainList l (refs f qs').toArray → Ch [l] s.heap h' → R (.ok (.ret (.ref (f (qs.getD 0 0))))) { s with heap := h', toks := tk }) :
    codeAny (model prog w) A (.call (.ref fa) ⟨[.ref l, .ref (f x)], []⟩) R s := by
  obtain ⟨o, pm, cd, doc, ho, hd, hc⟩ := hf.ex
  refine call_plain_ret (binds := [(Str.ofString "heap", .ref l), (Str.ofString "item", .ref (f x))]) (by omega) ho hd (G.nolimit.keeps B) hc rfl (locs rfl) (fun h₁ F₁ => ?_) rfl rfl rfl (by decide)
  have hLl : l ≠ s.heap.objs.size := by
    obtain ⟨n, e⟩ := hl
    exact Nat.ne_of_lt (Heap.lt_size e)
  have hTl : ∀ j, TupAt s.heap (f j) (key j) → f j ∉ [l] := fun j hj hm => by
    obtain ⟨_, _, h⟩ := hj
    exact ne_list_tuple hl h (by simpa using hm)
  have hX : ∀ x ∈ [l], base.get? x = none := fun x hx => by rw [List.mem_singleton.mp hx]; exact hbl
  have F : FX s.heap [l] s.heap.objs.size [(Str.ofString "item", .ref (f x)), (Str.ofString "heap", .ref l)] h₁ :=
    ⟨⟨_, F₁.ns, fun x v e => e⟩, Ch.of_sub F₁.keep, .inl (Heap.get?_none_of_le (Nat.le_refl _))⟩
  have hl₁ : h₁.PlainList l (refs f qs).toArray := hl.at fun o e => F₁.keep l o e
  have hU : (A.deeper (envOf (Str.ofString "_heapreplace_max") (scopeOf (fnAt 1)) s.heap.objs.size fa cd)).units + 20 < cLine := by
    show A.units + 3 + 20 < cLine
    omega
  have hDp : (A.deeper (envOf (Str.ofString "_heapreplace_max") (scopeOf (fnAt 1)) s.heap.objs.size fa cd)).depth + 1 < recursionLimit := hroom
  generalize hAd : A.deeper (envOf (Str.ofString "_heapreplace_max") (scopeOf (fnAt 1)) s.heap.objs.size fa cd) = A' at hU hDp ⊢
  generalize hL : s.heap.objs.size = L at hLl F ⊢
  refine wpAny_execs_cons (wpAny_Assign_Name (Subscript_ (nm F rfl (wpAny_Constant_int (subL hl₁ (by omega) (by omega) (refs_get (by simpa using hp)) ?_)))))
  rw [show Int.toNat 0 = 0 from rfl]
  refine stn F fun h₂ F₂ sb₂ => ?_
  have hl₂ := hl₁.extBut sb₂.extBut hLl
  refine wpAny_execs_cons (wpAny_Assign_Subscript (nm F₂ rfl (nm F₂ rfl (wpAny_Constant_int (setL hl₂ (by omega) (by omega) (by simp [refs_length]; omega) fun h₃ hl₃ sb₃ => ?_)))))
  rw [show Int.toNat 0 = 0 from rfl, refs_set] at hl₃
  have F₃ := F₂.upd sb₃ (by simp) hLl
  have B₃ := sub_of B F₃.ch hX
  obtain ⟨a, hga, hfa⟩ := G.su
  have hfa₃ := hfa.keeps B₃
  obtain ⟨o', pm', cd', doc', ho', hd', hc'⟩ := hfa₃.ex
  refine wpAny_execs_cons (wpAny_Expr_any (Call_ (nmG (G.keeps B₃) hga (callWith_def hd' (args_cons (nm F₃ rfl (args_cons (wpAny_Constant_int (args_nil ⟨ho', ?_⟩)))))))))
  refine wpAny_call (siftup_call (key := key) (qs := qs.set 0 x) (f := f) G B₃ hbl hfa₃ hDp hU hl₃ ?_ ?_ ?_ (Down.start D hp) ?_)
  · intro j hj
    have hT : TupAt s.heap (f j) (key j) := by
      rcases mem_set hj with h | h
      · exact ht j h
      · exact h ▸ hx
    obtain ⟨a, b, h⟩ := id hT
    exact ⟨a, b, F₃.ch.tuple h (hTl j hT)⟩
  · rw [List.length_set]; exact hz
  · rw [List.length_set]; exact hp
  · intro h₄ tk₄ qs' hp' hh' hl₄ hc₄
    have F₄ : FX s.heap [l] L _ h₄ := F₃.chg hc₄ (fun y hy => hy) (by simpa using Ne.symm hLl)
    exact wpAny_execs_cons (wpAny_Return_some (nm F₄ rfl (hR _ _ _ hp' hh' hl₄ F₄.ch)))
end
end Mine
end PartW4

section PartP3
/- Plain law: the library's tree of questions sorts. -/
open PySem PySem.W PyProof.Rows
set_option autoImplicit false
set_option Elab.async false
namespace Mine

section
variable {n : Nat} {lt : Nat → Nat → Bool}

/-- ask lt, of places below n -/
def ask0 (n : Nat) (lt : Nat → Nat → Bool) : Nat → Nat → (Bool → Shared → Prop) → Shared → Prop := fun i j C s => i < n ∧ j < n ∧ C (lt i j) s

structure Ord (n : Nat) (lt : Nat → Nat → Bool) : Prop where
  irr : ∀ i, lt i i = false
  tr : ∀ i j k, lt i j = true → lt j k = true → lt i k = true
  tot : ∀ i j, i < n → j < n → i ≠ j → lt i j = false → lt j i = true

def PP (n : Nat) (p : Array Nat) : Prop := p.toList.Perm (List.range n)

theorem PP.size {p : Array Nat} (h : PP n p) : p.size = n := by
  have := h.length_eq
  simpa using this
theorem getD_eq {p : Array Nat} {i : Nat} (h : i < p.size) : p.getD i 0 = p[i] := by simp [Array.getD, h]
theorem PP.below {p : Array Nat} (h : PP n p) {i : Nat} (hi : i < n) : p.getD i 0 < n := by
  have hs := h.size
  rw [getD_eq (by omega)]
  have : p[i] ∈ List.range n := h.mem_iff.mp (by simp)
  simpa using this
theorem PP.inj {p : Array Nat} (h : PP n p) {i j : Nat} (hi : i < n) (hj : j < n) (e : p.getD i 0 = p.getD j 0) : i = j := by
  have hs := h.size
  rw [getD_eq (by omega), getD_eq (by omega)] at e
  have hnd : p.toList.Nodup := h.symm.nodup List.nodup_range
  have hp := List.pairwise_iff_getElem.mp hnd
  rcases Nat.lt_trichotomy i j with h1 | h1 | h1
  · exact absurd (by rw [Array.getElem_toList, Array.getElem_toList]; exact e) (hp i j _ _ h1)
  · exact h1
  · exact absurd (by rw [Array.getElem_toList, Array.getElem_toList]; exact e.symm) (hp j i _ _ h1)

/-- rising up to k -/
def Asc (lt : Nat → Nat → Bool) (p : Array Nat) (k : Nat) : Prop := ∀ i j, i < j → j < k → lt (p.getD i 0) (p.getD j 0) = true
def Desc (lt : Nat → Nat → Bool) (p : Array Nat) (k : Nat) : Prop := ∀ i j, i < j → j < k → lt (p.getD j 0) (p.getD i 0) = true

theorem Asc.more (O : Ord n lt) {p : Array Nat} {k : Nat} (h : Asc lt p k) (hk : 0 < k) (hl : lt (p.getD (k - 1) 0) (p.getD k 0) = true) : Asc lt p (k + 1) := by
  intro i j hij hj
  by_cases e : j = k
  · subst e
    by_cases e2 : i = j - 1
    · subst e2; exact hl
    · exact O.tr _ _ _ (h i (j - 1) (by omega) (by omega)) hl
  · exact h i j hij (by omega)
theorem Desc.more (O : Ord n lt) {p : Array Nat} {k : Nat} (h : Desc lt p k) (hk : 0 < k) (hl : lt (p.getD k 0) (p.getD (k - 1) 0) = true) : Desc lt p (k + 1) := by
  intro i j hij hj
  by_cases e : j = k
  · subst e
    by_cases e2 : i = j - 1
    · subst e2; exact hl
    · exact O.tr _ _ _ hl (h i (j - 1) (by omega) (by omega))
  · exact h i j hij (by omega)

theorem wp_mono {α : Type} {cmp cmp' : Nat → Nat → (Bool → Shared → Prop) → Shared → Prop} (hc : ∀ i j C s, cmp i j C s → cmp' i j C s) (hm : ∀ i j C C' s, (∀ b s, C b s → C' b s) → cmp i j C s → cmp i j C' s)
    {Q Q' : α → Shared → Prop} (hq : ∀ a s, Q a s → Q' a s) : ∀ (t : KasT α) (s : Shared), t.kasWp cmp Q s → t.kasWp cmp' Q' s
  | .ret _, _, h => hq _ _ h
  | .ask i j k, s, h => hc i j _ s (hm i j _ _ s (fun b s' => wp_mono hc hm hq (k b) s') h)
theorem ask0_mono : ∀ i j C C' s, (∀ b s, C b s → C' b s) → ask0 n lt i j C s → ask0 n lt i j C' s := fun _ _ _ _ _ h ⟨a, b, c⟩ => ⟨a, b, h _ _ c⟩

theorem asc_spec (O : Ord n lt) {p : Array Nat} (P : PP n p) {Q : Nat → Shared → Prop} {s : Shared} : ∀ (f k : Nat), 0 < k → k + f ≤ n → Asc lt p k →
    (∀ m, k ≤ m → m ≤ k + f → Asc lt p m → (m = k + f ∨ (m < n ∧ lt (p.getD m 0) (p.getD (m - 1) 0) = true)) → Q m s) → (kas_asc p f k).kasWp (ask0 n lt) Q s
  | 0, k, _, _, ha, hq => hq k (Nat.le_refl _) (Nat.le_refl _) ha (.inl rfl)
  | f + 1, k, hk, hn, ha, hq => by
    unfold kas_asc
    refine ⟨P.below (by omega), P.below (by omega), ?_⟩
    cases h : lt (p.getD k 0) (p.getD (k - 1) 0) with
    | true =>
      dsimp only
      rw [if_pos rfl]
      exact hq k (Nat.le_refl _) (by omega) ha (.inr ⟨by omega, h⟩)
    | false =>
      dsimp only
      rw [if_neg (by simp)]
      have hl : lt (p.getD (k - 1) 0) (p.getD k 0) = true := O.tot _ _ (P.below (by omega)) (P.below (by omega)) (fun e => by have := P.inj (by omega) (by omega) e; omega) h
      refine asc_spec O P f (k + 1) (by omega) (by omega) (ha.more O hk hl) fun m h1 h2 h3 h4 => hq m (by omega) (by omega) h3 ?_
      rcases h4 with h4 | h4
      · exact .inl (by omega)
      · exact .inr h4

theorem desc_spec (O : Ord n lt) {p : Array Nat} (P : PP n p) {Q : Array Nat × Nat × Nat → Shared → Prop} {s : Shared} : ∀ (f k : Nat), 0 < k → k + f ≤ n → Desc lt p k →
    (∀ m, k ≤ m → m ≤ k + f → Desc lt p m → Q (p, m, 0) s) → (kas_desc f p k 0).kasWp (ask0 n lt) Q s
  | 0, k, _, _, ha, hq => hq k (Nat.le_refl _) (Nat.le_refl _) ha
  | f + 1, k, hk, hn, ha, hq => by
    unfold kas_desc
    refine ⟨P.below (by omega), P.below (by omega), ?_⟩
    cases h : lt (p.getD k 0) (p.getD (k - 1) 0) with
    | true =>
      dsimp only
      rw [if_pos rfl, if_neg (by omega)]
      exact desc_spec O P f (k + 1) (by omega) (by omega) (ha.more O hk h) fun m h1 h2 h3 => hq m (by omega) (by omega) h3
    | false =>
      dsimp only
      rw [if_neg (by simp)]
      have hl : lt (p.getD (k - 1) 0) (p.getD k 0) = true := O.tot _ _ (P.below (by omega)) (P.below (by omega)) (fun e => by have := P.inj (by omega) (by omega) e; omega) h
      refine ⟨P.below (by omega), P.below (by omega), ?_⟩
      rw [hl]
      dsimp only
      rw [if_pos rfl]
      exact hq k (Nat.le_refl _) (by omega) ha

theorem getD_opt {p : Array Nat} {i : Nat} : p.getD i 0 = (p[i]?).getD 0 := by
  simp [Array.getD_eq_getD_getElem?]

theorem rev_spec {p : Array Nat} (P : PP n p) {k : Nat} (hk : k ≤ n) (h : Desc lt p k) : PP n (kas_rev p 0 k) ∧ Asc lt (kas_rev p 0 k) k := by
  have hs := P.size
  constructor
  · exact (mirror_perm p 0 k _).toList.trans P
  · intro i j hij hj
    have e : ∀ q, q < k → (kas_rev p 0 k).getD q 0 = p.getD (k - 1 - q) 0 := fun q hq => by
      rw [getD_opt, getD_opt]
      unfold kas_rev
      rw [getElem?_mirror_all (by omega), if_pos ⟨by omega, by omega⟩]
      congr 2; omega
    rw [e i (by omega), e j (by omega)]
    exact h (k - 1 - j) (k - 1 - i) (by omega) (by omega)

theorem count_spec (O : Ord n lt) (hn : 2 ≤ n) {p : Array Nat} (P : PP n p) {Q : Nat × Array Nat → Shared → Prop} {s : Shared} (hq : ∀ m p', PP n p' → 0 < m → m ≤ n → Asc lt p' m → Q (m, p') s) :
    (kas_count n p).kasWp (ask0 n lt) Q s := by
  unfold kas_count
  rw [KasT.kasWp_bind]
  refine asc_spec O P (n - 1) 1 (by omega) (by omega) (fun i j _ _ => by omega) fun m h1 h2 h3 h4 => ?_
  by_cases e : m = n
  · subst e
    rw [if_pos (by simp)]
    exact hq m p P (by omega) (Nat.le_refl _) h3
  · rw [if_neg (by simpa using e)]
    by_cases e2 : m > 1
    · rw [if_pos e2]
      refine ⟨P.below (by omega), P.below (by omega), ?_⟩
      rw [h3 0 (m - 1) (by omega) (by omega)]
      dsimp only
      rw [if_pos rfl]
      exact hq m p P (by omega) (by omega) h3
    · rw [if_neg e2]
      have em : m = 1 := by omega
      subst em
      have h5 : lt (p.getD 1 0) (p.getD 0 0) = true := by
        rcases h4 with h4 | h4
        · omega
        · exact h4.2
      unfold kas_descPart
      rw [KasT.kasWp_bind]
      refine desc_spec O P (n - (1 + 1)) (1 + 1) (by omega) (by omega) ?_ fun k k1 k2 k3 => ?_
      · intro i j hij hj
        have : i = 0 ∧ j = 1 := by omega
        obtain ⟨rfl, rfl⟩ := this
        exact h5
      · simp only [gt_iff_lt, Nat.lt_irrefl, if_false]
        unfold kas_tail3
        rw [KasT.kasWp_bind]
        obtain ⟨P', A'⟩ := rev_spec P (by omega) k3
        exact asc_spec O P' (n - k) k (by omega) (by omega) A' fun m' a1 a2 a3 _ => hq m' _ P' (by omega) (by omega) a3

theorem place_spec (O : Ord n lt) {p : Array Nat} (P : PP n p) {k : Nat} (hk : k < n) (ha : Asc lt p k) {Q : Nat → Shared → Prop} {s : Shared} : ∀ (f l r : Nat), l ≤ r → r ≤ k → r - l ≤ f →
    (∀ i, i < l → lt (p.getD i 0) (p.getD k 0) = true) → (∀ i, r ≤ i → i < k → lt (p.getD k 0) (p.getD i 0) = true) →
    (∀ l, l ≤ k → (∀ i, i < l → lt (p.getD i 0) (p.getD k 0) = true) → (∀ i, l ≤ i → i < k → lt (p.getD k 0) (p.getD i 0) = true) → Q l s) → (kas_place p k f l r).kasWp (ask0 n lt) Q s
  | 0, l, r, h1, h2, h3, h4, h5, hq => by
    have : l = r := by omega
    subst this
    exact hq l h2 h4 h5
  | f + 1, l, r, h1, h2, h3, h4, h5, hq => by
    unfold kas_place
    by_cases e : l ≥ r
    · rw [if_pos e]
      have : l = r := by omega
      subst this
      exact hq l h2 h4 h5
    · rw [if_neg e]
      refine ⟨P.below (by omega), P.below (by omega), ?_⟩
      cases h : lt (p.getD k 0) (p.getD ((l + r) / 2) 0) with
      | true =>
        dsimp only
        rw [if_pos rfl]
        refine place_spec O P hk ha f l ((l + r) / 2) (by omega) (by omega) (by omega) h4 (fun i hi hik => ?_) hq
        by_cases e2 : i = (l + r) / 2
        · subst e2; exact h
        · exact O.tr _ _ _ h (ha _ _ (by omega) (by omega))
      | false =>
        dsimp only
        rw [if_neg (by simp)]
        have hl : lt (p.getD ((l + r) / 2) 0) (p.getD k 0) = true := O.tot _ _ (P.below (by omega)) (P.below (by omega)) (fun e => by have := P.inj (by omega) (by omega) e; omega) h
        refine place_spec O P hk ha f ((l + r) / 2 + 1) r (by omega) (by omega) (by omega) (fun i hi => ?_) h5 hq
        by_cases e2 : i = (l + r) / 2
        · subst e2; exact hl
        · exact O.tr _ _ _ (ha _ _ (by omega) (by omega)) hl

theorem ins_spec {p : Array Nat} (P : PP n p) {k l : Nat} (hk : k < n) (ha : Asc lt p k) (hl : l ≤ k)
    (h4 : ∀ i, i < l → lt (p.getD i 0) (p.getD k 0) = true) (h5 : ∀ i, l ≤ i → i < k → lt (p.getD k 0) (p.getD i 0) = true) : PP n (bubble p k (k - l)) ∧ Asc lt (bubble p k (k - l)) (k + 1) := by
  have hs := P.size
  constructor
  · exact (bubble_perm p k _).toList.trans P
  · have e : ∀ q, q ≤ k → (bubble p k (k - l)).getD q 0 = if q < l then p.getD q 0 else if q = l then p.getD k 0 else p.getD (q - 1) 0 := fun q hq => by
      rw [getD_opt, getElem?_bubble (by omega) _ (by omega)]
      by_cases q1 : q < l
      · rw [if_pos q1, if_neg (by omega), if_neg (by omega), getD_opt]
      · rw [if_neg q1]
        by_cases q2 : q = l
        · rw [if_pos (by omega), if_pos q2, getD_opt]
        · rw [if_neg (by omega), if_pos ⟨by omega, hq⟩, if_neg q2, getD_opt]
    intro i j hij hj
    rw [e i (by omega), e j (by omega)]
    by_cases i1 : i < l
    · rw [if_pos i1]
      by_cases j1 : j < l
      · rw [if_pos j1]; exact ha i j hij (by omega)
      · rw [if_neg j1]
        by_cases j2 : j = l
        · rw [if_pos j2]; exact h4 i i1
        · rw [if_neg j2]; exact ha i (j - 1) (by omega) (by omega)
    · rw [if_neg i1, if_neg (by omega : ¬ j < l), if_neg (by omega : ¬ j = l)]
      by_cases i2 : i = l
      · rw [if_pos i2]; exact h5 (j - 1) (by omega) (by omega)
      · rw [if_neg i2]; exact ha (i - 1) (j - 1) (by omega) (by omega)

theorem bin_spec (O : Ord n lt) {Q : Array Nat → Shared → Prop} {s : Shared} (hq : ∀ p, PP n p → Asc lt p n → Q p s) : ∀ (f k : Nat) (p : Array Nat), PP n p → k + f = n → Asc lt p k → (kas_bin f p k).kasWp (ask0 n lt) Q s
  | 0, k, p, P, hk, ha => hq p P (by rw [← hk]; exact ha)
  | f + 1, k, p, P, hk, ha => by
    unfold kas_bin
    rw [KasT.kasWp_bind]
    refine place_spec O P (by omega) ha k 0 k (by omega) (Nat.le_refl _) (by omega) (fun i hi => by omega) (fun i hi hi2 => by omega) fun l h1 h4 h5 => ?_
    obtain ⟨P', A'⟩ := ins_spec P (by omega) ha h1 h4 h5
    exact bin_spec O hq f (k + 1) _ P' (by omega) A'

theorem sort_spec (O : Ord n lt) (hn : 2 ≤ n) {Q : Array Nat → Shared → Prop} {s : Shared} (hq : ∀ p, PP n p → Asc lt p n → Q p s) : (kas_sort n).kasWp (ask0 n lt) Q s := by
  unfold kas_sort
  rw [KasT.kasWp_bind]
  refine count_spec O hn (p := List.toArray (List.range n)) (by unfold PP; simp) fun m p P h0 hm ha => ?_
  by_cases e : m < n
  · rw [if_pos e]
    have : max m 1 = m := by omega
    rw [this]
    exact bin_spec O hq (n - m) m p P (by omega) ha
  · rw [if_neg e]
    have : m = n := by omega
    subst this
    exact hq p P ha
end

end Mine
end PartP3

section PartW5
open PySem PySem.W PyProof.Rows PySem.SeqAt
set_option Elab.async false
set_option maxRecDepth 100000
set_option maxHeartbeats 4000000
set_option autoImplicit false
namespace Mine
section
variable {prog : Program} {w : World} {A : Around} {E : Value → Shared → Prop} {s : Shared}

theorem key_lt {x y : Addr} {k k' : Rk} {Q : Bool → Shared → Prop} (hx : TupAt s.heap x k) (hy : TupAt s.heap y k') (h : Q (rlt k k') s) :
    wpAny (model prog w) A (keyLt' (tuples' true) (.ref x) (.ref y)) Q E s := by
  obtain ⟨t1, t2, ox, ex, cx, nx, dx⟩ := hx
  obtain ⟨u1, u2, oy, ey, cy, ny, dy⟩ := hy
  refine kat_lt ex dx ey dy ?_
  refine kat_cons (EqAt.int_int _ _ _ _ _ _ _ _ (kat_go (fun e => kat_yes ?_) fun e => kat_no ?_))
  · have e1 : k.1 = k'.1 := by simpa using e
    refine kat_cons (EqAt.int_int _ _ _ _ _ _ _ _ (kat_go (fun e => kat_yes ?_) fun e => kat_no ?_))
    · have e2 : k.2 = k'.2 := by simpa using e
      refine kat_nil ?_
      have : rlt k k' = false := by
        rw [show k = k' from Prod.ext e1 e2]; exact rlt_irrefl _
      rw [this] at h
      exact h
    · refine kat_one _ _ (lt_int ?_)
      have : rlt k k' = decide (k.2 < k'.2) := by simp [rlt, e1]
      rw [this] at h
      exact h
  · have e1 : ¬ k.1 = k'.1 := by simpa using e
    refine oneLt_int ?_
    have : rlt k k' = decide (k.1 < k'.1) := by simp [rlt, e1]
    rw [this] at h
    exact h

theorem kat_tups {h : Heap} {f : Nat → Addr} {key : Nat → Rk} : ∀ {qs : List Nat}, (∀ j ∈ qs, TupAt h (f j) (key j)) → ∃ fs, KatTups h (refs f qs) fs ∧ fs.length = qs.length ∧ ∀ v ∈ fs, ∃ i t, v = Value.int i t
  | [], _ => ⟨[], trivial, rfl, fun _ h => by cases h⟩
  | j :: qs, ht => by
    obtain ⟨fs, h1, h2, h3⟩ := kat_tups (qs := qs) fun j hj => ht j (List.mem_cons_of_mem _ hj)
    obtain ⟨t, u, o, e, c, n, d⟩ := ht j List.mem_cons_self
    refine ⟨.int (key j).1 t :: fs, KatTups.cons e c d rfl h1, by simp [h2], fun v hv => ?_⟩
    rcases List.mem_cons.mp hv with rfl | hv
    · exact ⟨_, _, rfl⟩
    · exact h3 v hv

theorem key_kind {f : Nat → Addr} {key : Nat → Rk} {qs : List Nat} (ht : ∀ j ∈ qs, TupAt s.heap (f j) (key j)) (hne : 0 < qs.length) {Q : SortKind → Shared → Prop} (h : Q (tuples' true) s) :
    wpAny (model prog w) A (keyKind' (refs f qs).toArray) Q E s := by
  obtain ⟨fs, h1, h2, h3⟩ := kat_tups ht
  refine kat_kind (T := .type "int") h1 (by omega) (fun v hv => ?_) rfl h
  obtain ⟨i, t, rfl⟩ := h3 v hv
  exact Looks.now

theorem refs_getD {f : Nat → Addr} {l : List Nat} {i : Nat} (h : i < l.length) : (refs f l).getD i Value.none = .ref (f (l.getD i 0)) := by
  simp [refs, List.getD, h]

/-- the order of the places of a list without doubles -/
theorem ord_of {key : Nat → Rk} {qs : List Nat} (hinj : ∀ i j, i < qs.length → j < qs.length → i ≠ j → key (qs.getD i 0) ≠ key (qs.getD j 0)) : Ord qs.length (fun i j => rlt (key (qs.getD i 0)) (key (qs.getD j 0))) where
  irr := fun _ => rlt_irrefl _
  tr := fun _ _ _ h1 h2 => rlt_trans h1 h2
  tot := fun i j hi hj hne h => rlt_or_of_ne (hinj i j hi hj hne) h

theorem perm_places {qs : List Nat} {p : List Nat} (h : p.Perm (List.range qs.length)) : (p.map fun i => qs.getD i 0).Perm qs := by
  have e : (List.range qs.length).map (fun i => qs.getD i 0) = qs := by
    apply List.ext_getElem
    · simp
    · intro i h1 h2
      simp [List.getD, h2]
  have := h.map fun i => qs.getD i 0
  rwa [e] at this

theorem wp_here {α : Type} {n : Nat} {lt : Nat → Nat → Bool} {Q : α → Shared → Prop} {S : Shared} : ∀ (t : KasT α), t.kasWp (ask0 n lt) Q S → t.kasWp (fun i j C s' => s' = S ∧ ask0 n lt i j C s') (fun a s' => s' = S ∧ Q a s') S
  | .ret _, h => ⟨rfl, h⟩
  | .ask i j k, ⟨hi, hj, h⟩ => ⟨rfl, hi, hj, wp_here (k (lt i j)) h⟩

theorem list_sort_refs {a : Addr} {n : Nat} {f : Nat → Addr} {key : Nat → Rk} {qs : List Nat} {P : PySem.Fin → Shared → Prop} (ho : s.heap.get? a = some (seqObj "list" (refs f qs).toArray n))
    (ht : ∀ j ∈ qs, TupAt s.heap (f j) (key j)) (hinj : ∀ i j, i < qs.length → j < qs.length → i ≠ j → key (qs.getD i 0) ≠ key (qs.getD j 0)) (h64 : qs.length < 64)
    (h : ∀ h' qs', Ch [a] s.heap h' → h'.PlainList a (refs f qs').toArray → qs'.Perm qs → qs'.Pairwise (fun x y => rlt (key x) (key y) = true) → P (.done (.ret .none)) { s with heap := h' }) :
    wpAny (model prog w) A (Builtin.«list.sort» ⟨[.ref a], []⟩) P E s := by
  have ha : a < s.heap.objs.size := Heap.lt_size ho
  have hlen : (refs f qs).length = qs.length := refs_length
  have s1 := Heap.SameBut.update s.heap a (Obj.mapSeq fun _ => (#[] : Array Value))
  obtain ⟨e1, ho1⟩ : ∃ e1, (s.heap.update a (Obj.mapSeq fun _ => (#[] : Array Value))).get? a = some (seqObj "list" #[] e1) := ⟨_, get?_update_seq ho fun _ => #[]⟩
  have hta : ∀ j, TupAt s.heap (f j) (key j) → f j ≠ a := fun j hj => by
    obtain ⟨_, _, hT⟩ := hj
    exact ne_list_tuple ⟨n, ho⟩ hT
  rw [list_sort_plain]
  refine wpAny_bind (listItems_at ho rfl ?_)
  refine wpAny_bind (listUpdate_at ho rfl ?_ (by rw [List.size_toArray, sizeLine_eq]; omega) (Nat.zero_le _))
  refine wpAny_bind (seqEpoch_at ho1 rfl ?_)
  refine wpAny_bind (wpAny_newTuple ?_ (by show (refs f qs).length ≤ _; rw [sizeLine_eq]; omega))
  refine wpAny_bind (wpAny_newList ?_ (Nat.zero_le _))
  refine wpAny_holding ?_
  obtain ⟨H, hH⟩ : ∃ H, H = ((s.heap.update a (Obj.mapSeq fun _ => (#[] : Array Value))).push (seqObj "tuple" (refs f qs).toArray 0)).push (seqObj "list" #[] 0) := ⟨_, rfl⟩
  have hk1 : ∀ b o, b ≠ a → s.heap.get? b = some o → H.get? b = some o := fun b o hb e => by
    rw [hH]
    exact Heap.get?_push_of_some _ (Heap.get?_push_of_some _ (s1.extBut b o hb e))
  have hHa : H.get? a = some (seqObj "list" #[] e1) := by
    rw [hH]
    exact Heap.get?_push_of_some _ (Heap.get?_push_of_some _ ho1)
  have htH : ∀ j ∈ qs, TupAt H (f j) (key j) := fun j hj => by
    obtain ⟨t, u, o, e, r⟩ := ht j hj
    exact ⟨t, u, o, hk1 _ _ (hta j (ht j hj)) e, r⟩
  show wpAny (model prog w) A _ P E { s with heap := ((s.heap.update a (Obj.mapSeq fun _ => (#[] : Array Value))).push (seqObj "tuple" (refs f qs).toArray 0)).push (seqObj "list" #[] 0) }
  rw [← hH]
  dsimp only
  have fin : ∀ (out : List Nat) (st' : SortSt), out.length = qs.length → out.Perm qs → out.Pairwise (fun x y => rlt (key x) (key y) = true) → (arrOf st').map (·.2) = (refs f out).toArray → failedOf st' = none →
      wpAny (model prog w) A (do
        let touched := (← seqEpoch a) != e1
        Builtin.List.listUpdate (.ref a) fun _ => (arrOf st').map (·.2)
        if let some e := failedOf st' then rule "list.sort.comparison-raised"; throw e
        if touched then rule "list.sort.modified"; raiseError "ValueError" "list modified during sort"
        ret .none) P E { s with heap := H } := fun out st' hol hp hs har hf => by
    rw [har]
    have s2 := Heap.SameBut.update H a (Obj.mapSeq fun _ => (refs f out).toArray)
    obtain ⟨c2, hc2⟩ : ∃ c2, (H.update a (Obj.mapSeq fun _ => (refs f out).toArray)).get? a = some (seqObj "list" (refs f out).toArray c2) := ⟨_, get?_update_seq hHa fun _ => (refs f out).toArray⟩
    refine wpAny_bind (seqEpoch_at hHa rfl ?_)
    refine wpAny_bind (listUpdate_at hHa rfl ?_ (Nat.zero_le _) (by rw [List.size_toArray, refs_length, sizeLine_eq]; omega))
    rw [hf]
    simp only [bne_self_eq_false, Bool.false_eq_true, if_false]
    exact wpAny_pure (h _ out (fun b o hb e => s2.extBut b o (by simpa using hb) (hk1 b o (by simpa using hb) e)) ⟨c2, hc2⟩ hp hs)
  by_cases hn2 : (refs f qs).toArray.size < 2
  · rw [if_pos hn2, if_pos hn2]
    refine wpAny_bind (wpAny_pure ?_)
    refine wpAny_bind (wpAny_pure ?_)
    have hq : qs.length < 2 := by rw [List.size_toArray, hlen] at hn2; exact hn2
    refine fin qs _ rfl (List.Perm.refl _) ?_ ?_ rfl
    · match qs, hq with
      | [], _ => exact List.Pairwise.nil
      | [x], _ => exact List.pairwise_singleton _ _
    · show ((refs f qs).toArray.zip (refs f qs).toArray).map (·.2) = (refs f qs).toArray
      apply Array.ext
      · simp
      · intro i h1 h2; simp
  · have hq : 2 ≤ qs.length := by rw [List.size_toArray, hlen] at hn2; omega
    rw [if_neg hn2, if_neg hn2]
    refine wpAny_bind (key_kind (s := { s with heap := H }) htH (by omega) ?_)
    refine wpAny_bind (wpAny_mono (kat_run (κ := tuples' true) (ks := refs f qs) (vs := refs f qs) (Q := fun st' s' => s' = { s with heap := H } ∧ ∃ p : Array Nat, PP qs.length p ∧ Asc (fun i j => rlt (key (qs.getD i 0)) (key (qs.getD j 0))) p qs.length ∧ arrOf st' = p.map (kas_item ((refs f qs).toArray.zip (refs f qs).toArray)) ∧ failedOf st' = none)
      (G := fun p s' => s' = { s with heap := H } ∧ PP qs.length p ∧ Asc (fun i j => rlt (key (qs.getD i 0)) (key (qs.getD j 0))) p qs.length)
      rfl (by omega) (by omega) (fun p' st' s' a1 a2 a3 a4 => ⟨a4.1, p', a4.2.1, a4.2.2, a2, a3⟩) ?_) ?_ fun _ _ e => e)
    · rw [hlen]
      refine wp_mono (cmp := fun i j C s' => s' = { s with heap := H } ∧ ask0 qs.length (fun i j => rlt (key (qs.getD i 0)) (key (qs.getD j 0))) i j (fun b s'' => C b s'') s') ?_ ?_ (Q := fun p s' => s' = { s with heap := H } ∧ PP qs.length p ∧ Asc (fun i j => rlt (key (qs.getD i 0)) (key (qs.getD j 0))) p qs.length) (fun _ _ h => h) _ _ ?_
      · rintro i j C s' ⟨rfl, hi, hj, hC⟩
        unfold kas_ask
        rw [refs_getD hi, refs_getD hj]
        exact key_lt (htH _ (mem_getD hi)) (htH _ (mem_getD hj)) hC
      · rintro i j C C' s' hcc ⟨e, a, b, c⟩
        exact ⟨e, a, b, hcc _ _ c⟩
      · exact wp_here (Q := fun p _ => PP qs.length p ∧ Asc (fun i j => rlt (key (qs.getD i 0)) (key (qs.getD j 0))) p qs.length) _ (sort_spec (ord_of hinj) hq fun p h1 h2 => ⟨h1, h2⟩)
    · rintro ⟨⟨⟩, st'⟩ s' ⟨rfl, p, hP, hA, har, hf⟩
      have hout := kat_snds (ks := refs f qs) (vs := refs f qs) rfl har
      have hps := hP.size
      have e : (p.toList.map fun i => (refs f qs).getD i Value.none) = refs f (p.toList.map fun i => qs.getD i 0) := by
        unfold refs
        rw [List.map_map]
        refine List.map_congr_left fun i hi => ?_
        have : i < qs.length := by simpa using hP.mem_iff.mp hi
        exact refs_getD this
      refine fin (p.toList.map fun i => qs.getD i 0) st' (by simp [hps]) (perm_places hP) ?_ (by rw [hout, e]) hf
      rw [List.pairwise_map]
      refine List.pairwise_iff_getElem.mpr fun i j h1 h2 hij => ?_
      have := hA i j hij (by simpa [hps] using h2)
      rw [getD_eq (by simpa using h1), getD_eq (by simpa using h2)] at this
      simpa using this

theorem sorted_refs {l : Addr} {f : Nat → Addr} {key : Nat → Rk} {qs : List Nat} {Q : Value → Shared → Prop} (hl : s.heap.PlainList l (refs f qs).toArray)
    (ht : ∀ j ∈ qs, TupAt s.heap (f j) (key j)) (hinj : ∀ i j, i < qs.length → j < qs.length → i ≠ j → key (qs.getD i 0) ≠ key (qs.getD j 0)) (h64 : qs.length < 64)
    (h : ∀ D h' qs', s.heap.get? D = none → Sub s.heap h' → h'.PlainList D (refs f qs').toArray → qs'.Perm qs → qs'.Pairwise (fun x y => rlt (key x) (key y) = true) → Q (.ref D) { s with heap := h' }) :
    wpAny (model prog w) A (call (.builtin "sorted") [.ref l]) Q E s := by
  have hlen : (refs f qs).length = qs.length := refs_length
  refine Calls.call_function_entry kind_sorted plain_sorted entry_sorted (args_sorted1 _) ?_
  unfold Builtin.«sorted»
  refine wpAny_bind (m := checkCount "sorted" 1 1 _) (wpAny_pure ?_)
  refine wpAny_bind (collect_list hl.isList ?_ (by rw [sizeLine_eq]; omega))
  refine wpAny_bind (wpAny_newList ?_ (by rw [sizeLine_eq]; omega))
  have hsz : ((s.heap.push (seqObj "list" #[] 0)).update s.heap.objs.size (Obj.mapSeq (· ++ (refs f qs).toArray))).objs.size = s.heap.objs.size + 1 := by
    rw [Heap.size_update, size_push']
  have hoL : (((s.heap.push (seqObj "list" #[] 0)).update s.heap.objs.size (Obj.mapSeq (· ++ (refs f qs).toArray))).push (seqObj "list" (refs f qs).toArray 0)).get? (s.heap.objs.size + 1) = some (seqObj "list" (refs f qs).toArray 0) := by
    rw [← hsz]; exact Heap.get?_push_size _ rfl
  have keep : ∀ b o, s.heap.get? b = some o → (((s.heap.push (seqObj "list" #[] 0)).update s.heap.objs.size (Obj.mapSeq (· ++ (refs f qs).toArray))).push (seqObj "list" (refs f qs).toArray 0)).get? b = some o := fun b o q => by
    have hlt : b < s.heap.objs.size := Heap.lt_size q
    rw [Heap.get?_push_ne _ _ _ (by rw [hsz]; exact Nat.ne_of_lt (Nat.lt_succ_of_lt hlt)), Heap.get?_update_ne _ _ _ _ (Nat.ne_of_lt hlt), Heap.get?_push_ne _ _ _ (Nat.ne_of_lt hlt)]
    exact q
  show wpAny _ _ _ _ _ { s with heap := ((s.heap.push (seqObj "list" #[] 0)).update s.heap.objs.size (Obj.mapSeq (· ++ (refs f qs).toArray))).push (seqObj "list" (refs f qs).toArray 0) }
  rw [hsz]
  refine wpAny_bind (wpAny_holding (wpAny_call_entry slot_list_sort ⟨_, hoL, rfl⟩ entry_list_sort ?body (args_list_sort _)))
  case body =>
    refine list_sort_refs (s := { s with heap := ((s.heap.push (seqObj "list" #[] 0)).update s.heap.objs.size (Obj.mapSeq (· ++ (refs f qs).toArray))).push (seqObj "list" (refs f qs).toArray 0) }) (key := key)
      hoL (fun j hj => ?_) hinj h64 fun h' qs' hc hp hperm hs => ?_
    · obtain ⟨t, u, o, e, r⟩ := ht j hj
      exact ⟨t, u, o, keep _ _ e, r⟩
    · refine ⟨_, rfl, wpAny_pure ⟨_, rfl, h _ _ qs' (Heap.get?_none_of_le (Nat.le_succ _)) (fun b o e => hc b o ?_ (keep b o e)) hp hperm hs⟩⟩
      have : b < s.heap.objs.size := Heap.lt_size e
      simp only [List.mem_singleton]
      exact Nat.ne_of_lt (Nat.lt_succ_of_lt this)
end
end Mine
end PartW5

section PartW6
open PySem PySem.W PyProof.Rows PySem.SeqAt
set_option Elab.async false
set_option maxRecDepth 100000
set_option maxHeartbeats 4000000
namespace Mine

theorem tup_gtAt (l b : Addr) (x1 x2 y1 y2 : Int) (t1 t2 u1 u2 : Tok) (n n2 : Nat) (dd dd2 : Option Addr) (sl sl2 : Array (Option Value)) :
    Meets (Builtin.«tuple.__gt__» ⟨[.ref l, .ref b], []⟩)
      (fun A R s => s.heap.get? l = some { cls := .type "tuple", dict := dd, data := .seq #[.int x1 t1, .int x2 t2] n, slots := sl } ∧ s.heap.get? b = some { cls := .type "tuple", dict := dd2, data := .seq #[.int y1 u1, .int y2 u2] n2, slots := sl2 } ∧
        R (.ok (.ret (.bool (rlt (y1, y2) (x1, x2))))) s) :=
  .of_wp fun prog w A R s h => by
    obtain ⟨hp, g, d, tk, os⟩ := s; obtain ⟨hl, hb, h⟩ := h
    have f2 := AutoSeq1.sub_tuple_tuple
    wp_walk using AutoSeq1.wpAny_loadPart' hl, AutoSeq1.wpAny_loadPart' hb, wpAny_forIn_list _ (fun rest b s' => b.1 = none ∧ s' = ⟨hp, g, d, tk, os⟩ ∧
      (rest = [(Value.int x1 t1, Value.int y1 u1), (Value.int x2 t2, Value.int y2 u2)] ∨ (x1 = y1 ∧ rest = [(Value.int x2 t2, Value.int y2 u2)]) ∨ (x1 = y1 ∧ x2 = y2 ∧ rest = []))) _
    case turn =>
      rintro ⟨y, x⟩ rest b s' ⟨hb', rfl, hz⟩
      rcases hz with hz | ⟨e1, hz⟩ | ⟨_, _, hz⟩
      · cases hz
        refine wpAny_bind (EqAt.int_int x1 t1 y1 u1 prog w _ _ ?_)
        by_cases hxy : x1 = y1
        · rw [beq_iff_eq.mpr hxy]
          wp_walk
          exact ⟨rfl, rfl, .inr (.inl ⟨hxy, rfl⟩)⟩
        · rw [beq_eq_false_iff_ne.mpr hxy]
          have hR : (rlt (y1, y2) (x1, x2)) = decide (y1 < x1) := by (have hyx : ¬ y1 = x1 := fun e => hxy e.symm); simp [rlt, hyx]
          rw [hR] at h
          simp only [Bool.not_false, if_true]
          refine wpAny_bind (wpAny_rule (wpAny_bind (gt_int (wpAny_bind (wpAny_pure (wpAny_pure ?_))))))
          exact wpAny_pure ⟨_, rfl, h⟩
      · cases hz
        refine wpAny_bind (EqAt.int_int x2 t2 y2 u2 prog w _ _ ?_)
        by_cases hxy : x2 = y2
        · rw [beq_iff_eq.mpr hxy]
          wp_walk
          exact ⟨rfl, rfl, .inr (.inr ⟨e1, hxy, rfl⟩)⟩
        · rw [beq_eq_false_iff_ne.mpr hxy]
          have hR : (rlt (y1, y2) (x1, x2)) = decide (y2 < x2) := by subst e1; simp [rlt]
          rw [hR] at h
          simp only [Bool.not_false, if_true]
          refine wpAny_bind (wpAny_rule (wpAny_bind (gt_int (wpAny_bind (wpAny_pure (wpAny_pure ?_))))))
          exact wpAny_pure ⟨_, rfl, h⟩
      · cases hz
    case fin =>
      rintro ⟨b1, b2⟩ s' ⟨hb', rfl, hz⟩
      simp only at hb'
      subst hb'
      rcases hz with hz | ⟨_, hz⟩ | ⟨e1, e2, _⟩
      · cases hz
      · cases hz
      · subst e1 e2
        wp_walk
        have hR : (rlt (x1, x2) (x1, x2)) = false := rlt_irrefl _
        rw [hR] at h
        exact ⟨_, rfl, by simpa [Builtin.Tuple.tupleCompareSizes] using h⟩
    case h =>
      exact ⟨rfl, rfl, .inl rfl⟩

theorem tup_gt {prog : Program} {w : World} {A : Around} {E : Value → Shared → Prop} {s : Shared} {l b : Addr} {x1 x2 y1 y2 : Int} {t1 t2 u1 u2 : Tok} {Q : Value → Shared → Prop}
    (hl : s.heap.IsTuple l #[.int x1 t1, .int x2 t2]) (hb : s.heap.IsTuple b #[.int y1 u1, .int y2 u2]) (hu : A.units < cLine) (h : Q (.bool (rlt (y1, y2) (x1, x2))) s) :
    wpAny (model prog w) A (compareOp .Gt (.ref l) (.ref b)) Q E s := by
  obtain ⟨⟨cls, dd, data, sl⟩, ho, hc, n, hd⟩ := id hl
  obtain ⟨⟨cls2, dd2, data2, sl2⟩, ho2, hc2, n2, hd2⟩ := id hb
  simp only at hc hd hc2 hd2
  subst hc hd hc2 hd2
  exact richCompare_meets_room (op := .Gt) ⟨_, ho, rfl⟩ ⟨_, ho2, rfl⟩ F.slot_tuple_gt F.entry_tuple_gt (F.args_tuple_gt_2 _ _) (tup_gtAt l b x1 x2 y1 y2 t1 t2 u1 u2 n n2 dd dd2 sl sl2)
    ⟨ho, ho2, show Value.bool _ ≠ Value.notImplemented ∧ Q (.bool _) s from ⟨(fun x => nomatch x), h⟩⟩ hu


set_option autoImplicit false
section
variable {prog : Program} {w : World} {A : Around} {R : Result → Shared → Prop} {I l : Addr} {f : Nat → Addr} {key : Nat → Rk} {qs : List Nat}

theorem TupAt.off {h h' : Heap} {a : Addr} {k : Rk} {X : List Addr} (t : TupAt h a k) (c : Ch X h h') (hx : a ∉ X) : TupAt h' a k :=
  let ⟨t, u, x⟩ := t; ⟨t, u, c.tuple x hx⟩
theorem TupAt.ne {h : Heap} {a b : Addr} {k : Rk} {o : Obj} (t : TupAt h a k) (e : h.get? b = some o) (hc : o.cls ≠ .type "tuple") : a ≠ b := by
  obtain ⟨_, _, o', e', c', _⟩ := t
  rintro rfl
  rw [e] at e'; cases e'; exact hc c'

def MaxOf (key : Nat → Rk) (qs : List Nat) (j b : Nat) : Prop := b ∈ qs ∧ ∀ i, i ≤ j → i < qs.length → rlt (key b) (key (qs.getD i 0)) = false

theorem max_loop (W : Walks prog w A.in1 I [I, l] [I] (refs f qs).toArray.size (fun i v => (refs f qs).toArray[i]? = some v) (fun i h => h.IsListIter I l i ∧ h.IsList l (refs f qs).toArray)) (hu : A.units + 1 < cLine) (S : Addr) (hSI : S ≠ I) (hSl : S ≠ l) :
    ∀ (k j : Nat) (s : Shared) (b : Nat) (c : Nat), qs.length - (j + 1) = k → j + 1 ≤ qs.length → (s.heap.IsListIter I l (j + 1) ∧ s.heap.IsList l (refs f qs).toArray) → (∀ q ∈ qs, TupAt s.heap (f q) (key q)) → MaxOf key qs j b →
    s.heap.get? S = some { cls := .type "list", dict := none, data := .seq #[.ref (f b), .ref (f b)] c, slots := #[] } →
    (∀ b h' tk, MaxOf key qs (qs.length - 1) b → Ch [I, S] s.heap h' → R (.ok (.ret (.ref (f b)))) { s with heap := h', toks := tk }) →
    codeAny (model prog w) A (.builtin "max.loop" ⟨[.ref I, .none, .ref S], []⟩) R s := by
  have hsz : (refs f qs).toArray.size = qs.length := by simp [refs_length]
  have hSw : S ∉ [I] := by simpa using hSI
  have hname : (toString "max" ++ toString ".loop" : String) = "max.loop" := by decide
  intro k
  induction k with
  | zero =>
    intro j s b c hk hj hst ht hb hS hR
    have hin : j + 1 = qs.length := by omega
    refine codeAny_builtin F.entry_max_loop ?_
    rw [Around.under_plainId F.plain_max_loop _]
    show wpAny _ A.in1 (seqItems? (.ref S) >>= _) _ _ s
    refine wpAny_bind (wpAny_seqItems hS rfl ?_)
    show wpAny _ A.in1 (tryCatch (pyNext (.ref I)) _ >>= _) _ _ s
    refine wpAny_bind (wpAny_tryCatch (W.done s _ _ (by rw [hsz, ← hin]; exact hst) fun h' tk hk' => ?_))
    have hS' := hk' S _ hSw hS
    show wpAny _ A.in1 (updateSeq S (fun _ => #[]) >>= _) _ _ _
    refine wpAny_bind ?_
    refine wpAny_updateSeq hS' rfl (wpAny_bind (wpAny_letGo (wpAny_pure ?_)))
    refine hR b _ tk (by rw [← hin]; exact hb) fun a o ha e => (Heap.get?_update_other _ _ (fun q => ha (by simp [q]))).trans (hk' a o (fun q => ha (by simp at q; simp [q])) e)
  | succ k ih =>
    intro j s b c hk hj hst ht hb hS hR
    have hlt : j + 1 < qs.length := by omega
    have hTI : ∀ q ∈ qs, f q ∉ [I] := fun q hq hm => by
      obtain ⟨o, e, hc, _⟩ := hst.1
      exact (ht q hq).ne e (by rw [hc]; decide) (by simpa using hm)
    have hTS : ∀ q ∈ qs, f q ≠ S := fun q hq => (ht q hq).ne hS (by show (Value.type "list") ≠ .type "tuple"; decide)
    refine codeAny_builtin F.entry_max_loop ?_
    rw [Around.under_plainId F.plain_max_loop _]
    show wpAny _ A.in1 (seqItems? (.ref S) >>= _) _ _ s
    refine wpAny_bind (wpAny_seqItems hS rfl ?_)
    show wpAny _ A.in1 (tryCatch (pyNext (.ref I)) _ >>= _) _ _ s
    refine wpAny_bind (wpAny_tryCatch (W.item (j + 1) s _ _ (by rw [hsz]; exact hlt) hst fun v h' tk hP hst' hk' => ?_))
    have hS' := hk' S _ hSw hS
    have ev : v = .ref (f (qs.getD (j + 1) 0)) := by
      have := refs_get (f := f) hlt
      rw [List.getElem?_toArray, this] at hP
      exact (Option.some.inj hP).symm
    subst ev
    have hm := mem_getD hlt
    have ht' : ∀ q ∈ qs, TupAt h' (f q) (key q) := fun q hq => (ht q hq).off (X := [I]) (fun a o ha e => hk' a o ha e) (hTI q hq)
    obtain ⟨t1, t2, hT1⟩ := ht' _ hm
    obtain ⟨u1, u2, hT2⟩ := ht' _ hb.1
    show wpAny _ A.in1 (tryCatch (holding [_, _] (richCompare .Gt _ _ >>= _)) _ >>= _) _ _ _
    refine wpAny_bind (wpAny_tryCatch (wpAny_holding (wpAny_bind (show wpAny _ _ (compareOp .Gt _ _) _ _ _ from tup_gt hT1 hT2 hu ?_))))
    refine wpAny_bind (wpAny_holding (wpAny_truthy_bool ?_))
    refine wpAny_bind (wpAny_letGo (wpAny_pure ?_))
    cases hbt : rlt (key b) (key (qs.getD (j + 1) 0)) with
    | true =>
      simp only [if_true]
      refine wpAny_bind ?_
      refine wpAny_updateSeq hS' rfl (wpAny_bind (wpAny_letGo ?_))
      rw [hname]
      refine wpAny_pure ⟨plainId_quiet F.plain_max_loop _, ih (j + 1) _ (qs.getD (j + 1) 0) _ (by omega) hlt (W.frame _ _ _ hst' fun b hbf o e => ?_) ?_ ⟨hm, fun i hi hil => ?_⟩ (Heap.get?_update_self _ hS' rfl)
        fun v' h'' tk'' hP' hk'' => ?_⟩
      · exact (Heap.get?_update_other _ _ (fun h : S = b => by simp [← h, hSI, hSl] at hbf)).trans e
      · intro q hq
        obtain ⟨a1, a2, o, e, r⟩ := ht' q hq
        exact ⟨a1, a2, o, (Heap.get?_update_other _ _ (Ne.symm (hTS q hq))).trans e, r⟩
      · by_cases ei : i = j + 1
        · subst ei; exact rlt_irrefl _
        · have := hb.2 i (by omega) hil
          exact nlt_trans this (rlt_asymm hbt)
      · exact hR v' h'' tk'' hP' fun a o ha e => hk'' a o ha ((Heap.get?_update_other _ _ (fun q => ha (by simp [q]))).trans (hk' a o (fun q => ha (by simp at q; simp [q])) e))
    | false =>
      simp only [Bool.false_eq_true, if_false]
      refine wpAny_bind (wpAny_letGo ?_)
      rw [hname]
      refine wpAny_pure ⟨plainId_quiet F.plain_max_loop _, ih (j + 1) _ b c (by omega) hlt hst' ht' ⟨hb.1, fun i hi hil => ?_⟩ hS' fun v' h'' tk'' hP' hk'' => ?_⟩
      · by_cases ei : i = j + 1
        · subst ei; exact hbt
        · exact hb.2 i (by omega) hil
      · exact hR v' h'' tk'' hP' fun a o ha e => hk'' a o ha (hk' a o (fun q => ha (by simp at q; simp [q])) e)

theorem max_loop_first (W : Walks prog w A.in1 I [I, l] [I] (refs f qs).toArray.size (fun i v => (refs f qs).toArray[i]? = some v) (fun i h => h.IsListIter I l i ∧ h.IsList l (refs f qs).toArray)) (hu : A.units + 1 < cLine) (S : Addr) (hSI : S ≠ I) (hSl : S ≠ l) (hn : 0 < qs.length)
    {s : Shared} {c : Nat} (hst : s.heap.IsListIter I l 0 ∧ s.heap.IsList l (refs f qs).toArray) (ht : ∀ q ∈ qs, TupAt s.heap (f q) (key q))
    (hS : s.heap.get? S = some { cls := .type "list", dict := none, data := .seq #[] c, slots := #[] })
    (hR : ∀ b h' tk, MaxOf key qs (qs.length - 1) b → Ch [I, S] s.heap h' → R (.ok (.ret (.ref (f b)))) { s with heap := h', toks := tk }) :
    codeAny (model prog w) A (.builtin "max.loop" ⟨[.ref I, .none, .ref S], []⟩) R s := by
  have hsz : (refs f qs).toArray.size = qs.length := by simp [refs_length]
  have hSw : S ∉ [I] := by simpa using hSI
  have hname : (toString "max" ++ toString ".loop" : String) = "max.loop" := by decide
  have hTI : ∀ q ∈ qs, f q ∉ [I] := fun q hq hm => by
    obtain ⟨o, e, hc, _⟩ := hst.1
    exact (ht q hq).ne e (by rw [hc]; decide) (by simpa using hm)
  have hTS : ∀ q ∈ qs, f q ≠ S := fun q hq => (ht q hq).ne hS (by show (Value.type "list") ≠ .type "tuple"; decide)
  refine codeAny_builtin F.entry_max_loop ?_
  rw [Around.under_plainId F.plain_max_loop _]
  show wpAny _ A.in1 (seqItems? (.ref S) >>= _) _ _ s
  refine wpAny_bind (wpAny_seqItems hS rfl ?_)
  show wpAny _ A.in1 (tryCatch (pyNext (.ref I)) _ >>= _) _ _ s
  refine wpAny_bind (wpAny_tryCatch (W.item 0 s _ _ (by rw [hsz]; exact hn) hst fun v h' tk hP hst' hk' => ?_))
  have hS' := hk' S _ hSw hS
  have ev : v = .ref (f (qs.getD 0 0)) := by
    have := refs_get (f := f) hn
    rw [List.getElem?_toArray, this] at hP
    exact (Option.some.inj hP).symm
  subst ev
  show wpAny _ A.in1 (updateSeq S (fun _ => #[_, _]) >>= _) _ _ _
  refine wpAny_bind ?_
  refine wpAny_updateSeq hS' rfl ?_
  rw [hname]
  refine wpAny_pure ⟨plainId_quiet F.plain_max_loop _, max_loop (key := key) W hu S hSI hSl _ 0 _ (qs.getD 0 0) _ rfl hn (W.frame _ _ _ hst' fun b hbf o e => ?_) ?_ ⟨mem_getD hn, fun i hi hil => ?_⟩ (Heap.get?_update_self _ hS' rfl) fun v' h'' tk'' hP' hk'' => ?_⟩
  · exact (Heap.get?_update_other _ _ (fun h : S = b => by simp [← h, hSI, hSl] at hbf)).trans e
  · intro q hq
    obtain ⟨a1, a2, o, e, r⟩ := (ht q hq).off (X := [I]) (fun a o ha e => hk' a o ha e) (hTI q hq)
    exact ⟨a1, a2, o, (Heap.get?_update_other _ _ (Ne.symm (hTS q hq))).trans e, r⟩
  · have : i = 0 := by omega
    subst this; exact rlt_irrefl _
  · exact hR v' h'' tk'' hP' fun a o ha e => hk'' a o ha ((Heap.get?_update_other _ _ (fun q => ha (by simp [q]))).trans (hk' a o (fun q => ha (by simp at q; simp [q])) e))

theorem max_refs {E : Value → Shared → Prop} {s : Shared} {Q : Value → Shared → Prop} (hh : A.handled = none) (hu : A.units + 2 < cLine) (hl : s.heap.PlainList l (refs f qs).toArray) (ht : ∀ q ∈ qs, TupAt s.heap (f q) (key q)) (hn : 0 < qs.length)
    (h : ∀ b h' tk, b ∈ qs → (∀ j ∈ qs, rlt (key b) (key j) = false) → Sub s.heap h' → Q (.ref (f b)) { s with heap := h', toks := tk }) :
    wpAny (model prog w) A (call (.builtin "max") [.ref l]) Q E s := by
  have hname : (toString "max" ++ toString ".loop" : String) = "max.loop" := by decide
  refine call_function_tree F.kind_max F.plain_max F.entry_max (F.args_max1 _) ?_
  show wpAny _ A.in1 (Builtin.Builtins.bindParams "max" ["key", "default"] 0 ⟨[], []⟩ >>= _) _ _ s
  refine wpAny_bind (wpAny_of_eq (show Builtin.Builtins.bindParams "max" ["key", "default"] 0 ⟨[], []⟩ = pure [none, none] from rfl) ?_)
  refine wpAny_bind (wpAny_pure ?_)
  refine wpAny_bind (wpAny_pyIter_list hl.isList ?_)
  refine wpAny_bind (wpAny_newObj_type ?_)
  have hlt : l < s.heap.objs.size := by obtain ⟨n, e⟩ := hl; exact Heap.lt_size e
  rw [hname]
  refine wpAny_pure ⟨plainId_quiet F.plain_max_loop _, ?_⟩
  refine max_loop_first (key := key) (l := l) (qs := qs) (f := f) (Walks.list (A := A.in1) hh _ l (Nat.ne_of_lt hlt) (refs f qs).toArray) (by omega) _ ?_ ?_ hn ⟨⟨_, Heap.get?_push_of_some _ (Heap.get?_push_size _ rfl), rfl, rfl⟩, (hl.isList.push _).push _⟩ (fun q hq => ?_) (Heap.get?_push_size _ rfl) fun b h' tk hb hc => ?_
  · show (s.heap.push _).objs.size ≠ s.heap.objs.size
    rw [Heap.size_push]; omega
  · show (s.heap.push _).objs.size ≠ l
    rw [Heap.size_push]; exact Nat.ne_of_gt (Nat.lt_succ_of_lt hlt)
  · obtain ⟨a1, a2, hT⟩ := ht q hq
    exact ⟨a1, a2, (hT.push _).push _⟩
  · refine h b h' tk hb.1 (fun j hj => ?_) fun a o e => hc a o ?_ (Heap.get?_push_of_some _ (Heap.get?_push_of_some _ e))
    · obtain ⟨i, hi, rfl⟩ := List.getElem_of_mem hj
      have := hb.2 i (by omega) hi
      simpa [List.getD, hi] using this
    · have ha : a < s.heap.objs.size := Heap.lt_size e
      simp only [List.mem_cons, List.not_mem_nil, or_false, not_or]
      refine ⟨Nat.ne_of_lt ha, ?_⟩
      show a ≠ (s.heap.push _).objs.size
      rw [Heap.size_push]; exact Nat.ne_of_lt (Nat.lt_succ_of_lt ha)
end
end Mine
end PartW6

section PartW7
open PySem PySem.W PyProof.Rows PySem.SeqAt
set_option Elab.async false
set_option maxRecDepth 100000
set_option maxHeartbeats 4000000
set_option autoImplicit false
namespace Mine

/- rules for lists and tuples -/
section
variable {prog : Program} {w : World} {A : Around} {E : Value → Shared → Prop} {s : Shared} {env : Env}

theorem popL {l : Addr} {vs : List Value} {v : Value} {Q : Value → Shared → Prop} (hl : s.heap.PlainList l (vs ++ [v]).toArray) (hz : vs.length < 1000000)
    (h : ∀ h', h'.PlainList l vs.toArray → Heap.SameBut l s.heap h' → Q v { s with heap := h' }) : wpAny (model prog w) A (call (.builtin "list.pop") [.ref l]) Q E s := by
  obtain ⟨n, e⟩ := hl
  have hk : (vs ++ [v]).toArray.size - 1 = vs.length := by rw [List.size_toArray, List.length_append]; rfl
  have hy : (vs ++ [v]).toArray[(vs ++ [v]).toArray.size - 1]? = some v := by rw [hk]; simp
  have hz' : (vs ++ [v]).toArray.size ≤ sizeLine := by rw [List.size_toArray, List.length_append, sizeLine_eq]; simp; omega
  refine call_meets PySem.F.slot_list_pop ⟨_, e, rfl⟩ PySem.F.entry_list_pop (PySem.F.args_list_pop_1 _) (PySem.MeetsSeq.list_pop_last l _ n v hy hz') ⟨e, h _ ⟨n + 1, ?_⟩ (Heap.SameBut.update ..)⟩
  have q := PySem.IsL.update e fun xs => xs.eraseIdxIfInBounds ((vs ++ [v]).toArray.size - 1)
  have he : (vs ++ [v]).toArray.eraseIdxIfInBounds ((vs ++ [v]).toArray.size - 1) = vs.toArray := by
    rw [hk, kl_erase, List.append_nil]
  rw [he, if_neg (by simp)] at q
  exact q

theorem meth0 {o : Expr} {name : Str} {apos pos : Pos} {id : String} {Q : Value → Shared → Prop} (slot : Slot "list" name id) (hty : typeOf (.builtin id) = pure (.type "method_descriptor"))
    (h : wpAny (model prog w) A (eval o env) (fun ov s₁ => ∃ l vs, ov = .ref l ∧ s₁.heap.PlainList l vs ∧ wpAny (model prog w) A (call (.builtin id) [.ref l]) Q E s₁) E s)
    (hbase : attributeBase o name env (eval o env) = eval o env := by rfl) (hline : (apos.endLine == pos.line) = true := by rfl) :
    wpAny (model prog w) A (eval (.Call (.Attribute o name apos) [] [] pos) env) Q E s := by
  refine wpAny_Call_method (T := "list") hbase rfl hline PySem.F.plainAttrs_list slot hty (wpAny_mono h (fun ov s₁ h₁ => ?_) fun _ _ x => x)
  obtain ⟨l, vs, rfl, ⟨n, e⟩, hc⟩ := h₁
  exact ⟨⟨_, e, rfl⟩, fun a q => by cases q; exact ⟨_, e, rfl⟩, callWith_method0 hc⟩

theorem meth1 {o a : Expr} {name : Str} {apos pos : Pos} {id : String} {Q : Value → Shared → Prop} (slot : Slot "list" name id) (hty : typeOf (.builtin id) = pure (.type "method_descriptor"))
    (h : wpAny (model prog w) A (eval o env) (fun ov s₁ => ∃ l vs, ov = .ref l ∧ s₁.heap.PlainList l vs ∧ wpAny (model prog w) A (spliced (backTo pos (starEach [a] env))) (fun us s₂ => wpAny (model prog w) A (call (.builtin id) (.ref l :: us)) Q E s₂) E s₁) E s)
    (hbase : attributeBase o name env (eval o env) = eval o env := by rfl)
    (hfew : ((backTo pos (starEach [a] env)).all (fun x => !x.1) && (backToKw pos (keywordEach [] env)).all (fun x => x.1.isSome) && decide (([a] : List Expr).length + ([] : List Keyword).length + (if ([] : List Keyword).isEmpty then 0 else 1) < 30)) = true := by rfl)
    (he : starEach [a] env = (false, eval a env) :: starEach [] env := by rfl)
    (hline : (apos.endLine == pos.line) = true := by rfl) :
    wpAny (model prog w) A (eval (.Call (.Attribute o name apos) [a] [] pos) env) Q E s := by
  refine wpAny_Call_method (T := "list") hbase hfew hline PySem.F.plainAttrs_list slot hty (wpAny_mono h (fun ov s₁ h₁ => ?_) fun _ _ x => x)
  obtain ⟨l, vs, rfl, ⟨n, e⟩, hc⟩ := h₁
  exact ⟨⟨_, e, rfl⟩, fun a q => by cases q; exact ⟨_, e, rfl⟩, callWith_method1 hc he rfl⟩

theorem subT {value slice : Expr} {t : Addr} {items : Array Value} {k : Int} {u : Tok} {v : Value} {Q : Value → Shared → Prop} (ht : s.heap.IsTuple t items) (h0 : 0 ≤ k) (hk : k < items.size) (hz : k < 2 ^ 63) (hx : items[k.toNat]? = some v) (h : Q v s)
    (hs : subscripted slice false (.ref t) (.int k u) = operate [.ref t, .int k u] (getItem (.ref t) (.int k u)) := by with_unfolding_all rfl) :
    wpAny (model prog w) A (subscriptTail value slice (.ref t) (.int k u)) Q E s := by
  refine tail_any ht.typeIs slot_tuple_getitem.lookup (getItem_tuple (j := k.toNat) ht (by omega) hz ?_ hx h) hs
  obtain ⟨j, rfl⟩ := Int.eq_ofNat_of_zero_le h0
  unfold seqIndex?
  simp only [Int.toNat_natCast]
  have h1 : ¬ ((j : Int) < 0) := by omega
  simp only [h1, if_false]
  rw [if_pos (by simp; omega)]
  rfl

theorem sub_of_ext {h h' : Heap} (e : Heap.ExtBut h.objs.size h h') : Sub h h' := fun a o q => e a o (Nat.ne_of_lt (Heap.lt_size q)) q

theorem tup_ne {l b : Addr} {k k' : Rk} {Q : Value → Shared → Prop} (hl : TupAt s.heap l k) (hb : TupAt s.heap b k') (hu : A.units + 64 < cLine) (h : Q (.bool (!decide (k = k'))) s) :
    wpAny (model prog w) A (compareOp .NotEq (.ref l) (.ref b)) Q E s := by
  obtain ⟨t1, t2, o, e, hc, n, hd⟩ := hl
  obtain ⟨u1, u2, o', e', hc', n', hd'⟩ := hb
  have r1 : Reads s.heap (.ref l) (.tuple [.int k.1, .int k.2]) [] := reads_tuple_at e hc hd (.cons (.int _ _) (.cons (.int _ _) .nil))
  have r2 : Reads s.heap (.ref b) (.tuple [.int k'.1, .int k'.2]) [] := reads_tuple_at e' hc' hd' (.cons (.int _ _) (.cons (.int _ _) .nil))
  refine ne_dataH r1 r2 rfl rfl hu ?_
  have : PyData.eqv (.tuple [.int k.1, .int k.2]) (.tuple [.int k'.1, .int k'.2]) = decide (k = k') := by
    simp only [PyData.eqv, PyData.eqvAll]
    rw [Bool.eq_iff_iff]
    simp [Prod.ext_iff]
  rw [this]
  exact h
end

end Mine
end PartW7

section PartW8
open PySem PySem.W PyProof.Rows PySem.SeqAt
set_option Elab.async false
set_option maxRecDepth 100000
set_option maxHeartbeats 4000000
set_option autoImplicit false
namespace Mine

structure Cfg where
  n : Nat
  w : Nat → Nat → Nat
  rk : Nat → Nat → Rk
  cap : Nat → Nat
  wa : Nat → Addr
  T : Nat → Nat → Addr
  rl : Nat → Addr
  hp : Nat → Addr
  aW : Addr
  aR : Addr
  aH : Addr
  aS : Addr
  aF : Addr
  aP : Addr

structure Cfg.Ok (c : Cfg) : Prop where
  w3 : ∀ i, i < c.n → ∀ t, t < 3 → c.w i t < 3
  id2 : ∀ s i, (c.rk s i).2 = (i : Int)
  small : c.n < 60
  capl : ∀ s, s < 3 → 0 < c.cap s
  caph : ∀ s, s < 3 → c.cap s < 60

def Cfg.all (c : Cfg) : List Addr := [c.aP, c.aF, c.hp 0, c.hp 1, c.hp 2, c.aW, c.aR, c.aS, c.aH, c.rl 0, c.rl 1, c.rl 2]

/-- objects that hold a sequence are kept -/
def KS (h h' : Heap) : Prop := ∀ a o xs n, h.get? a = some o → o.data = .seq xs n → h'.get? a = some o
theorem KS.of_sub {h h' : Heap} (s : Sub h h') : KS h h' := fun a o _ _ e _ => s a o e
theorem KS.of_same {h h' : Heap} {L : Addr} {b : List (Str × Value)} (v : LV h L b) (s : Heap.SameBut L h h') : KS h h' := fun a o xs n e d => s.extBut a o (fun q => by
  obtain ⟨o', e', es, ep, d'⟩ := v.live
  rw [q, e'] at e; cases e; rw [d'] at d; cases d) e
theorem KS.trans {h h' h'' : Heap} (a : KS h h') (b : KS h' h'') : KS h h'' := fun x o xs n e d => b x o xs n (a x o xs n e d) d
theorem KS.list {h h' : Heap} {l : Addr} {vs : Array Value} (k : KS h h') (x : h.PlainList l vs) : h'.PlainList l vs := let ⟨n, e⟩ := x; ⟨n, k _ _ _ _ e rfl⟩
theorem KS.tuple {h h' : Heap} {l : Addr} {vs : Array Value} (k : KS h h') (x : h.IsTuple l vs) : h'.IsTuple l vs := let ⟨o, e, hc, n, d⟩ := x; ⟨o, k _ _ _ _ e d, hc, n, d⟩
theorem KS.tup {h h' : Heap} {a : Addr} {r : Rk} (k : KS h h') (x : TupAt h a r) : TupAt h' a r := let ⟨t, u, y⟩ := x; ⟨t, u, k.tuple y⟩

structure Wo (c : Cfg) (r : Nat → Nat) (H : Nat → List Nat) (pile : List Nat) (h : Heap) : Prop where
  W : h.PlainList c.aW (refs c.wa (List.range c.n)).toArray
  Wt : ∀ i, i < c.n → ∃ t0 t1 t2, h.IsTuple (c.wa i) #[.int (c.w i 0) t0, .int (c.w i 1) t1, .int (c.w i 2) t2]
  R : h.PlainList c.aR (refs c.rl [0, 1, 2]).toArray
  Rl : ∀ s, s < 3 → h.PlainList (c.rl s) (refs (c.T s) (List.range c.n)).toArray
  Rt : ∀ s, s < 3 → ∀ i, i < c.n → TupAt h (c.T s i) (c.rk s i)
  Hh : h.PlainList c.aH (refs c.hp [0, 1, 2]).toArray
  Hl : ∀ s, s < 3 → h.PlainList (c.hp s) (refs (c.T s) (H s)).toArray
  S : ∃ ts : Nat → Tok, h.PlainList c.aS ((List.range 3).map fun s => Value.int (c.cap s) (ts s)).toArray
  F : ∃ tf : Nat → Tok, h.PlainList c.aF ((List.range c.n).map fun i => Value.int (r i) (tf i)).toArray
  P : ∃ vs, h.PlainList c.aP vs.toArray ∧ IntsAre vs (pile.map fun i : Nat => (i : Int))
  nd : c.all.Nodup

theorem Wo.keep {c : Cfg} {r : Nat → Nat} {H : Nat → List Nat} {pile : List Nat} {h h' : Heap} (W : Wo c r H pile h) (k : KS h h') : Wo c r H pile h' where
  W := k.list W.W
  Wt := fun i hi => let ⟨a, b, d, x⟩ := W.Wt i hi; ⟨a, b, d, k.tuple x⟩
  R := k.list W.R
  Rl := fun s hs => k.list (W.Rl s hs)
  Rt := fun s hs i hi => k.tup (W.Rt s hs i hi)
  Hh := k.list W.Hh
  Hl := fun s hs => k.list (W.Hl s hs)
  S := let ⟨t, x⟩ := W.S; ⟨t, k.list x⟩
  F := let ⟨t, x⟩ := W.F; ⟨t, k.list x⟩
  P := let ⟨t, x, y⟩ := W.P; ⟨t, k.list x, y⟩
  nd := W.nd

theorem lt3 {s : Nat} (h : s < 3) : s = 0 ∨ s = 1 ∨ s = 2 := by omega

theorem nd_facts {c : Cfg} (nd : c.all.Nodup) : (∀ s, s < 3 → c.hp s ≠ c.aP ∧ c.hp s ≠ c.aF ∧ c.hp s ≠ c.aW ∧ c.hp s ≠ c.aR ∧ c.hp s ≠ c.aS ∧ c.hp s ≠ c.aH) ∧ (∀ s, s < 3 → c.rl s ≠ c.aP ∧ c.rl s ≠ c.aF) ∧ (∀ s t, s < 3 → t < 3 → c.rl s ≠ c.hp t) ∧
    (∀ s t, s < 3 → t < 3 → s ≠ t → c.hp s ≠ c.hp t) ∧ c.aW ≠ c.aP ∧ c.aR ≠ c.aP ∧ c.aS ≠ c.aP ∧ c.aH ≠ c.aP ∧ c.aF ≠ c.aP ∧ c.aW ≠ c.aF ∧ c.aR ≠ c.aF ∧ c.aS ≠ c.aF ∧ c.aH ≠ c.aF := by
  unfold Cfg.all at nd
  simp only [List.nodup_cons, List.mem_cons, List.not_mem_nil, or_false, not_or, List.nodup_nil, and_true] at nd
  refine ⟨fun s hs => ?_, fun s hs => ?_, fun s t hs ht => ?_, fun s t hs ht hne => ?_, ?_⟩
  · rcases lt3 hs with rfl | rfl | rfl <;> grind
  · rcases lt3 hs with rfl | rfl | rfl <;> grind
  · rcases lt3 hs with rfl | rfl | rfl <;> rcases lt3 ht with rfl | rfl | rfl <;> grind
  · rcases lt3 hs with rfl | rfl | rfl <;> rcases lt3 ht with rfl | rfl | rfl <;> first | exact absurd rfl hne | grind
  · grind

section
variable {c : Cfg} {r : Nat → Nat} {H : Nat → List Nat} {pile : List Nat} {h h' : Heap}

/-- one list has changed -/
theorem only {l : Addr} {vs : Array Value} (k : Ch [l] h h') (_ : h.PlainList l vs) {a : Addr} {us : Array Value} (x : h.PlainList a us) (hne : a ≠ l) : h'.PlainList a us := k.list x (by simpa using hne)
theorem onlyT {l : Addr} {vs : Array Value} (k : Ch [l] h h') (hl : h.PlainList l vs) {a : Addr} {us : Array Value} (x : h.IsTuple a us) : h'.IsTuple a us := k.tuple x (by simpa using ne_list_tuple hl x)
theorem onlyR {l : Addr} {vs : Array Value} (k : Ch [l] h h') (hl : h.PlainList l vs) {a : Addr} {y : Rk} (x : TupAt h a y) : TupAt h' a y := let ⟨t, u, z⟩ := x; ⟨t, u, onlyT k hl z⟩

theorem Wo.setPile (W : Wo c r H pile h) (k : Ch [c.aP] h h') {vs : List Value} {pile' : List Nat} (hp : h'.PlainList c.aP vs.toArray) (hi : IntsAre vs (pile'.map fun i : Nat => (i : Int))) : Wo c r H pile' h' := by
  obtain ⟨us, hus, _⟩ := W.P
  obtain ⟨f1, f2, f3, f4, f5, f6, f7, f8, f9, f10, f11, f12, f13⟩ := nd_facts W.nd
  exact ⟨only k hus W.W f5, fun i hi => let ⟨a, b, d, x⟩ := W.Wt i hi; ⟨a, b, d, onlyT k hus x⟩, only k hus W.R f6, fun s hs => only k hus (W.Rl s hs) (f2 s hs).1, fun s hs i hi => onlyR k hus (W.Rt s hs i hi),
    only k hus W.Hh f8, fun s hs => only k hus (W.Hl s hs) (f1 s hs).1, let ⟨t, x⟩ := W.S; ⟨t, only k hus x f7⟩, let ⟨t, x⟩ := W.F; ⟨t, only k hus x f9⟩, ⟨vs, hp, hi⟩, W.nd⟩

theorem Wo.setRef (W : Wo c r H pile h) (k : Ch [c.aF] h h') {r' : Nat → Nat} {tf : Nat → Tok} (hp : h'.PlainList c.aF ((List.range c.n).map fun i => Value.int (r' i) (tf i)).toArray) : Wo c r' H pile h' := by
  obtain ⟨us, hus⟩ := W.F
  obtain ⟨f1, f2, f3, f4, f5, f6, f7, f8, f9, f10, f11, f12, f13⟩ := nd_facts W.nd
  exact ⟨only k hus W.W f10, fun i hi => let ⟨a, b, d, x⟩ := W.Wt i hi; ⟨a, b, d, onlyT k hus x⟩, only k hus W.R f11, fun s hs => only k hus (W.Rl s hs) (f2 s hs).2, fun s hs i hi => onlyR k hus (W.Rt s hs i hi),
    only k hus W.Hh f13, fun s hs => only k hus (W.Hl s hs) (f1 s hs).2.1, let ⟨t, x⟩ := W.S; ⟨t, only k hus x f12⟩, ⟨tf, hp⟩, let ⟨t, x, y⟩ := W.P; ⟨t, only k hus x (Ne.symm f9), y⟩, W.nd⟩

theorem Wo.setHeap (W : Wo c r H pile h) {q : Nat} (hq : q < 3) (k : Ch [c.hp q] h h') {l : List Nat} (hp : h'.PlainList (c.hp q) (refs (c.T q) l).toArray) : Wo c r (upd H q l) pile h' := by
  have hus := W.Hl q hq
  obtain ⟨f1, f2, f3, f4, f5, f6, f7, f8, f9, f10, f11, f12, f13⟩ := nd_facts W.nd
  obtain ⟨g1, g2, g3, g4, g5, g6⟩ := f1 q hq
  refine ⟨only k hus W.W (Ne.symm g3), fun i hi => let ⟨a, b, d, x⟩ := W.Wt i hi; ⟨a, b, d, onlyT k hus x⟩, only k hus W.R (Ne.symm g4), fun s hs => only k hus (W.Rl s hs) (f3 s q hs hq), fun s hs i hi => onlyR k hus (W.Rt s hs i hi),
    only k hus W.Hh (Ne.symm g6), fun s hs => ?_, let ⟨t, x⟩ := W.S; ⟨t, only k hus x (Ne.symm g5)⟩, let ⟨t, x⟩ := W.F; ⟨t, only k hus x (Ne.symm g2)⟩, let ⟨t, x, y⟩ := W.P; ⟨t, only k hus x (Ne.symm g1), y⟩, W.nd⟩
  by_cases e : s = q
  · subst e; rw [upd_same]; exact hp
  · rw [upd_other _ _ e]; exact only k hus (W.Hl s hs) (f4 s q hs hq e)

/-- the frame and the world -/
structure SW (c : Cfg) (base : Heap) (L : Addr) (b : List (Str × Value)) (r : Nat → Nat) (H : Nat → List Nat) (pile : List Nat) (h : Heap) : Prop where
  F : FX base [] L b h
  W : Wo c r H pile h

theorem FX.loose {hs : Heap} {X : List Addr} {L : Addr} {b : List (Str × Value)} {Y : List Addr} (F : FX hs X L b h) (k : Ch Y h h') (hY : ∀ y ∈ Y, hs.get? y = none) (hL : L ∉ Y) : FX hs X L b h' :=
  ⟨F.lv.sub fun o e => k L o hL e, fun a o n e => k a o (fun q => by rw [hY a q] at e; cases e) (F.ch a o n e), F.off⟩

variable {base : Heap} {L : Addr} {b : List (Str × Value)}
theorem SW.grow (S : SW c base L b r H pile h) (k : Sub h h') : SW c base L b r H pile h' := ⟨S.F.grow k, S.W.keep (.of_sub k)⟩
theorem SW.fewer {b' : List (Str × Value)} (S : SW c base L b r H pile h) (k : Knows b b') : SW c base L b' r H pile h := ⟨S.F.fewer k, S.W⟩

theorem stnW {M : Model} {A : Around} {E : Value → Shared → Prop} {s : Shared} {env : Env} {x : Str} {v : Value} {Q : Unit → Shared → Prop} (S : SW c base L b r H pile s.heap)
    (hq : ∀ h', SW c base L ((x, v) :: b) r H pile h' → KS s.heap h' → Q () { s with heap := h', toks := s.toks + 1 }) (hL : env.locals = L := by rfl)
    (hk : env.scope.kind = .function := by rfl) (hl : env.kindOf x = some .local := by rfl) : wpAny M A (storeName env x v) Q E s :=
  stn S.F (fun h' F' sb => hq h' ⟨F', S.W.keep (.of_same S.F.lv sb)⟩ (.of_same S.F.lv sb)) hL hk hl
end

theorem IntsAre.snoc {n : Int} {t : Tok} : ∀ {vs : List Value} {ns : List Int}, IntsAre vs ns → IntsAre (vs ++ [.int n t]) (ns ++ [n])
  | _, _, .nil => .cons n t .nil
  | _, _, .cons a u h => .cons a u (IntsAre.snoc h)
theorem IntsAre.unsnoc {n : Int} : ∀ {ns : List Int} {vs : List Value}, IntsAre vs (ns ++ [n]) → ∃ us t, vs = us ++ [.int n t] ∧ IntsAre us ns
  | [], _, h => by
    have h' : IntsAre _ (n :: []) := h
    cases h' with
    | cons a u h => cases h; exact ⟨[], u, rfl, .nil⟩
  | a :: ns, _, h => by
    have h' : IntsAre _ (a :: (ns ++ [n])) := h
    cases h' with
    | cons _ u h =>
      obtain ⟨us, t, e, h'⟩ := IntsAre.unsnoc h
      exact ⟨.int a u :: us, t, by rw [e]; rfl, .cons a u h'⟩

theorem get_range {α : Type} {n i : Nat} (f : Nat → α) (h : i < n) : ((List.range n).map f)[i]? = some (f i) := by simp [h]
theorem refs_range {n i : Nat} (f : Nat → Addr) (h : i < n) : (refs f (List.range n))[i]? = some (.ref (f i)) := by unfold refs; exact get_range _ h
theorem refs_three {i : Nat} (f : Nat → Addr) (h : i < 3) : (refs f [0, 1, 2])[i]? = some (.ref (f i)) := by
  rcases lt3 h with rfl | rfl | rfl <;> rfl
theorem set_range {n i : Nat} (f : Nat → Value) (v : Value) : ((List.range n).map f).toArray.setIfInBounds i v = ((List.range n).map (upd f i v)).toArray := by
  apply Array.ext_getElem?
  intro j
  rw [Array.getElem?_setIfInBounds]
  by_cases e : i = j
  · subst e
    by_cases h : i < n
    · simp [h, upd]
    · simp [h]
  · rw [if_neg e]
    simp only [List.getElem?_toArray, List.getElem?_map]
    cases hj : (List.range n)[j]? with
    | none => rfl
    | some k =>
      have : k = j := by
        have := List.getElem?_range (n := n) (i := j)
        by_cases h : j < n
        · simp [h] at hj; exact hj.symm
        · simp [h] at hj
      subst this
      simp [upd, Ne.symm e]

section
variable {A : Around} {E : Value → Shared → Prop} {s : Shared}
theorem asg_cons {M : Model} {t : Value → Sem Unit} {ts : List (Value → Sem Unit)} {x : Value} {xs : List Value} {Q : Unit → Shared → Prop} (h : wpAny M A (t x) (fun _ s₁ => wpAny M A (assignInOrder ts xs) Q E s₁) E s) : wpAny M A (assignInOrder (t :: ts) (x :: xs)) Q E s := by
  show wpAny M A (do holding xs (t x); assignInOrder ts xs) Q E s
  exact wpAny_bind (wpAny_holding h)
theorem asg_nil {M : Model} {Q : Unit → Shared → Prop} (h : Q () s) : wpAny M A (assignInOrder [] []) Q E s := wpAny_pure h
end

end Mine
end PartW8

section PartW9
open PySem PySem.W PyProof.Rows
set_option Elab.async false
set_option maxRecDepth 100000
set_option maxHeartbeats 4000000
set_option autoImplicit false
namespace Mine

def lawSt (k : Nat) : Stmt := (bodyOf (fnAt 6)).getD k (.Pass ⟨0, 0, 0, 0⟩)

def b0 (c : Cfg) : List (Str × Value) := [(Str.ofString "pile", .ref c.aP), (Str.ofString "refused", .ref c.aF), (Str.ofString "wishes", .ref c.aW), (Str.ofString "heaps", .ref c.aH), (Str.ofString "ranks", .ref c.aR), (Str.ofString "seats", .ref c.aS)]

theorem upd_int {r : Nat → Nat} {tf : Nat → Tok} {x : Nat} {t : Tok} : upd (fun i => Value.int ((r i : Nat) : Int) (tf i)) x (.int (((r x : Nat) : Int) + 1) t) = fun i => Value.int ((upd r x (r x + 1) i : Nat) : Int) (upd tf x t i) := by
  funext y
  by_cases ey : y = x
  · subst ey; simp only [upd_same]; rfl
  · simp only [upd_other _ _ ey]

section
variable {prog : Program} {w : World} {A : Around} {E : Value → Shared → Prop} {s : Shared} {base : Heap} {mg mb : Str → Option Value} {c : Cfg} {L fa : Addr} {cd : Value} {r₀ : Nat → Nat} {H₀ : Nat → List Nat} {p₀ : List Nat}

theorem boot_max' : bootBuiltins (Str.ofString "max") = some (.builtin "max") := by decide +kernel

theorem callWith_fn {M : Model} {env : Env} {pos : Pos} {f : Addr} {name : Str} {k : Nat} {e : Expr} {rest : List Expr} {Q : Value → Shared → Prop} (hf : Fn base f name k)
    (h : wpAny M A (spliced (backTo pos (starEach (e :: rest) env))) (fun vs s₁ => Sub base s₁.heap ∧ wpAny M A (call (.ref f) vs) Q E s₁) E s)
    (he : starEach (e :: rest) env = (false, eval e env) :: starEach rest env := by rfl) :
    wpAny M A (callWith pos (.ref f) [] (backTo pos (starEach (e :: rest) env)) []) Q E s := by
  obtain ⟨o, pm, cd, doc, ho, hd, hc⟩ := hf.ex
  exact callWith_def hd (wpAny_mono h (fun vs s₁ h₁ => ⟨h₁.1 _ _ ho, h₁.2⟩) fun _ _ x => x) he

theorem cnt_le : ∀ (n : Nat) (p : Nat → Bool), cnt n p ≤ n
  | 0, _ => Nat.le_refl _
  | n + 1, p => by
    have := cnt_le n p
    simp only [cnt]
    split <;> omega

def whileBody : Stmt → List Stmt
  | .While _ b _ _ => b
  | _ => []

/-- between two turns -/
structure Tn (c : Cfg) (base : Heap) (L : Addr) (r : Nat → Nat) (H : Nat → List Nat) (pile : List Nat) (h : Heap) : Prop where
  S : SW c base L (b0 c) r H pile h
  D : DA c.n c.w c.rk c.cap r H pile
  K : ∀ q, q < 3 → IsHeap (c.rk q) (H q)

def left (c : Cfg) (r : Nat → Nat) (pile : List Nat) : Nat := (3 * c.n - sumTo c.n r) + pile.length

/-- what a turn hands on -/
def Post (c : Cfg) (base : Heap) (L : Addr) (s : Shared) (m : Nat) (f : Flow) (s' : Shared) : Prop :=
  (f = .next ∨ f = .cont) ∧ ∃ h tk r H pile, s' = { s with heap := h, toks := tk } ∧ left c r pile < m ∧ Tn c base L r H pile h

theorem Post.at {m : Nat} {f : Flow} {h h₁ : Heap} {tk tk₁ : Nat} {r : Nat → Nat} {H : Nat → List Nat} {pile : List Nat} (hf : f = .next ∨ f = .cont) (hm : left c r pile < m) (T : Tn c base L r H pile h) :
    Post c base L { s with heap := h₁, toks := tk₁ } m f { s with heap := h, toks := tk } := ⟨hf, h, tk, r, H, pile, rfl, hm, T⟩

variable {r : Nat → Nat} {H : Nat → List Nat} {rest : List Nat} {i q : Nat} {ti tq : Tok}

/-- the names within a turn, behind the two stores -/
def b1 (c : Cfg) (i q : Nat) (ti tq : Tok) : List (Str × Value) :=
  [(Str.ofString "heap", .ref (c.hp q)), (Str.ofString "rank", .ref (c.T q i)), (Str.ofString "s", .int (q : Nat) tq), (Str.ofString "i", .int (i : Nat) ti)] ++ b0 c

theorem turn_full (ok : c.Ok) (G : Glb base mg mb) (hbP : base.get? c.aP = none) (hbF : base.get? c.aF = none) (hbH : ∀ q, q < 3 → base.get? (c.hp q) = none)
    (hh : A.handled = none) (hdp : A.depth + 5 < recursionLimit) (hu : A.units + 100 < cLine) {m : Nat} (hm : m = left c r (rest ++ [i]))
    (S : SW c base L (b1 c i q ti tq) r H rest s.heap) (D : DA c.n c.w c.rk c.cap r H (rest ++ [i])) (K : ∀ q, q < 3 → IsHeap (c.rk q) (H q)) (hri : r i < 3) (hq : c.w i (r i) = q) (hfull : (H q).length = c.cap q) :
    wpAny (model prog w) A (execs ((whileBody (lawSt 10)).drop 5) (envOfC (Str.ofString "law") (scopeOf (fnAt 6)) L fa cd)) (Post c base L s m) E s := by
  obtain ⟨hin, hir, hrn, hiH⟩ := D.popped
  have hq3 : q < 3 := hq ▸ ok.w3 i hin _ hri
  have hz := ok.small
  have hcs := ok.caph q hq3
  have hcl := ok.capl q hq3
  have hHm : ∀ j ∈ H q, j < c.n := fun j hj => (D.held q hq3 j hj).1
  have hlen : 0 < (H q).length := by omega
  obtain ⟨a, hga, hfa⟩ := G.hr
  have Bs : ∀ {h' : Heap} {b : List (Str × Value)} {r' : Nat → Nat} {H' : Nat → List Nat} {p' : List Nat}, SW c base L b r' H' p' h' → Sub base h' := fun S => S.F.ch.sub
  have hHL : c.hp q ≠ L := S.F.lv.ne_list (S.W.Hl q hq3)
  have hinj : ∀ x y, c.rk q x = c.rk q y → x = y := fun x y e => by
    have h1 := ok.id2 q x
    have h2 := ok.id2 q y
    rw [e, h2] at h1; omega
  have hcl1 : cLine = 9900 := rfl
  -- worst = max(heap)
  refine wpAny_execs_cons <| wpAny_Assign_Name <| Call_ <| nmB (G.keeps (Bs S)) (by decide) boot_max' (by decide) <| PyProof.Rows.callWith_builtin1 <| args_cons <| nm S.F rfl <| args_nil ?_
  refine max_refs (key := c.rk q) hh (by omega) (S.W.Hl q hq3) (fun j hj => S.W.Rt q hq3 j (hHm j hj)) hlen fun b h1 tk1 hbm hbx k1 => ?_
  have S1 := S.grow k1
  refine stnW S1 fun h2 S2 _ => ?_
  have htop : (H q).getD 0 0 = b := by
    have e1 := hbx _ (mem_getD hlen)
    obtain ⟨y, hy, rfl⟩ := List.getElem_of_mem hbm
    have e2 := heap_top (K q hq3) y hy
    refine hinj _ _ (rlt_total ?_ e1)
    simpa [List.getD, hy] using e2
  have hbn := hHm b hbm
  have hTb := S2.W.Rt q hq3 b hbn
  -- if heap[0] != worst
  refine wpAny_execs_cons <| wpAny_If <| wpAny_isTrue_Compare1 <| Subscript_ <| nm S2.F rfl <| wpAny_Constant_int <| subL (S2.W.Hl q hq3) (by omega) (by omega) (refs_get (by simpa using hlen)) <| nm S2.F rfl ?_
  rw [show Int.toNat 0 = 0 from rfl, htop]
  refine tup_ne hTb hTb (by omega) ?_
  rw [decide_eq_true (rfl : c.rk q b = c.rk q b)]
  refine wpAny_truthy_bool ?_
  refine wpAny_execs_nil ?_
  -- if rank < worst
  have hTi := S2.W.Rt q hq3 i hin
  obtain ⟨a1, a2, hTi'⟩ := hTi
  obtain ⟨c1, c2, hTb'⟩ := hTb
  refine wpAny_execs_cons <| wpAny_mono (Q := fun fl s' => fl = .next ∧ ∃ h tk x tx H', s' = { s with heap := h, toks := tk } ∧ SW c base L ((Str.ofString "i", .int (x : Nat) tx) :: b0 c) r H' rest h ∧ x < c.n ∧ DA c.n c.w c.rk c.cap (upd r x (r x + 1)) H' (rest ++ [x]) ∧ ∀ q, q < 3 → IsHeap (c.rk q) (H' q))
    (wpAny_If <| wpAny_isTrue_Compare1 <| nm S2.F rfl <| nm S2.F rfl <| tup_lt hTi' hTb' (by omega) <| wpAny_truthy_bool <| split_bool (fun hlt => ?_) fun hlt => ?_) (fun fl s' hq' => ?_) fun _ _ x => x
  · replace hlt : rlt (c.rk q i) (c.rk q b) = true := hlt
    refine wpAny_execs_cons <| wpAny_If <| wpAny_isTrue_Compare1 <| Call_ <| nmG (G.keeps (Bs S2)) hga <| callWith_fn hfa <| args_cons <| nm S2.F rfl <| args_cons <| nm S2.F rfl <| args_nil ⟨Bs S2, ?_⟩
    refine wpAny_call (heapreplace_call (key := c.rk q) (qs := H q) (f := c.T q) (x := i) G (Bs S2) (hbH q hq3) (hfa.keeps (Bs S2)) (by omega) (by omega) (S2.W.Hl q hq3) (fun j hj => S2.W.Rt q hq3 j (hHm j hj)) (S2.W.Rt q hq3 i hin) (by omega) hlen (K q hq3) ?_)
    intro h3 tk3 qs3 hp3 hk3 hl3 hc3
    have S3 : SW c base L _ r (upd H q qs3) rest h3 := ⟨S2.F.loose hc3 (by simpa using hbH q hq3) (by simpa using Ne.symm hHL), S2.W.setHeap hq3 hc3 hl3⟩
    have hT3 := S3.W.Rt q hq3 b hbn
    refine nm S3.F rfl ?_
    rw [htop]
    refine tup_ne hT3 hT3 (by omega) ?_
    rw [decide_eq_true (rfl : c.rk q b = c.rk q b)]
    refine wpAny_truthy_bool ?_
    refine wpAny_execs_nil ?_
    obtain ⟨d1, d2, hT3'⟩ := hT3
    have e2 := ok.id2 q b
    refine wpAny_execs_cons <| wpAny_Assign_Name <| Subscript_ <| nm S3.F rfl <| wpAny_Constant_int <| subT hT3' (by omega) (by simp) (by omega) rfl <| stnW S3 fun h4 S4 _ => ?_
    rw [e2] at S4
    refine wpAny_execs_nil ⟨rfl, h4, _, b, _, upd H q qs3, rfl, S4.fewer ⟨rfl, rfl, rfl, rfl, rfl, rfl, rfl, trivial⟩, hbn, ?_, ?_⟩
    · have := D.swap (l := qs3) hri ok.w3 (by rw [hq]; exact hfull) (x := b) (by rw [hq]; exact hbm) (fun j hj hne => by
        rw [hq] at hj ⊢
        exact rlt_or_of_ne (fun e => hne (hinj _ _ e).symm) (hbx j hj)) (by rw [hq]; exact hlt) (by
        rw [hq]
        have e5 := set_perm i hlen
        have e6 := get_perm hlen
        rw [htop] at e6
        have e7 : (qs3 ++ [b]).Perm (i :: (H q).eraseIdx 0 ++ [b]) := (hp3.trans e5).append_right _
        refine e7.trans ?_
        have e8 : (i :: (H q).eraseIdx 0 ++ [b]).Perm (i :: (b :: (H q).eraseIdx 0)) := List.Perm.cons i (List.perm_append_singleton b _)
        exact e8.trans ((List.Perm.cons i e6.symm).trans (List.perm_append_singleton i _).symm))
      rwa [hq] at this
    · intro y hy
      by_cases e : y = q
      · subst e; rw [upd_same]; exact hk3
      · rw [upd_other _ _ e]; exact K y hy
  · replace hlt : rlt (c.rk q i) (c.rk q b) = false := hlt
    refine wpAny_execs_nil ⟨rfl, h2, _, i, _, H, rfl, S2.fewer ⟨rfl, rfl, rfl, rfl, rfl, rfl, rfl, trivial⟩, hin, ?_, K⟩
    refine D.refuse hri ok.w3 (by rw [hq]; exact hfull) fun j hj => ?_
    rw [hq] at hj ⊢
    have hne : j ≠ i := fun e => hiH q hq3 (e ▸ hj)
    exact rlt_or_of_ne (fun e => hne (hinj _ _ e).symm) (nlt_trans (hbx j hj) hlt)
  · obtain ⟨rfl, h5, tk5, x, tx, H', rfl, S5, hxn, D5, K5⟩ := hq'
    have hx3 := D5.rle x hxn
    rw [upd_same] at hx3
    obtain ⟨tf, hF5⟩ := S5.W.F
    have hFL : c.aF ≠ L := S5.F.lv.ne_list hF5
    -- refused[i] += 1
    refine wpAny_execs_cons <| wpAny_AugAssign_Subscript <| nm S5.F rfl <| nm S5.F rfl <| wpAny_getItem_list hF5.isList (by omega) (by omega) (by rw [List.getElem?_toArray]; exact get_range _ (by simpa using hxn)) <| wpAny_Constant_int <| iadd_int <| setL hF5 (by omega) (by omega) (by simp; omega) fun h6 hl6 sb6 => ?_
    simp only [Int.toNat_natCast] at hl6
    rw [set_range, upd_int] at hl6
    have S6 : SW c base L _ (upd r x (r x + 1)) H' rest h6 := ⟨S5.F.loose (Ch.of_same (X := [c.aF]) sb6 (by simp)) (by simpa using hbF) (by simpa using Ne.symm hFL), S5.W.setRef (Ch.of_same sb6 (by simp)) hl6⟩
    obtain ⟨vs, hvs, hvi⟩ := S6.W.P
    have hPL : c.aP ≠ L := S6.F.lv.ne_list hvs
    have hvl : vs.length < 1000000 := by
      have e := IntsAre.length hvi
      have e2 : rest.length ≤ c.n := by
        have := length_eq_cnt hrn fun j hj => D.pl j (List.mem_append_left _ hj)
        rw [this]; exact cnt_le _ _
      simp at e
      omega
    -- pile.append(i)
    refine wpAny_execs_cons <| wpAny_Expr_any <| meth1 PySem.F.slot_list_append PySem.F.type_list_append <| nm S6.F rfl ⟨_, _, rfl, hvs, args_cons <| nm S6.F rfl <| args_nil <| wpAny_list_append_plain hvs (fun h7 hl7 sb7 => ?_) (by rw [List.size_toArray, sizeLine_eq]; omega)⟩
    rw [List.push_toArray] at hl7
    have S7 : SW c base L _ (upd r x (r x + 1)) H' (rest ++ [x]) h7 := ⟨S6.F.loose (Ch.of_same (X := [c.aP]) sb7 (by simp)) (by simpa using hbP) (by simpa using Ne.symm hPL), S6.W.setPile (Ch.of_same sb7 (by simp)) hl7 (by
      rw [List.map_append]
      exact IntsAre.snoc hvi)⟩
    refine wpAny_execs_nil ⟨.inl rfl, h7, _, _, H', rest ++ [x], rfl, ?_, S7.fewer ⟨rfl, rfl, rfl, rfl, rfl, rfl, trivial⟩, D5, K5⟩
    rw [hm]
    have h1 := sumTo_upd (f := r) hxn
    have h2 := sumTo_bound (c := 3) D5.rle
    simp only [left, h1, List.length_append, List.length_singleton] at h2 ⊢
    omega

theorem turn_ask (ok : c.Ok) (G : Glb base mg mb) (hbP : base.get? c.aP = none) (hbF : base.get? c.aF = none) (hbH : ∀ q, q < 3 → base.get? (c.hp q) = none)
    (hh : A.handled = none) (hdp : A.depth + 5 < recursionLimit) (hu : A.units + 100 < cLine) {m : Nat} (hm : m = left c r (rest ++ [i]))
    (S : SW c base L (b1 c i q ti tq) r H rest s.heap) (D : DA c.n c.w c.rk c.cap r H (rest ++ [i])) (K : ∀ q, q < 3 → IsHeap (c.rk q) (H q)) (hri : r i < 3) (hq : c.w i (r i) = q) :
    wpAny (model prog w) A (execs ((whileBody (lawSt 10)).drop 4) (envOfC (Str.ofString "law") (scopeOf (fnAt 6)) L fa cd)) (Post c base L s m) E s := by
  obtain ⟨hin, hir, hrn, hiH⟩ := D.popped
  have hq3 : q < 3 := hq ▸ ok.w3 i hin _ hri
  have hz := ok.small
  have hcap := D.hcap q hq3
  have hcs := ok.caph q hq3
  have hHm : ∀ j ∈ H q, j < c.n := fun j hj => (D.held q hq3 j hj).1
  obtain ⟨ts, hS⟩ := S.W.S
  obtain ⟨a, hga, hfa⟩ := G.sd
  have Bs : ∀ {h' : Heap} {b : List (Str × Value)} {r' : Nat → Nat} {H' : Nat → List Nat} {p' : List Nat}, SW c base L b r' H' p' h' → Sub base h' := fun S => S.F.ch.sub
  have hHL : c.hp q ≠ L := S.F.lv.ne_list (S.W.Hl q hq3)
  refine wpAny_execs_cons (wpAny_If (wpAny_isTrue_Compare1 (Call_ (nmB (G.keeps (Bs S)) (by decide) boot_len' (by decide) (PyProof.Rows.callWith_builtin1 (args_cons (nm S.F rfl (args_nil ?_))))))))
  refine Calls.call_len_list (S.W.Hl q hq3).isList (by simp [refs_length]; omega) ?_
  refine Subscript_ (nm S.F rfl (nm S.F rfl (subL hS (by omega) (by omega) (get_range _ (by simpa using hq3)) ?_)))
  rw [Int.toNat_natCast, List.size_toArray, refs_length]
  refine lt_int (wpAny_truthy_bool (split_dec (fun hlt => ?_) fun hlt => ?_))
  · have hlt' : (H q).length < c.cap q := by omega
    -- heap.append(rank)
    refine wpAny_execs_cons (wpAny_Expr_any (meth1 PySem.F.slot_list_append PySem.F.type_list_append (nm S.F rfl ⟨_, _, rfl, S.W.Hl q hq3, args_cons (nm S.F rfl (args_nil (wpAny_list_append_plain (S.W.Hl q hq3) (fun h8 hl8 sb8 => ?_) (by rw [List.size_toArray, refs_length, sizeLine_eq]; omega))))⟩)))
    have el : (refs (c.T q) (H q)).toArray.push (.ref (c.T q i)) = (refs (c.T q) (H q ++ [i])).toArray := by simp [refs]
    rw [el] at hl8
    have S8 : SW c base L (b1 c i q ti tq) r (upd H q (H q ++ [i])) rest h8 := ⟨S.F.loose (Ch.of_same (X := [c.hp q]) sb8 (by simp)) (by simpa using hbH q hq3) (by simpa using Ne.symm hHL), S.W.setHeap hq3 (Ch.of_same sb8 (by simp)) hl8⟩
    -- _siftdown_max(heap, 0, len(heap) - 1)
    refine wpAny_execs_cons <| wpAny_Expr_any <| Call_ <| nmG (G.keeps (Bs S8)) hga <| callWith_fn hfa <| args_cons <| nm S8.F rfl <| args_cons <| wpAny_Constant_int <| args_cons <| wpAny_BinOp <| Call_ <|
      nmB (G.keeps (Bs S8)) (by decide) boot_len' (by decide) <| PyProof.Rows.callWith_builtin1 <| args_cons <| nm S8.F rfl <| args_nil ?_
    refine Calls.call_len_list hl8.isList (by simp [refs_length]; omega) ?_
    refine wpAny_Constant_int (sub_int (args_nil ⟨Bs S8, ?_⟩))
    have e1 : (((refs (c.T q) (H q ++ [i])).toArray.size : Nat) : Int) - 1 = ((H q).length : Nat) := by
      rw [List.size_toArray, refs_length, List.length_append, List.length_singleton]; omega
    rw [e1]
    have htup : ∀ j ∈ H q ++ [i], TupAt h8 (c.T q j) (c.rk q j) := fun j hj => by
      refine S8.W.Rt q hq3 j ?_
      rcases List.mem_append.mp hj with hj | hj
      · exact hHm j hj
      · rw [List.mem_singleton.mp hj]; exact hin
    refine wpAny_call (siftdown_call (key := c.rk q) (qs := H q ++ [i]) (f := c.T q) (p0 := (H q).length) (hfa.keeps (Bs S8)) (G.nolimit.keeps (Bs S8)) (by omega) (by omega) hl8 htup (by simp; omega) (by simp) ?_ ?_)
    · have e2 : (H q ++ [i]).getD (H q).length 0 = i := by simp [List.getD]
      rw [e2]
      exact Up.start (K q hq3) i i
    · intro h9 tk9 qs9 hp9 hk9 hl9 hc9
      have S9 : SW c base L (b1 c i q ti tq) r (upd (upd H q (H q ++ [i])) q qs9) rest h9 := ⟨S8.F.loose hc9 (by simpa using hbH q hq3) (by simpa using Ne.symm hHL), S8.W.setHeap hq3 hc9 hl9⟩
      have eu : upd (upd H q (H q ++ [i])) q qs9 = upd H q qs9 := by
        funext x; unfold upd; split <;> rfl
      rw [eu] at S9
      refine wpAny_execs_cons (wpAny_Continue ⟨.inr rfl, h9, _, r, upd H q qs9, rest, rfl, ?_, S9.fewer ⟨rfl, rfl, rfl, rfl, rfl, rfl, trivial⟩, ?_, ?_⟩)
      · rw [hm]; simp [left]
      · have := D.seat hri ok.w3 (by rw [hq]; exact hlt') (l := qs9) (by rw [hq]; exact hp9)
        rwa [hq] at this
      · intro y hy
        by_cases e : y = q
        · subst e; rw [upd_same]; exact hk9
        · rw [upd_other _ _ e]; exact K y hy
  · refine wpAny_execs_nil ?_
    exact turn_full (s := { s with toks := _ }) ok G hbP hbF hbH hh hdp hu hm S D K hri hq (by omega)
end
end Mine
end PartW9

section PartW10
open PySem PySem.W PyProof.Rows
set_option Elab.async false
set_option maxRecDepth 100000
set_option maxHeartbeats 4000000
set_option autoImplicit false
namespace Mine
section
variable {prog : Program} {w : World} {A : Around} {E : Value → Shared → Prop} {s : Shared} {base : Heap} {mg mb : Str → Option Value} {c : Cfg} {L fa : Addr} {cd : Value} {r : Nat → Nat} {H : Nat → List Nat} {rest : List Nat} {i : Nat}

theorem turn (ok : c.Ok) (G : Glb base mg mb) (hbP : base.get? c.aP = none) (hbF : base.get? c.aF = none) (hbH : ∀ q, q < 3 → base.get? (c.hp q) = none)
    (hh : A.handled = none) (hdp : A.depth + 5 < recursionLimit) (hu : A.units + 100 < cLine)
    (S : SW c base L (b0 c) r H (rest ++ [i]) s.heap) (D : DA c.n c.w c.rk c.cap r H (rest ++ [i])) (K : ∀ q, q < 3 → IsHeap (c.rk q) (H q)) :
    wpAny (model prog w) A (execs (whileBody (lawSt 10)) (envOfC (Str.ofString "law") (scopeOf (fnAt 6)) L fa cd)) (Post c base L s (left c r (rest ++ [i]))) E s := by
  obtain ⟨hin, hir, hrn, hiH⟩ := D.popped
  have hz := ok.small
  obtain ⟨vs, hvs, hvi⟩ := S.W.P
  rw [List.map_append] at hvi
  replace hvi : IntsAre vs (rest.map (fun i : Nat => (i : Int)) ++ [(i : Int)]) := hvi
  obtain ⟨us, ti, rfl, hui⟩ := IntsAre.unsnoc hvi
  have hul : us.length < 1000000 := by
    have e := IntsAre.length hui
    have e2 : rest.length ≤ c.n := by
      have := length_eq_cnt hrn fun j hj => D.pl j (List.mem_append_left _ hj)
      rw [this]; exact cnt_le _ _
    simp at e
    omega
  -- i = pile.pop()
  refine wpAny_execs_cons <| wpAny_Assign_Name <| meth0 PySem.F.slot_list_pop PySem.F.type_list_pop <| nm S.F rfl ⟨_, _, rfl, hvs, popL hvs hul fun h2 hl2 sb2 => ?_⟩
  have hPL : c.aP ≠ L := S.F.lv.ne_list hvs
  have S2 : SW c base L (b0 c) r H rest h2 := ⟨S.F.loose (Ch.of_same (X := [c.aP]) sb2 (by simp)) (by simpa using hbP) (by simpa using Ne.symm hPL), S.W.setPile (Ch.of_same sb2 (by simp)) hl2 hui⟩
  refine stnW S2 fun h3 S3 _ => ?_
  -- if refused[i] == 3
  obtain ⟨tf, hF3⟩ := S3.W.F
  refine wpAny_execs_cons <| wpAny_If <| wpAny_isTrue_Compare1 <| Subscript_ <| nm S3.F rfl <| nm S3.F rfl <| subL hF3 (by omega) (by omega) (get_range _ (by simpa using hin)) <| wpAny_Constant_int <| eq_int <| wpAny_truthy_bool <| split_bool (fun h3' => ?_) fun h3' => ?_
  · have e3 : r i = 3 := by
      have : (r (Int.toNat (i : Int)) : Int) = 3 := by simpa using h3'
      simp at this; omega
    refine wpAny_execs_cons (wpAny_Continue ⟨.inr rfl, h3, _, r, H, rest, rfl, ?_, S3.fewer ⟨rfl, rfl, rfl, rfl, rfl, rfl, trivial⟩, D.out e3, K⟩)
    simp [left]
  have hri : r i < 3 := by
    have h1 := D.rle i hin
    have : ¬ (r (Int.toNat (i : Int)) : Int) = 3 := by simpa using h3'
    simp at this; omega
  refine wpAny_execs_nil ?_
  obtain ⟨q, hq⟩ : ∃ q, c.w i (r i) = q := ⟨_, rfl⟩
  have hq3 : q < 3 := hq ▸ ok.w3 i hin _ hri
  -- s = wishes[i][refused[i]]
  obtain ⟨t0, t1, t2, hwt⟩ := S3.W.Wt i hin
  have hwx : (#[Value.int (c.w i 0) t0, .int (c.w i 1) t1, .int (c.w i 2) t2] : Array Value)[(r i : Int).toNat]? = some (.int (q : Nat) (if r i = 0 then t0 else if r i = 1 then t1 else t2)) := by
    rw [Int.toNat_natCast, ← hq]
    rcases lt3 hri with e | e | e <;> rw [e] <;> rfl
  refine wpAny_execs_cons <| wpAny_Assign_Name <| Subscript_ <| Subscript_ <| nm S3.F rfl <| nm S3.F rfl <| subL S3.W.W (by omega) (by omega) (refs_range _ (by simpa using hin)) ?_
  refine Subscript_ <| nm S3.F rfl <| nm S3.F rfl <| subL hF3 (by omega) (by omega) (get_range _ (by simpa using hin)) ?_
  rw [Int.toNat_natCast]
  refine subT hwt (by omega) (by simp; omega) (by omega) hwx ?_
  refine stnW S3 fun h4 S4 _ => ?_
  -- heap, rank = heaps[s], ranks[s][i]
  refine wpAny_execs_cons <| Assign_Tuple_swapped (names := [Str.ofString "heap", Str.ofString "rank"]) (Tuple_ <| args_cons <| Subscript_ <| nm S4.F rfl <| nm S4.F rfl <| subL S4.W.Hh (by omega) (by omega) (refs_three _ (by simpa using hq3)) ?_) rfl rfl
  rw [Int.toNat_natCast]
  refine args_cons <| Subscript_ <| Subscript_ <| nm S4.F rfl <| nm S4.F rfl <| subL S4.W.R (by omega) (by omega) (refs_three _ (by simpa using hq3)) ?_
  rw [Int.toNat_natCast]
  refine nm S4.F rfl <| subL (S4.W.Rl q hq3) (by omega) (by omega) (refs_range _ (by simpa using hin)) ?_
  rw [Int.toNat_natCast]
  refine args_nil (wpAny_newTuple ?_ (by rw [sizeLine_eq]; simp))
  refine unpackItems_tuple (items := #[.ref (c.hp q), .ref (c.T q i)]) hh ⟨_, Heap.get?_push_size _ rfl, rfl, 0, rfl⟩ fun h5 he5 => ?_
  have S5 := S4.grow (h' := h5) fun a o e => sub_of_ext he5 a o (Heap.get?_push_of_some _ e)
  refine asg_cons (bindName_ (stnW S5 fun h6 S6 _ => ?_))
  refine asg_cons (bindName_ (stnW S6 fun h7 S7 _ => ?_))
  refine asg_nil ?_
  exact turn_ask (s := { s with heap := h7, toks := _ }) ok G hbP hbF hbH hh hdp hu rfl S7 D K hri hq

theorem da_loop {r₀ : Nat → Nat} {H₀ : Nat → List Nat} {p₀ : List Nat} (ok : c.Ok) (G : Glb base mg mb) (hbP : base.get? c.aP = none) (hbF : base.get? c.aF = none) (hbH : ∀ q, q < 3 → base.get? (c.hp q) = none)
    (hh : A.handled = none) (hdp : A.depth + 5 < recursionLimit) (hu : A.units + 100 < cLine) {Q : Flow → Shared → Prop} (T0 : Tn c base L r₀ H₀ p₀ s.heap)
    (hQ : ∀ h tk r H, Tn c base L r H [] h → Q .next { s with heap := h, toks := tk }) :
    wpAny (model prog w) A (exec (lawSt 10) (envOfC (Str.ofString "law") (scopeOf (fnAt 6)) L fa cd)) Q E s := by
  refine wpAny_While (codeAny_whileLoop (fun m s' => ∃ h tk r H pile, s' = { s with heap := h, toks := tk } ∧ m = left c r pile ∧ Tn c base L r H pile h) ?_ _
    ⟨s.heap, s.toks, r₀, H₀, p₀, rfl, rfl, T0⟩)
  rintro m s' ⟨h, tk, r, H, pile, rfl, rfl, T⟩
  refine wpAny_isTrue_Compare1 <| nm T.S.F rfl <| List_ <| args_nil <| wpAny_newList ?_ (Nat.zero_le _)
  have S1 := T.S.grow (h' := h.push { cls := .type "list", data := .seq ([] : List Value).toArray }) fun a o e => Heap.get?_push_of_some _ e
  obtain ⟨vs, hvs, hvi⟩ := S1.W.P
  refine ke_ne_ints hvs.isList (ys := []) ⟨_, Heap.get?_push_size _ rfl, rfl, 0, rfl⟩ hvi .nil (by omega) (wpAny_truthy_bool (split_bool (fun hne => ?_) fun hne => ?_))
  · have hpne : pile ≠ [] := by simpa using hne
    obtain ⟨rest, i, rfl⟩ : ∃ rest i, pile = rest ++ [i] := ⟨pile.dropLast, pile.getLast hpne, (List.dropLast_concat_getLast hpne).symm⟩
    refine wpAny_mono (turn (s := { s with heap := _, toks := tk }) ok G hbP hbF hbH hh hdp hu S1 T.D T.K) (fun f s' hp => ?_) fun _ _ x => x
    obtain ⟨hf, h', tk', r', H', pile', rfl, hlt, T'⟩ := hp
    rcases hf with rfl | rfl
    · exact ⟨_, hlt, h', tk', r', H', pile', rfl, rfl, T'⟩
    · exact ⟨_, hlt, h', tk', r', H', pile', rfl, rfl, T'⟩
  · have hp : pile = [] := by simpa using hne
    subst hp
    exact wpAny_execs_nil (hQ _ _ _ _ ⟨S1, T.D, T.K⟩)
end
end Mine
end PartW10

section PartC1
open PySem PySem.W PyProof.Rows
set_option Elab.async false
set_option maxRecDepth 100000
set_option maxHeartbeats 4000000
set_option autoImplicit false
namespace Mine

/-- an iterator and what a turn binds -/
structure Adv (prog : Program) (w : World) (A : Around) (I : Addr) (target : Expr) (cenv : Env) (fp wr : List Addr) (n : Nat) (St : Nat → Heap → Prop) (Bd : Nat → List (Str × Value) → Prop) : Prop where
  sub : ∀ b ∈ wr, b ∈ fp
  live : ∀ i h, St i h → ∀ b ∈ wr, ∃ o, h.get? b = some o
  frame : ∀ i h h', St i h → (∀ b ∈ fp, ∀ o, h.get? b = some o → h'.get? b = some o) → St i h'
  next : ∀ i (s : Shared) (Q : Shared → Prop) (E : Value → Shared → Prop), i < n → St i s.heap → LV s.heap cenv.locals [] → cenv.locals ∉ fp →
    (∀ b h' tk, Bd i b → St (i + 1) h' → LV h' cenv.locals b → Ch (cenv.locals :: wr) s.heap h' → Q { s with heap := h', toks := tk }) →
    wpAny (model prog w) A (pyNext (.ref I)) (fun r s₁ => ∃ v, r = some v ∧ wpAny (model prog w) A (letOwnedTupleGo target (.ref I) v) (fun _ s₁' => wpAny (model prog w) A (assign target cenv v) (fun _ s₂ => Q s₂) E s₁') E s₁) E s
  done : ∀ (s : Shared) (Q : Option Value → Shared → Prop) (E : Value → Shared → Prop), St n s.heap → (∀ h' tk, Ch wr s.heap h' → Q none { s with heap := h', toks := tk }) → wpAny (model prog w) A (pyNext (.ref I)) Q E s
  self : ∀ i (s : Shared) (Q : Value → Shared → Prop) (E : Value → Shared → Prop), St i s.heap → Q (.ref I) s → wpAny (model prog w) A (pyIter (.ref I)) Q E s

theorem LV.store {h' : Heap} {C : Addr} {m : Str → Option Value} {b : List (Str × Value)} {x : Str} {v : Value} (hb : ∀ y u, b.lookup y = some u → m y = some u) (n : h'.Ns C (fun y => if y = x then some v else m y)) : LV h' C ((x, v) :: b) :=
  ⟨_, n, fun y u e => by
    rw [List.lookup_cons] at e
    cases q : y == x with
    | true => rw [q] at e; cases e; simp [beq_iff_eq.mp q]
    | false => rw [q] at e; have : y ≠ x := by simpa using q
               simp [this]; exact hb y u e⟩

theorem stv {M : Model} {A : Around} {E : Value → Shared → Prop} {s : Shared} {env : Env} {x : Str} {v : Value} {b : List (Str × Value)} {Q : Unit → Shared → Prop} (V : LV s.heap env.locals b)
    (h : ∀ h', LV h' env.locals ((x, v) :: b) → Heap.SameBut env.locals s.heap h' → Q () { s with heap := h', toks := s.toks + 1 }) (hl : env.kindOf x = some .local) (hk : env.scope.kind = .function) :
    wpAny M A (storeName env x v) Q E s := by
  obtain ⟨m, hn, hm⟩ := V
  exact wpAny_storeName_local hl hn (fun h' hn' hsb => h h' (LV.store hm hn') hsb) (by rw [hk]; rfl)

theorem Adv.name {prog : Program} {w : World} {A : Around} {I : Addr} {x : Str} {px : Pos} {cenv : Env} {fp wr : List Addr} {n : Nat} {P : Nat → Value → Prop} {St : Nat → Heap → Prop} (W : Walks prog w A I fp wr n P St)
    (hlive : ∀ i h, St i h → ∀ b ∈ wr, ∃ o, h.get? b = some o) (hx : cenv.kindOf x = some .local) (hk : cenv.scope.kind = .function) :
    Adv prog w A I (.Name x px) cenv fp wr n St (fun i b => ∃ v, P i v ∧ b = [(x, v)]) where
  sub := W.sub
  live := hlive
  frame := W.frame
  next := fun i s Q E hi hst hn hCf hQ => by
    have hCw : cenv.locals ∉ wr := fun h => hCf (W.sub _ h)
    refine W.item i s _ _ hi hst fun v h₁ tk₁ hPv hst₁ hk₁ => ⟨v, rfl, ?_⟩
    refine wpAny_of_eq (show letOwnedTupleGo (.Name x px) (.ref I) v = pure () from rfl) ?_
    refine wpAny_assign_Name (stv (hn.sub fun o e => hk₁ _ o hCw e) (fun h₂ hn₂ sb₂ => ?_) hx hk)
    exact hQ _ h₂ _ ⟨v, hPv, rfl⟩ (W.frame _ _ _ hst₁ fun b hb o e => sb₂.extBut b o (fun h => hCf (h ▸ hb)) e) hn₂ fun a o ha e => sb₂.extBut a o (fun q => ha (by simp [q])) (hk₁ a o (fun q => ha (by simp [q])) e)
  done := fun s Q E hst hQ => W.done s Q E hst fun h' tk hk => hQ h' tk fun a o ha e => hk a o ha e
  self := W.self

theorem Adv.enum {prog : Program} {w : World} {A : Around} (hh : A.handled = none) {e it l : Addr} (hei : e ≠ it) (hle : l ≠ e) (hli : l ≠ it) (items : Array Value) {xi xv : Str} {pi pv pt : Pos} {k : Nat} {cenv : Env}
    (hxi : cenv.kindOf xi = some .local) (hxv : cenv.kindOf xv = some .local) (hk : cenv.scope.kind = .function) :
    Adv prog w A e (.Tuple [.Name xi pi, .Name xv pv] k pt) cenv [e, it, l] [e, it] items.size (fun i h => (∃ old, IsEnum h e it i old) ∧ h.IsListIter it l i ∧ h.IsList l items)
      (fun i b => ∃ t v, items[i]? = some v ∧ b = [(xv, v), (xi, .int i t)]) := by
  have W := WalksT.enumerate (prog := prog) (w := w) hh e it l hei hle hli items
  refine ⟨W.sub, ?_, W.frame, ?_, fun s Q E hst hQ => W.done s Q E hst fun h' tk hk => hQ h' tk fun a o ha e => hk a o ha e, W.self⟩
  · rintro i h ⟨⟨old, he⟩, ⟨o, ho, _⟩, _⟩ b hb
    rcases List.mem_cons.mp hb with rfl | hb
    · exact ⟨_, he⟩
    · rw [List.mem_singleton.mp hb]; exact ⟨_, ho⟩
  · intro i s Q E hi hst hn hCf hQ
    have hCw : cenv.locals ∉ [e, it] := fun h => hCf (W.sub _ h)
    refine W.item i s _ _ hi hst fun T vals h₁ tk₁ hPt hTs hT₁ hmid₁ hk₁ => ⟨_, rfl, ?_⟩
    obtain ⟨t, v, hv, rfl⟩ := hPt
    have hTw := W.apart _ _ _ hmid₁
    refine W.go _ _ _ i T _ _ _ hmid₁ fun h₂ hst₂ hk₂ => ?_
    have hT₂ : h₂.IsTuple T #[.int i t, v] := let ⟨o, e, r⟩ := hT₁; ⟨o, hk₂ T o hTw e, r⟩
    refine wpAny_assign_Tuple hh hT₂ rfl rfl fun h₃ hx₃ => ?_
    have k₃ := sub_of_ext hx₃
    have hn₃ : LV h₃ cenv.locals [] := hn.sub fun o e => k₃ _ o (hk₂ _ o hCw (hk₁ _ o hCw e))
    have up : ∀ a o, a ∉ [e, it] → s.heap.get? a = some o → h₃.get? a = some o := fun a o ha e => k₃ a o (hk₂ a o ha (hk₁ a o ha e))
    have hst₃ := W.frame _ _ h₃ hst₂ fun b _ o e => k₃ b o e
    show wpAny _ A (do holding [v] (assign (.Name xi pi) cenv (.int i t)); do holding [] (assign (.Name xv pv) cenv v); pure ()) _ _ _
    refine wpAny_bind (wpAny_holding (wpAny_assign_Name (stv hn₃ (fun h₄ hn₄ sb₄ => ?_) hxi hk)))
    refine wpAny_bind (wpAny_holding (wpAny_assign_Name (stv hn₄ (fun h₅ hn₅ sb₅ => wpAny_pure ?_) hxv hk)))
    refine hQ _ h₅ _ ⟨t, v, hv, rfl⟩ (W.frame _ _ _ (W.frame _ _ _ hst₃ fun b hb o e => sb₄.extBut b o (fun h => hCf (h ▸ hb)) e) fun b hb o e => sb₅.extBut b o (fun h => hCf (h ▸ hb)) e) hn₅ fun a o ha e => ?_
    have hac : a ≠ cenv.locals := fun q => ha (by simp [q])
    exact sb₅.extBut a o hac (sb₄.extBut a o hac (up a o (fun q => ha (List.mem_cons_of_mem _ q)) e))

section
variable {prog : Program} {w : World} {A : Around} {R : Result → Shared → Prop} {s : Shared}

abbrev testsOf (ifs : List Expr) (env : Env) : Sem Bool := forIn ifs true fun c r => if r = true then do let ok ← isTrue c env (eval c env); pure (ForInStep.yield ok) else pure (ForInStep.yield r)

theorem compLoop_all {elt target iter : Expr} {ifs : List Expr} {scope : Scope} {pos : Pos} {it acc : Value} {env : Env} (I : Nat → Shared → Prop)
    (turn : ∀ n s, I n s → ∀ E', wpAny (model prog w) A (pyNext it) (fun r s₁ => match r with
      | none => R (.ok .next) s₁
      | some v => wpAny (model prog w) A (letOwnedTupleGo target it v) (fun _ s₁' => wpAny (model prog w) A (assign target env v) (fun _ s₂ =>
          wpAny (model prog w) A (testsOf ifs env) (fun ok s₃ =>
            if ok = true then wpAny (model prog w) A (eval elt env) (fun x s₄ =>
              wpAny (model prog w) A (call (.builtin "list.append") [acc, x]) (fun _ s₅ => ∃ m, m < n ∧ I m s₅) E' s₄) E' s₃
            else ∃ m, m < n ∧ I m s₃) E' s₂) E' s₁') E' s₁) E' s)
    (n : Nat) (h : I n s) :
    codeAny (model prog w) A (.compLoop (.ListComp elt [⟨target, iter, ifs, 0⟩] scope pos) 0 it acc env) R s := by
  refine codeAny_loop rfl I (fun n s hI => ?_) n h
  show wpAny _ A ((compTurn (.ListComp elt [⟨target, iter, ifs, 0⟩] scope pos) 0 it acc env).onRaise (fun x => do noteFrame x env; theTreesLotGoes x)) _ _ s
  refine wpAny_noted ?_
  rw [compTurn_list]
  refine wpAny_bind (wpAny_standAt (wpAny_bind (wpAny_mono (turn n s hI _) (fun r s₁ h₁ => ?_) fun _ _ h' => h')))
  cases r with
  | none => exact wpAny_pure h₁
  | some v =>
    refine wpAny_bind (wpAny_mono h₁ (fun _ s₁' h₁' => ?_) fun _ _ h' => h')
    refine wpAny_bind (wpAny_mono h₁' (fun _ s₂ h₂ => wpAny_bind (wpAny_mono h₂ (fun ok s₃ h₃ => ?_) fun _ _ h' => h')) fun _ _ h' => h')
    cases ok with
    | false => exact wpAny_pure ⟨rfl, h₃⟩
    | true =>
      exact wpAny_bind (wpAny_bind (wpAny_mono h₃ (fun x s₄ h₄ => wpAny_bind (wpAny_mono h₄ (fun _ s₅ h₅ => wpAny_pure (wpAny_pure ⟨rfl, h₅⟩)) fun _ _ h' => h')) fun _ _ h' => h'))

/-- what a turn of a block must show -/
abbrev TurnOk (prog : Program) (w : World) (A : Around) (ifs : List Expr) (elt : Expr) (cenv : Env) (J : Nat → List Value → Heap → Prop) (i : Nat) (ys : List Value) (s₃ : Shared) (E' : Value → Shared → Prop) : Prop :=
  wpAny (model prog w) A (testsOf ifs cenv) (fun ok s₄ => if ok = true then wpAny (model prog w) A (eval elt cenv) (fun y s₅ => Keeps s₃ s₅ ∧ J (i + 1) (ys ++ [y]) s₅.heap) E' s₄ else Keeps s₃ s₄ ∧ J (i + 1) ys s₄.heap) E' s₃

theorem comp_loop {elt target iter : Expr} {ifs : List Expr} {scope : Scope} {pos : Pos} {I D : Addr} {cenv : Env} {fp wr : List Addr} {n : Nat} {St : Nat → Heap → Prop} {Bd : Nat → List (Str × Value) → Prop}
    (V : Adv prog w A I target cenv fp wr n St Bd) (hDC : D ≠ cenv.locals) (hDf : D ∉ fp) (hCf : cenv.locals ∉ fp) (J : Nat → List Value → Heap → Prop)
    (hJ : ∀ i ys h h', J i ys h → Ch (cenv.locals :: D :: wr) h h' → J i ys h')
    (hst : St 0 s.heap) (hacc : s.heap.PlainList D #[]) (hn : LV s.heap cenv.locals []) (h0 : J 0 [] s.heap)
    (turn : ∀ i b ys s₃ E', i < n → Bd i b → LV s₃.heap cenv.locals b → (∀ z ∈ cenv.locals :: D :: wr, ∃ o, s₃.heap.get? z = some o) → Ch (cenv.locals :: D :: wr) s.heap s₃.heap → J i ys s₃.heap → TurnOk prog w A ifs elt cenv J i ys s₃ E')
    (hR : ∀ h' tk ys, LV h' cenv.locals [] → h'.PlainList D ys.toArray → J n ys h' → Ch (cenv.locals :: D :: wr) s.heap h' → R (.ok .next) { s with heap := h', toks := tk })
    (hsz : n ≤ sizeLine) :
    codeAny (model prog w) A (.compLoop (.ListComp elt [⟨target, iter, ifs, 0⟩] scope pos) 0 (.ref I) (.ref D) cenv) R s := by
  have hCw : cenv.locals ∉ wr := fun h => hCf (V.sub _ h)
  have hDw : D ∉ wr := fun h => hDf (V.sub _ h)
  refine compLoop_all
    (fun k s' => ∃ h' tk ys i, s' = { s with heap := h', toks := tk } ∧ i ≤ n ∧ ys.length ≤ i ∧ k = n + 1 - i ∧ St i h' ∧ h'.PlainList D ys.toArray ∧ LV h' cenv.locals [] ∧ J i ys h' ∧ Ch (cenv.locals :: D :: wr) s.heap h') ?_ (n + 1)
    ⟨s.heap, s.toks, [], 0, rfl, Nat.zero_le _, Nat.le_refl _, rfl, hst, hacc, hn, h0, Ch.refl _ _⟩
  rintro k s' ⟨H, tk, ys, i, rfl, hi, hyl, rfl, hst', hacc', hn', hJ', hk⟩ E'
  by_cases hlt : i < n
  · refine wpAny_mono (V.next i { s with heap := H, toks := tk } (fun s₂ => wpAny (model prog w) A (testsOf ifs cenv) (fun ok s₃ =>
            if ok = true then wpAny (model prog w) A (eval elt cenv) (fun x s₄ =>
              wpAny (model prog w) A (call (.builtin "list.append") [.ref D, x]) (fun _ s₅ => ∃ m, m < n + 1 - i ∧ ∃ h' tk ys i, s₅ = { s with heap := h', toks := tk } ∧ i ≤ n ∧ ys.length ≤ i ∧ m = n + 1 - i ∧ St i h' ∧ h'.PlainList D ys.toArray ∧ LV h' cenv.locals [] ∧ J i ys h' ∧ Ch (cenv.locals :: D :: wr) s.heap h') E' s₄) E' s₃
            else ∃ m, m < n + 1 - i ∧ ∃ h' tk ys i, s₃ = { s with heap := h', toks := tk } ∧ i ≤ n ∧ ys.length ≤ i ∧ m = n + 1 - i ∧ St i h' ∧ h'.PlainList D ys.toArray ∧ LV h' cenv.locals [] ∧ J i ys h' ∧ Ch (cenv.locals :: D :: wr) s.heap h') E' s₂) E' hlt hst' hn' hCf ?_) (fun r s₁ hr => ?_) fun _ _ x => x
    case refine_2 =>
      obtain ⟨v, rfl, hv⟩ := hr
      exact hv
    intro b h₂ tk₂ hb hst₂ hn₂ hk₂
    have hk₂' : Ch (cenv.locals :: D :: wr) H h₂ := hk₂.mono fun x hx => by
      rcases List.mem_cons.mp hx with rfl | hx
      · simp
      · simp [hx]
    have hacc₂ : h₂.PlainList D ys.toArray := hk₂.list hacc' (by simp [hDC, hDw])
    have live : ∀ z ∈ cenv.locals :: D :: wr, ∃ o, h₂.get? z = some o := fun z hz => by
      rcases List.mem_cons.mp hz with rfl | hz
      · obtain ⟨o, e, _⟩ := hn₂.live; exact ⟨o, e⟩
      · rcases List.mem_cons.mp hz with rfl | hz
        · obtain ⟨n, e⟩ := hacc₂; exact ⟨_, e⟩
        · exact V.live _ _ hst₂ z hz
    refine wpAny_mono (turn i b ys { s with heap := h₂, toks := tk₂ } E' hlt hb hn₂ live (hk.trans hk₂') (hJ _ _ _ _ hJ' hk₂')) (fun ok s₃ h₃ => ?_) fun _ _ x => x
    cases ok with
    | false =>
      simp only [Bool.false_eq_true, if_false] at h₃ ⊢
      obtain ⟨⟨h₄, tk₄, rfl, k₄⟩, hJ₄⟩ := h₃
      exact ⟨n + 1 - (i + 1), by omega, h₄, tk₄, ys, i + 1, rfl, hlt, by omega, rfl, V.frame _ _ _ hst₂ fun b _ o e => k₄ b o e, hacc₂.at fun o e => k₄ _ o e, (hn₂.sub fun o e => k₄ _ o e).fewer trivial, hJ₄, (hk.trans hk₂').trans (Ch.of_sub k₄)⟩
    | true =>
      simp only [if_true] at h₃ ⊢
      refine wpAny_mono h₃ (fun y s₄ h₄ => ?_) fun _ _ x => x
      obtain ⟨⟨h₄, tk₄, rfl, k₄⟩, hJ₄⟩ := h₄
      have hacc₄ : h₄.PlainList D ys.toArray := hacc₂.at fun o e => k₄ _ o e
      refine wpAny_list_append_plain hacc₄ (fun h₅ hl₅ sb₅ => ?_) (by rw [List.size_toArray]; omega)
      rw [List.push_toArray] at hl₅
      have k₅ : Ch (cenv.locals :: D :: wr) h₄ h₅ := Ch.of_same sb₅ (by simp)
      refine ⟨n + 1 - (i + 1), by omega, h₅, tk₄, ys ++ [y], i + 1, rfl, hlt, by simp; omega, rfl, V.frame _ _ _ hst₂ fun b hb o e => sb₅.extBut b o (fun q => hDf (q ▸ hb)) (k₄ b o e), hl₅, ?_, hJ _ _ _ _ hJ₄ k₅, ((hk.trans hk₂').trans (Ch.of_sub k₄)).trans k₅⟩
      exact (hn₂.sub fun o e => sb₅.extBut _ o (Ne.symm hDC) (k₄ _ o e)).fewer trivial
  · have hin : i = n := by omega
    subst hin
    refine V.done _ _ _ hst' fun h₁ tk₁ hk₁ => ?_
    have hk₁' : Ch (cenv.locals :: D :: wr) H h₁ := hk₁.mono fun x hx => by simp [hx]
    exact hR h₁ tk₁ ys (hn'.sub fun o e => hk₁ _ o hCw e) (hk₁.list hacc' hDw) (hJ _ _ _ _ hJ' hk₁') (hk.trans hk₁')
end

section
variable {prog : Program} {w : World} {A : Around} {E : Value → Shared → Prop} {env : Env}

/-- the block of a comprehension; Z: the block's own addresses -/
theorem comp_block {elt target iter : Expr} {ifs : List Expr} {scope : Scope} {cl : List (Str × Addr)} {pos : Pos} {s₂ : Shared} {I : Addr} {fp wr : List Addr} {n : Nat} {St : Nat → Heap → Prop} {Bd : Nat → List (Str × Value) → Prop}
    (V : ∀ C, Adv prog w A I target (compEnvC scope cl C env) fp wr n St Bd) (hsz : n ≤ sizeLine) (J : List Addr → Nat → List Value → Heap → Prop) {RR : Value → Addr → Result → Shared → Prop}
    (hcell : ∀ y ∈ scope.names, y.2 ≠ .cell) (hkind : scope.kind = .function) (hst : St 0 s₂.heap) (hfp : ∀ b ∈ fp, b < s₂.heap.objs.size)
    (hJ : ∀ Z i ys h h', J Z i ys h → Ch Z h h' → J Z i ys h') (h0 : ∀ Z h, Sub s₂.heap h → J Z 0 [] h) {X : List Addr} (hwX : ∀ b ∈ wr, b ∈ X) (hXl : ∀ x ∈ X, x ∈ wr ∨ ∃ o, s₂.heap.get? x = some o)
    (turn : ∀ C D i b ys s₃ E', i < n → Bd i b → s₂.heap.get? C = none → s₂.heap.get? D = none → LV s₃.heap C b → (∀ z ∈ C :: D :: X, ∃ o, s₃.heap.get? z = some o) → Ch wr s₂.heap s₃.heap → J (C :: D :: X) i ys s₃.heap → TurnOk prog w A ifs elt (compEnvC scope cl C env) (J (C :: D :: X)) i ys s₃ E')
    (hRR : ∀ D C h' tk ys, s₂.heap.get? D = none → s₂.heap.get? C = none → D ≠ C → LV h' C [] → h'.PlainList D ys.toArray → J (C :: D :: X) n ys h' → Ch wr s₂.heap h' → RR (.ref D) C (.ok .next) { s₂ with heap := h', toks := tk }) :
    wpAny (model prog w) A (newList []) (fun acc s₃ => wpAny (model prog w) A (newFunctionEnv scope env.globals cl [] env.qual none .none (some env)) (fun cenv s₄ =>
      codeAny (model prog w) A (.compStart (.ListComp elt [⟨target, iter, ifs, 0⟩] scope pos) 0 (.ref I) acc { cenv with scope := relabel scope env }) (RR acc cenv.locals) s₄) E s₃) E s₂ := by
  refine wpAny_newObj_type (wpAny_newFunctionEnv hcell (by intro y hy; simp at hy) (fun h₁ hns₁ hsb₁ => ?_) hkind)
  dsimp only at hns₁ hsb₁ ⊢
  generalize hH2 : s₂.heap.push { cls := .type "list", dict := none, data := .seq ([] : List Value).toArray } = H2 at hns₁ hsb₁ ⊢
  have hC : H2.objs.size = s₂.heap.objs.size + 1 := by rw [← hH2, Heap.size_push]
  have hDC : s₂.heap.objs.size ≠ H2.objs.size := by rw [hC]; exact Nat.ne_of_lt (Nat.lt_succ_self _)
  have below : ∀ b, b < s₂.heap.objs.size → b ≠ H2.objs.size ∧ b ≠ s₂.heap.objs.size := fun b hb => ⟨by rw [hC]; exact Nat.ne_of_lt (Nat.lt_succ_of_lt hb), Nat.ne_of_lt hb⟩
  have hDf : s₂.heap.objs.size ∉ fp := fun hm => Nat.lt_irrefl _ (hfp _ hm)
  have hCf : H2.objs.size ∉ fp := fun hm => by have := hfp _ hm; rw [hC] at this; exact Nat.lt_irrefl _ (Nat.lt_of_succ_lt this)
  have old : ∀ b o, s₂.heap.get? b = some o → h₁.get? b = some o := fun b o e => hsb₁.extBut b o (below b (Heap.lt_size e)).1 (Heap.get?_push_of_some _ (hH2 ▸ Heap.get?_push_of_some _ e))
  have hacc : h₁.PlainList s₂.heap.objs.size #[] := ⟨_, hsb₁.extBut _ _ hDC (Heap.get?_push_of_some _ (hH2 ▸ Heap.get?_push_size _ rfl))⟩
  have fresh : ∀ a, s₂.heap.objs.size ≤ a → s₂.heap.get? a = none := fun a ha => by
    cases e : s₂.heap.get? a with
    | none => rfl
    | some o' => exact absurd (Heap.lt_size e) (Nat.not_lt.mpr ha)
  have fD := fresh s₂.heap.objs.size (Nat.le_refl _)
  have fC := fresh H2.objs.size (by rw [hC]; exact Nat.le_succ _)
  have hst₁ : St 0 h₁ := (V 0).frame _ _ _ hst fun b _ o e => old b o e
  have thin : ∀ h', Ch (H2.objs.size :: s₂.heap.objs.size :: wr) h₁ h' → Ch wr s₂.heap h' := fun h' k a o ha e => k a o (by
    have := below a (Heap.lt_size e)
    simp only [List.mem_cons, not_or]
    exact ⟨this.1, this.2, ha⟩) (old a o e)
  have loop : ∀ s₃ : Shared, s₃ = { s₂ with heap := h₁, toks := s₂.toks + ([] : List (Str × Value)).length } →
      codeAny (model prog w) A (.compLoop (.ListComp elt [⟨target, iter, ifs, 0⟩] scope pos) 0 (.ref I) (.ref s₂.heap.objs.size) (compEnvC scope cl H2.objs.size env))
        (RR (.ref s₂.heap.objs.size) H2.objs.size) s₃ := by
    rintro s₃ rfl
    have hmore : ∀ x, x ∈ H2.objs.size :: s₂.heap.objs.size :: wr → x ∈ H2.objs.size :: s₂.heap.objs.size :: X := fun x hx => by
      rcases List.mem_cons.mp hx with rfl | hx
      · simp
      · rcases List.mem_cons.mp hx with rfl | hx
        · simp
        · simp [hwX x hx]
    refine comp_loop (cenv := compEnvC scope cl H2.objs.size env) (V _) hDC hDf hCf (J (H2.objs.size :: s₂.heap.objs.size :: X)) (fun i ys h h' a b => hJ _ i ys h h' a (b.mono hmore)) hst₁ hacc ⟨_, hns₁, fun x v e => by cases e⟩ (h0 _ _ old) ?_ ?_ hsz
    · intro i b ys s₃ E' hi hb hlv hlive hk hj
      refine turn _ _ i b ys s₃ E' hi hb fC fD hlv (fun z hz => ?_) (thin _ hk) hj
      rcases List.mem_cons.mp hz with rfl | hz
      · exact hlive _ (List.mem_cons_self ..)
      · rcases List.mem_cons.mp hz with rfl | hz
        · exact hlive _ (List.mem_cons_of_mem _ (List.mem_cons_self ..))
        · by_cases hw : z ∈ wr
          · exact hlive z (List.mem_cons_of_mem _ (List.mem_cons_of_mem _ hw))
          · rcases hXl z hz with q | ⟨o, q⟩
            · exact absurd q hw
            · exact ⟨o, thin _ hk z o hw q⟩
    · intro h' tk ys hlv hl hj hk
      exact hRR _ _ h' tk ys fD fC hDC hlv hl hj (thin _ hk)
  exact codeAny_compStart_list (loop _ rfl) ((V 0).self 0 _ _ _ hst₁ (loop _ rfl))

/-- what the iterable hands to a block -/
structure Src (prog : Program) (w : World) (A : Around) (env : Env) (target : Expr) (ifs : List Expr) (elt : Expr) (scope : Scope) (cl : List (Str × Addr)) (I : Addr) (s₂ : Shared) (wr X : List Addr) (n : Nat) (J : List Addr → Nat → List Value → Heap → Prop) : Prop where
  ex : ∃ fp St Bd, (∀ C, Adv prog w A I target (compEnvC scope cl C env) fp wr n St Bd) ∧ St 0 s₂.heap ∧ (∀ b ∈ fp, b < s₂.heap.objs.size) ∧
    (∀ C D i b ys s₃ E', i < n → Bd i b → s₂.heap.get? C = none → s₂.heap.get? D = none → LV s₃.heap C b → (∀ z ∈ C :: D :: X, ∃ o, s₃.heap.get? z = some o) → Ch wr s₂.heap s₃.heap → J (C :: D :: X) i ys s₃.heap → TurnOk prog w A ifs elt (compEnvC scope cl C env) (J (C :: D :: X)) i ys s₃ E')
  sz : n ≤ sizeLine
  st : ∀ Z i ys h h', J Z i ys h → Ch Z h h' → J Z i ys h'
  zero : ∀ Z h, Sub s₂.heap h → J Z 0 [] h

theorem listComp {s : Shared} {elt target iter : Expr} {ifs : List Expr} {scope : Scope} {cl : List (Str × Addr)} {pos : Pos} {Q : Value → Shared → Prop}
    (hclos : closureFor scope env = pure cl) (hcell : ∀ y ∈ scope.names, y.2 ≠ .cell) (hkind : scope.kind = .function) (hnames : ∀ y ∈ scope.names, y.2 = .local → scope.names.lookup y.1 = some .local)
    (h : wpAny (model prog w) A (eval iter env) (fun xv s₁ => wpAny (model prog w) A (pyIter xv) (fun it s₂ => ∃ I wr n J, it = .ref I ∧ Src prog w A env target ifs elt scope cl I s₂ wr wr n J ∧
      ∀ C D h' tk ys, s₂.heap.get? D = none → s₂.heap.get? C = none → D ≠ C → h'.PlainList D ys.toArray → J (C :: D :: wr) n ys h' → Ch wr s₂.heap h' → Q (.ref D) { s₂ with heap := h', toks := tk }) E s₁) E s)
    (hs : ∀ x, foldedSetIterable iter env x = pure x := by intro _; rfl) :
    wpAny (model prog w) A (eval (.ListComp elt [⟨target, iter, ifs, 0⟩] scope pos) env) Q E s := by
  rw [eval_ListComp]
  refine wpAny_comprehension_free (use := none) rfl hs hclos hkind hnames (wpAny_mono h (fun xv s₁ h₁ => wpAny_mono h₁ (fun it s₂ h₂ => ?_) fun _ _ e => e) fun _ _ e => e)
  obtain ⟨I, wr, n, J, rfl, ⟨⟨fp, St, Bd, V, hst, hfp, turn⟩, sz, st, zero⟩, hQ⟩ := h₂
  refine comp_block (RR := fun acc C => compPost (model prog w) A E none Q acc C) V sz J hcell hkind hst hfp st zero (fun _ h => h) (fun _ h => .inl h) turn ?_
  intro D C h' tk ys fD fC hDC hlv hl hj hk
  obtain ⟨m, hn, _⟩ := hlv
  refine ⟨m, hn, fun h'' hs'' => ?_⟩
  have k : Ch (C :: D :: wr) h' h'' := Ch.of_same hs'' (by simp)
  exact hQ C D h'' tk ys fD fC hDC (hl.extBut hs''.extBut hDC) (st _ _ _ _ _ hj k) fun a o ha e => hs''.extBut a o (by rintro rfl; rw [fC] at e; cases e) (hk a o ha e)

theorem assignComp {s : Shared} {elt target iter : Expr} {y : Str} {py : Pos} {ifs : List Expr} {scope : Scope} {cl : List (Str × Addr)} {pos spos : Pos} {Q : Flow → Shared → Prop}
    (hsw : swapsWith (.ListComp elt [⟨target, iter, ifs, 0⟩] scope pos) (some (.Name y py)) spos.line env = pure true)
    (hclos : closureFor scope env = pure cl) (hcell : ∀ z ∈ scope.names, z.2 ≠ .cell) (hkind : scope.kind = .function) (hnames : ∀ z ∈ scope.names, z.2 = .local → scope.names.lookup z.1 = some .local)
    (hy : env.kindOf y = some .local) (hp : env.scope.kind = .function)
    (h : wpAny (model prog w) A (eval iter env) (fun xv s₁ => wpAny (model prog w) A (pyIter xv) (fun it s₂ => ∃ I wr n J b, it = .ref I ∧ env.locals ∉ wr ∧ LV s₂.heap env.locals b ∧ Src prog w A env target ifs elt scope cl I s₂ wr (env.locals :: wr) n J ∧
      ∀ C D h' tk ys, s₂.heap.get? D = none → s₂.heap.get? C = none → D ≠ C → h'.PlainList D ys.toArray → J (C :: D :: env.locals :: wr) n ys h' → LV h' env.locals ((y, .ref D) :: b) → Ch (env.locals :: wr) s₂.heap h' → Q .next { s₂ with heap := h', toks := tk }) E s₁) E s)
    (hs : ∀ x, foldedSetIterable iter env x = pure x := by intro _; rfl) :
    wpAny (model prog w) A (exec (.Assign [.Name y py] (.ListComp elt [⟨target, iter, ifs, 0⟩] scope pos) spos) env) Q E s := by
  rw [exec_Assign_Name_used _ _ _ _ hsw]
  refine wpAny_bind (wpAny_standAt (wpAny_bind ?_))
  show wpAny _ A (do let _ ← comprehension (.ListComp elt [⟨target, iter, ifs, 0⟩] scope pos) scope env _ (newList []) false (eval iter env) (some (assign (.Name y py) env))) _ _ s
  refine wpAny_bind (wpAny_mono (wpAny_comprehension_free (use := some (assign (.Name y py) env)) (Q := fun _ s' => Q .next s') rfl hs hclos hkind hnames
    (wpAny_mono h (fun xv s₁ h₁ => wpAny_mono h₁ (fun it s₂ h₂ => ?_) fun _ _ e => e) fun _ _ e => e)) (fun _ s' hq => wpAny_pure (wpAny_pure hq)) fun _ _ e => e)
  obtain ⟨I, wr, n, J, b, rfl, hLw, hlvL, ⟨⟨fp, St, Bd, V, hst, hfp, turn⟩, sz, st, zero⟩, hQ⟩ := h₂
  obtain ⟨oL, eL, _⟩ := hlvL.live
  refine comp_block (RR := fun acc C => compPost (model prog w) A E (some (assign (.Name y py) env)) (fun _ s' => Q .next s') acc C) V sz J hcell hkind hst hfp st zero (fun _ h => List.mem_cons_of_mem _ h) (fun x hx => by
    rcases List.mem_cons.mp hx with rfl | hx
    · exact .inr ⟨oL, eL⟩
    · exact .inl hx) turn ?_
  intro D C h' tk ys fD fC hDC hlv hl hj hk
  have hLC : env.locals ≠ C := by rintro rfl; rw [fC] at eL; cases eL
  have hLD : env.locals ≠ D := by rintro rfl; rw [fD] at eL; cases eL
  show wpAny _ A (assign (.Name y py) env (.ref D)) _ _ _
  refine wpAny_assign_Name (stv (hlvL.sub fun o e => hk _ o hLw e) (fun h₂ hn₂ sb₂ => ?_) hy hp)
  obtain ⟨m, hn, _⟩ := hlv
  refine ⟨m, hn.sameBut sb₂ (Ne.symm hLC), fun h₃ hs₃ => ?_⟩
  have k2 : Ch (C :: D :: env.locals :: wr) h' h₂ := Ch.of_same sb₂ (by simp)
  have k3 : Ch (C :: D :: env.locals :: wr) h₂ h₃ := Ch.of_same hs₃ (by simp)
  refine hQ C D h₃ _ ys fD fC hDC ((hl.extBut sb₂.extBut (Ne.symm hLD)).extBut hs₃.extBut hDC) (st _ _ _ _ _ (st _ _ _ _ _ hj k2) k3) (hn₂.sub fun o e => hs₃.extBut _ o hLC e) fun a o ha e => ?_
  have haL : a ≠ env.locals := fun q => ha (by simp [q])
  exact hs₃.extBut a o (by rintro rfl; rw [fC] at e; cases e) (sb₂.extBut a o haL (hk a o (fun q => ha (List.mem_cons_of_mem _ q)) e))
end
end Mine
end PartC1

section PartL1
open PySem PySem.W PyProof.Rows
set_option Elab.async false
set_option maxRecDepth 100000
set_option maxHeartbeats 4000000
set_option autoImplicit false
namespace Mine

/-- a frame with cells -/
structure LS (hs : Heap) (L : Addr) (cs : List (Str × Addr)) (b cb : List (Str × Value)) (h : Heap) : Prop where
  F : FX hs [] L b h
  C : ∃ cm, Cl L cs h cm ∧ ∀ x v, cb.lookup x = some v → cm x = some v
  up : ∀ x c, (x, c) ∈ cs → hs.get? c = none

theorem cl_live {L : Addr} {cs : List (Str × Addr)} {h : Heap} {cm : Str → Option Value} (X : Cl L cs h cm) {x : Str} {c : Addr} (hc : cs.lookup x = some c) : ∃ o v, h.get? c = some o ∧ o.data = .cell v := let ⟨o, e, d⟩ := X.cell x c hc; ⟨o, _, e, d⟩

theorem cl_kept {L : Addr} {cs : List (Str × Addr)} {h h' : Heap} {cm : Str → Option Value} (X : Cl L cs h cm) (k : ∀ x c o, cs.lookup x = some c → h.get? c = some o → h'.get? c = some o) : Cl L cs h' cm :=
  ⟨fun n c e => let ⟨o, ho, hd⟩ := X.cell n c e; ⟨o, k n c o e ho, hd⟩, X.apart, X.above⟩

theorem KS.of_cell {h h' : Heap} {c : Addr} {v : Option Value} (x : h.IsCell c v) (s : Heap.SameBut c h h') : KS h h' := fun a o xs n e d => s.extBut a o (fun q => by
  obtain ⟨o', e', d'⟩ := x
  rw [q, e'] at e; cases e; rw [d'] at d; cases d) e

/-- all but X, namespaces and cells is kept -/
def KN (X : List Addr) (h h' : Heap) : Prop := ∀ a o, a ∉ X → h.get? a = some o → (∀ es ep, o.data ≠ .dict es ep) → (∀ v, o.data ≠ .cell v) → h'.get? a = some o
theorem KN.of_sub {X : List Addr} {h h' : Heap} (s : Sub h h') : KN X h h' := fun a o _ e _ _ => s a o e
theorem KN.of_ch {X : List Addr} {h h' : Heap} (s : Ch X h h') : KN X h h' := fun a o n e _ _ => s a o n e
theorem KN.of_same {X : List Addr} {h h' : Heap} {L : Addr} {b : List (Str × Value)} (v : LV h L b) (s : Heap.SameBut L h h') : KN X h h' := fun a o _ e d _ => s.extBut a o (fun q => by
  obtain ⟨o', e', es, ep, d'⟩ := v.live
  rw [q, e'] at e; cases e; exact d _ _ d') e
theorem KN.of_cell {X : List Addr} {h h' : Heap} {c : Addr} {v : Option Value} (x : h.IsCell c v) (s : Heap.SameBut c h h') : KN X h h' := fun a o _ e _ d => s.extBut a o (fun q => by
  obtain ⟨o', e', d'⟩ := x
  rw [q, e'] at e; cases e; exact d _ d') e
theorem KN.trans {X : List Addr} {h h' h'' : Heap} (a : KN X h h') (b : KN X h' h'') : KN X h h'' := fun x o n e d c => b x o n (a x o n e d c) d c
theorem KN.mono {X Y : List Addr} {h h' : Heap} (a : KN X h h') (hs : ∀ x, x ∈ X → x ∈ Y) : KN Y h h' := fun x o n e => a x o (fun m => n (hs x m)) e
theorem KN.ks {h h' : Heap} (k : KN [] h h') : KS h h' := fun a o xs n e d => k a o (by simp) e (fun _ _ q => by rw [d] at q; cases q) (fun _ q => by rw [d] at q; cases q)

namespace LS
variable {hs h h' : Heap} {L : Addr} {cs : List (Str × Addr)} {b cb : List (Str × Value)}
theorem grow (S : LS hs L cs b cb h) (k : Sub h h') : LS hs L cs b cb h' := ⟨S.F.grow k, let ⟨cm, X, e⟩ := S.C; ⟨cm, X.keeps k, e⟩, S.up⟩
theorem sub (S : LS hs L cs b cb h) : Sub hs h := S.F.ch.sub
/-- lists that are not older have changed -/
theorem chg (S : LS hs L cs b cb h) {Y : List Addr} (k : Ch Y h h') (hY : ∀ y ∈ Y, hs.get? y = none ∧ ∃ vs, h.PlainList y vs) : LS hs L cs b cb h' := by
  have hL : L ∉ Y := fun q => by obtain ⟨_, vs, hv⟩ := hY L q; exact S.F.lv.ne_list hv rfl
  obtain ⟨cm, X, e⟩ := S.C
  refine ⟨S.F.loose k (fun y hy => (hY y hy).1) hL, ⟨cm, cl_kept X fun x c o hc ho => k c o (fun q => ?_) ho, e⟩, S.up⟩
  obtain ⟨_, vs, n, hv⟩ := hY c q
  obtain ⟨o', v, e', d'⟩ := cl_live X hc
  rw [e'] at hv; cases hv; cases d'
theorem fewer (S : LS hs L cs b cb h) {b' cb' : List (Str × Value)} (k : Knows b b') (kc : Knows cb cb') : LS hs L cs b' cb' h :=
  ⟨S.F.fewer k, let ⟨cm, X, e⟩ := S.C; ⟨cm, X, fun x v q => e x v (kc.look x v q)⟩, S.up⟩
end LS

section
variable {M : Model} {A : Around} {E : Value → Shared → Prop} {s : Shared} {env : Env} {hs : Heap} {L : Addr} {cs : List (Str × Addr)} {b cb : List (Str × Value)}

theorem nmC {x : Str} {pos : Pos} {v : Value} {c : Addr} {Q : Value → Shared → Prop} (S : LS hs L cs b cb s.heap) (hv : cb.lookup x = some v) (h : Q v s) (hc : cs.lookup x = some c) (hcs : env.cells = cs := by rfl)
    (hk : env.scope.kind = .function := by rfl) (hl : env.kindOf x = some .cell := by rfl) (hd : (x == ("__debug__" : Str)) = false := by decide) :
    wpAny M A (eval (.Name x pos) env) Q E s := by
  subst hcs
  obtain ⟨cm, X, e⟩ := S.C
  exact wpAny_Name (wpAny_loadName_cell hk hl hc (e x v hv ▸ X.cell x c hc) h) hd

theorem stnL {x : Str} {v : Value} {Q : Unit → Shared → Prop} (S : LS hs L cs b cb s.heap)
    (h : ∀ h', LS hs L cs ((x, v) :: b) cb h' → KN [] s.heap h' → Q () { s with heap := h', toks := s.toks + 1 }) (hL : env.locals = L := by rfl)
    (hk : env.scope.kind = .function := by rfl) (hl : env.kindOf x = some .local := by rfl) : wpAny M A (storeName env x v) Q E s :=
  stn S.F (fun h' F' sb => h h' ⟨F', let ⟨cm, X, e⟩ := S.C; ⟨cm, X.sameBut sb (Nat.le_refl _), e⟩, S.up⟩ (.of_same S.F.lv sb)) hL hk hl

theorem stnC {x : Str} {v : Value} {c : Addr} {Q : Unit → Shared → Prop} (S : LS hs L cs b cb s.heap)
    (h : ∀ h', LS hs L cs b ((x, v) :: cb) h' → KN [] s.heap h' → Q () { s with heap := h' }) (hc : cs.lookup x = some c) (hcs : env.cells = cs := by rfl)
    (hk : env.scope.kind = .function := by rfl) (hl : env.kindOf x = some .cell := by rfl) : wpAny M A (storeName env x v) Q E s := by
  subst hcs
  obtain ⟨cm, X, e⟩ := S.C
  have hLc : L < c := X.above x c (mem_of_lookup hc)
  have hcell := X.cell x c hc
  refine wpAny_storeName_cell hk hl hc hcell fun h' hv sb => h h' ⟨S.F.loose (Ch.of_same (X := [c]) sb (by simp)) (fun y hy => by rw [List.mem_singleton.mp hy]; exact S.up x c (mem_of_lookup hc)) (by simpa using Nat.ne_of_lt hLc),
    ⟨fun y => if y = x then some v else cm y, ⟨fun n c' e => ?_, X.apart, X.above⟩, fun y u q => ?_⟩, S.up⟩ (.of_cell hcell sb)
  · by_cases hn : n = x
    · subst hn; rw [hc] at e; cases e; simpa using hv
    · have hcc : c' ≠ c := fun q => hn (name_of_addr X.apart (mem_of_lookup e) (q ▸ mem_of_lookup hc))
      simpa [hn] using (X.cell n c' e).sameBut sb hcc
  · rw [List.lookup_cons] at q
    cases z : y == x with
    | true => rw [z] at q; cases q; simp [beq_iff_eq.mp z]
    | false => rw [z] at q; have : y ≠ x := by simpa using z
               simp [this]; exact e y u q
end

/-- the data that nobody changes any more -/
structure Fz (c : Cfg) (h : Heap) : Prop where
  W : h.PlainList c.aW (refs c.wa (List.range c.n)).toArray
  Wt : ∀ i, i < c.n → ∃ t0 t1 t2, h.IsTuple (c.wa i) #[.int (c.w i 0) t0, .int (c.w i 1) t1, .int (c.w i 2) t2]
  R : h.PlainList c.aR (refs c.rl [0, 1, 2]).toArray
  Rl : ∀ s, s < 3 → h.PlainList (c.rl s) (refs (c.T s) (List.range c.n)).toArray
  Rt : ∀ s, s < 3 → ∀ i, i < c.n → TupAt h (c.T s i) (c.rk s i)
  S : ∃ ts : Nat → Tok, h.PlainList c.aS ((List.range 3).map fun s => Value.int (c.cap s) (ts s)).toArray
theorem Fz.sub {c : Cfg} {h h' : Heap} (W : Fz c h) (s : Sub h h') : Fz c h' :=
  have k : KS h h' := .of_sub s
  ⟨k.list W.W, fun i hi => let ⟨a, b, d, x⟩ := W.Wt i hi; ⟨a, b, d, k.tuple x⟩, k.list W.R, fun s hs => k.list (W.Rl s hs), fun s hs i hi => k.tup (W.Rt s hs i hi), let ⟨t, x⟩ := W.S; ⟨t, k.list x⟩⟩
theorem Wo.fz {c : Cfg} {r : Nat → Nat} {H : Nat → List Nat} {pile : List Nat} {h : Heap} (W : Wo c r H pile h) : Fz c h := ⟨W.W, W.Wt, W.R, W.Rl, W.Rt, W.S⟩

/- marks -/
def mkR (c : Cfg) (mk : Nat → Option Nat) : Nat → Option Rk := fun s => (mk s).map (c.rk s)
def mval (c : Cfg) (mk : Nat → Option Nat) (s : Nat) : Value := match mk s with
  | none => .none
  | some j => .ref (c.T s j)
abbrev fst (c : Cfg) (mk : Nat → Option Nat) (i : Nat) : Nat := first c.w c.rk (mkR c mk) i
abbrev letB (c : Cfg) (mk : Nat → Option Nat) (s i : Nat) : Bool := lets c.rk (mkR c mk) s i
theorem letB_none {c : Cfg} {mk : Nat → Option Nat} {s i : Nat} (h : mk s = none) : letB c mk s i = true := by simp [lets, mkR, h]
theorem letB_some {c : Cfg} {mk : Nat → Option Nat} {s i j : Nat} (h : mk s = some j) : letB c mk s i = !rlt (c.rk s j) (c.rk s i) := by simp [lets, mkR, h]

/-- the cells of _law_left -/
def llCs (L : Addr) : List (Str × Addr) := cellsFrom (L + 1) (scopeOf (fnAt 5)).names []
theorem llCs_eq (L : Addr) : llCs L = [(Str.ofString "i", L + 5), (Str.ofString "asked", L + 4), (Str.ofString "marks", L + 3), (Str.ofString "seats", L + 2), (Str.ofString "ranks", L + 1)] := rfl
abbrev llEnv (L fa : Addr) (cd : Value) : Env := envOfC (Str.ofString "_law_left") (scopeOf (fnAt 5)) L fa cd
end Mine
end PartL1

section PartL2
open PySem PySem.W PyProof.Rows
set_option Elab.async false
set_option maxRecDepth 100000
set_option maxHeartbeats 4000000
set_option autoImplicit false
namespace Mine

section
variable {M : Model} {A : Around} {E : Value → Shared → Prop} {s : Shared} {env : Env} {C : Addr} {b : List (Str × Value)}

theorem nmV {x : Str} {pos : Pos} {v : Value} {Q : Value → Shared → Prop} (V : LV s.heap C b) (hv : b.lookup x = some v) (h : Q v s) (hL : env.locals = C := by rfl)
    (hk : env.scope.kind = .function := by rfl) (hl : env.kindOf x = some .local := by rfl) (hd : (x == ("__debug__" : Str)) = false := by decide) :
    wpAny M A (eval (.Name x pos) env) Q E s := by
  subst hL
  obtain ⟨m, hn, hm⟩ := V
  exact wpAny_Name (wpAny_loadName_local hk hl hn (hm x v hv) h) hd

theorem nmK {x : Str} {pos : Pos} {v : Value} {c : Addr} {Q : Value → Shared → Prop} (K : s.heap.IsCell c (some v)) (h : Q v s) (hc : env.cells.lookup x = some c := by rfl)
    (hk : env.scope.kind = .function := by rfl) (hl : env.kindOf x = some .cell := by rfl) (hd : (x == ("__debug__" : Str)) = false := by decide) :
    wpAny M A (eval (.Name x pos) env) Q E s := wpAny_Name (wpAny_loadName_cell hk hl hc K h) hd
end

theorem LS.cell {hs h : Heap} {L : Addr} {cs : List (Str × Addr)} {b cb : List (Str × Value)} (S : LS hs L cs b cb h) {x : Str} {v : Value} {c : Addr} (hv : cb.lookup x = some v) (hc : cs.lookup x = some c) : h.IsCell c (some v) := by
  obtain ⟨cm, X, e⟩ := S.C
  exact e x v hv ▸ X.cell x c hc
theorem cell_sub {h h' : Heap} {c : Addr} {v : Option Value} (x : h.IsCell c v) (k : Sub h h') : h'.IsCell c v := x.keeps k

section
variable {prog : Program} {w : World} {A : Around} {env : Env} {elt : Expr} {ifs : List Expr} {scope : Scope} {cl : List (Str × Addr)} {I : Addr} {s₂ : Shared} {wr X : List Addr} {n : Nat} {J : List Addr → Nat → List Value → Heap → Prop}

theorem Src.name {fp : List Addr} {P : Nat → Value → Prop} {St : Nat → Heap → Prop} {x : Str} {px : Pos} (W : Walks prog w A I fp wr n P St) (hlive : ∀ i h, St i h → ∀ b ∈ wr, ∃ o, h.get? b = some o)
    (hx : scope.names.lookup x = some .local) (hkind : scope.kind = .function) (hst : St 0 s₂.heap) (hfp : ∀ b ∈ fp, b < s₂.heap.objs.size) (h₁ : Heap) (k12 : Sub h₁ s₂.heap) (hfr : ∀ b ∈ wr, h₁.get? b = none) (hsz : n ≤ sizeLine)
    (hJ : ∀ Z i ys h h', J Z i ys h → Ch Z h h' → J Z i ys h') (h0 : ∀ Z h, Sub h₁ h → J Z 0 [] h)
    (turn : ∀ C D i v ys s₃ E', i < n → P i v → LV s₃.heap C [(x, v)] → (∀ z ∈ C :: D :: X, ∃ o, s₃.heap.get? z = some o) → Sub h₁ s₃.heap → J (C :: D :: X) i ys s₃.heap → TurnOk prog w A ifs elt (compEnvC scope cl C env) (J (C :: D :: X)) i ys s₃ E') :
    Src prog w A env (.Name x px) ifs elt scope cl I s₂ wr X n J where
  ex := ⟨fp, St, _, fun _ => Adv.name W hlive (lookup_relabel_local hx) hkind, hst, hfp, fun C D i b ys s₃ E' hi hb _ _ hlv hl hk hj => by
    obtain ⟨v, hP, rfl⟩ := hb
    exact turn C D i v ys s₃ E' hi hP hlv hl (fun a o e => hk a o (fun q => by rw [hfr a q] at e; cases e) (k12 a o e)) hj⟩
  sz := hsz
  st := hJ
  zero := fun Z h k => h0 Z h fun a o e => k a o (k12 a o e)
end

/- the parts of _law_left -/
def llSt (k : Nat) : Stmt := (bodyOf (fnAt 5)).getD k (.Pass ⟨0, 0, 0, 0⟩)
def whileBody' : Stmt → List Stmt
  | .While _ b _ _ => b
  | _ => []
def forBody : Stmt → List Stmt
  | .For _ _ b _ _ => b
  | _ => []
def llW (k : Nat) : Stmt := (whileBody' (llSt 1)).getD k (.Pass ⟨0, 0, 0, 0⟩)
def llF (k : Nat) : Stmt := (forBody (llW 1)).getD k (.Pass ⟨0, 0, 0, 0⟩)

/-- the schools that let pupil i in, in its order -/
def freeT (c : Cfg) (mk : Nat → Option Nat) (i k : Nat) : List Nat := (List.range k).filter fun t => letB c mk (c.w i t) i

section
variable {prog : Program} {w : World} {A : Around} {E : Value → Shared → Prop} {s : Shared} {c : Cfg} {hs : Heap} {L fa : Addr} {cd : Value} {mk : Nat → Option Nat} {b cb : List (Str × Value)} {i : Nat} {ti : Tok} {aM : Addr}

theorem free_stmt (ok : c.Ok) (hh : A.handled = none) (hu : A.units + 100 < cLine) (Z : Fz c hs) (S : LS hs L (llCs L) b cb s.heap)
    (b1 : b.lookup (Str.ofString "order") = some (.ref (c.wa i))) (c1 : cb.lookup (Str.ofString "i") = some (.int (i : Nat) ti)) (c2 : cb.lookup (Str.ofString "marks") = some (.ref aM)) (c3 : cb.lookup (Str.ofString "ranks") = some (.ref c.aR))
    (hM : s.heap.PlainList aM ((List.range 3).map (mval c mk)).toArray) (hmk : ∀ q, q < 3 → ∀ j, mk q = some j → j < c.n) (hi : i < c.n) {Q : Flow → Shared → Prop}
    (hQ : ∀ h' tk D fv, LS hs L (llCs L) ((Str.ofString "free", .ref D) :: b) cb h' → h'.PlainList D fv.toArray → IntsAre fv ((freeT c mk i 3).map fun t => (c.w i t : Int)) → KN [] s.heap h' → Q .next { s with heap := h', toks := tk }) :
    wpAny (model prog w) A (exec (llF 0) (llEnv L fa cd)) Q E s := by
  have Zs := Z.sub S.sub
  obtain ⟨t0, t1, t2, hwt⟩ := Zs.Wt i hi
  have hz := ok.small
  refine assignComp (cl := [(Str.ofString "ranks", L + 1), (Str.ofString "marks", L + 3), (Str.ofString "i", L + 5)]) rfl rfl (by decide) rfl (by decide) rfl rfl ?_
  refine nm S.F b1 <| wpAny_pyIter_tuple hwt ?_
  have hLlt : L < s.heap.objs.size := by obtain ⟨o, e, _⟩ := S.F.lv.live; exact Heap.lt_size e
  have kpush : Sub s.heap (s.heap.push { cls := .type "tuple_iterator", data := .fields #[.ref (c.wa i), .int 0 0] }) := fun a o e => Heap.get?_push_of_some _ e
  have hfreshI : s.heap.get? s.heap.objs.size = none := Heap.get?_none_of_le (Nat.le_refl _)
  have hwa : c.wa i ≠ s.heap.objs.size := by obtain ⟨o, e, _⟩ := hwt; exact Nat.ne_of_lt (Heap.lt_size e)
  refine ⟨s.heap.objs.size, [s.heap.objs.size], 3, fun _ k ys _ => IntsAre ys ((freeT c mk i k).map fun t => (c.w i t : Int)), b, rfl, fun q => Nat.ne_of_lt hLlt (List.mem_singleton.mp q), S.F.lv.sub fun o e => kpush _ o e, ?_, ?_⟩
  · have W : Walks prog w A s.heap.objs.size [s.heap.objs.size, c.wa i] [s.heap.objs.size] 3 (fun k v => (#[Value.int (c.w i 0) t0, .int (c.w i 1) t1, .int (c.w i 2) t2] : Array Value)[k]? = some v) (fun k h => h.IsTupleIter s.heap.objs.size (c.wa i) k ∧ h.IsTuple (c.wa i) #[Value.int (c.w i 0) t0, .int (c.w i 1) t1, .int (c.w i 2) t2]) := Walks.tuple hh _ (c.wa i) hwa #[Value.int (c.w i 0) t0, .int (c.w i 1) t1, .int (c.w i 2) t2]
    refine Src.name W ?_ rfl rfl ⟨⟨_, Heap.get?_push_size _ rfl, rfl, rfl⟩, hwt.push _⟩ ?_ s.heap kpush (by simpa using hfreshI) (by rw [sizeLine_eq]; decide) (fun _ _ _ _ _ h _ => h) (fun _ _ _ => IntsAre.nil) ?_
    · rintro k h ⟨⟨o, e, _⟩, _⟩ y hy
      rw [List.mem_singleton.mp hy]; exact ⟨o, e⟩
    · intro y hy
      have : (s.heap.push { cls := .type "tuple_iterator", data := .fields #[.ref (c.wa i), .int 0 0] }).objs.size = s.heap.objs.size + 1 := Heap.size_push ..
      show y < (s.heap.push _).objs.size
      rw [this]
      rcases List.mem_cons.mp hy with rfl | hy
      · exact Nat.lt_succ_self _
      · rw [List.mem_singleton.mp hy]
        obtain ⟨o, e, _⟩ := hwt
        exact Nat.lt_succ_of_lt (Heap.lt_size e)
    · intro C D k v ys s₃ E' hk hv hlv hlive hsub hj
      have hk3 : k < 3 := hk
      obtain ⟨q, tq, rfl, hq⟩ : ∃ q tq, v = .int ((q : Nat) : Int) tq ∧ c.w i k = q := by
        rcases lt3 hk3 with rfl | rfl | rfl <;> exact ⟨_, _, (Option.some.inj hv).symm, rfl⟩
      have hq3 : q < 3 := hq ▸ ok.w3 i hi k hk3
      have K1 := cell_sub (S.cell c1 rfl) hsub
      have K2 := cell_sub (S.cell c2 rfl) hsub
      have K3 := cell_sub (S.cell c3 rfl) hsub
      have Z3 := Zs.sub hsub
      have hM3 := (KS.of_sub hsub).list hM
      have hfr : freeT c mk i (k + 1) = freeT c mk i k ++ (if letB c mk q i = true then [k] else []) := by
        unfold freeT
        rw [List.range_succ, List.filter_append, ← hq]
        congr 1
        simp only [List.filter_cons, List.filter_nil]
      have yes : letB c mk q i = true → IntsAre (ys ++ [.int (q : Nat) tq]) ((freeT c mk i (k + 1)).map fun t => (c.w i t : Int)) := fun h => by
        rw [hfr, if_pos h, List.map_append]
        show IntsAre _ (_ ++ [((c.w i k : Nat) : Int)])
        rw [hq]; exact IntsAre.snoc hj
      have no : letB c mk q i = false → IntsAre ys ((freeT c mk i (k + 1)).map fun t => (c.w i t : Int)) := fun h => by
        rw [hfr, h, if_neg (by simp), List.append_nil]; exact hj
      refine wpAny_tests_one <| wpAny_isTrue_BoolOp <| wpAny_allTrue_Or_cons <| wpAny_isTrue_Compare1 <| Subscript_ <| nmK K2 (nmV hlv rfl <| subL hM3 (by omega) (by omega) (get_range _ (by simpa using hq3)) <| wpAny_Constant_none <| is_none <| wpAny_truthy_bool ?_)
      rw [Int.toNat_natCast]
      cases hmq : mk q with
      | none =>
        have e1 : (mval c mk q == Value.none) = true := by simp [mval, hmq]
        rw [e1, if_pos rfl, if_pos rfl]
        exact nmV hlv rfl ⟨⟨_, _, rfl, fun _ _ e => e⟩, yes (letB_none hmq)⟩
      | some j =>
        have hjn := hmk q hq3 j hmq
        have e0 : mval c mk q = .ref (c.T q j) := by simp [mval, hmq]
        have e1 : (mval c mk q == Value.none) = false := by rw [e0]; rfl
        rw [e1, if_neg (by simp)]
        obtain ⟨a1, a2, hT1⟩ := Z3.Rt q hq3 i hi
        obtain ⟨d1, d2, hT2⟩ := Z3.Rt q hq3 j hjn
        refine wpAny_allTrue_Or_cons <| wpAny_isTrue_Compare1 <| Subscript_ <| Subscript_ <| nmK K3 (nmV hlv rfl <| subL Z3.R (by omega) (by omega) (refs_three _ (by simpa using hq3)) ?_)
        rw [Int.toNat_natCast]
        refine nmK K1 (subL (Z3.Rl q hq3) (by omega) (by omega) (refs_range _ (by simpa using hi)) ?_)
        rw [Int.toNat_natCast]
        refine Subscript_ <| nmK K2 (nmV hlv rfl <| subL hM3 (by omega) (by omega) (get_range _ (by simpa using hq3)) ?_)
        rw [Int.toNat_natCast, e0]
        refine tup_le hT1 hT2 (by omega) (wpAny_truthy_bool ?_)
        have e2 : (!rlt ((c.rk q j).1, (c.rk q j).2) ((c.rk q i).1, (c.rk q i).2)) = letB c mk q i := (letB_some hmq).symm
        rw [e2]
        cases hb : letB c mk q i with
        | true =>
          rw [if_pos rfl, if_pos rfl]
          exact nmV hlv rfl ⟨⟨_, _, rfl, fun _ _ e => e⟩, yes hb⟩
        | false =>
          rw [if_neg (by simp)]
          refine wpAny_allTrue_Or_nil ?_
          rw [if_neg (by simp)]
          exact ⟨⟨_, _, rfl, fun _ _ e => e⟩, no hb⟩
  · intro C D h' tk ys fD fC hDC hl hj hlv hk
    have ks : KN [] s.heap h' := fun a o _ e d _ => hk a o (by
      simp only [List.mem_cons, List.not_mem_nil, or_false, not_or]
      refine ⟨fun q => ?_, fun q => by rw [q, hfreshI] at e; cases e⟩
      obtain ⟨o', e', es, ep, d'⟩ := S.F.lv.live
      have q' : a = L := q
      rw [q', e'] at e; cases e; exact d _ _ d') (kpush a o e)
    refine hQ h' tk D ys ⟨⟨hlv, fun a o _ e => ?_, S.F.off⟩, ?_, S.up⟩ hl hj ks
    · have e1 := S.sub a o e
      refine hk a o ?_ (kpush a o e1)
      simp only [List.mem_cons, List.not_mem_nil, or_false, not_or]
      refine ⟨fun q => ?_, fun q => by rw [q, hfreshI] at e1; cases e1⟩
      have q' : a = L := q
      rcases S.F.off with h0 | h0
      · rw [q', h0] at e; cases e
      · cases h0
    · obtain ⟨cm, X, ex⟩ := S.C
      refine ⟨cm, cl_kept X fun x c' o hc' ho => hk c' o ?_ (kpush _ o ho), ex⟩
      simp only [List.mem_cons, List.not_mem_nil, or_false, not_or]
      refine ⟨fun q => ?_, fun q => by rw [q, hfreshI] at ho; cases ho⟩
      have := X.above x c' (mem_of_lookup hc')
      have q' : c' = L := q
      rw [q'] at this
      exact absurd this (Nat.lt_irrefl _)
end
end Mine
end PartL2

section PartL3
open PySem PySem.W PyProof.Rows
set_option Elab.async false
set_option maxRecDepth 100000
set_option maxHeartbeats 4000000
set_option autoImplicit false
namespace Mine

theorem freeT_cases {c : Cfg} {mk : Nat → Option Nat} {i : Nat} : (freeT c mk i 3 = [] ∧ fst c mk i = 3) ∨ ∃ rest, freeT c mk i 3 = fst c mk i :: rest ∧ fst c mk i < 3 := by
  have e : List.range 3 = [0, 1, 2] := rfl
  unfold freeT fst first
  rw [e]
  cases h0 : letB c mk (c.w i 0) i <;> cases h1 : letB c mk (c.w i 1) i <;> cases h2 : letB c mk (c.w i 2) i <;> simp only [List.filter_cons, List.filter_nil, h0, h1, h2] <;> simp

/-- who has asked school q among the first k -/
def askers (c : Cfg) (mk : Nat → Option Nat) (k q : Nat) : List Nat := (List.range k).filter (inS c.w (fst c mk) q)

theorem askers_succ {c : Cfg} {mk : Nat → Option Nat} {k q : Nat} : askers c mk (k + 1) q = askers c mk k q ++ if inS c.w (fst c mk) q k = true then [k] else [] := by
  unfold askers
  rw [List.range_succ, List.filter_append]
  congr 1
  simp only [List.filter_cons, List.filter_nil]

structure Ak (c : Cfg) (hs : Heap) (la : Nat → Addr) (lo aM : Addr) (mk : Nat → Option Nat) (as : Nat → List Nat) (h : Heap) : Prop where
  M : h.PlainList aM ((List.range 3).map (mval c mk)).toArray
  O : h.PlainList lo (refs la [0, 1, 2]).toArray
  A : ∀ q, q < 3 → h.PlainList (la q) (refs (c.T q) (as q)).toArray
  nd : [aM, lo, la 0, la 1, la 2].Nodup
  fr : ∀ x ∈ [aM, lo, la 0, la 1, la 2], hs.get? x = none

section
variable {c : Cfg} {hs h h' : Heap} {la : Nat → Addr} {lo aM : Addr} {mk : Nat → Option Nat} {as : Nat → List Nat}

theorem Ak.keep (K : Ak c hs la lo aM mk as h) (k : KS h h') : Ak c hs la lo aM mk as h' := ⟨k.list K.M, k.list K.O, fun q hq => k.list (K.A q hq), K.nd, K.fr⟩

theorem Ak.ne (K : Ak c hs la lo aM mk as h) {q : Nat} (hq : q < 3) : la q ≠ aM ∧ la q ≠ lo ∧ ∀ p, p < 3 → p ≠ q → la p ≠ la q := by
  have nd := K.nd
  simp only [List.nodup_cons, List.mem_cons, List.not_mem_nil, or_false, not_or, List.nodup_nil, and_true] at nd
  refine ⟨?_, ?_, fun p hp hne => ?_⟩
  · rcases lt3 hq with rfl | rfl | rfl <;> grind
  · rcases lt3 hq with rfl | rfl | rfl <;> grind
  · rcases lt3 hq with rfl | rfl | rfl <;> rcases lt3 hp with rfl | rfl | rfl <;> first | exact absurd rfl hne | grind

theorem Ak.la_fr (K : Ak c hs la lo aM mk as h) {q : Nat} (hq : q < 3) : hs.get? (la q) = none := K.fr _ (by rcases lt3 hq with rfl | rfl | rfl <;> simp)

theorem Ak.set (K : Ak c hs la lo aM mk as h) {q : Nat} (hq : q < 3) (k : Ch [la q] h h') {l : List Nat} (hp : h'.PlainList (la q) (refs (c.T q) l).toArray) : Ak c hs la lo aM mk (upd as q l) h' := by
  obtain ⟨n1, n2, n3⟩ := K.ne hq
  have hus := K.A q hq
  refine ⟨only k hus K.M (Ne.symm n1), only k hus K.O (Ne.symm n2), fun p hp' => ?_, K.nd, K.fr⟩
  by_cases e : p = q
  · subst e; rw [upd_same]; exact hp
  · rw [upd_other _ _ e]; exact only k hus (K.A p hp') (n3 p hp' e)
theorem Ak.congr {as' : Nat → List Nat} (K : Ak c hs la lo aM mk as h) (e : ∀ q, q < 3 → as q = as' q) : Ak c hs la lo aM mk as' h := ⟨K.M, K.O, fun q hq => e q hq ▸ K.A q hq, K.nd, K.fr⟩
end

section
variable {prog : Program} {w : World} {A : Around} {E : Value → Shared → Prop} {s : Shared} {c : Cfg} {hs : Heap} {L fa : Addr} {cd : Value} {mk : Nat → Option Nat} {i : Nat} {ti : Tok} {aM lo : Addr} {la : Nat → Addr} {b cb : List (Str × Value)}

theorem intsL {fv : List Value} {ns : List Int} {k : Nat} {n : Int} (h : IntsAre fv ns) (e : ns[k]? = some n) : ∃ t, fv[k]? = some (.int n t) := by
  induction h generalizing k with
  | nil => simp at e
  | cons m t r ih =>
    cases k with
    | zero => simp at e; subst e; exact ⟨t, rfl⟩
    | succ k => simpa using ih (by simpa using e)

/-- one pupil asks -/
theorem for_turn (ok : c.Ok) (hh : A.handled = none) (hu : A.units + 100 < cLine) (Z : Fz c hs) (S : LS hs L (llCs L) b cb s.heap)
    (b1 : b.lookup (Str.ofString "order") = some (.ref (c.wa i))) (c1 : cb.lookup (Str.ofString "i") = some (.int (i : Nat) ti)) (c2 : cb.lookup (Str.ofString "marks") = some (.ref aM)) (c3 : cb.lookup (Str.ofString "ranks") = some (.ref c.aR)) (c4 : cb.lookup (Str.ofString "asked") = some (.ref lo))
    (K : Ak c hs la lo aM mk (askers c mk i) s.heap) (hmk : ∀ q, q < 3 → ∀ j, mk q = some j → j < c.n) (hi : i < c.n) {Q : Flow → Shared → Prop}
    (hQ : ∀ h' tk v, LS hs L (llCs L) ((Str.ofString "free", v) :: b) cb h' → Ak c hs la lo aM mk (askers c mk (i + 1)) h' → KN [la 0, la 1, la 2] s.heap h' → Q .next { s with heap := h', toks := tk }) :
    wpAny (model prog w) A (execs (forBody (llW 1)) (llEnv L fa cd)) Q E s := by
  have hz := ok.small
  refine wpAny_execs_cons (free_stmt ok hh hu Z S b1 c1 c2 c3 K.M hmk hi fun h1 tk1 D fv S1 hD1 hfv k1 => ?_)
  have K1 := K.keep k1.ks
  refine wpAny_execs_cons <| wpAny_If <| wpAny_isTrue_Compare1 <| nm S1.F rfl <| List_ <| args_nil <| wpAny_newList ?_ (Nat.zero_le _)
  have kp : Sub h1 (h1.push { cls := .type "list", data := .seq ([] : List Value).toArray }) := fun a o e => Heap.get?_push_of_some _ e
  have S2 := S1.grow kp
  have K2 := K1.keep (.of_sub kp)
  have hD2 := (KS.of_sub kp).list hD1
  have k2 : KN [la 0, la 1, la 2] s.heap (h1.push { cls := .type "list", data := .seq ([] : List Value).toArray }) := (k1.mono (by simp)).trans (.of_sub kp)
  have Z2 := Z.sub S2.sub
  refine ke_ne_ints hD2.isList (ys := []) ⟨_, Heap.get?_push_size _ rfl, rfl, 0, rfl⟩ hfv .nil (by omega) (wpAny_truthy_bool ?_)
  rcases freeT_cases (c := c) (mk := mk) (i := i) with ⟨e0, e3⟩ | ⟨rest, e0, e3⟩
  · rw [e0, show (!decide (([] : List Nat).map (fun t => (c.w i t : Int)) = [])) = false by simp, if_neg (by simp)]
    refine wpAny_execs_nil (wpAny_execs_nil (hQ _ _ _ S2 (K2.congr fun q _ => ?_) k2))
    rw [askers_succ, if_neg (by rw [inS_iff]; omega), List.append_nil]
  · rw [e0, show (!decide ((fst c mk i :: rest).map (fun t => (c.w i t : Int)) = [])) = true by simp, if_pos rfl]
    obtain ⟨q, hq⟩ : ∃ q, c.w i (fst c mk i) = q := ⟨_, rfl⟩
    have hq3 : q < 3 := hq ▸ ok.w3 i hi _ e3
    obtain ⟨tq, hf0⟩ : ∃ t, fv[0]? = some (.int (q : Nat) t) := intsL hfv (by rw [e0]; simp [hq])
    have hlen : (askers c mk i q).length ≤ i := by
      unfold askers
      have := List.length_filter_le (inS c.w (fst c mk) q) (List.range i)
      simpa using this
    refine wpAny_execs_cons <| wpAny_Expr_any <| meth1 PySem.F.slot_list_append PySem.F.type_list_append <| Subscript_ <| nmC S2 c4 (Subscript_ <| nm S2.F rfl <| wpAny_Constant_int <| subL hD2 (by omega) (by omega) hf0 <| subL K2.O (by omega) (by omega) (refs_three _ (by simpa using hq3)) ?_) rfl
    rw [Int.toNat_natCast]
    refine ⟨_, _, rfl, K2.A q hq3, args_cons <| Subscript_ <| Subscript_ <| nmC S2 c3 (Subscript_ <| nm S2.F rfl <| wpAny_Constant_int <| subL hD2 (by omega) (by omega) hf0 <| subL Z2.R (by omega) (by omega) (refs_three _ (by simpa using hq3)) ?_) rfl⟩
    rw [Int.toNat_natCast]
    refine nmC S2 c1 (subL (Z2.Rl q hq3) (by omega) (by omega) (refs_range _ (by simpa using hi)) ?_) rfl
    rw [Int.toNat_natCast]
    refine args_nil <| wpAny_list_append_plain (K2.A q hq3) (fun h3 hl3 sb3 => ?_) (by rw [List.size_toArray, refs_length, sizeLine_eq]; omega)
    have el : (refs (c.T q) (askers c mk i q)).toArray.push (.ref (c.T q i)) = (refs (c.T q) (askers c mk i q ++ [i])).toArray := by simp [refs]
    rw [el] at hl3
    have ch3 : Ch [la q] _ h3 := Ch.of_same sb3 (by simp)
    refine wpAny_execs_nil (wpAny_execs_nil (hQ _ _ _ (S2.chg ch3 fun y hy => ?_) ((K2.set hq3 ch3 hl3).congr fun p hp => ?_) (k2.trans ?_)))
    · rw [List.mem_singleton.mp hy]; exact ⟨K2.la_fr hq3, _, K2.A q hq3⟩
    · rw [askers_succ]
      by_cases e : p = q
      · subst e; rw [upd_same, if_pos (by rw [inS_iff]; exact ⟨e3, hq⟩)]
      · rw [upd_other _ _ e, if_neg (by rw [inS_iff, hq]; exact fun h => e h.2.symm), List.append_nil]
    · exact (KN.of_ch ch3).mono fun x hx => by
        rw [List.mem_singleton.mp hx]
        rcases lt3 hq3 with rfl | rfl | rfl <;> simp
end
end Mine
end PartL3

section PartL4
open PySem PySem.W PyProof.Rows
set_option Elab.async false
set_option maxRecDepth 100000
set_option maxHeartbeats 4000000
set_option autoImplicit false
namespace Mine
section
variable {prog : Program} {w : World} {A : Around} {E : Value → Shared → Prop} {s : Shared} {c : Cfg} {hs base : Heap} {mg mb : Str → Option Value} {L fa : Addr} {cd : Value} {mk : Nat → Option Nat} {aM lo : Addr} {la : Nat → Addr}

/-- names and cells between two rounds -/
def lb (c : Cfg) : List (Str × Value) := [(Str.ofString "wishes", .ref c.aW)]
def lcb (c : Cfg) (aM lo : Addr) : List (Str × Value) := [(Str.ofString "asked", .ref lo), (Str.ofString "marks", .ref aM), (Str.ofString "seats", .ref c.aS), (Str.ofString "ranks", .ref c.aR)]

theorem boot_enum' : bootBuiltins (Str.ofString "enumerate") = some (.type "enumerate") := by decide +kernel

theorem ask_loop (ok : c.Ok) (G : Glb base mg mb) (B : Sub base hs) (hh : A.handled = none) (hu : A.units + 100 < cLine) (Z : Fz c hs) (S : LS hs L (llCs L) (lb c) (lcb c aM lo) s.heap)
    (K : Ak c hs la lo aM mk (fun _ => []) s.heap) (hmk : ∀ q, q < 3 → ∀ j, mk q = some j → j < c.n) {Q : Flow → Shared → Prop}
    (hQ : ∀ h' tk, LS hs L (llCs L) (lb c) (lcb c aM lo) h' → Ak c hs la lo aM mk (askers c mk c.n) h' → Q .next { s with heap := h', toks := tk }) :
    wpAny (model prog w) A (exec (llW 1) (llEnv L fa cd)) Q E s := by
  have Zs := Z.sub S.sub
  obtain ⟨nW, eW⟩ := Zs.W
  refine wpAny_For <| Call_ <| nmB (G.keeps fun a o e => S.sub a o (B a o e)) (by decide) boot_enum' (by decide) <| PyProof.Rows.callWith_type1 <| args_cons <| nm S.F rfl <| args_nil <| call_enumerate_1 eW fun h1 he1 hit1 hsz1 k1 => wpAny_pyIter_enum he1 ?_
  generalize hee : s.heap.objs.size + 1 = e at he1 ⊢
  generalize hii : s.heap.objs.size = it at he1 hit1 hsz1 ⊢
  have fresh : ∀ a, s.heap.objs.size ≤ a → s.heap.get? a = none := fun a ha => Heap.get?_none_of_le ha
  have hWlt : c.aW < s.heap.objs.size := Heap.lt_size eW
  have hei : e ≠ it := by omega
  have lte : ∀ a : Addr, a < s.heap.objs.size → a ∉ [e, it] := fun a ha hm => by
    rcases List.mem_cons.mp hm with q | hm
    · rw [q, ← hee] at ha; exact absurd (Nat.lt_of_succ_lt ha) (Nat.lt_irrefl _)
    · rw [List.mem_singleton.mp hm, ← hii] at ha; exact absurd ha (Nat.lt_irrefl _)
  have hle : c.aW ≠ e := fun q => lte c.aW hWlt (by simp [q])
  have hli : c.aW ≠ it := fun q => lte c.aW hWlt (by simp [q])
  have W := WalksT.enumerate (prog := prog) (w := w) hh e it c.aW hei hle hli (refs c.wa (List.range c.n)).toArray
  have hsize : (refs c.wa (List.range c.n)).toArray.size = c.n := by simp [refs_length]
  have S1 := S.grow k1
  have K1 := K.keep (.of_sub k1)
  -- a list of ours is none of the iterator's
  have apart : ∀ {h : Heap} {x : Addr}, hs.get? x = none → (∃ vs, h.PlainList x vs) → (∃ old i, IsEnum h e it i old) → (∃ i, h.IsListIter it c.aW i) → x ∉ [e, it, c.aW] := fun {h x} hx ⟨vs, n, hv⟩ ⟨old, i, he⟩ ⟨j, o, ho, hc, hd⟩ hm => by
    rcases List.mem_cons.mp hm with rfl | hm
    · rw [he] at hv; simp at hv
    · rcases List.mem_cons.mp hm with rfl | hm
      · rw [ho] at hv; cases hv; cases hd
      · rw [List.mem_singleton.mp hm] at hx
        obtain ⟨n', eW'⟩ := Z.W
        rw [hx] at eW'; cases eW'
  refine codeAny_forLoop_any (fun m s' => ∃ h tk k, s' = { s with heap := h, toks := tk } ∧ k ≤ c.n ∧ m = c.n + 1 - k ∧ ((∃ old, IsEnum h e it k old) ∧ h.IsListIter it c.aW k ∧ h.IsList c.aW (refs c.wa (List.range c.n)).toArray) ∧ LS hs L (llCs L) (lb c) (lcb c aM lo) h ∧ Ak c hs la lo aM mk (askers c mk k) h) ?_ (c.n + 1)
    ⟨h1, s.toks, 0, rfl, Nat.zero_le _, rfl, ⟨⟨_, he1⟩, hit1, ⟨_, k1 _ _ eW, rfl, nW, rfl⟩⟩, S1, K1⟩
  rintro m s' ⟨h, tk, k, rfl, hk, rfl, hst, Sh, Kh⟩
  by_cases hlt : k < c.n
  · refine W.item k _ _ _ (by rw [hsize]; exact hlt) hst fun T vals h2 tk2 hPt hTs hT2 hmid2 hk2 => ?_
    obtain ⟨t, v, hv, rfl⟩ := hPt
    have ev : v = .ref (c.wa k) := by
      rw [List.getElem?_toArray, refs_range _ hlt] at hv
      exact (Option.some.inj hv).symm
    subst ev
    have hTw := W.apart _ _ _ hmid2
    refine W.go _ _ _ k T _ _ _ hmid2 fun h3 hst3 hk3 => ?_
    have hT3 : h3.IsTuple T #[.int k t, .ref (c.wa k)] := let ⟨o, e, r⟩ := hT2; ⟨o, hk3 T o hTw e, r⟩
    refine wpAny_assign_Tuple hh hT3 rfl rfl fun h4 hx4 => ?_
    have k4 := sub_of_ext hx4
    have up : Ch [e, it] h h4 := fun a o ha q => k4 a o (hk3 a o ha (hk2 a o ha q))
    have hst4 := W.frame _ _ h4 hst3 fun b _ o q => k4 b o q
    -- the frame, the cells and the lists are none of e, it
    obtain ⟨⟨old, hen⟩, ⟨oi, hoi, hci, hdi⟩, _⟩ := id hst
    have offL : L ∉ [e, it] := fun hm => by
      obtain ⟨o', e', es, ep, d'⟩ := Sh.F.lv.live
      rcases List.mem_cons.mp hm with rfl | hm
      · rw [hen] at e'; cases e'; cases d'
      · rw [List.mem_singleton.mp hm, hoi] at e'; cases e'; rw [hdi] at d'; cases d'
    have S4 : LS hs L (llCs L) (lb c) (lcb c aM lo) h4 := by
      obtain ⟨cm, X, ex⟩ := Sh.C
      refine ⟨⟨Sh.F.lv.sub fun o q => up _ o offL q, fun a o _ q => ?_, Sh.F.off⟩, ⟨cm, cl_kept X fun x c' o hc' ho => up c' o (fun hm => ?_) ho, ex⟩, Sh.up⟩
      · exact up a o (lte a (Heap.lt_size (S.sub a o q))) (Sh.sub a o q)
      · obtain ⟨o', v', e', d'⟩ := cl_live X hc'
        rcases List.mem_cons.mp hm with rfl | hm
        · rw [hen] at e'; cases e'; cases d'
        · rw [List.mem_singleton.mp hm, hoi] at e'; cases e'; rw [hdi] at d'; cases d'
    have K4 : Ak c hs la lo aM mk (askers c mk k) h4 := Kh.keep fun a o xs n q d => up a o (fun hm => by
      rcases List.mem_cons.mp hm with rfl | hm
      · rw [hen] at q; cases q; cases d
      · rw [List.mem_singleton.mp hm, hoi] at q; cases q; rw [hdi] at d; cases d) q
    refine asg_cons <| assign_Name <| stnC S4 (fun h5 S5 k5 => ?_) rfl
    refine asg_cons <| assign_Name <| stnL S5 fun h6 S6 k6 => asg_nil ?_
    have K6 := K4.keep (k5.trans k6).ks
    have frame6 : ∀ {h7 : Heap}, KN [la 0, la 1, la 2] h4 h7 → (∃ old, IsEnum h7 e it (k + 1 : Nat) old) ∧ h7.IsListIter it c.aW (k + 1) ∧ h7.IsList c.aW (refs c.wa (List.range c.n)).toArray := fun {h7} kn => by
      refine W.frame _ _ _ hst4 fun y hy o q => ?_
      obtain ⟨⟨old4, hen4⟩, ⟨oi4, hoi4, hci4, hdi4⟩, ⟨ol4, hol4, hcl4, nl4, hdl4⟩⟩ := id hst4
      have hla : ∀ p, p < 3 → la p ∉ [e, it, c.aW] := fun p hp => apart (h := h4) (Kh.la_fr hp) ⟨_, K4.A p hp⟩ ⟨_, _, hen4⟩ ⟨_, oi4, hoi4, hci4, hdi4⟩
      refine kn y o (fun hm => ?_) q ?_ ?_
      · rcases List.mem_cons.mp hm with q' | hm
        · exact hla 0 (by omega) (q' ▸ hy)
        · rcases List.mem_cons.mp hm with q' | hm
          · exact hla 1 (by omega) (q' ▸ hy)
          · exact hla 2 (by omega) ((List.mem_singleton.mp hm) ▸ hy)
      · intro es ep d
        rcases List.mem_cons.mp hy with rfl | hy
        · rw [hen4] at q; cases q; cases d
        · rcases List.mem_cons.mp hy with rfl | hy
          · rw [hoi4] at q; cases q; rw [hdi4] at d; cases d
          · rw [List.mem_singleton.mp hy, hol4] at q; cases q; rw [hdl4] at d; cases d
      · intro u d
        rcases List.mem_cons.mp hy with rfl | hy
        · rw [hen4] at q; cases q; cases d
        · rcases List.mem_cons.mp hy with rfl | hy
          · rw [hoi4] at q; cases q; rw [hdi4] at d; cases d
          · rw [List.mem_singleton.mp hy, hol4] at q; cases q; rw [hdl4] at d; cases d
    refine for_turn (s := { s with heap := h6, toks := _ }) ok hh hu Z S6 rfl rfl rfl rfl rfl K6 hmk hlt fun h7 tk7 v7 S7 K7 k7 => ?_
    refine ⟨c.n + 1 - (k + 1), by omega, h7, tk7, k + 1, rfl, hlt, rfl, frame6 (((k5.trans k6).mono (by simp)).trans k7), S7.fewer ⟨rfl, trivial⟩ ⟨rfl, rfl, rfl, rfl, trivial⟩, K7⟩
  · have ek : k = c.n := by omega
    subst ek
    refine W.done _ _ _ (by rw [hsize]; exact hst) fun h2 tk2 hk2 => wpAny_execs_nil ?_
    obtain ⟨⟨old, hen⟩, ⟨oi, hoi, hci, hdi⟩, _⟩ := id hst
    have up : Ch [e, it] h h2 := fun a o ha q => hk2 a o ha q
    have offL : L ∉ [e, it] := fun hm => by
      obtain ⟨o', e', es, ep, d'⟩ := Sh.F.lv.live
      rcases List.mem_cons.mp hm with rfl | hm
      · rw [hen] at e'; cases e'; cases d'
      · rw [List.mem_singleton.mp hm, hoi] at e'; cases e'; rw [hdi] at d'; cases d'
    refine hQ h2 tk2 ?_ ?_
    · obtain ⟨cm, X, ex⟩ := Sh.C
      refine ⟨⟨Sh.F.lv.sub fun o q => up _ o offL q, fun a o _ q => ?_, Sh.F.off⟩, ⟨cm, cl_kept X fun x c' o hc' ho => up c' o (fun hm => ?_) ho, ex⟩, Sh.up⟩
      · exact up a o (lte a (Heap.lt_size (S.sub a o q))) (Sh.sub a o q)
      · obtain ⟨o', v', e', d'⟩ := cl_live X hc'
        rcases List.mem_cons.mp hm with rfl | hm
        · rw [hen] at e'; cases e'; cases d'
        · rw [List.mem_singleton.mp hm, hoi] at e'; cases e'; rw [hdi] at d'; cases d'
    · exact Kh.keep fun a o xs n q d => up a o (fun hm => by
        rcases List.mem_cons.mp hm with rfl | hm
        · rw [hen] at q; cases q; cases d
        · rw [List.mem_singleton.mp hm, hoi] at q; cases q; rw [hdi] at d; cases d) q
end
end Mine
end PartL4

section PartC2
open PySem PySem.W PyProof.Rows
set_option Elab.async false
set_option maxRecDepth 100000
set_option maxHeartbeats 4000000
set_option autoImplicit false
namespace Mine

section
variable {prog : Program} {w : World} {A : Around} {E : Value → Shared → Prop} {env : Env} {elt : Expr} {ifs : List Expr} {scope : Scope} {cl : List (Str × Addr)} {n : Nat} {J : List Addr → Nat → List Value → Heap → Prop}

structure Turns (prog : Program) (w : World) (A : Around) (env : Env) (ifs : List Expr) (elt : Expr) (scope : Scope) (cl : List (Str × Addr)) (n : Nat) (Bd : Nat → List (Str × Value) → Prop) (h₁ : Heap) (J : List Addr → Nat → List Value → Heap → Prop) : Prop where
  sz : n ≤ sizeLine
  st : ∀ Z i ys h h', J Z i ys h → Ch Z h h' → J Z i ys h'
  zero : ∀ Z h, Sub h₁ h → J Z 0 [] h
  turn : ∀ X C D i b ys s₃ E', i < n → Bd i b → LV s₃.heap C b → (∀ z ∈ C :: D :: X, ∃ o, s₃.heap.get? z = some o) → Sub h₁ s₃.heap → J (C :: D :: X) i ys s₃.heap → TurnOk prog w A ifs elt (compEnvC scope cl C env) (J (C :: D :: X)) i ys s₃ E'

theorem Turns.src {Bd : Nat → List (Str × Value) → Prop} {h₁ : Heap} {I : Addr} {s₂ : Shared} {target : Expr} {fp wr : List Addr} {St : Nat → Heap → Prop} (T : Turns prog w A env ifs elt scope cl n Bd h₁ J)
    (V : ∀ C, Adv prog w A I target (compEnvC scope cl C env) fp wr n St Bd) (hst : St 0 s₂.heap) (hfp : ∀ b ∈ fp, b < s₂.heap.objs.size) (k12 : Sub h₁ s₂.heap) (hfr : ∀ b ∈ wr, h₁.get? b = none) (X : List Addr) :
    Src prog w A env target ifs elt scope cl I s₂ wr X n J where
  ex := ⟨fp, St, Bd, V, hst, hfp, fun C D i b ys s₃ E' hi hb _ _ hlv hl hk hj => T.turn X C D i b ys s₃ E' hi hb hlv hl (fun a o e => hk a o (fun q => by rw [hfr a q] at e; cases e) (k12 a o e)) hj⟩
  sz := T.sz
  st := T.st
  zero := fun Z h k => T.zero Z h fun a o e => k a o (k12 a o e)

theorem Turns.list {s₁ : Shared} {ax : Addr} {items : Array Value} {x : Str} {px : Pos} {Q : Value → Shared → Prop} (hh : A.handled = none) (hl : s₁.heap.PlainList ax items)
    (T : Turns prog w A env ifs elt scope cl items.size (fun i b => ∃ v, items[i]? = some v ∧ b = [(x, v)]) s₁.heap J) (hx : scope.names.lookup x = some .local) (hkind : scope.kind = .function)
    (hQ : ∀ I h₂, s₁.heap.get? I = none → Sub s₁.heap h₂ → (∀ X, Src prog w A env (.Name x px) ifs elt scope cl I { s₁ with heap := h₂ } [I] X items.size J) → Q (.ref I) { s₁ with heap := h₂ }) :
    wpAny (model prog w) A (pyIter (.ref ax)) Q E s₁ := by
  have hlt : ax < s₁.heap.objs.size := let ⟨_, e⟩ := hl; Heap.lt_size e
  have W := Walks.list (prog := prog) (w := w) hh s₁.heap.objs.size ax (Nat.ne_of_lt hlt) items
  have kp : Sub s₁.heap (s₁.heap.push { cls := .type "list_iterator", data := .fields #[.ref ax, .int 0 0] }) := fun a o e => Heap.get?_push_of_some _ e
  have fI : s₁.heap.get? s₁.heap.objs.size = none := Heap.get?_none_of_le (Nat.le_refl _)
  refine wpAny_pyIter_list hl.isList (hQ _ _ fI kp fun X => T.src (fun C => Adv.name W ?_ (lookup_relabel_local hx) hkind) ⟨⟨_, Heap.get?_push_size _ rfl, rfl, rfl⟩, (hl.at fun o e => kp _ o e).isList⟩ ?_ kp (by simpa using fI) X)
  · rintro k h ⟨⟨o, e, _⟩, _⟩ y hy
    rw [List.mem_singleton.mp hy]; exact ⟨o, e⟩
  · intro y hy
    have hz : (s₁.heap.push { cls := .type "list_iterator", data := .fields #[.ref ax, .int 0 0] }).objs.size = s₁.heap.objs.size + 1 := Heap.size_push ..
    show y < (s₁.heap.push _).objs.size
    rw [hz]
    rcases List.mem_cons.mp hy with rfl | hy
    · exact Nat.lt_succ_self _
    · rw [List.mem_singleton.mp hy]; exact Nat.lt_succ_of_lt hlt

theorem Turns.range {s₁ : Shared} {r : Addr} {x : Str} {px : Pos} {t u v : Tok} {Q : Value → Shared → Prop} (hh : A.handled = none) (hr : IsRange s₁.heap r 0 (n : Int) 1 t u v) (hn : n < 1000000) {h₁ : Heap} (k1 : Sub h₁ s₁.heap)
    (T : Turns prog w A env ifs elt scope cl n (fun i b => ∃ v, (∃ t, v = Value.int (i : Int) t) ∧ b = [(x, v)]) h₁ J) (hx : scope.names.lookup x = some .local) (hkind : scope.kind = .function)
    (hQ : ∀ I h₂, h₁.get? I = none → Sub h₁ h₂ → (∀ X, Src prog w A env (.Name x px) ifs elt scope cl I { s₁ with heap := h₂ } [I] X n J) → Q (.ref I) { s₁ with heap := h₂ }) :
    wpAny (model prog w) A (pyIter (.ref r)) Q E s₁ := by
  have W0 := Walks.range (prog := prog) (w := w) hh s₁.heap.objs.size 0 1 n
  have W : Walks prog w A s₁.heap.objs.size [s₁.heap.objs.size] [s₁.heap.objs.size] n (fun i v => ∃ t, v = Value.int (i : Int) t) _ := ⟨W0.sub, W0.frame, fun i s Q E hi st hQ => W0.item i s Q E hi st fun v h' tk ⟨t, e⟩ => hQ v h' tk ⟨t, by rw [e, Int.zero_add, Int.mul_one]⟩, W0.done, W0.self⟩
  have hsz : Builtin.Range.rangeSize 0 (n : Int) 1 = (n : Int) := by rw [rangeSize_one]; split <;> omega
  refine wpAny_pyIter_range hr (small_one (by omega) (by omega) (by omega) (by omega)) ?_
  rw [hsz]
  have kp : Sub s₁.heap (s₁.heap.push { cls := .type "range_iterator", data := .fields #[rawInt 0, rawInt (n : Int), rawInt 1] }) := fun a o e => Heap.get?_push_of_some _ e
  have fI' : s₁.heap.get? s₁.heap.objs.size = none := Heap.get?_none_of_le (Nat.le_refl _)
  have fI : h₁.get? s₁.heap.objs.size = none := by
    cases e : h₁.get? s₁.heap.objs.size with
    | none => rfl
    | some o => rw [k1 _ _ e] at fI'; cases fI'
  have k2 : Sub h₁ (s₁.heap.push { cls := .type "range_iterator", data := .fields #[rawInt 0, rawInt (n : Int), rawInt 1] }) := fun a o e => kp a o (k1 a o e)
  refine hQ _ _ fI k2 fun X => T.src (fun C => Adv.name W ?_ (lookup_relabel_local hx) hkind) ?_ ?_ k2 (by simpa using fI) X
  · intro k h st y hy
    rw [List.mem_singleton.mp hy]; exact ⟨_, st⟩
  · show IsRangeIter _ _ _ _ _
    simpa using Heap.get?_push_size _ rfl
  · intro y hy
    have hz : (s₁.heap.push { cls := .type "range_iterator", data := .fields #[rawInt 0, rawInt (n : Int), rawInt 1] }).objs.size = s₁.heap.objs.size + 1 := Heap.size_push ..
    show y < (s₁.heap.push _).objs.size
    rw [hz, List.mem_singleton.mp hy]
    exact Nat.lt_succ_self _

/-- enumerate over a list -/
theorem Turns.enum {s₁ : Shared} {ax : Addr} {items : Array Value} {xi xv : Str} {pi pv pt : Pos} {k : Nat} {Q : Value → Shared → Prop} (hh : A.handled = none) (hl : s₁.heap.PlainList ax items)
    (T : Turns prog w A env ifs elt scope cl items.size (fun i b => ∃ t v, items[i]? = some v ∧ b = [(xv, v), (xi, .int i t)]) s₁.heap J) (hxi : scope.names.lookup xi = some .local) (hxv : scope.names.lookup xv = some .local) (hkind : scope.kind = .function)
    (hQ : ∀ I wr h₂, (∀ b ∈ wr, s₁.heap.get? b = none) → Sub s₁.heap h₂ → (∀ X, Src prog w A env (.Tuple [.Name xi pi, .Name xv pv] k pt) ifs elt scope cl I { s₁ with heap := h₂ } wr X items.size J) → Q (.ref I) { s₁ with heap := h₂ }) :
    wpAny (model prog w) A (call (.type "enumerate") [.ref ax]) (fun xv s₂ => wpAny (model prog w) A (pyIter xv) Q E s₂) E s₁ := by
  obtain ⟨nW, eW⟩ := hl
  have hlt : ax < s₁.heap.objs.size := Heap.lt_size eW
  refine call_enumerate_1 eW fun h1 he1 hit1 hsz1 k1 => wpAny_pyIter_enum he1 ?_
  have hle : ax ≠ s₁.heap.objs.size + 1 := Nat.ne_of_lt (Nat.lt_succ_of_lt hlt)
  have hli : ax ≠ s₁.heap.objs.size := Nat.ne_of_lt hlt
  have hei : s₁.heap.objs.size + 1 ≠ s₁.heap.objs.size := Nat.succ_ne_self _
  have fr : ∀ b ∈ [s₁.heap.objs.size + 1, s₁.heap.objs.size], s₁.heap.get? b = none := fun b hb => by
    rcases List.mem_cons.mp hb with rfl | hb
    · exact Heap.get?_none_of_le (Nat.le_succ _)
    · rw [List.mem_singleton.mp hb]; exact Heap.get?_none_of_le (Nat.le_refl _)
  refine hQ _ _ h1 fr k1 fun X => T.src (fun C => Adv.enum hh hei hle hli items (lookup_relabel_local hxi) (lookup_relabel_local hxv) hkind) ⟨⟨_, he1⟩, hit1, ⟨_, k1 _ _ eW, rfl, nW, rfl⟩⟩ ?_ k1 fr X
  intro y hy
  show y < h1.objs.size
  rw [hsz1]
  rcases List.mem_cons.mp hy with rfl | hy
  · exact Nat.lt_succ_self _
  · rcases List.mem_cons.mp hy with rfl | hy
    · exact Nat.lt_succ_of_lt (Nat.lt_succ_self _)
    · rw [List.mem_singleton.mp hy]; exact Nat.lt_succ_of_lt (Nat.lt_succ_of_lt hlt)

theorem fresh_sub {h h' : Heap} (k : Sub h h') {a : Addr} (e : h'.get? a = none) : h.get? a = none := by
  cases q : h.get? a with
  | none => rfl
  | some o => rw [k _ _ q] at e; cases e

theorem listL {s : Shared} {target iter : Expr} {pos : Pos} {Q : Value → Shared → Prop}
    (hclos : closureFor scope env = pure cl) (hcell : ∀ y ∈ scope.names, y.2 ≠ .cell) (hkind : scope.kind = .function) (hnames : ∀ y ∈ scope.names, y.2 = .local → scope.names.lookup y.1 = some .local)
    (h : wpAny (model prog w) A (eval iter env) (fun xv s₁ => wpAny (model prog w) A (pyIter xv) (fun it s₂ => ∃ h₁ I wr n J, it = .ref I ∧ Sub h₁ s₂.heap ∧ (∀ b ∈ wr, h₁.get? b = none) ∧ (∀ X, Src prog w A env target ifs elt scope cl I s₂ wr X n J) ∧
      ∀ C D h' tk ys, h₁.get? D = none → h'.PlainList D ys.toArray → J (C :: D :: wr) n ys h' → Sub h₁ h' → Q (.ref D) { s₂ with heap := h', toks := tk }) E s₁) E s)
    (hs : ∀ x, foldedSetIterable iter env x = pure x := by intro _; rfl) :
    wpAny (model prog w) A (eval (.ListComp elt [⟨target, iter, ifs, 0⟩] scope pos) env) Q E s := by
  refine listComp hclos hcell hkind hnames (wpAny_mono h (fun xv s₁ h₁ => wpAny_mono h₁ (fun it s₂ h₂ => ?_) fun _ _ e => e) fun _ _ e => e) hs
  obtain ⟨h₁, I, wr, n, J, rfl, k, fr, S, hQ⟩ := h₂
  exact ⟨I, wr, n, J, rfl, S wr, fun C D h' tk ys fD fC hDC hl hj hk => hQ C D h' tk ys (fresh_sub k fD) hl hj fun a o e => hk a o (fun q => by rw [fr a q] at e; cases e) (k a o e)⟩

theorem assignL {hs : Heap} {L : Addr} {cs : List (Str × Addr)} {b cb : List (Str × Value)} {s : Shared} {target iter : Expr} {y : Str} {py : Pos} {pos spos : Pos} {Q : Flow → Shared → Prop}
    (hsw : swapsWith (.ListComp elt [⟨target, iter, ifs, 0⟩] scope pos) (some (.Name y py)) spos.line env = pure true) (hL : env.locals = L)
    (hclos : closureFor scope env = pure cl) (hcell : ∀ z ∈ scope.names, z.2 ≠ .cell) (hkind : scope.kind = .function) (hnames : ∀ z ∈ scope.names, z.2 = .local → scope.names.lookup z.1 = some .local)
    (hy : env.kindOf y = some .local) (hp : env.scope.kind = .function)
    (h : wpAny (model prog w) A (eval iter env) (fun xv s₁ => wpAny (model prog w) A (pyIter xv) (fun it s₂ => ∃ h₁ I wr n J, it = .ref I ∧ Sub h₁ s₂.heap ∧ (∀ b ∈ wr, h₁.get? b = none) ∧ LS hs L cs b cb h₁ ∧ (∀ X, Src prog w A env target ifs elt scope cl I s₂ wr X n J) ∧
      ∀ C D h' tk ys, h₁.get? D = none → h'.PlainList D ys.toArray → J (C :: D :: L :: wr) n ys h' → LS hs L cs ((y, .ref D) :: b) cb h' → KN [] h₁ h' → Q .next { s₂ with heap := h', toks := tk }) E s₁) E s)
    (hsi : ∀ x, foldedSetIterable iter env x = pure x := by intro _; rfl) :
    wpAny (model prog w) A (exec (.Assign [.Name y py] (.ListComp elt [⟨target, iter, ifs, 0⟩] scope pos) spos) env) Q E s := by
  subst hL
  refine assignComp hsw hclos hcell hkind hnames hy hp (wpAny_mono h (fun xv s₁ h₁ => wpAny_mono h₁ (fun it s₂ h₂ => ?_) fun _ _ e => e) fun _ _ e => e) hsi
  obtain ⟨h₁, I, wr, n, J, rfl, k, fr, S, Sr, hQ⟩ := h₂
  have offw : ∀ a o, h₁.get? a = some o → a ∉ wr := fun a o e q => by rw [fr a q] at e; cases e
  obtain ⟨oL, eL, esL, epL, dL⟩ := S.F.lv.live
  refine ⟨I, wr, n, J, b, rfl, offw _ _ eL, S.F.lv.sub fun o e => k _ o e, Sr _, fun C D h' tk ys fD fC hDC hl hj hlv hk => hQ C D h' tk ys (fresh_sub k fD) hl hj ⟨⟨hlv, fun a o _ e => ?_, S.F.off⟩, ?_, S.up⟩ fun a o _ e d _ => ?_⟩
  · have e1 := S.sub a o e
    refine hk a o ?_ (k a o e1)
    simp only [List.mem_cons, not_or]
    refine ⟨fun q => ?_, offw a o e1⟩
    rcases S.F.off with h0 | h0
    · rw [q, h0] at e; cases e
    · cases h0
  · obtain ⟨cm, X, ex⟩ := S.C
    refine ⟨cm, cl_kept X fun x c' o hc' ho => hk c' o ?_ (k _ o ho), ex⟩
    simp only [List.mem_cons, not_or]
    refine ⟨fun q => ?_, offw c' o ho⟩
    have := X.above x c' (mem_of_lookup hc')
    rw [q] at this
    exact absurd this (Nat.lt_irrefl _)
  · refine hk a o ?_ (k a o e)
    simp only [List.mem_cons, not_or]
    refine ⟨fun q => ?_, offw a o e⟩
    rw [q, eL] at e; cases e; exact d _ _ dL
end
end Mine
end PartC2

section PartL5
open PySem PySem.W PyProof.Rows
set_option Elab.async false
set_option maxRecDepth 100000
set_option maxHeartbeats 4000000
set_option autoImplicit false
namespace Mine
section
variable {prog : Program} {w : World} {A : Around} {E : Value → Shared → Prop} {s : Shared} {c : Cfg} {hs base : Heap} {mg mb : Str → Option Value} {L fa : Addr} {cd : Value} {mk : Nat → Option Nat} {aM lo : Addr} {la : Nat → Addr}

/-- the cells' names but asked -/
def mcb (c : Cfg) (aM : Addr) : List (Str × Value) := [(Str.ofString "marks", .ref aM), (Str.ofString "seats", .ref c.aS), (Str.ofString "ranks", .ref c.aR)]

theorem asked_stmt (S : LS hs L (llCs L) (lb c) (mcb c aM) s.heap) (hM : s.heap.PlainList aM ((List.range 3).map (mval c mk)).toArray) (hMf : hs.get? aM = none) {Q : Flow → Shared → Prop}
    (hQ : ∀ h' tk la lo, LS hs L (llCs L) (lb c) (lcb c aM lo) h' → Ak c hs la lo aM mk (fun _ => []) h' → Q .next { s with heap := h', toks := tk }) :
    wpAny (model prog w) A (exec (llW 0) (llEnv L fa cd)) Q E s := by
  obtain ⟨N, hN⟩ : ∃ N, N = s.heap.objs.size := ⟨_, rfl⟩
  have sz : ∀ {h : Heap} {o : Obj}, (h.push o).objs.size = h.objs.size + 1 := Heap.size_push ..
  refine wpAny_Assign_Name <| List_ <| args_cons <| List_ <| args_nil <| wpAny_newList ?_ (Nat.zero_le _)
  have k1 : Sub s.heap (s.heap.push { cls := .type "list", data := .seq ([] : List Value).toArray }) := fun a o e => Heap.get?_push_of_some _ e
  have p1 : (s.heap.push { cls := .type "list", data := .seq ([] : List Value).toArray }).PlainList N #[] := hN ▸ ⟨0, Heap.get?_push_size _ rfl⟩
  have z1 : (s.heap.push { cls := .type "list", data := .seq ([] : List Value).toArray }).objs.size = N + 1 := by rw [sz, hN]
  rw [← hN]
  generalize s.heap.push { cls := .type "list", data := .seq ([] : List Value).toArray } = h1 at k1 p1 z1 ⊢
  refine args_cons <| List_ <| args_nil <| wpAny_newList ?_ (Nat.zero_le _)
  have k2 : Sub h1 (h1.push { cls := .type "list", data := .seq ([] : List Value).toArray }) := fun a o e => Heap.get?_push_of_some _ e
  have p2 : (h1.push { cls := .type "list", data := .seq ([] : List Value).toArray }).PlainList (N + 1) #[] := z1 ▸ ⟨0, Heap.get?_push_size _ rfl⟩
  have z2 : (h1.push { cls := .type "list", data := .seq ([] : List Value).toArray }).objs.size = N + 2 := by rw [sz, z1]
  dsimp only
  rw [z1]
  generalize h1.push { cls := .type "list", data := .seq ([] : List Value).toArray } = h2 at k2 p2 z2 ⊢
  refine args_cons <| List_ <| args_nil <| wpAny_newList ?_ (Nat.zero_le _)
  have k3 : Sub h2 (h2.push { cls := .type "list", data := .seq ([] : List Value).toArray }) := fun a o e => Heap.get?_push_of_some _ e
  have p3 : (h2.push { cls := .type "list", data := .seq ([] : List Value).toArray }).PlainList (N + 2) #[] := z2 ▸ ⟨0, Heap.get?_push_size _ rfl⟩
  have z3 : (h2.push { cls := .type "list", data := .seq ([] : List Value).toArray }).objs.size = N + 3 := by rw [sz, z2]
  dsimp only
  rw [z2]
  generalize h2.push { cls := .type "list", data := .seq ([] : List Value).toArray } = h3 at k3 p3 z3 ⊢
  refine args_nil <| wpAny_newList ?_ (by rw [sizeLine_eq]; simp)
  have k4 : Sub h3 (h3.push { cls := .type "list", data := .seq ([.ref N, .ref (N + 1), .ref (N + 2)] : List Value).toArray }) := fun a o e => Heap.get?_push_of_some _ e
  have p4 : (h3.push { cls := .type "list", data := .seq ([.ref N, .ref (N + 1), .ref (N + 2)] : List Value).toArray }).PlainList (N + 3) #[.ref N, .ref (N + 1), .ref (N + 2)] := z3 ▸ ⟨0, Heap.get?_push_size _ rfl⟩
  dsimp only
  rw [z3]
  generalize h3.push { cls := .type "list", data := .seq ([.ref N, .ref (N + 1), .ref (N + 2)] : List Value).toArray } = h4 at k4 p4 ⊢
  have k14 : Sub s.heap h4 := fun a o e => k4 a o (k3 a o (k2 a o (k1 a o e)))
  have S4 := S.grow k14
  refine stnC (c := L + 4) S4 (fun h5 S5 kn => hQ h5 _ (fun q => N + q) (N + 3) (S5.fewer ⟨rfl, trivial⟩ ⟨rfl, rfl, rfl, rfl, trivial⟩) ⟨kn.ks.list ((KS.of_sub k14).list hM), kn.ks.list p4, fun q hq => ?_, ?_, ?_⟩) rfl
  · rcases lt3 hq with rfl | rfl | rfl
    · exact kn.ks.list ((KS.of_sub k4).list ((KS.of_sub k3).list ((KS.of_sub k2).list p1)))
    · exact kn.ks.list ((KS.of_sub k4).list ((KS.of_sub k3).list p2))
    · exact kn.ks.list ((KS.of_sub k4).list p3)
  · have hlt : aM < N := by obtain ⟨n, e⟩ := hM; rw [hN]; exact Heap.lt_size e
    have q0 : aM ≠ N := Nat.ne_of_lt hlt
    have q1 : aM ≠ N + 1 := Nat.ne_of_lt (Nat.lt_succ_of_lt hlt)
    have q2 : aM ≠ N + 2 := Nat.ne_of_lt (Nat.lt_succ_of_lt (Nat.lt_succ_of_lt hlt))
    have q3 : aM ≠ N + 3 := Nat.ne_of_lt (Nat.lt_succ_of_lt (Nat.lt_succ_of_lt (Nat.lt_succ_of_lt hlt)))
    have key : [aM, N + 3, N, N + 1, N + 2].Nodup := by
      simp only [List.nodup_cons, List.mem_cons, List.not_mem_nil, or_false, not_or, List.nodup_nil, and_true]
      have a1 : ∀ i j : Nat, i ≠ j → (N + i : Nat) ≠ N + j := fun i j h e => h (Nat.add_left_cancel e)
      exact ⟨⟨q3, q0, q1, q2⟩, ⟨a1 3 0 (by decide), a1 3 1 (by decide), a1 3 2 (by decide)⟩, ⟨a1 0 1 (by decide), a1 0 2 (by decide)⟩, a1 1 2 (by decide), not_false⟩
    exact key
  · intro x hx
    have old : ∀ i : Nat, hs.get? (N + i) = none := fun i => fresh_sub S.sub (Heap.get?_none_of_le (hN ▸ Nat.le_add_right N i))
    rcases List.mem_cons.mp hx with rfl | hx
    · exact hMf
    · simp only [List.mem_cons, List.not_mem_nil, or_false] at hx
      rcases hx with rfl | rfl | rfl | rfl
      · exact old 3
      · exact old 0
      · exact old 1
      · exact old 2

/-- the sorted lists of those who asked -/
structure So (c : Cfg) (h0 : Heap) (tl : Nat → Addr) (as : Nat → List Nat) (mk : Nat → Option Nat) (k : Nat) (h : Heap) : Prop where
  fr : ∀ q, q < k → h0.get? (tl q) = none
  A : ∀ q, q < k → h.PlainList (tl q) (refs (c.T q) (as q)).toArray
  perm : ∀ q, q < k → (as q).Perm (askers c mk c.n q)
  srt : ∀ q, q < k → (as q).Pairwise (fun x y => rlt (c.rk q x) (c.rk q y) = true)

theorem boot_sorted' : bootBuiltins (Str.ofString "sorted") = some (.builtin "sorted") := by decide +kernel

theorem askers_len {k q : Nat} : (askers c mk k q).length ≤ k := by
  unfold askers
  have := List.length_filter_le (inS c.w (fst c mk) q) (List.range k)
  simpa using this
theorem askers_mem {k q j : Nat} (h : j ∈ askers c mk k q) : j < k := by
  unfold askers at h
  simpa using (List.mem_filter.mp h).1
theorem askers_nodup {k q : Nat} : (askers c mk k q).Nodup := List.Nodup.sublist List.filter_sublist List.nodup_range

theorem inj_of (ok : c.Ok) {q : Nat} {qs : List Nat} (nd : qs.Nodup) : ∀ i j, i < qs.length → j < qs.length → i ≠ j → c.rk q (qs.getD i 0) ≠ c.rk q (qs.getD j 0) := fun i j hi hj hne e => by
  have h1 := ok.id2 q (qs.getD i 0)
  have h2 := ok.id2 q (qs.getD j 0)
  rw [e, h2] at h1
  have e' : qs.getD j 0 = qs.getD i 0 := by omega
  have a1 : qs.getD i 0 = qs[i] := by simp [List.getD, hi]
  have a2 : qs.getD j 0 = qs[j] := by simp [List.getD, hj]
  rw [a1, a2] at e'
  exact hne ((List.getElem_inj nd).mp e'.symm)

theorem sort_stmt (ok : c.Ok) (G : Glb base mg mb) (B : Sub base hs) (hh : A.handled = none) (Z : Fz c hs) (S : LS hs L (llCs L) (lb c) (lcb c aM lo) s.heap)
    (K : Ak c hs la lo aM mk (askers c mk c.n) s.heap) {Q : Flow → Shared → Prop}
    (hQ : ∀ h' tk tl as D, LS hs L (llCs L) (lb c) (lcb c aM D) h' → h'.PlainList aM ((List.range 3).map (mval c mk)).toArray → h'.PlainList D (refs tl [0, 1, 2]).toArray → D ≠ aM → hs.get? D = none → (∀ q, q < 3 → tl q ≠ aM) → So c hs tl as mk 3 h' → Q .next { s with heap := h', toks := tk }) :
    wpAny (model prog w) A (exec (llW 2) (llEnv L fa cd)) Q E s := by
  have hz := ok.small
  refine wpAny_Assign_Name <| listL (cl := []) rfl (by decide) rfl (by decide) <| nmC S rfl ?_ rfl
  refine Turns.list (J := fun Zz k ys h => ∃ tl as, ys = refs tl (List.range k) ∧ (∀ q, q < k → tl q ∉ Zz) ∧ So c s.heap tl as mk k h) hh K.O ⟨?_, ?_, ?_, ?_⟩ rfl rfl fun I h2 fI k2 Sr => ⟨s.heap, I, _, _, _, rfl, k2, by simpa using fI, Sr, fun C D h3 tk ys fD hl hj k3 => ?_⟩
  · rw [sizeLine_eq]; simp [refs_length]
  · rintro Zz i ys h h' ⟨tl, as, e, hn, So1⟩ hc
    exact ⟨tl, as, e, hn, So1.fr, fun q hq => hc.list (So1.A q hq) (hn q hq), So1.perm, So1.srt⟩
  · exact fun Zz h _ => ⟨fun _ => 0, fun _ => [], rfl, fun q hq => absurd hq (Nat.not_lt_zero _), ⟨fun q hq => absurd hq (Nat.not_lt_zero _), fun q hq => absurd hq (Nat.not_lt_zero _), fun q hq => absurd hq (Nat.not_lt_zero _), fun q hq => absurd hq (Nat.not_lt_zero _)⟩⟩
  · rintro X C D i b ys s₃ E' hi ⟨v, hv, rfl⟩ hlv hlive hsub ⟨tl, as, rfl, hn, So1⟩
    have hi3 : i < 3 := by simpa [refs_length] using hi
    have ev : v = .ref (la i) := by
      rw [List.getElem?_toArray, refs_three _ hi3] at hv
      exact (Option.some.inj hv).symm
    subst ev
    have G3 := G.keeps fun a o e => hsub a o (S.sub a o (B a o e))
    have Z3 := Z.sub fun a o e => hsub a o (S.sub a o e)
    refine wpAny_tests_nil ?_
    rw [if_pos rfl]
    refine Call_ <| nmB G3 (by decide) boot_sorted' (by decide) <| PyProof.Rows.callWith_builtin1 <| args_cons <| nmV hlv rfl <| args_nil ?_
    refine sorted_refs (key := c.rk i) ((KS.of_sub hsub).list (K.A i hi3)) (fun j hj => Z3.Rt i hi3 j (askers_mem hj)) (inj_of ok askers_nodup) (by have := askers_len (c := c) (mk := mk) (k := c.n) (q := i); omega) fun D' h' qs' fD' k' hp' hperm hsrt => ⟨⟨_, _, rfl, k'⟩, upd tl i D', upd as i qs', ?_, fun q hq => ?_, fun q hq => ?_, fun q hq => ?_, fun q hq => ?_, fun q hq => ?_⟩
    · rw [List.range_succ]
      unfold refs
      rw [List.map_append]
      congr 1
      · refine List.map_congr_left fun q hq => ?_
        rw [upd_other _ _ (Nat.ne_of_lt (by simpa using hq))]
      · simp [upd_same]
    · by_cases e : q = i
      · subst e; rw [upd_same]
        intro hm
        obtain ⟨o, eo⟩ := hlive _ hm
        rw [fD'] at eo; cases eo
      · rw [upd_other _ _ e]; exact hn q (by omega)
    · by_cases e : q = i
      · subst e; rw [upd_same]; exact fresh_sub hsub fD'
      · rw [upd_other _ _ e]; exact So1.fr q (by omega)
    · by_cases e : q = i
      · subst e; rw [upd_same, upd_same]; exact hp'
      · rw [upd_other _ _ e, upd_other _ _ e]; exact (KS.of_sub k').list (So1.A q (by omega))
    · by_cases e : q = i
      · subst e; rw [upd_same]; exact hperm
      · rw [upd_other _ _ e]; exact So1.perm q (by omega)
    · by_cases e : q = i
      · subst e; rw [upd_same]; exact hsrt
      · rw [upd_other _ _ e]; exact So1.srt q (by omega)
  · obtain ⟨tl, as, e, hn, So1⟩ := hj
    have e3 : ys = refs tl [0, 1, 2] := e
    have hM3 := (KS.of_sub k3).list K.M
    obtain ⟨nM, eM⟩ := id K.M
    have off : ∀ x, s.heap.get? x = none → x ≠ aM := fun x hx q => by rw [q, eM] at hx; cases hx
    refine stnC (c := L + 4) (s := { s with heap := h3, toks := tk }) (S.grow k3) (fun h4 S4 k4 => hQ h4 _ tl as D (S4.fewer ⟨rfl, trivial⟩ ⟨rfl, rfl, rfl, rfl, trivial⟩) (k4.ks.list hM3) (k4.ks.list (e3 ▸ hl)) (off D fD) (fresh_sub S.sub fD) (fun q hq => off _ (So1.fr q hq)) ⟨fun q hq => fresh_sub S.sub (So1.fr q hq), fun q hq => k4.ks.list (So1.A q hq), So1.perm, So1.srt⟩) rfl
end
end Mine
end PartL5

section PartL6
open PySem PySem.W PyProof.Rows
set_option Elab.async false
set_option maxRecDepth 100000
set_option maxHeartbeats 4000000
set_option autoImplicit false
namespace Mine
section
variable {prog : Program} {w : World} {A : Around} {E : Value → Shared → Prop} {s : Shared} {c : Cfg} {hs base : Heap} {mg mb : Str → Option Value} {L fa : Addr} {cd : Value} {mk : Nat → Option Nat} {aM lo : Addr} {tl : Nat → Addr} {as : Nat → List Nat}

/-- the schools with too many -/
def overs (c : Cfg) (as : Nat → List Nat) (k : Nat) : List Nat := (List.range k).filter fun q => decide (c.cap q < (as q).length)
theorem overs_succ {k : Nat} : overs c as (k + 1) = overs c as k ++ if c.cap k < (as k).length then [k] else [] := by
  unfold overs
  rw [List.range_succ, List.filter_append]
  congr 1
  simp only [List.filter_cons, List.filter_nil, decide_eq_true_eq]
theorem mem_overs {k q : Nat} : q ∈ overs c as k ↔ q < k ∧ c.cap q < (as q).length := by simp [overs]
theorem overs_len {k : Nat} : (overs c as k).length ≤ k := by
  unfold overs
  have := List.length_filter_le (fun q => decide (c.cap q < (as q).length)) (List.range k)
  simpa using this

theorem boot_range' : bootBuiltins (Str.ofString "range") = some (.type "range") := by decide +kernel

theorem over_stmt (ok : c.Ok) (G : Glb base mg mb) (B : Sub base hs) (hh : A.handled = none) (Z : Fz c hs) (S : LS hs L (llCs L) (lb c) (lcb c aM lo) s.heap)
    (hM : s.heap.PlainList aM ((List.range 3).map (mval c mk)).toArray) (hO : s.heap.PlainList lo (refs tl [0, 1, 2]).toArray) (K : So c hs tl as mk 3 s.heap) {Q : Flow → Shared → Prop}
    (hQ : ∀ h' tk D vs, LS hs L (llCs L) ((Str.ofString "over", .ref D) :: lb c) (lcb c aM lo) h' → h'.PlainList D vs.toArray → IntsAre vs ((overs c as 3).map fun q : Nat => (q : Int)) → D ≠ aM → KN [] s.heap h' → Q .next { s with heap := h', toks := tk }) :
    wpAny (model prog w) A (exec (llW 3) (llEnv L fa cd)) Q E s := by
  have hz := ok.small
  have Zs := Z.sub S.sub
  obtain ⟨ts, hS⟩ := Zs.S
  have hlen : ∀ q, q < 3 → (as q).length ≤ c.n := fun q hq => by
    rw [(K.perm q hq).length_eq]; exact askers_len
  refine assignL (cs := llCs L) (hs := hs) (b := lb c) (cb := lcb c aM lo) rfl rfl rfl (by decide) rfl (by decide) rfl rfl ?_
  refine Call_ <| nmB (G.keeps fun a o e => S.sub a o (B a o e)) (by decide) boot_range' (by decide) <| PyProof.Rows.callWith_type1 <| args_cons <| wpAny_Constant_int <| args_nil <| call_range_1 ?_
  refine Turns.range (n := 3) (J := fun _ k ys _ => IntsAre ys ((overs c as k).map fun q : Nat => (q : Int))) hh (IsRange.new ..) (by omega) (h₁ := s.heap) (fun a o e => Heap.get?_push_of_some _ e) ⟨?_, ?_, ?_, ?_⟩ rfl rfl fun I h2 fI k2 Sr => ⟨s.heap, I, _, _, _, rfl, k2, by simpa using fI, S, Sr, fun C D h3 tk ys fD hl hj S3 k3 => ?_⟩
  · rw [sizeLine_eq]; decide
  · exact fun _ _ _ _ _ h _ => h
  · exact fun _ _ _ => IntsAre.nil
  · rintro X C D i b ys s₃ E' hi ⟨v, ⟨t, rfl⟩, rfl⟩ hlv hlive hsub hj
    have G3 := G.keeps fun a o e => hsub a o (S.sub a o (B a o e))
    have K1 := cell_sub (S.cell (x := Str.ofString "asked") rfl rfl) hsub
    have K2 := cell_sub (S.cell (x := Str.ofString "seats") rfl rfl) hsub
    have ks := KS.of_sub hsub
    have hl := hlen i hi
    refine wpAny_tests_one <| wpAny_isTrue_Compare1 <| Call_ <| nmB G3 (by decide) boot_len' (by decide) <| PyProof.Rows.callWith_builtin1 <| args_cons <| Subscript_ <| nmK K1 (nmV hlv rfl <| subL (ks.list hO) (by omega) (by omega) (refs_three _ (by simpa using hi)) ?_)
    rw [Int.toNat_natCast]
    refine args_nil <| Calls.call_len_list (ks.list (K.A i hi)).isList (by simp [refs_length]; omega) ?_
    refine Subscript_ <| nmK K2 (nmV hlv rfl <| subL (ks.list hS) (by omega) (by omega) (get_range _ (by simpa using hi)) ?_)
    rw [Int.toNat_natCast]
    refine gt_int <| wpAny_truthy_bool ?_
    have hsz : (((refs (c.T i) (as i)).toArray.size : Nat) : Int) = ((as i).length : Int) := by simp [refs_length]
    by_cases hc : c.cap i < (as i).length
    · rw [show decide (((refs (c.T i) (as i)).toArray.size : Int) > (c.cap i : Int)) = true by rw [hsz]; simpa using hc, if_pos rfl]
      refine nmV hlv rfl ⟨⟨_, _, rfl, fun _ _ e => e⟩, ?_⟩
      show IntsAre _ ((overs c as (i + 1)).map fun q : Nat => (q : Int))
      rw [overs_succ, if_pos hc, List.map_append]
      exact IntsAre.snoc hj
    · rw [show decide (((refs (c.T i) (as i)).toArray.size : Int) > (c.cap i : Int)) = false by rw [hsz]; simpa using hc, if_neg (by simp)]
      refine ⟨⟨_, _, rfl, fun _ _ e => e⟩, ?_⟩
      show IntsAre _ ((overs c as (i + 1)).map fun q : Nat => (q : Int))
      rw [overs_succ, if_neg hc, List.append_nil]
      exact hj
  · refine hQ h3 tk D ys S3 hl hj (fun q => ?_) k3
    obtain ⟨nM, eM⟩ := hM
    rw [q, eM] at fD; cases fD

/-- the mark that a school with too many sets -/
def newMk (c : Cfg) (as : Nat → List Nat) (l : List Nat) (mk : Nat → Option Nat) (q : Nat) : Option Nat := if q ∈ l then some ((as q).getD (c.cap q - 1) 0) else mk q

theorem upd_mval {m : Nat → Option Nat} {q j : Nat} : upd (mval c m) q (.ref (c.T q j)) = mval c (upd m q (some j)) := by
  funext x
  by_cases e : x = q
  · subst e; simp [upd_same, mval]
  · simp only [upd_other _ _ e, mval]

theorem over_for (ok : c.Ok) (hh : A.handled = none) (Z : Fz c hs) {D : Addr} {vs : List Value} (S : LS hs L (llCs L) ((Str.ofString "over", .ref D) :: lb c) (lcb c aM lo) s.heap) (hMf : hs.get? aM = none)
    (hM : s.heap.PlainList aM ((List.range 3).map (mval c mk)).toArray) (hO : s.heap.PlainList lo (refs tl [0, 1, 2]).toArray) (K : So c hs tl as mk 3 s.heap) (hD : s.heap.PlainList D vs.toArray) (hvs : IntsAre vs ((overs c as 3).map fun q : Nat => (q : Int)))
    (hDM : D ≠ aM) (hOM : lo ≠ aM) (htM : ∀ q, q < 3 → tl q ≠ aM) {Q : Flow → Shared → Prop}
    (hQ : ∀ h' tk m, LS hs L (llCs L) (lb c) (lcb c aM lo) h' → h'.PlainList aM ((List.range 3).map (mval c m)).toArray → (∀ q, m q = newMk c as (overs c as 3) mk q) → Q .next { s with heap := h', toks := tk }) :
    wpAny (model prog w) A (exec (llW 5) (llEnv L fa cd)) Q E s := by
  have hz := ok.small
  have hlen : ∀ q, q < 3 → (as q).length ≤ c.n := fun q hq => by
    rw [(K.perm q hq).length_eq]; exact askers_len
  have hvl : vs.length = (overs c as 3).length := by simpa using hvs.length
  refine wpAny_For <| nm S.F rfl <| wpAny_pyIter_list hD.isList ?_
  have kp : Sub s.heap (s.heap.push { cls := .type "list_iterator", data := .fields #[.ref D, .int 0 0] }) := fun a o e => Heap.get?_push_of_some _ e
  have hDlt : D < s.heap.objs.size := let ⟨_, e⟩ := hD; Heap.lt_size e
  have hMlt : aM < s.heap.objs.size := let ⟨_, e⟩ := hM; Heap.lt_size e
  have hDI : D ≠ s.heap.objs.size := Nat.ne_of_lt hDlt
  have hIM : s.heap.objs.size ≠ aM := Ne.symm (Nat.ne_of_lt hMlt)
  have fI : hs.get? s.heap.objs.size = none := fresh_sub S.sub (Heap.get?_none_of_le (Nat.le_refl _))
  generalize hI : s.heap.objs.size = I at hDI hIM fI ⊢
  have W := Walks.list (prog := prog) (w := w) hh I D hDI vs.toArray
  have hst0 : (s.heap.push { cls := .type "list_iterator", data := .fields #[.ref D, .int 0 0] }).IsListIter I D 0 ∧ (s.heap.push { cls := .type "list_iterator", data := .fields #[.ref D, .int 0 0] }).IsList D vs.toArray := ⟨⟨_, hI ▸ Heap.get?_push_size _ rfl, rfl, rfl⟩, ((KS.of_sub kp).list hD).isList⟩
  have ks := KS.of_sub kp
  -- a step of the iterator keeps all
  have step : ∀ {h h' : Heap} {k : Nat} {m : Nat → Option Nat} {b : List (Str × Value)}, h.IsListIter I D k → (∀ b o, b ∉ [I] → h.get? b = some o → h'.get? b = some o) → LS hs L (llCs L) b (lcb c aM lo) h → h.PlainList aM ((List.range 3).map (mval c m)).toArray → h.PlainList lo (refs tl [0, 1, 2]).toArray → So c hs tl as mk 3 h →
      LS hs L (llCs L) b (lcb c aM lo) h' ∧ h'.PlainList aM ((List.range 3).map (mval c m)).toArray ∧ h'.PlainList lo (refs tl [0, 1, 2]).toArray ∧ So c hs tl as mk 3 h' := fun {h h' k m b} hit up Sh h1 h2 h3 => by
    obtain ⟨oi, hoi, hci, hdi⟩ := hit
    have nl : ∀ {x : Addr} {us : Array Value}, h.PlainList x us → x ∉ [I] := fun {x us} hx hm => by
      obtain ⟨n, e⟩ := hx
      rw [List.mem_singleton.mp hm, hoi] at e; cases e; cases hdi
    have kl : ∀ {x : Addr} {us : Array Value}, h.PlainList x us → h'.PlainList x us := fun {x us} hx => hx.at fun o e => up x o (nl hx) e
    obtain ⟨cm, X, ex⟩ := Sh.C
    refine ⟨⟨⟨Sh.F.lv.sub fun o q => up _ o (fun hm => ?_) q, fun a o _ q => ?_, Sh.F.off⟩, ⟨cm, cl_kept X fun x c' o hc' ho => up c' o (fun hm => ?_) ho, ex⟩, Sh.up⟩, kl h1, kl h2, h3.fr, fun q hq => kl (h3.A q hq), h3.perm, h3.srt⟩
    · obtain ⟨o', e', es, ep, d'⟩ := Sh.F.lv.live
      rw [List.mem_singleton.mp hm, hoi] at e'; cases e'; rw [hdi] at d'; cases d'
    · refine up a o (fun hm => ?_) (Sh.sub a o q)
      rw [List.mem_singleton.mp hm, fI] at q; cases q
    · obtain ⟨o', v', e', d'⟩ := cl_live X hc'
      rw [List.mem_singleton.mp hm, hoi] at e'; cases e'; rw [hdi] at d'; cases d'
  refine codeAny_forLoop_any (fun m' s' => ∃ h tk k m, s' = { s with heap := h, toks := tk } ∧ k ≤ vs.length ∧ m' = vs.length + 1 - k ∧ (h.IsListIter I D k ∧ h.IsList D vs.toArray) ∧ LS hs L (llCs L) (lb c) (lcb c aM lo) h ∧ h.PlainList aM ((List.range 3).map (mval c m)).toArray ∧ h.PlainList lo (refs tl [0, 1, 2]).toArray ∧ So c hs tl as mk 3 h ∧ ∀ q, m q = newMk c as ((overs c as 3).take k) mk q) ?_ (vs.length + 1)
    ⟨_, s.toks, 0, mk, rfl, Nat.zero_le _, rfl, hst0, (S.grow kp).fewer ⟨rfl, trivial⟩ ⟨rfl, rfl, rfl, rfl, trivial⟩, ks.list hM, ks.list hO, ⟨K.fr, fun q hq => ks.list (K.A q hq), K.perm, K.srt⟩, fun q => by simp [newMk]⟩
  rintro m' s' ⟨h, tk, k, m, rfl, hk, rfl, hst, Sh, hMh, hOh, Kh, hm⟩
  by_cases hlt : k < vs.length
  · refine W.item k _ _ _ (by simpa using hlt) hst fun v h1 tk1 hv hst1 up1 => ?_
    obtain ⟨S1, hM1, hO1, K1⟩ := step hst.1 up1 Sh hMh hOh Kh
    obtain ⟨q, hq⟩ : ∃ q, (overs c as 3)[k]? = some q := ⟨_, List.getElem?_eq_getElem (by omega)⟩
    obtain ⟨t, et⟩ := intsL hvs (k := k) (n := (q : Int)) (by rw [List.getElem?_map, hq]; rfl)
    have ev : v = .int (q : Nat) t := by
      rw [List.getElem?_toArray, et] at hv
      exact (Option.some.inj hv).symm
    subst ev
    have hqm : q ∈ overs c as 3 := List.mem_of_getElem? hq
    obtain ⟨hq3, hcap⟩ := mem_overs.mp hqm
    have hc1 := ok.capl q hq3
    refine wpAny_of_eq (show letOwnedTupleGo (.Name (Str.ofString "s") _) (.ref I) (.int (q : Nat) t) = pure () from rfl) ?_
    refine assign_Name <| stnL S1 fun h2 S2 k2 => ?_
    obtain ⟨ts, hS⟩ := (Z.sub S2.sub).S
    refine wpAny_execs_cons <| wpAny_Assign_Subscript <| Subscript_ <| Subscript_ <| nmC S2 rfl (nm S2.F rfl <| subL (k2.ks.list hO1) (by omega) (by omega) (refs_three _ (by simpa using hq3)) ?_) rfl
    rw [Int.toNat_natCast]
    refine wpAny_BinOp <| Subscript_ <| nmC S2 rfl (nm S2.F rfl <| subL hS (by omega) (by omega) (get_range _ (by simpa using hq3)) ?_) rfl
    rw [Int.toNat_natCast]
    have hge : ((as q).map fun j => Value.ref (c.T q j))[((c.cap q : Int) - 1).toNat]? = some (.ref (c.T q ((as q).getD (c.cap q - 1) 0))) := by
      have e1 : ((c.cap q : Int) - 1).toNat = c.cap q - 1 := by omega
      rw [e1, List.getElem?_map]
      have : c.cap q - 1 < (as q).length := by omega
      simp [List.getD, this]
    have hcs := ok.caph q hq3
    refine wpAny_Constant_int <| sub_int <| subL (k2.ks.list (K1.A q hq3)) (by omega) (by omega) hge ?_
    refine nmC S2 rfl (nm S2.F rfl <| setL (k2.ks.list hM1) (by omega) (by omega) (by simp; omega) fun h3 hl3 sb3 => ?_) rfl
    rw [Int.toNat_natCast, set_range, upd_mval] at hl3
    have ch3 : Ch [aM] h2 h3 := Ch.of_same sb3 (by simp)
    have S3 := S2.chg ch3 fun y hy => by rw [List.mem_singleton.mp hy]; exact ⟨hMf, _, k2.ks.list hM1⟩
    refine wpAny_execs_nil ⟨_, (by omega : vs.length + 1 - (k + 1) < vs.length + 1 - k), h3, _, k + 1, _, rfl, hlt, rfl, ?_, S3.fewer ⟨rfl, trivial⟩ ⟨rfl, rfl, rfl, rfl, trivial⟩, hl3, ch3.list (k2.ks.list hO1) (by simpa using hOM), ⟨K1.fr, fun p hp => ch3.list (k2.ks.list (K1.A p hp)) (by simpa using htM p hp), K1.perm, K1.srt⟩, fun p => ?_⟩
    · refine W.frame _ _ _ hst1 fun y hy o e => sb3.extBut y o (fun q' => ?_) (k2 y o (by simp) e ?_ ?_)
      · rcases List.mem_cons.mp hy with rfl | hy
        · exact hIM q'
        · rw [List.mem_singleton.mp hy] at q'; exact hDM q'
      · intro es ep d
        obtain ⟨⟨oi, hoi, hci, hdi⟩, ⟨ol, hol, hcl, nl, hdl⟩⟩ := id hst1
        rcases List.mem_cons.mp hy with rfl | hy
        · rw [hoi] at e; cases e; rw [hdi] at d; cases d
        · rw [List.mem_singleton.mp hy, hol] at e; cases e; rw [hdl] at d; cases d
      · intro u d
        obtain ⟨⟨oi, hoi, hci, hdi⟩, ⟨ol, hol, hcl, nl, hdl⟩⟩ := id hst1
        rcases List.mem_cons.mp hy with rfl | hy
        · rw [hoi] at e; cases e; rw [hdi] at d; cases d
        · rw [List.mem_singleton.mp hy, hol] at e; cases e; rw [hdl] at d; cases d
    · have et : (overs c as 3).take (k + 1) = (overs c as 3).take k ++ [q] := by rw [List.take_add_one, hq]; rfl
      unfold newMk
      rw [et]
      by_cases e : p = q
      · subst e; rw [upd_same, if_pos (by simp)]
      · rw [upd_other _ _ e, hm p]
        unfold newMk
        simp [e]
  · have ek : k = vs.length := by omega
    subst ek
    refine W.done _ _ _ (by simpa using hst) fun h1 tk1 up1 => wpAny_execs_nil ?_
    obtain ⟨S1, hM1, hO1, K1⟩ := step hst.1 up1 Sh hMh hOh Kh
    refine hQ h1 tk1 m S1 hM1 fun q => ?_
    rw [hm q, hvl, List.take_length]
end
end Mine
end PartL6

section PartL7
open PySem PySem.W PyProof.Rows
set_option Elab.async false
set_option maxRecDepth 100000
set_option maxHeartbeats 4000000
set_option autoImplicit false
namespace Mine

/- the round, in plain -/
section
variable {c : Cfg} {mk m : Nat → Option Nat} {as : Nat → List Nat}

theorem askers_iff {k q j : Nat} : j ∈ askers c mk k q ↔ j < k ∧ inS c.w (fst c mk) q j = true := by simp [askers]

theorem cut_facts (P : ∀ q, q < 3 → (as q).Perm (askers c mk c.n q)) (srt : ∀ q, q < 3 → (as q).Pairwise (fun x y => rlt (c.rk q x) (c.rk q y) = true))
    {q : Nat} (hq : q < 3) (hc : 0 < c.cap q) (ho : c.cap q < (as q).length) {j : Nat} (hj : (as q).getD (c.cap q - 1) 0 = j) :
    j ∈ askers c mk c.n q ∧ c.cap q ≤ cnt c.n (fun x => inS c.w (fst c mk) q x && !rlt (c.rk q j) (c.rk q x)) ∧ ∃ i, i ∈ askers c mk c.n q ∧ rlt (c.rk q j) (c.rk q i) = true := by
  have hp := P q hq
  have hs := srt q hq
  have h1 : c.cap q - 1 < (as q).length := by omega
  have ej : (as q)[c.cap q - 1] = j := by rw [← hj]; simp [List.getD, h1]
  have hnd : (as q).Nodup := (hp.nodup_iff).mpr askers_nodup
  have lt_of : ∀ a b (ha : a < b) (hb : b < (as q).length), rlt (c.rk q ((as q)[a]'(by omega))) (c.rk q (as q)[b]) = true := fun a b ha hb => List.pairwise_iff_getElem.mp hs a b (by omega) hb ha
  refine ⟨hp.mem_iff.mp (ej ▸ List.getElem_mem h1), ?_, (as q)[c.cap q], hp.mem_iff.mp (List.getElem_mem ho), ?_⟩
  · have hl : c.cap q ≤ ((as q).take (c.cap q)).length := by rw [List.length_take]; omega
    refine Nat.le_trans (cnt_of_full (n := c.n) (cap := c.cap) (s := q) (hnd.sublist (List.take_sublist _ _)) (fun x hx => askers_mem (hp.mem_iff.mp (List.mem_of_mem_take hx))) hl) (cnt_mono fun x _ hx => ?_)
    have hx' : x ∈ (as q).take (c.cap q) := by simpa using hx
    have hxa := askers_iff.mp (hp.mem_iff.mp (List.mem_of_mem_take hx'))
    obtain ⟨a, ha, ea⟩ := List.mem_iff_getElem.mp hx'
    have ha' : a < c.cap q := by rw [List.length_take] at ha; omega
    rw [List.getElem_take] at ea
    rw [hxa.2, Bool.true_and, Bool.not_eq_true']
    by_cases e : a = c.cap q - 1
    · subst e; rw [← ea, ej]; exact rlt_irrefl _
    · have := lt_of a (c.cap q - 1) (by omega) h1
      rw [ea, ej] at this
      exact rlt_asymm this
  · have := lt_of (c.cap q - 1) (c.cap q) (by omega) ho
    rwa [ej] at this

theorem round_plain (ok : c.Ok) (M : MK c.n c.w c.rk c.cap (mkR c mk)) (hmk : ∀ q, q < 3 → ∀ j, mk q = some j → j < c.n) (P : ∀ q, q < 3 → (as q).Perm (askers c mk c.n q)) (srt : ∀ q, q < 3 → (as q).Pairwise (fun x y => rlt (c.rk q x) (c.rk q y) = true))
    (hm : ∀ q, m q = newMk c as (overs c as 3) mk q) (hne : overs c as 3 ≠ []) :
    MK c.n c.w c.rk c.cap (mkR c m) ∧ (∀ q, q < 3 → ∀ j, m q = some j → j < c.n) ∧ sumTo c.n (fst c mk) < sumTo c.n (fst c m) := by
  have same : ∀ q, q < 3 → q ∉ overs c as 3 → m q = mk q := fun q _ h => by rw [hm q]; simp [newMk, h]
  have new : ∀ q, q ∈ overs c as 3 → ∃ j, m q = some j ∧ (as q).getD (c.cap q - 1) 0 = j := fun q h => ⟨_, by rw [hm q]; simp [newMk, h], rfl⟩
  have hstep : ∀ s, s < 3 → mkR c m s = mkR c mk s ∨ ∃ r, mkR c m s = some r ∧ c.cap s ≤ cnt c.n (fun j => inS c.w (fst c mk) s j && !rlt r (c.rk s j)) ∧ ∀ m', mkR c mk s = some m' → rlt m' r = false := fun s hs => by
    by_cases h : s ∈ overs c as 3
    · right
      obtain ⟨j, e1, e2⟩ := new s h
      obtain ⟨a1, a2, _⟩ := cut_facts P srt hs (ok.capl s hs) (mem_overs.mp h).2 e2
      refine ⟨c.rk s j, by simp [mkR, e1], a2, fun m' hm' => ?_⟩
      obtain ⟨h3, hw⟩ := (inS_iff _).mp (askers_iff.mp a1).2
      have hl := first_lets h3
      rw [hw] at hl
      unfold lets at hl
      rw [hm'] at hl
      simpa using hl
    · left
      simp [mkR, same s hs h]
  refine ⟨M.round ok.w3 hstep, fun q hq j hj => ?_, ?_⟩
  · by_cases h : q ∈ overs c as 3
    · obtain ⟨j', e1, e2⟩ := new q h
      rw [hj] at e1; cases e1
      exact askers_mem (cut_facts P srt hq (ok.capl q hq) (mem_overs.mp h).2 e2).1
    · exact hmk q hq j (same q hq h ▸ hj)
  · obtain ⟨q, hq⟩ := List.exists_mem_of_ne_nil _ hne
    obtain ⟨hq3, ho⟩ := mem_overs.mp hq
    obtain ⟨j, e1, e2⟩ := new q hq
    obtain ⟨_, _, i, a3, a4⟩ := cut_facts P srt hq3 (ok.capl q hq3) ho e2
    obtain ⟨hi, hin⟩ := askers_iff.mp a3
    exact first_falls (rk := c.rk) ok.w3 (fun s hs => (hstep s hs).imp id fun ⟨r, b1, _, b3⟩ => ⟨r, b1, b3⟩) hi hin (by simp [mkR, e1] : mkR c m q = some (c.rk q j)) a4

theorem room_plain (P : ∀ q, q < 3 → (as q).Perm (askers c mk c.n q)) (he : overs c as 3 = []) : ∀ q, q < 3 → cnt c.n (inS c.w (fst c mk) q) ≤ c.cap q := fun q hq => by
  have h : ¬ q ∈ overs c as 3 := by rw [he]; simp
  rw [mem_overs] at h
  rw [← cnt_filter]
  have : (as q).length = ((List.range c.n).filter (inS c.w (fst c mk) q)).length := (P q hq).length_eq
  omega
end

section
variable {prog : Program} {w : World} {A : Around} {E : Value → Shared → Prop} {s : Shared} {c : Cfg} {hs base : Heap} {mg mb : Str → Option Value} {L fa : Addr} {cd : Value} {mk : Nat → Option Nat} {aM : Addr}

/-- what _law_left hands back -/
structure Left (c : Cfg) (hs : Heap) (D : Addr) (mk : Nat → Option Nat) (tl : Nat → Addr) (as : Nat → List Nat) (h : Heap) : Prop where
  sub : Sub hs h
  O : h.PlainList D (refs tl [0, 1, 2]).toArray
  K : So c hs tl as mk 3 h
  M : MK c.n c.w c.rk c.cap (mkR c mk)
  room : ∀ q, q < 3 → cnt c.n (inS c.w (fst c mk) q) ≤ c.cap q

/-- between two rounds -/
structure Rd (c : Cfg) (hs : Heap) (L aM : Addr) (mk : Nat → Option Nat) (h : Heap) : Prop where
  S : LS hs L (llCs L) (lb c) (mcb c aM) h
  hM : h.PlainList aM ((List.range 3).map (mval c mk)).toArray
  M : MK c.n c.w c.rk c.cap (mkR c mk)
  lt : ∀ q, q < 3 → ∀ j, mk q = some j → j < c.n

def PostR (c : Cfg) (hs : Heap) (L aM : Addr) (mk : Nat → Option Nat) (s : Shared) (f : Flow) (s' : Shared) : Prop :=
  (∃ h tk m, f = .next ∧ s' = { s with heap := h, toks := tk } ∧ Rd c hs L aM m h ∧ sumTo c.n (fst c mk) < sumTo c.n (fst c m)) ∨
  ∃ h tk D tl as, f = .ret (.ref D) ∧ s' = { s with heap := h, toks := tk } ∧ Left c hs D mk tl as h

theorem one_round (ok : c.Ok) (G : Glb base mg mb) (B : Sub base hs) (hh : A.handled = none) (hu : A.units + 100 < cLine) (Z : Fz c hs) (hMf : hs.get? aM = none) (R : Rd c hs L aM mk s.heap) :
    wpAny (model prog w) A (execs (whileBody' (llSt 1)) (llEnv L fa cd)) (PostR c hs L aM mk s) E s := by
  have hz := ok.small
  refine wpAny_execs_cons <| asked_stmt R.S R.hM hMf fun h1 tk1 la lo S1 K1 => ?_
  refine wpAny_execs_cons <| ask_loop (s := { s with heap := h1, toks := tk1 }) ok G B hh hu Z S1 K1 R.lt fun h2 tk2 S2 K2 => ?_
  refine wpAny_execs_cons <| sort_stmt (s := { s with heap := h2, toks := tk2 }) ok G B hh Z S2 K2 fun h3 tk3 tl as D S3 hM3 hO3 hDM fD htM So3 => ?_
  refine wpAny_execs_cons <| over_stmt (s := { s with heap := h3, toks := tk3 }) ok G B hh Z S3 hM3 hO3 So3 fun h4 tk4 Do vs S4 hDo hvs hDoM k4 => ?_
  have ks4 := k4.ks
  have So4 : So c hs tl as mk 3 h4 := ⟨So3.fr, fun q hq => ks4.list (So3.A q hq), So3.perm, So3.srt⟩
  refine wpAny_execs_cons <| wpAny_If <| wpAny_isTrue_Compare1 <| nm S4.F rfl <| List_ <| args_nil <| wpAny_newList ?_ (Nat.zero_le _)
  have kp : Sub h4 (h4.push { cls := .type "list", data := .seq ([] : List Value).toArray }) := fun a o e => Heap.get?_push_of_some _ e
  have S5 := S4.grow kp
  have ks5 := KS.of_sub kp
  refine ke_eq_ints (ks5.list hDo).isList (ys := []) ⟨_, Heap.get?_push_size _ rfl, rfl, 0, rfl⟩ hvs .nil (by omega) (wpAny_truthy_bool ?_)
  have So5 : So c hs tl as mk 3 (h4.push { cls := .type "list", data := .seq ([] : List Value).toArray }) := ⟨So4.fr, fun q hq => ks5.list (So4.A q hq), So4.perm, So4.srt⟩
  by_cases he : overs c as 3 = []
  · rw [he, show decide (([] : List Nat).map (fun q : Nat => (q : Int)) = []) = true by simp, if_pos rfl]
    refine wpAny_execs_cons <| wpAny_Return_some <| nmC S5 rfl ?_ rfl
    exact .inr ⟨_, _, D, tl, as, rfl, rfl, S5.sub, ks5.list (ks4.list hO3), So5, R.M, room_plain So5.perm he⟩
  · rw [show decide ((overs c as 3).map (fun q : Nat => (q : Int)) = []) = false by simpa using he, if_neg (by simp)]
    refine wpAny_execs_nil <| wpAny_execs_cons <| over_for (s := { s with heap := _, toks := tk4 }) ok hh Z S5 hMf (ks5.list (ks4.list hM3)) (ks5.list (ks4.list hO3)) So5 (ks5.list hDo) hvs hDoM hDM htM fun h6 tk6 m S6 hM6 hm => wpAny_execs_nil ?_
    obtain ⟨r1, r2, r3⟩ := round_plain ok R.M R.lt So5.perm So5.srt hm he
    exact .inl ⟨h6, tk6, m, rfl, rfl, ⟨S6.fewer ⟨rfl, trivial⟩ ⟨rfl, rfl, rfl, trivial⟩, hM6, r1, r2⟩, r3⟩

theorem rounds (ok : c.Ok) (G : Glb base mg mb) (B : Sub base hs) (hh : A.handled = none) (hu : A.units + 100 < cLine) (Z : Fz c hs) (hMf : hs.get? aM = none) (R : Rd c hs L aM mk s.heap) {Q : Flow → Shared → Prop}
    (hQ : ∀ h tk D mk tl as, Left c hs D mk tl as h → Q (.ret (.ref D)) { s with heap := h, toks := tk }) :
    wpAny (model prog w) A (exec (llSt 1) (llEnv L fa cd)) Q E s := by
  refine wpAny_While (codeAny_whileLoop (fun k s' => ∃ h tk mk, s' = { s with heap := h, toks := tk } ∧ k = 3 * c.n - sumTo c.n (fst c mk) ∧ Rd c hs L aM mk h) ?_ _ ⟨s.heap, s.toks, mk, rfl, rfl, R⟩)
  rintro k s' ⟨h, tk, mk, rfl, rfl, R⟩
  refine wpAny_isTrue_value <| wpAny_Constant_bool <| wpAny_truthy_bool ?_
  rw [if_pos rfl]
  refine wpAny_mono (one_round (s := { s with heap := h, toks := tk }) ok G B hh hu Z hMf R) (fun f s' hp => ?_) fun _ _ x => x
  rcases hp with ⟨h', tk', m, rfl, rfl, R', hlt⟩ | ⟨h', tk', D, tl, as, rfl, rfl, Lf⟩
  · refine ⟨_, ?_, h', tk', m, rfl, rfl, R'⟩
    have hb : sumTo c.n (fst c m) ≤ c.n * 3 := sumTo_bound fun i _ => first_le3
    omega
  · exact hQ h' tk' D mk tl as Lf

theorem marks_stmt (S : LS hs L (llCs L) (lb c) [(Str.ofString "seats", .ref c.aS), (Str.ofString "ranks", .ref c.aR)] s.heap) {Q : Flow → Shared → Prop}
    (hQ : ∀ h tk aM, hs.get? aM = none → Rd c hs L aM (fun _ => none) h → Q .next { s with heap := h, toks := tk }) :
    wpAny (model prog w) A (exec (llSt 0) (llEnv L fa cd)) Q E s := by
  refine wpAny_Assign_Name <| List_ <| args_cons <| wpAny_Constant_none <| args_cons <| wpAny_Constant_none <| args_cons <| wpAny_Constant_none <| args_nil <| wpAny_newList ?_ (by rw [sizeLine_eq]; simp)
  have kp : Sub s.heap (s.heap.push { cls := .type "list", data := .seq ([.none, .none, .none] : List Value).toArray }) := fun a o e => Heap.get?_push_of_some _ e
  have fN : hs.get? s.heap.objs.size = none := fresh_sub S.sub (Heap.get?_none_of_le (Nat.le_refl _))
  have hl : (s.heap.push { cls := .type "list", data := .seq ([.none, .none, .none] : List Value).toArray }).PlainList s.heap.objs.size ([.none, .none, .none] : List Value).toArray := ⟨0, Heap.get?_push_size _ rfl⟩
  refine stnC (c := L + 3) (s := { s with heap := _ }) (S.grow kp) (fun h1 S1 k1 => hQ h1 _ _ fN ⟨S1.fewer ⟨rfl, trivial⟩ ⟨rfl, rfl, rfl, trivial⟩, k1.ks.list hl, ?_, fun _ _ _ h => by cases h⟩) rfl
  exact MK.start

theorem left_call {R : Result → Shared → Prop} (ok : c.Ok) (G : Glb base mg mb) (B : Sub base s.heap) (Z : Fz c s.heap) (hf : Fn s.heap fa (Str.ofString "_law_left") 5) (hh : A.handled = none) (hroom : A.depth < recursionLimit) (hu : A.units + 200 < cLine)
    (hR : ∀ h tk D mk tl as, Left c s.heap D mk tl as h → R (.ok (.ret (.ref D))) { s with heap := h, toks := tk }) :
    codeAny (model prog w) A (.call (.ref fa) ⟨[.ref c.aW, .ref c.aR, .ref c.aS], []⟩) R s := by
  obtain ⟨o, pm, cd, doc, ho, hd, hc⟩ := hf.ex
  refine call_cells_ret (binds := [(Str.ofString "wishes", .ref c.aW), (Str.ofString "ranks", .ref c.aR), (Str.ofString "seats", .ref c.aS)]) hroom ho hd (G.nolimit.keeps B) hc rfl ?_ (fun h₁ tk F₁ X₁ => ?_) rfl rfl rfl
  · intro x hx
    simp only [List.mem_cons, List.not_mem_nil, or_false] at hx
    rcases hx with rfl | rfl | rfl
    · exact .inl rfl
    · exact .inr ⟨rfl, rfl⟩
    · exact .inr ⟨rfl, rfl⟩
  have fN : ∀ x, s.heap.objs.size ≤ x → s.heap.get? x = none := fun x hx => Heap.get?_none_of_le hx
  have S : LS s.heap s.heap.objs.size (llCs s.heap.objs.size) (lb c) [(Str.ofString "seats", .ref c.aS), (Str.ofString "ranks", .ref c.aR)] h₁ := by
    refine ⟨⟨⟨_, F₁.ns, fun x v e => ?_⟩, Ch.of_sub F₁.keep, .inl (fN _ (Nat.le_refl _))⟩, ⟨_, X₁, fun x v e => ?_⟩, fun x c' hm => fN _ (Nat.le_of_lt (X₁.above x c' hm))⟩
    · have k : Knows [(Str.ofString "wishes", Value.ref c.aW)] [(Str.ofString "wishes", Value.ref c.aW)] := ⟨rfl, trivial⟩
      unfold lb at e
      rw [List.lookup_cons] at e
      cases q : x == Str.ofString "wishes" with
      | true => rw [q] at e; cases e; rw [beq_iff_eq.mp q]; rfl
      | false => rw [q] at e; cases e
    · rw [List.lookup_cons] at e
      cases q : x == Str.ofString "seats" with
      | true => rw [q] at e; cases e; rw [beq_iff_eq.mp q]; rfl
      | false =>
        rw [q] at e
        simp only at e
        rw [List.lookup_cons] at e
        cases q' : x == Str.ofString "ranks" with
        | true => rw [q'] at e; cases e; rw [beq_iff_eq.mp q']; rfl
        | false => rw [q'] at e; cases e
  have hU : (A.deeper (envOfC (Str.ofString "_law_left") (scopeOf (fnAt 5)) s.heap.objs.size fa cd)).units + 100 < cLine := by
    show A.units + 3 + 100 < cLine
    omega
  have hH : (A.deeper (envOfC (Str.ofString "_law_left") (scopeOf (fnAt 5)) s.heap.objs.size fa cd)).handled = none := hh
  generalize A.deeper (envOfC (Str.ofString "_law_left") (scopeOf (fnAt 5)) s.heap.objs.size fa cd) = A' at hU hH ⊢
  refine wpAny_execs_cons <| marks_stmt (s := { s with heap := h₁, toks := tk }) S fun h2 tk2 aM fM R2 => ?_
  refine wpAny_execs_cons <| rounds (s := { s with heap := h2, toks := tk2 }) ok G B hH hU Z fM R2 fun h3 tk3 D mk tl as Lf => ?_
  exact hR h3 tk3 D mk tl as Lf
end
end Mine
end PartL7

section PartA1
open PySem PySem.W PyProof.Rows
set_option Elab.async false
set_option maxRecDepth 100000
set_option maxHeartbeats 4000000
set_option autoImplicit false
namespace Mine
section
variable {prog : Program} {w : World} {A : Around} {E : Value → Shared → Prop} {s : Shared}

theorem sumL {l : Addr} {vs : List Value} {ns : List Int} {Q : Value → Shared → Prop} (hh : A.handled = none) (hl : s.heap.IsList l vs.toArray) (hi : IntsAre vs ns)
    (h : ∀ h' tk x t, Sub s.heap h' → Q (.int x t) { s with heap := h', toks := tk }) : wpAny (model prog w) A (call (.builtin "sum") [.ref l]) Q E s := by
  obtain ⟨xs, e⟩ := hi.allInts.items
  rw [e] at hl
  exact sum_intListG hh hl fun h' tk t' hk => h h' tk _ t' hk

theorem addL {l b : Addr} {vs ws : List Value} {Q : Value → Shared → Prop} (hl : s.heap.IsList l vs.toArray) (hb : s.heap.IsList b ws.toArray)
    (h : Q (.ref s.heap.objs.size) { s with heap := s.heap.push { cls := .type "list", data := .seq (vs ++ ws).toArray } }) (hsz : vs.length + ws.length ≤ sizeLine) :
    wpAny (model prog w) A (binaryOp .Add (.ref l) (.ref b)) Q E s := by
  obtain ⟨⟨cls, dd, data, sl⟩, ho, hc, n, hd⟩ := id hl
  obtain ⟨⟨cls2, dd2, data2, sl2⟩, ho2, hc2, n2, hd2⟩ := id hb
  simp only at hc hd hc2 hd2
  subst hc hd hc2 hd2
  have e : vs.toArray ++ ws.toArray = (vs ++ ws).toArray := by simp
  refine concat_meets ⟨_, ho, rfl⟩ ⟨_, ho2, rfl⟩ noFill_list_add seq_list_add PySem.F.slot_list_add PySem.F.entry_list_add (PySem.F.args_list_add_2 _ _) (list_addW l b vs.toArray ws.toArray n n2 dd dd2 sl sl2 (by simpa using hsz)) ⟨ho, ho2, ?_⟩
  rw [e]
  exact h

theorem fold_one {v : Value} : ∀ (n : Nat) (acc : Array Value), List.foldl (fun x1 x2 => x1 ++ x2) acc (List.replicate n #[v]) = acc ++ (List.replicate n v).toArray
  | 0, acc => by simp
  | n + 1, acc => by
    rw [List.replicate_succ, List.foldl_cons, fold_one n, List.replicate_succ]
    apply Array.ext'
    simp

theorem mulI {l : Addr} {items : Array Value} {k : Nat} {x : Int} {u : Tok} {Q : Value → Shared → Prop} (ho : s.heap.get? l = some { cls := .type "list", dict := none, data := .seq items k, slots := #[] })
    (hlo : -(2 ^ 63 : Int) ≤ x) (hhi : x < 2 ^ 63) (hsz : items.size * x.toNat ≤ 2 ^ 24)
    (h : Q (.ref s.heap.objs.size) { s with heap := s.heap.push { cls := .type "list", data := .seq (List.foldl (fun x1 x2 => x1 ++ x2) #[] (List.replicate (if items.isEmpty = true then 0 else x.toNat) items)) } }) :
    wpAny (model prog w) A (binaryOp .Mult (.ref l) (.int x u)) Q E s :=
  wpAny_binaryOp_repeat_ref (T := "list") (U := "int") (by decide) ⟨_, ho, rfl⟩ (fun s' => typeIs_int s' x u) noFill_list_mul PySem.F.fills_int_mul PySem.F.slot_int_rmul repeat_list PySem.F.slot_int_index.lookup
    (call_meets PySem.F.slot_int_rmul (typeIs_int s x u) PySem.F.entry_int_rmul (PySem.F.args_int_rmul_2 _ _) (int___rmul___int_list x u l items k)
      ⟨ho, rfl, ⟨_, ho, rfl⟩, call_meets PySem.F.slot_list_mul ⟨_, ho, rfl⟩ PySem.F.entry_list_mul (PySem.F.args_list_mul_2 _ _)
        (AutoListH.list___mul___list_int_3 l items k x u (by simp [Builtin.List.listFitsIndex]; omega) (by omega) (by simp [Builtin.List.listTooLong, sizeLine]; omega))
        ⟨ho, h⟩⟩)

theorem mulL {l : Addr} {v : Value} {n : Nat} {u : Tok} {Q : Value → Shared → Prop} (hl : s.heap.PlainList l #[v]) (hn : n < 1000)
    (h : Q (.ref s.heap.objs.size) { s with heap := s.heap.push { cls := .type "list", data := .seq (List.replicate n v).toArray } }) :
    wpAny (model prog w) A (binaryOp .Mult (.ref l) (.int (n : Int) u)) Q E s := by
  obtain ⟨k, ho⟩ := hl
  have e : List.foldl (fun x1 x2 => x1 ++ x2) #[] (List.replicate (if (#[v] : Array Value).isEmpty = true then 0 else (n : Int).toNat) #[v]) = (List.replicate n v).toArray := by
    rw [if_neg (by simp), Int.toNat_natCast, fold_one]; simp
  have hz : (#[v] : Array Value).size * (n : Int).toNat ≤ 2 ^ 24 := by
    rw [Int.toNat_natCast]
    show 1 * n ≤ _
    omega
  refine mulI ho (by omega) (by omega) hz ?_
  rw [e]
  exact h
end

section
variable {M : Model} {A : Around} {E : Value → Shared → Prop} {s : Shared} {env : Env}
theorem part_some {e : Expr} {Q : Value → Shared → Prop} (h : wpAny M A (eval e env) Q E s) : wpAny M A (evalPart (some e) env) Q E s := h
theorem part_none {Q : Value → Shared → Prop} (h : Q .none s) : wpAny M A (evalPart none env) Q E s := wpAny_pure h
end

/- the parts of law -/
def rhsOf : Stmt → Expr
  | .Assign _ (.BinOp _ _ r _) _ => r
  | _ => .Constant .none 0 ⟨0, 0, 0, 0⟩
abbrev lwCs (L : Addr) : List (Str × Addr) := cellsFrom (L + 1) (scopeOf (fnAt 6)).names []
abbrev lwEnv (L fa : Addr) (cd : Value) : Env := envOfC (Str.ofString "law") (scopeOf (fnAt 6)) L fa cd

/-- a statement runs so -/
structure Rs (M : Model) (A : Around) (st : Stmt) (env : Env) (Q : Flow → Shared → Prop) (E : Value → Shared → Prop) (s : Shared) : Prop where
  run : wpAny M A (exec st env) Q E s

theorem boot_sum' : bootBuiltins (Str.ofString "sum") = some (.builtin "sum") := by decide +kernel
theorem boot_min' : bootBuiltins (Str.ofString "min") = some (.builtin "min") := by decide +kernel
theorem boot_list' : bootBuiltins (Str.ofString "list") = some (.type "list") := by decide +kernel

section
variable {prog : Program} {w : World} {A : Around} {E : Value → Shared → Prop} {s : Shared} {base : Heap} {mg mb : Str → Option Value} {L fa : Addr} {cd : Value} {b cb : List (Str × Value)} {aX : Addr} {xs : List Value} {ns : List Int}

theorem drawn_comp (G : Glb base mg mb) (hh : A.handled = none) (S : LS base L (lwCs L) b cb s.heap) (hc : cb.lookup (Str.ofString "script") = some (.ref aX)) (hX : s.heap.IsList aX xs.toArray) (hi : IntsAre xs ns) (hl : xs.length < 1000) {Q : Value → Shared → Prop}
    (hQ : ∀ D h' tk ys ms, s.heap.get? D = none → h'.PlainList D ys.toArray → IntsAre ys ms → ys.length ≤ 14 → Sub s.heap h' → Q (.ref D) { s with heap := h', toks := tk }) :
    wpAny (model prog w) A (eval (rhsOf (lawSt 0)) (lwEnv L fa cd)) Q E s := by
  refine listL (cl := [(Str.ofString "script", L + 1)]) rfl (by decide) rfl (by decide) ?_
  refine Call_ <| nmB (G.keeps S.sub) (by decide) boot_range' (by decide) <| PyProof.Rows.callWith_type1 <| args_cons <| Call_ <| nmB (G.keeps S.sub) (by decide) boot_min' (by decide) <| PyProof.Rows.callWith_builtin1 <| args_cons <| wpAny_Constant_int <| args_cons <| Call_ <| nmB (G.keeps S.sub) (by decide) boot_len' (by decide) <| PyProof.Rows.callWith_builtin1 <| args_cons <| nmC S hc (args_nil <| Calls.call_len_list hX (by simp; omega) <| args_nil <| min_two_ints hh fun h1 tk1 k1 => args_nil ?_) rfl
  dsimp only at k1 ⊢
  obtain ⟨n, tn, en, hn⟩ : ∃ (n : Nat) (tn : Tok), (if ((xs.toArray.size : Nat) : Int) < 14 then Value.int ((xs.toArray.size : Nat) : Int) (s.toks + 1 + 1) else .int 14 s.toks) = .int (n : Int) tn ∧ n ≤ 14 := by
    by_cases hlt : ((xs.toArray.size : Nat) : Int) < 14
    · exact ⟨xs.toArray.size, _, if_pos hlt, by omega⟩
    · exact ⟨14, _, if_neg hlt, Nat.le_refl _⟩
  rw [en]
  refine call_range_1 ?_
  refine Turns.range (n := n) (J := fun _ k ys _ => ∃ ms, IntsAre ys ms ∧ ys.length = k) hh (IsRange.new ..) (by omega) (h₁ := s.heap) (fun a o e => Heap.get?_push_of_some _ (k1 a o e)) ⟨?_, ?_, ?_, ?_⟩ rfl rfl fun I h2 fI k2 Sr => ⟨s.heap, I, _, _, _, rfl, k2, by simpa using fI, Sr, fun C D h3 tk ys fD hl' hj k3 => ?_⟩
  · rw [sizeLine_eq]; omega
  · exact fun _ _ _ _ _ h _ => h
  · exact fun _ _ _ => ⟨[], .nil, rfl⟩
  · rintro X C D i bb ys s₃ E' hi' ⟨v, ⟨t, rfl⟩, rfl⟩ hlv hlive hsub ⟨ms, hms, hlen⟩
    have G3 := G.keeps fun a o e => hsub a o (S.sub a o e)
    have K1 := cell_sub (S.cell hc rfl) hsub
    have hX3 : s₃.heap.IsList aX xs.toArray := hX.at fun o e => hsub _ o e
    refine wpAny_tests_nil ?_
    rw [if_pos rfl]
    refine Call_ <| nmB G3 (by decide) boot_sum' (by decide) <| PyProof.Rows.callWith_builtin1 <| args_cons <| wpAny_Subscript_Slice_step slot_list_getitem.lookup <| nmK K1 <| wpAny_Slice <| part_some <| nmV hlv rfl <| part_none <| part_some <| wpAny_Constant_int ?_
    have hX4 : (s₃.heap.push { cls := .type "slice", data := .fields #[.int (i : Int) t, .none, .int 14 s₃.toks] }).IsList aX xs.toArray := hX3.at fun o e => Heap.get?_push_of_some _ e
    refine ⟨hX4.typeIs, wpAny_getItem_list_slice hX4 ⟨_, Heap.get?_push_size _ rfl, rfl, rfl⟩ (.int _ _) .none (.int _ _) (by simp) ?_ (by rw [sizeLine_eq]; simp; omega)⟩
    refine args_nil <| sumL hh ⟨_, Heap.get?_push_size _ rfl, rfl, 0, rfl⟩ (hi.pick (some (i : Int)) none (some 14)) fun h' tk x t' k' => ?_
    refine ⟨⟨h', tk, rfl, fun a o e => k' a o (Heap.get?_push_of_some _ (Heap.get?_push_of_some _ e))⟩, ms ++ [x], IntsAre.snoc hms, by simp [hlen]⟩
  · obtain ⟨ms, hms, hlen⟩ := hj
    exact hQ D h3 tk ys ms fD hl' hms (by omega) k3
end
end Mine
end PartA1

section PartA2
open PySem PySem.W PyProof.Rows
set_option Elab.async false
set_option maxRecDepth 100000
set_option maxHeartbeats 400000
set_option autoImplicit false
namespace Mine
section
variable {M : Model} {A : Around} {E : Value → Shared → Prop} {s : Shared} {env : Env}

theorem newT {vs : List Value} {Q : Value → Shared → Prop} (h : ∀ h' T, s.heap.get? T = none → Sub s.heap h' → h'.IsTuple T vs.toArray → Q (.ref T) { s with heap := h' }) (hsz : vs.length ≤ 1000) : wpAny M A (newTuple vs) Q E s :=
  wpAny_newTuple (h _ _ (Heap.get?_none_of_le (Nat.le_refl _)) (fun _ _ e => Heap.get?_push_of_some _ e) ⟨_, Heap.get?_push_size _ rfl, rfl, 0, rfl⟩) (by rw [sizeLine_eq]; omega)
theorem newL {vs : List Value} {Q : Value → Shared → Prop} (h : ∀ h' D, s.heap.get? D = none → Sub s.heap h' → h'.PlainList D vs.toArray → Q (.ref D) { s with heap := h' }) (hsz : vs.length ≤ 1000) : wpAny M A (newList vs) Q E s :=
  wpAny_newList (h _ _ (Heap.get?_none_of_le (Nat.le_refl _)) (fun _ _ e => Heap.get?_push_of_some _ e) ⟨0, Heap.get?_push_size _ rfl⟩) (by rw [sizeLine_eq]; omega)

theorem starT {elts rest : List Expr} {k : Nat} {p : Pos} : starEach (.Tuple elts k p :: rest) env = (false, eval (.Tuple elts k p) env) :: starEach rest env := rfl
theorem starK {c : Const} {rest : List Expr} {k : Nat} {p : Pos} : starEach (.Constant c k p :: rest) env = (false, eval (.Constant c k p) env) :: starEach rest env := rfl
theorem argsT {elts rest : List Expr} {k : Nat} {p pos : Pos} {Q : List Value → Shared → Prop}
    (h : wpAny M A (eval (.Tuple elts k p) env) (fun v s₁ => wpAny M A (spliced (backTo pos (starEach rest env))) (fun vs s₂ => Q (v :: vs) s₂) E s₁) E s) : wpAny M A (spliced (backTo pos (starEach (.Tuple elts k p :: rest) env))) Q E s := args_cons h starT
theorem argsK {i : Int} {rest : List Expr} {k : Nat} {p pos : Pos} {Q : List Value → Shared → Prop}
    (h : wpAny M A (spliced (backTo pos (starEach rest env))) (fun vs s₂ => Q (.int i s.toks :: vs) s₂) E { s with toks := s.toks + 1 }) : wpAny M A (spliced (backTo pos (starEach (.Constant (.int i) k p :: rest) env))) Q E s := args_cons (wpAny_Constant_int h) starK

theorem tup3 {a b c : Int} {k k1 k2 k3 : Nat} {p p1 p2 p3 : Pos} {Q : Value → Shared → Prop}
    (h : ∀ h' tk T t0 t1 t2, s.heap.get? T = none → Sub s.heap h' → h'.IsTuple T #[.int a t0, .int b t1, .int c t2] → Q (.ref T) { s with heap := h', toks := tk }) :
    wpAny M A (eval (.Tuple [.Constant (.int a) k1 p1, .Constant (.int b) k2 p2, .Constant (.int c) k3 p3] k p) env) Q E s :=
  Tuple_ <| argsK <| argsK <| argsK <| args_nil <| newT (fun h' T f k hT => h h' _ T _ _ _ f k hT) (by simp)
end

section
variable {prog : Program} {w : World} {A : Around} {E : Value → Shared → Prop} {s : Shared}
theorem addN {l b : Addr} {vs ws : List Value} {Q : Value → Shared → Prop} (hl : s.heap.IsList l vs.toArray) (hb : s.heap.IsList b ws.toArray)
    (h : ∀ h' D, s.heap.get? D = none → Sub s.heap h' → h'.PlainList D (vs ++ ws).toArray → Q (.ref D) { s with heap := h' }) (hsz : vs.length + ws.length ≤ 1000) :
    wpAny (model prog w) A (binaryOp .Add (.ref l) (.ref b)) Q E s :=
  addL hl hb (h _ _ (Heap.get?_none_of_le (Nat.le_refl _)) (fun _ _ e => Heap.get?_push_of_some _ e) ⟨0, Heap.get?_push_size _ rfl⟩) (by rw [sizeLine_eq]; omega)
theorem mulN {l : Addr} {v : Value} {n : Nat} {u : Tok} {Q : Value → Shared → Prop} (hl : s.heap.PlainList l #[v]) (hn : n < 1000)
    (h : ∀ h' D, s.heap.get? D = none → Sub s.heap h' → h'.PlainList D (List.replicate n v).toArray → Q (.ref D) { s with heap := h' }) :
    wpAny (model prog w) A (binaryOp .Mult (.ref l) (.int (n : Int) u)) Q E s :=
  mulL hl hn (h _ _ (Heap.get?_none_of_le (Nat.le_refl _)) (fun _ _ e => Heap.get?_push_of_some _ e) ⟨0, Heap.get?_push_size _ rfl⟩)
end

/-- the addresses in use -/
structure Us (base h : Heap) (l : List Addr) : Prop where
  nd : l.Nodup
  live : ∀ x ∈ l, ∃ vs, h.PlainList x vs
  fr : ∀ x ∈ l, base.get? x = none
theorem Us.keep {base h h' : Heap} {l : List Addr} (U : Us base h l) (k : KS h h') : Us base h' l := ⟨U.nd, fun x hx => let ⟨vs, e⟩ := U.live x hx; ⟨vs, k.list e⟩, U.fr⟩
theorem Us.add {base h h' : Heap} {l : List Addr} {D : Addr} {vs : Array Value} (U : Us base h l) (B : Sub base h) (f : h.get? D = none) (k : KS h h') (hD : h'.PlainList D vs) : Us base h' (D :: l) := by
  refine ⟨List.nodup_cons.mpr ⟨fun hm => ?_, U.nd⟩, fun x hx => ?_, fun x hx => ?_⟩
  · obtain ⟨us, n, e⟩ := U.live D hm
    rw [f] at e; cases e
  · rcases List.mem_cons.mp hx with rfl | hx
    · exact ⟨_, hD⟩
    · obtain ⟨us, e⟩ := U.live x hx; exact ⟨us, k.list e⟩
  · rcases List.mem_cons.mp hx with rfl | hx
    · exact fresh_sub B f
    · exact U.fr x hx

def pref (j t : Nat) : Nat := ([[0, 1, 2], [0, 2, 1], [1, 0, 2], [1, 2, 0], [2, 0, 1], [2, 1, 0]].getD j []).getD t 0
theorem pref_lt {j t : Nat} (hj : j < 6) (ht : t < 3) : pref j t < 3 := by
  have : ∀ j : Fin 6, ∀ t : Fin 3, pref j.1 t.1 < 3 := by decide
  exact this ⟨j, hj⟩ ⟨t, ht⟩

section
variable {prog : Program} {w : World} {A : Around} {E : Value → Shared → Prop} {s : Shared} {base : Heap} {mg mb : Str → Option Value} {L fa : Addr} {cd : Value} {b cb : List (Str × Value)} {aX aD aO : Addr} {xs ds : List Value} {ns dn : List Int} {oa : Nat → Addr}

theorem drawn_stmt (G : Glb base mg mb) (hh : A.handled = none) (S : LS base L (lwCs L) b cb s.heap) (hc : cb.lookup (Str.ofString "script") = some (.ref aX)) (hX : s.heap.IsList aX xs.toArray) (hi : IntsAre xs ns) (hl : xs.length < 1000) {Q : Flow → Shared → Prop}
    (hQ : ∀ h' tk aD ds dn, LS base L (lwCs L) ((Str.ofString "drawn", .ref aD) :: b) cb h' → h'.PlainList aD ds.toArray → IntsAre ds dn → ds.length ≤ 24 → KN [] s.heap h' → Q .next { s with heap := h', toks := tk }) :
    Rs (model prog w) A (lawSt 0) (lwEnv L fa cd) Q E s := by
  constructor
  refine wpAny_Assign_Name ?_
  refine wpAny_BinOp ?_
  refine List_ ?_
  refine argsK ?_
  refine argsK ?_
  refine argsK ?_
  refine argsK ?_
  refine argsK ?_
  refine argsK ?_
  refine argsK ?_
  refine argsK ?_
  refine argsK ?_
  refine argsK ?_
  refine args_nil ?_
  refine newL ?_ (by simp)
  intro h1 D1 f1 k1 hD1
  dsimp only at f1 k1 hD1 ⊢
  refine drawn_comp (s := { s with heap := h1, toks := _ }) G hh (S.grow k1) hc (hX.at fun o e => k1 _ o e) hi hl fun D2 h2 tk2 ys ms f2 hD2 hms hlen k2 => ?_
  refine addN (s := { s with heap := h2, toks := tk2 }) ((KS.of_sub k2).list hD1).isList hD2.isList (fun h3 D3 f3 k3 hD3 => ?_) (by simp; omega)
  have ks : Sub s.heap h3 := fun a o e => k3 a o (k2 a o (k1 a o e))
  refine stnL (s := { s with heap := h3, toks := tk2 }) (S.grow ks) fun h4 S4 k4 => hQ h4 _ D3 _ _ S4 (k4.ks.list hD3) (IntsAre.append (.cons _ _ <| .cons _ _ <| .cons _ _ <| .cons _ _ <| .cons _ _ <| .cons _ _ <| .cons _ _ <| .cons _ _ <| .cons _ _ <| .cons _ _ .nil) hms) (by simp; omega) ((KN.of_sub ks).trans k4)

theorem seats_stmt (G : Glb base mg mb) (hh : A.handled = none) (S : LS base L (lwCs L) b cb s.heap) (hc : cb.lookup (Str.ofString "script") = some (.ref aX)) (hX : s.heap.IsList aX xs.toArray) (hi : IntsAre xs ns) {Q : Flow → Shared → Prop}
    (hQ : ∀ h' tk aS (cap : Nat → Nat) (ts : Nat → Tok), s.heap.get? aS = none → LS base L (lwCs L) ((Str.ofString "seats", .ref aS) :: b) cb h' → h'.PlainList aS ((List.range 3).map fun q : Nat => Value.int ((cap q : Nat) : Int) (ts q)).toArray → (∀ q, q < 3 → 0 < cap q ∧ cap q < 60) → KN [] s.heap h' → Q .next { s with heap := h', toks := tk }) :
    Rs (model prog w) A (lawSt 1) (lwEnv L fa cd) Q E s := by
  constructor
  refine assignL (cs := lwCs L) (hs := base) (b := b) (cb := cb) (cl := [(Str.ofString "script", L + 1)]) rfl rfl rfl (by decide) rfl (by decide) rfl rfl ?_
  refine Call_ <| nmB (G.keeps S.sub) (by decide) boot_range' (by decide) <| PyProof.Rows.callWith_type1 <| args_cons <| wpAny_Constant_int <| args_nil <| call_range_1 ?_
  refine Turns.range (n := 3) (J := fun _ k ys _ => ∃ (cap : Nat → Nat) (ts : Nat → Tok), ys = (List.range k).map (fun q : Nat => Value.int ((cap q : Nat) : Int) (ts q)) ∧ ∀ q, q < k → 0 < cap q ∧ cap q < 60) hh (IsRange.new ..) (by omega) (h₁ := s.heap) (fun a o e => Heap.get?_push_of_some _ e) ⟨?_, ?_, ?_, ?_⟩ rfl rfl fun I h2 fI k2 Sr => ⟨s.heap, I, _, _, _, rfl, k2, by simpa using fI, S, Sr, fun C D h3 tk ys fD hl hj S3 k3 => ?_⟩
  · rw [sizeLine_eq]; decide
  · exact fun _ _ _ _ _ h _ => h
  · exact fun _ _ _ => ⟨fun _ => 0, fun _ => 0, rfl, fun q hq => absurd hq (Nat.not_lt_zero _)⟩
  · rintro X C D i bb ys s₃ E' hi3 ⟨v, ⟨t, rfl⟩, rfl⟩ hlv hlive hsub ⟨cap, ts, rfl, hcap⟩
    have G3 := G.keeps fun a o e => hsub a o (S.sub a o e)
    have K1 := cell_sub (S.cell hc rfl) hsub
    have hX3 : s₃.heap.IsList aX xs.toArray := hX.at fun o e => hsub _ o e
    refine wpAny_tests_nil ?_
    rw [if_pos rfl]
    refine wpAny_BinOp <| wpAny_BinOp <| wpAny_BinOp <| Call_ <| nmB G3 (by decide) boot_sum' (by decide) <| PyProof.Rows.callWith_builtin1 <| args_cons <| nmK K1 <| args_nil <| sumL hh hX3 hi fun h4 tk4 x tx k4 => ?_
    have hlv4 : LV h4 C [(Str.ofString "s", .int (i : Int) t)] := hlv.sub fun o e => k4 _ o e
    refine wpAny_BinOp <| wpAny_Constant_int <| nmV hlv4 rfl <| pow_int_small (by omega) (by omega) (by decide) ?_
    rw [Int.toNat_natCast]
    have hp : (4 : Int) ^ i ≠ 0 ∧ ((4 : Int) ^ i).natAbs < 1073741824 := by rcases lt3 hi3 with rfl | rfl | rfl <;> decide
    refine floordiv_int hp.1 ?_ (hp := .inl (PyProof.noPylong_small hp.2))
    refine wpAny_Constant_int <| mod_int' (by decide) <| wpAny_Constant_int <| add_int ?_
    obtain ⟨m, hm, hm3⟩ : ∃ m : Nat, (x.fdiv (4 ^ i)).fmod 4 + 3 = (m : Int) ∧ 0 < m ∧ m < 60 := by
      have h1 := Int.fmod_nonneg_of_pos (x.fdiv (4 ^ i)) (show (0 : Int) < 4 by decide)
      have h2 := Int.fmod_lt_of_pos (x.fdiv (4 ^ i)) (show (0 : Int) < 4 by decide)
      exact ⟨((x.fdiv (4 ^ i)).fmod 4 + 3).toNat, by omega, by omega, by omega⟩
    rw [hm]
    refine ⟨⟨h4, _, rfl, k4⟩, upd cap i m, upd ts i (tk4 + 1 + 1 + 1 + 1 + 1 + 1), ?_, fun q hq => ?_⟩
    · rw [List.range_succ, List.map_append]
      congr 1
      · refine List.map_congr_left fun q hq => ?_
        have : q ≠ i := Nat.ne_of_lt (by simpa using hq)
        rw [upd_other _ _ this, upd_other _ _ this]
      · simp only [List.map_cons, List.map_nil, upd_same]
    · by_cases e : q = i
      · subst e; rw [upd_same]; exact hm3
      · rw [upd_other _ _ e]; exact hcap q (by omega)
  · obtain ⟨cap, ts, rfl, hcap⟩ := hj
    exact hQ h3 tk D cap ts fD S3 hl hcap k3

theorem orders_stmt (S : LS base L (lwCs L) b cb s.heap) {Q : Flow → Shared → Prop}
    (hQ : ∀ h' tk aO oa, LS base L (lwCs L) b ((Str.ofString "orders", .ref aO) :: cb) h' → h'.PlainList aO (refs oa (List.range 6)).toArray → (∀ j, j < 6 → ∃ t0 t1 t2, h'.IsTuple (oa j) #[.int (pref j 0 : Nat) t0, .int (pref j 1 : Nat) t1, .int (pref j 2 : Nat) t2]) → KN [] s.heap h' → Q .next { s with heap := h', toks := tk }) :
    Rs (model prog w) A (lawSt 2) (lwEnv L fa cd) Q E s := by
  constructor
  refine wpAny_Assign_Name ?_
  refine List_ ?_
  refine argsT ?_
  refine tup3 ?_
  intro h0 tk0 T0 t00 t01 t02 f0 k0 e0
  refine argsT ?_
  refine tup3 ?_
  intro h1 tk1 T1 t10 t11 t12 f1 k1 e1
  refine argsT ?_
  refine tup3 ?_
  intro h2 tk2 T2 t20 t21 t22 f2 k2 e2
  refine argsT ?_
  refine tup3 ?_
  intro h3 tk3 T3 t30 t31 t32 f3 k3 e3
  refine argsT ?_
  refine tup3 ?_
  intro h4 tk4 T4 t40 t41 t42 f4 k4 e4
  refine argsT ?_
  refine tup3 ?_
  intro h5 tk5 T5 t50 t51 t52 f5 k5 e5
  refine args_nil ?_
  refine newL ?_ (by simp)
  intro h6 D f6 k6 hD
  dsimp only at f6 k6 hD k0 k1 k2 k3 k4 k5 ⊢
  have q5 : Sub h5 h6 := k6
  have q4 : Sub h4 h6 := fun a o e => q5 a o (k5 a o e)
  have q3 : Sub h3 h6 := fun a o e => q4 a o (k4 a o e)
  have q2 : Sub h2 h6 := fun a o e => q3 a o (k3 a o e)
  have q1 : Sub h1 h6 := fun a o e => q2 a o (k2 a o e)
  have q0 : Sub h0 h6 := fun a o e => q1 a o (k1 a o e)
  have qs : Sub s.heap h6 := fun a o e => q0 a o (k0 a o e)
  refine stnC (c := L + 2) (s := { s with heap := h6, toks := tk5 }) (S.grow qs) (fun h7 S7 k7 => hQ h7 _ D (fun j => [T0, T1, T2, T3, T4, T5].getD j 0) S7 (k7.ks.list hD) (fun j hj => ?_) ((KN.of_sub qs).trans k7)) rfl
  have hj' : j = 0 ∨ j = 1 ∨ j = 2 ∨ j = 3 ∨ j = 4 ∨ j = 5 := by omega
  rcases hj' with rfl | rfl | rfl | rfl | rfl | rfl
  · exact ⟨_, _, _, k7.ks.tuple ((KS.of_sub q0).tuple e0)⟩
  · exact ⟨_, _, _, k7.ks.tuple ((KS.of_sub q1).tuple e1)⟩
  · exact ⟨_, _, _, k7.ks.tuple ((KS.of_sub q2).tuple e2)⟩
  · exact ⟨_, _, _, k7.ks.tuple ((KS.of_sub q3).tuple e3)⟩
  · exact ⟨_, _, _, k7.ks.tuple ((KS.of_sub q4).tuple e4)⟩
  · exact ⟨_, _, _, k7.ks.tuple ((KS.of_sub q5).tuple e5)⟩

theorem wishes_stmt (hh : A.handled = none) (S : LS base L (lwCs L) b cb s.heap) (hb : b.lookup (Str.ofString "drawn") = some (.ref aD)) (hc : cb.lookup (Str.ofString "orders") = some (.ref aO)) (hD : s.heap.PlainList aD ds.toArray) (hi : IntsAre ds dn) (hl : ds.length ≤ 24)
    (hO : s.heap.PlainList aO (refs oa (List.range 6)).toArray) {Q : Flow → Shared → Prop}
    (hQ : ∀ h' tk aW (jj : Nat → Nat), s.heap.get? aW = none → LS base L (lwCs L) ((Str.ofString "wishes", .ref aW) :: b) cb h' → h'.PlainList aW (refs (fun i => oa (jj i)) (List.range ds.length)).toArray → (∀ i, i < ds.length → jj i < 6) → KN [] s.heap h' → Q .next { s with heap := h', toks := tk }) :
    Rs (model prog w) A (lawSt 3) (lwEnv L fa cd) Q E s := by
  constructor
  refine assignL (cs := lwCs L) (hs := base) (b := b) (cb := cb) (cl := [(Str.ofString "orders", L + 2)]) rfl rfl rfl (by decide) rfl (by decide) rfl rfl ?_
  refine nm S.F hb ?_
  refine Turns.list (J := fun _ k ys _ => ∃ jj : Nat → Nat, ys = refs (fun i => oa (jj i)) (List.range k) ∧ ∀ q, q < k → jj q < 6) hh hD ⟨?_, ?_, ?_, ?_⟩ rfl rfl fun I h2 fI k2 Sr => ⟨s.heap, I, _, _, _, rfl, k2, by simpa using fI, S, Sr, fun C D h3 tk ys fD hl hj S3 k3 => ?_⟩
  · rw [sizeLine_eq]; simp; omega
  · exact fun _ _ _ _ _ h _ => h
  · exact fun _ _ _ => ⟨fun _ => 0, rfl, fun q hq => absurd hq (Nat.not_lt_zero _)⟩
  · rintro X C D i bb ys s₃ E' hi3 ⟨v, hv, rfl⟩ hlv hlive hsub ⟨jj, rfl, hjj⟩
    have hid : i < dn.length := by rw [← hi.length]; simpa using hi3
    obtain ⟨t, et⟩ := intsL hi (k := i) (List.getElem?_eq_getElem hid)
    have ev : v = .int (dn[i]) t := by
      rw [List.getElem?_toArray, et] at hv
      exact (Option.some.inj hv).symm
    subst ev
    have K1 := cell_sub (S.cell hc rfl) hsub
    refine wpAny_tests_nil ?_
    rw [if_pos rfl]
    have h1 := Int.fmod_nonneg_of_pos (dn[i]) (show (0 : Int) < 6 by decide)
    have h2 := Int.fmod_lt_of_pos (dn[i]) (show (0 : Int) < 6 by decide)
    obtain ⟨m, hm⟩ : ∃ m : Nat, (dn[i]).fmod 6 = (m : Int) := ⟨((dn[i]).fmod 6).toNat, by omega⟩
    refine Subscript_ <| nmK K1 <| wpAny_BinOp <| nmV hlv rfl <| wpAny_Constant_int <| mod_int' (by decide) ?_
    rw [hm]
    refine subL ((KS.of_sub hsub).list hO) (by omega) (by omega) (refs_range _ (by omega)) ?_
    rw [Int.toNat_natCast]
    refine ⟨⟨_, _, rfl, fun _ _ e => e⟩, upd jj i m, ?_, fun q hq => ?_⟩
    · rw [List.range_succ]
      unfold refs
      rw [List.map_append]
      congr 1
      · refine List.map_congr_left fun q hq => ?_
        have : q ≠ i := Nat.ne_of_lt (by simpa using hq)
        show Value.ref (oa (jj q)) = Value.ref (oa (upd jj i m q))
        rw [upd_other _ _ this]
      · simp only [List.map_cons, List.map_nil, upd_same]
    · by_cases e : q = i
      · subst e; rw [upd_same]; omega
      · rw [upd_other _ _ e]; exact hjj q (by omega)
  · obtain ⟨jj, rfl, hjj⟩ := hj
    exact hQ h3 tk D jj fD S3 (by simpa using hl) (by simpa using hjj) k3
end
end Mine
end PartA2

section PartA3
open PySem PySem.W PyProof.Rows
set_option Elab.async false
set_option maxRecDepth 100000
set_option maxHeartbeats 800000
set_option autoImplicit false
namespace Mine

theorem Us.chg {base h h' : Heap} {l : List Addr} {a : Addr} {vs : Array Value} (U : Us base h l) (k : Ch [a] h h') (hp : h'.PlainList a vs) : Us base h' l := ⟨U.nd, fun x hx => by
  by_cases e : x = a
  · exact ⟨vs, e ▸ hp⟩
  · obtain ⟨us, q⟩ := U.live x hx
    exact ⟨us, k.list q (by simpa using e)⟩, U.fr⟩

section
variable {M : Model} {A : Around} {E : Value → Shared → Prop} {s : Shared} {env : Env}
theorem argsLC {e : Expr} {g : List Comprehension} {sc : Scope} {rest : List Expr} {p pos : Pos} {Q : List Value → Shared → Prop}
    (h : wpAny M A (eval (.ListComp e g sc p) env) (fun v s₁ => wpAny M A (spliced (backTo pos (starEach rest env))) (fun vs s₂ => Q (v :: vs) s₂) E s₁) E s) : wpAny M A (spliced (backTo pos (starEach (.ListComp e g sc p :: rest) env))) Q E s := args_cons h rfl
end

section
variable {prog : Program} {w : World} {A : Around} {E : Value → Shared → Prop} {s : Shared} {base : Heap} {mg mb : Str → Option Value} {L fa : Addr} {cd : Value} {b cb : List (Str × Value)} {aD aR : Addr} {ds : List Value} {dn : List Int}

/-- what evaluates one rank -/
def RankElt (prog : Program) (w : World) (A : Around) (env : Env) (elt : Expr) (scope : Scope) : Prop :=
  ∀ (C : Addr) (s₃ : Shared) (E' : Value → Shared → Prop) (n : Int) (t ti : Tok) (i : Nat) (Q' : Value → Shared → Prop), LV s₃.heap C [(Str.ofString "x", .int n t), (Str.ofString "i", .int (i : Int) ti)] →
    (∀ h' tk T m t1 t2, s₃.heap.get? T = none → Sub s₃.heap h' → h'.IsTuple T #[.int m t1, .int (i : Int) t2] → Q' (.ref T) { s₃ with heap := h', toks := tk }) → wpAny (model prog w) A (eval elt (compEnvC scope [] C env)) Q' E' s₃

theorem rank_comp {elt : Expr} {scope : Scope} {pos p3 p4 p5 p6 p7 p8 : Pos} {k2 : Nat} (G : Glb base mg mb) (hh : A.handled = none) (S : LS base L (lwCs L) b cb s.heap) (hb : b.lookup (Str.ofString "drawn") = some (.ref aD)) (hD : s.heap.PlainList aD ds.toArray) (hi : IntsAre ds dn) (hl : ds.length ≤ 24)
    (hE : RankElt prog w A (lwEnv L fa cd) elt scope) (hclos : closureFor scope (lwEnv L fa cd) = pure []) (hcell : ∀ y ∈ scope.names, y.2 ≠ .cell) (hkind : scope.kind = .function) (hnames : ∀ y ∈ scope.names, y.2 = .local → scope.names.lookup y.1 = some .local)
    (hxi : scope.names.lookup (Str.ofString "i") = some .local) (hxv : scope.names.lookup (Str.ofString "x") = some .local) {Q : Value → Shared → Prop}
    (hQ : ∀ h' tk D (T : Nat → Addr) (v : Nat → Int), s.heap.get? D = none → Sub s.heap h' → h'.PlainList D (refs T (List.range ds.length)).toArray → (∀ i, i < ds.length → TupAt h' (T i) (v i, (i : Int))) → Q (.ref D) { s with heap := h', toks := tk }) :
    wpAny (model prog w) A (eval (.ListComp elt [⟨.Tuple [.Name (Str.ofString "i") p3, .Name (Str.ofString "x") p4] k2 p5, .Call (.Name (Str.ofString "enumerate") p6) [.Name (Str.ofString "drawn") p7] [] p8, [], 0⟩] scope pos) (lwEnv L fa cd)) Q E s := by
  refine listL hclos hcell hkind hnames ?_
  refine Call_ <| nmB (G.keeps S.sub) (by decide) boot_enum' (by decide) <| PyProof.Rows.callWith_type1 <| args_cons <| nm S.F hb <| args_nil ?_
  refine Turns.enum (J := fun Z k ys h => ∃ (T : Nat → Addr) (v : Nat → Int), ys = refs T (List.range k) ∧ (∀ q, q < k → T q ∉ Z) ∧ ∀ q, q < k → TupAt h (T q) (v q, (q : Int))) hh hD ⟨?_, ?_, ?_, ?_⟩ hxi hxv hkind fun I wr h2 fr k2 Sr => ⟨s.heap, I, wr, _, _, rfl, k2, fr, Sr, fun C D h3 tk ys fD hl' hj k3 => ?_⟩
  · rw [sizeLine_eq]; simp; omega
  · rintro Z i ys h h' ⟨T, v, e, hn, ht⟩ hc
    exact ⟨T, v, e, hn, fun q hq => let ⟨t, u, y⟩ := ht q hq; ⟨t, u, hc.tuple y (hn q hq)⟩⟩
  · exact fun _ _ _ => ⟨fun _ => 0, fun _ => 0, rfl, fun q hq => absurd hq (Nat.not_lt_zero _), fun q hq => absurd hq (Nat.not_lt_zero _)⟩
  · rintro X C D i bb ys s₃ E' hi3 ⟨ti, vx, hv, rfl⟩ hlv hlive hsub ⟨T, v, rfl, hn, ht⟩
    have hid : i < dn.length := by rw [← hi.length]; simpa using hi3
    obtain ⟨t, et⟩ := intsL hi (k := i) (List.getElem?_eq_getElem hid)
    have ev : vx = .int (dn[i]) t := by
      rw [List.getElem?_toArray, et] at hv
      exact (Option.some.inj hv).symm
    subst ev
    refine wpAny_tests_nil ?_
    rw [if_pos rfl]
    refine hE C s₃ E' (dn[i]) t ti i _ hlv ?_
    intro h' tk T' m t1 t2 fT k' hT
    refine ⟨⟨h', tk, rfl, k'⟩, upd T i T', upd v i m, ?_, fun q hq => ?_, fun q hq => ?_⟩
    · rw [List.range_succ]
      unfold refs
      rw [List.map_append]
      congr 1
      · refine List.map_congr_left fun q hq => ?_
        have : q ≠ i := Nat.ne_of_lt (by simpa using hq)
        rw [upd_other _ _ this]
      · simp only [List.map_cons, List.map_nil, upd_same]
    · by_cases e : q = i
      · subst e; rw [upd_same]
        intro hm
        obtain ⟨o, eo⟩ := hlive _ hm
        rw [fT] at eo; cases eo
      · rw [upd_other _ _ e]; exact hn q (by omega)
    · by_cases e : q = i
      · subst e; rw [upd_same, upd_same]; exact ⟨t1, t2, hT⟩
      · rw [upd_other _ _ e, upd_other _ _ e]; exact (KS.of_sub k').tup (ht q (by omega))
  · obtain ⟨T, v, rfl, hn, ht⟩ := hj
    exact hQ h3 tk D T v fD k3 (by simpa using hl') (by simpa using ht)

theorem ranks_stmt (G : Glb base mg mb) (hh : A.handled = none) (S : LS base L (lwCs L) b cb s.heap) (hb : b.lookup (Str.ofString "drawn") = some (.ref aD)) (hD : s.heap.PlainList aD ds.toArray) (hi : IntsAre ds dn) (hl : ds.length ≤ 24) {Q : Flow → Shared → Prop}
    (hQ : ∀ h1 h' tk D aR (T : Nat → Addr) (v : Nat → Int), s.heap.get? D = none → Sub s.heap h1 → h1.PlainList D (refs T (List.range ds.length)).toArray → h1.get? aR = none → LS base L (lwCs L) ((Str.ofString "ranks", .ref aR) :: b) cb h' → KN [] h1 h' → h'.PlainList aR #[.ref D] → (∀ i, i < ds.length → TupAt h1 (T i) (v i, (i : Int))) → Q .next { s with heap := h', toks := tk }) :
    Rs (model prog w) A (lawSt 4) (lwEnv L fa cd) Q E s := by
  constructor
  refine wpAny_Assign_Name ?_
  refine List_ ?_
  refine argsLC ?_
  refine rank_comp G hh S hb hD hi hl ?_ rfl (by decide) rfl (by decide) rfl rfl ?_
  · intro C s₃ E' n t ti i Q' hlv hq
    refine Tuple_ <| args_cons <| UnaryOp_ <| wpAny_BinOp <| nmV hlv rfl <| wpAny_Constant_int <| floordiv_int (by decide) ?_ (hp := .inl (PyProof.noPylong_small (by decide)))
    refine PyProof.Rows.neg_int <| args_cons <| nmV hlv rfl <| args_nil ?_
    refine newT ?_ (by simp)
    intro h' T f k hT
    exact hq h' _ T _ _ _ f k hT
  · intro h1 tk1 D T v fD k1 hD1 hT1
    refine args_nil ?_
    refine newL ?_ (by simp)
    intro h2 aR f2 k2 hR2
    refine stnL (s := { s with heap := h2, toks := tk1 }) (S.grow fun a o e => k2 a o (k1 a o e)) ?_
    intro h3 S3 k3
    exact hQ h1 h3 _ D aR T v fD k1 hD1 f2 S3 ((KN.of_sub k2).trans k3) (k3.ks.list hR2) hT1

theorem append_stmt {ov : List Value} {apos pos pp : Pos} {e : Expr} {g : List Comprehension} {sc : Scope} {p : Pos} (S : LS base L (lwCs L) b cb s.heap) (hb : b.lookup (Str.ofString "ranks") = some (.ref aR)) (hR : s.heap.PlainList aR ov.toArray) (hov : ov.length ≤ 10) (hRf : base.get? aR = none)
    {Q : Flow → Shared → Prop} {spos : Pos} (hline : (apos.endLine == pos.line) = true)
    (h : ∀ {E'} {Q' : Value → Shared → Prop}, (∀ h' tk D (T : Nat → Addr) (v : Nat → Int), s.heap.get? D = none → Sub s.heap h' → h'.PlainList D (refs T (List.range ds.length)).toArray → (∀ i, i < ds.length → TupAt h' (T i) (v i, (i : Int))) → Q' (.ref D) { s with heap := h', toks := tk }) → wpAny (model prog w) A (eval (.ListComp e g sc p) (lwEnv L fa cd)) Q' E' s)
    (hQ : ∀ h1 h' tk D (T : Nat → Addr) (v : Nat → Int), s.heap.get? D = none → Sub s.heap h1 → h1.PlainList D (refs T (List.range ds.length)).toArray → (∀ i, i < ds.length → TupAt h1 (T i) (v i, (i : Int))) → h1.PlainList aR ov.toArray → LS base L (lwCs L) b cb h' → Ch [aR] h1 h' → h'.PlainList aR (ov ++ [Value.ref D]).toArray → Q .next { s with heap := h', toks := tk }) :
    wpAny (model prog w) A (exec (.Expr (.Call (.Attribute (.Name (Str.ofString "ranks") pp) (Str.ofString "append") apos) [.ListComp e g sc p] [] pos) spos) (lwEnv L fa cd)) Q E s := by
  refine wpAny_Expr_any ?_
  refine meth1 PySem.F.slot_list_append PySem.F.type_list_append ?_ (hline := hline)
  refine nm S.F hb ?_
  refine ⟨aR, _, rfl, hR, ?_⟩
  refine argsLC ?_
  refine h ?_
  intro h1 tk1 D T v fD k1 hD1 hT1
  refine args_nil ?_
  have hR1 := (KS.of_sub k1).list hR
  refine wpAny_list_append_plain (s := { s with heap := h1, toks := tk1 }) hR1 ?_ (by rw [List.size_toArray, sizeLine_eq]; omega)
  intro h2 hl2 sb2
  have e2 : ov.toArray.push (.ref D) = (ov ++ [Value.ref D]).toArray := by simp
  rw [e2] at hl2
  have ch : Ch [aR] h1 h2 := Ch.of_same sb2 (by simp)
  exact hQ h1 h2 _ D T v fD k1 hD1 hT1 hR1 ((S.grow k1).chg ch fun y hy => by rw [List.mem_singleton.mp hy]; exact ⟨hRf, _, hR1⟩) ch hl2
end
end Mine
end PartA3

section PartA4
open PySem PySem.W PyProof.Rows
set_option Elab.async false
set_option maxRecDepth 100000
set_option maxHeartbeats 800000
set_option autoImplicit false
namespace Mine

theorem ints_of : ∀ {l : List Value} {f : Nat → Int}, (∀ j v, l[j]? = some v → ∃ t, v = Value.int (f j) t) → IntsAre l ((List.range l.length).map f)
  | [], _, _ => .nil
  | v :: l, f, h => by
    obtain ⟨t, rfl⟩ := h 0 v rfl
    rw [List.length_cons, List.range_succ_eq_map, List.map_cons, List.map_map]
    exact .cons _ _ (ints_of fun j v hj => h (j + 1) v (by simpa using hj))

section
variable {prog : Program} {w : World} {A : Around} {E : Value → Shared → Prop} {s : Shared} {base : Heap} {mg mb : Str → Option Value} {L fa : Addr} {cd : Value} {b cb : List (Str × Value)} {aD aR : Addr} {ds : List Value} {dn : List Int} {l : List Addr}

theorem append5 (G : Glb base mg mb) (hh : A.handled = none) (S : LS base L (lwCs L) b cb s.heap) (hb : b.lookup (Str.ofString "drawn") = some (.ref aD)) (hb2 : b.lookup (Str.ofString "ranks") = some (.ref aR)) (hD : s.heap.PlainList aD ds.toArray) (hi : IntsAre ds dn) (hl : ds.length ≤ 24)
    {ov : List Value} (hR : s.heap.PlainList aR ov.toArray) (hov : ov.length ≤ 10) (hRf : base.get? aR = none) {Q : Flow → Shared → Prop}
    (hQ : ∀ h1 h' tk D (T : Nat → Addr) (v : Nat → Int), s.heap.get? D = none → Sub s.heap h1 → h1.PlainList D (refs T (List.range ds.length)).toArray → (∀ i, i < ds.length → TupAt h1 (T i) (v i, (i : Int))) → h1.PlainList aR ov.toArray → LS base L (lwCs L) b cb h' → Ch [aR] h1 h' → h'.PlainList aR (ov ++ [Value.ref D]).toArray → Q .next { s with heap := h', toks := tk }) :
    Rs (model prog w) A (lawSt 5) (lwEnv L fa cd) Q E s := by
  constructor
  refine append_stmt (ds := ds) S hb2 hR hov hRf rfl ?_ hQ
  intro E' Q' hq
  refine rank_comp G hh S hb hD hi hl ?_ rfl (by decide) rfl (by decide) rfl rfl hq
  intro C s₃ E' n t ti i Q' hlv hq
  refine Tuple_ <| args_cons <| wpAny_BinOp <| nmV hlv rfl <| wpAny_Constant_int <| floordiv_int (by decide) ?_ (hp := .inl (PyProof.noPylong_small (by decide)))
  refine args_cons <| nmV hlv rfl <| args_nil ?_
  refine newT ?_ (by simp)
  intro h' T f k hT
  exact hq h' _ T _ _ _ f k hT

theorem append6 (G : Glb base mg mb) (hh : A.handled = none) (S : LS base L (lwCs L) b cb s.heap) (hb : b.lookup (Str.ofString "drawn") = some (.ref aD)) (hb2 : b.lookup (Str.ofString "ranks") = some (.ref aR)) (hD : s.heap.PlainList aD ds.toArray) (hi : IntsAre ds dn) (hl : ds.length ≤ 24)
    {ov : List Value} (hR : s.heap.PlainList aR ov.toArray) (hov : ov.length ≤ 10) (hRf : base.get? aR = none) {Q : Flow → Shared → Prop}
    (hQ : ∀ h1 h' tk D (T : Nat → Addr) (v : Nat → Int), s.heap.get? D = none → Sub s.heap h1 → h1.PlainList D (refs T (List.range ds.length)).toArray → (∀ i, i < ds.length → TupAt h1 (T i) (v i, (i : Int))) → h1.PlainList aR ov.toArray → LS base L (lwCs L) b cb h' → Ch [aR] h1 h' → h'.PlainList aR (ov ++ [Value.ref D]).toArray → Q .next { s with heap := h', toks := tk }) :
    Rs (model prog w) A (lawSt 6) (lwEnv L fa cd) Q E s := by
  constructor
  refine append_stmt (ds := ds) S hb2 hR hov hRf rfl ?_ hQ
  intro E' Q' hq
  refine rank_comp G hh S hb hD hi hl ?_ rfl (by decide) rfl (by decide) rfl rfl hq
  intro C s₃ E' n t ti i Q' hlv hq
  refine Tuple_ <| args_cons <| wpAny_BinOp <| wpAny_BinOp <| nmV hlv rfl <| wpAny_Constant_int <| floordiv_int (by decide) ?_ (hp := .inl (PyProof.noPylong_small (by decide)))
  refine wpAny_Constant_int <| mod_int' (by decide) <| args_cons <| nmV hlv rfl <| args_nil ?_
  refine newT ?_ (by simp)
  intro h' T f k hT
  exact hq h' _ T _ _ _ f k hT

theorem heaps_stmt (S : LS base L (lwCs L) b cb s.heap) (U : Us base s.heap l) {Q : Flow → Shared → Prop}
    (hQ : ∀ h' tk (hp : Nat → Addr) aH, LS base L (lwCs L) ((Str.ofString "heaps", .ref aH) :: b) cb h' → KN [] s.heap h' → h'.PlainList aH (refs hp [0, 1, 2]).toArray → (∀ q, q < 3 → h'.PlainList (hp q) #[]) → Us base h' (aH :: hp 2 :: hp 1 :: hp 0 :: l) → Q .next { s with heap := h', toks := tk }) :
    Rs (model prog w) A (lawSt 7) (lwEnv L fa cd) Q E s := by
  constructor
  refine wpAny_Assign_Name ?_
  refine List_ ?_
  refine args_cons ?_
  refine List_ <| args_nil ?_
  refine newL ?_ (by simp)
  intro h1 H0 f1 k1 e1
  refine args_cons ?_
  refine List_ <| args_nil ?_
  refine newL ?_ (by simp)
  intro h2 H1 f2 k2 e2
  refine args_cons ?_
  refine List_ <| args_nil ?_
  refine newL ?_ (by simp)
  intro h3 H2 f3 k3 e3
  refine args_nil ?_
  refine newL ?_ (by simp)
  intro h4 aH f4 k4 e4
  dsimp only at f1 k1 f2 k2 f3 k3 f4 k4
  have B0 := S.sub
  have U1 := U.add B0 f1 (.of_sub k1) e1
  have B1 : Sub base h1 := fun a o e => k1 a o (B0 a o e)
  have U2 := U1.add B1 f2 (.of_sub k2) e2
  have B2 : Sub base h2 := fun a o e => k2 a o (B1 a o e)
  have U3 := U2.add B2 f3 (.of_sub k3) e3
  have B3 : Sub base h3 := fun a o e => k3 a o (B2 a o e)
  have U4 := U3.add B3 f4 (.of_sub k4) e4
  have k : Sub s.heap h4 := fun a o e => k4 a o (k3 a o (k2 a o (k1 a o e)))
  refine stnL (s := { s with heap := h4, toks := _ }) (S.grow k) ?_
  intro h5 S5 k5
  refine hQ h5 _ (fun q => [H0, H1, H2].getD q 0) aH S5 ((KN.of_sub k).trans k5) (k5.ks.list e4) (fun q hq => ?_) (U4.keep k5.ks)
  have k35 : KS h3 h5 := (KS.of_sub k4).trans k5.ks
  rcases lt3 hq with rfl | rfl | rfl
  · exact k35.list ((KS.of_sub k3).list ((KS.of_sub k2).list e1))
  · exact k35.list ((KS.of_sub k3).list e2)
  · exact k35.list e3

theorem refused_stmt (G : Glb base mg mb) (S : LS base L (lwCs L) b cb s.heap) (hb : b.lookup (Str.ofString "drawn") = some (.ref aD)) (hD : s.heap.PlainList aD ds.toArray) (hl : ds.length ≤ 24) (U : Us base s.heap l) {Q : Flow → Shared → Prop}
    (hQ : ∀ h' tk aF t, LS base L (lwCs L) ((Str.ofString "refused", .ref aF) :: b) cb h' → KN [] s.heap h' → h'.PlainList aF ((List.range ds.length).map fun _ => Value.int ((0 : Nat) : Int) t).toArray → Us base h' (aF :: l) → Q .next { s with heap := h', toks := tk }) :
    Rs (model prog w) A (lawSt 8) (lwEnv L fa cd) Q E s := by
  constructor
  refine wpAny_Assign_Name ?_
  refine wpAny_BinOp ?_
  refine List_ ?_
  refine argsK ?_
  refine args_nil ?_
  refine newL ?_ (by simp)
  intro h1 D1 f1 k1 e1
  dsimp only at f1 k1
  have S1 := S.grow k1
  refine Call_ <| nmB (G.keeps S1.sub) (by decide) boot_len' (by decide) <| PyProof.Rows.callWith_builtin1 <| args_cons <| nm S1.F hb <| args_nil <| Calls.call_len_list ((KS.of_sub k1).list hD).isList (by simp; omega) ?_
  have hn : ((ds.toArray.size : Nat) : Int) = ((ds.length : Nat) : Int) := by simp
  rw [hn]
  refine mulN e1 (by omega) ?_
  intro h2 aF f2 k2 e2
  dsimp only at f2 k2
  have k : Sub s.heap h2 := fun a o e => k2 a o (k1 a o e)
  have er : (List.replicate ds.length (Value.int 0 s.toks)) = (List.range ds.length).map fun _ => Value.int ((0 : Nat) : Int) s.toks := by
    rw [List.map_const', List.length_range]; rfl
  rw [er] at e2
  refine stnL (s := { s with heap := h2, toks := _ }) (S.grow k) ?_
  intro h3 S3 k3
  exact hQ h3 _ aF _ S3 ((KN.of_sub k).trans k3) (k3.ks.list e2) ((U.add S.sub (fresh_sub k1 f2) (.of_sub k) e2).keep k3.ks)

theorem pile_stmt (G : Glb base mg mb) (hh : A.handled = none) (S : LS base L (lwCs L) b cb s.heap) (hb : b.lookup (Str.ofString "drawn") = some (.ref aD)) (hD : s.heap.PlainList aD ds.toArray) (hl : ds.length ≤ 24) (U : Us base s.heap l) {Q : Flow → Shared → Prop}
    (hQ : ∀ h' tk aP vs, LS base L (lwCs L) ((Str.ofString "pile", .ref aP) :: b) cb h' → KN [] s.heap h' → h'.PlainList aP vs.toArray → IntsAre vs ((List.range ds.length).map fun i : Nat => (i : Int)) → Us base h' (aP :: l) → Q .next { s with heap := h', toks := tk }) :
    Rs (model prog w) A (lawSt 9) (lwEnv L fa cd) Q E s := by
  constructor
  refine wpAny_Assign_Name ?_
  refine Call_ <| nmB (G.keeps S.sub) (by decide) boot_list' (by decide) <| PyProof.Rows.callWith_type1 <| args_cons ?_
  refine Call_ <| nmB (G.keeps S.sub) (by decide) boot_range' (by decide) <| PyProof.Rows.callWith_type1 <| args_cons ?_
  refine Call_ <| nmB (G.keeps S.sub) (by decide) boot_len' (by decide) <| PyProof.Rows.callWith_builtin1 <| args_cons <| nm S.F hb <| args_nil <| Calls.call_len_list hD.isList (by simp; omega) ?_
  have hn : ((ds.toArray.size : Nat) : Int) = ((ds.length : Nat) : Int) := by simp
  rw [hn]
  refine args_nil <| call_range_1 <| args_nil ?_
  have hsz : Builtin.Range.rangeSize 0 (ds.length : Int) 1 = (ds.length : Int) := by rw [rangeSize_one]; split <;> omega
  refine call_list_range hh (IsRange.new ..) (small_one (by omega) (by omega) (by omega) (by omega)) hsz (by omega) ?_
  intro h2 tk2 acc c2 k2 e2 hacc
  have k : Sub s.heap h2 := fun a o e => k2 a o (Heap.get?_push_of_some _ e)
  have hz : ∀ o : Obj, (s.heap.push o).objs.size = s.heap.objs.size + 1 := fun o => Heap.size_push ..
  have fP : s.heap.get? (s.heap.objs.size + 1) = none := Heap.get?_none_of_le (Nat.le_succ _)
  dsimp only at e2 ⊢
  rw [hz] at e2 ⊢
  have eP : h2.PlainList (s.heap.objs.size + 1) acc.toList.toArray := ⟨c2, by simpa using e2⟩
  obtain ⟨ha1, ha2⟩ := hacc
  have hv : IntsAre acc.toList ((List.range ds.length).map fun i : Nat => (i : Int)) := by
    have := ints_of (l := acc.toList) (f := fun i : Nat => (i : Int)) fun j v hj => by
      obtain ⟨t, e⟩ := ha2 j v (by simpa using hj)
      exact ⟨t, by rw [e, Int.zero_add, Int.mul_one]⟩
    rwa [Array.length_toList, ha1] at this
  refine stnL (s := { s with heap := h2, toks := tk2 }) (S.grow k) ?_
  intro h3 S3 k3
  exact hQ h3 _ _ acc.toList S3 ((KN.of_sub k).trans k3) (k3.ks.list eP) hv ((U.add S.sub fP (.of_sub k) eP).keep k3.ks)
end
end Mine
end PartA4

section PartA5
open PySem PySem.W PyProof.Rows
set_option Elab.async false
set_option maxRecDepth 100000
set_option maxHeartbeats 800000
set_option autoImplicit false
namespace Mine

/- ranks as data -/
def rkD (r : Rk) : PyData := .tuple [.int r.1, .int r.2]
def rksD (rs : List Rk) : PyData := .list (rs.map rkD)

theorem canLay_rks : ∀ rs : List Rk, PyData.canLayAll0 (rs.map rkD) = true
  | [] => by simp [PyData.canLayAll0]
  | r :: rs => by simp [PyData.canLayAll0, PyData.canLay0, rkD, canLay_rks rs]
theorem depth_rks : ∀ rs : List Rk, PyData.depthAll (rs.map rkD) ≤ 3
  | [] => by simp [PyData.depthAll]
  | r :: rs => by
    have := depth_rks rs
    simp only [List.map_cons, rkD, PyData.depthAll, PyData.depth]
    omega
theorem canLay_three (a b c : List Rk) : PyData.canLay0 (.list [rksD a, rksD b, rksD c]) = true := by
  simp [PyData.canLay0, PyData.canLayAll0, rksD, canLay_rks]
theorem shaped_three (a b c : List Rk) : PySem.SeqAt.shaped (.list [rksD a, rksD b, rksD c]) = true := by
  have h1 := depth_rks a
  have h2 := depth_rks b
  have h3 := depth_rks c
  have hd : PyData.depth (.list [rksD a, rksD b, rksD c]) ≤ 64 := by
    simp only [rksD, PyData.depth, PyData.depthAll]
    omega
  show (PyData.canLay0 (.list [rksD a, rksD b, rksD c]) && decide (PyData.depth (.list [rksD a, rksD b, rksD c]) ≤ 64)) = true
  rw [Bool.and_eq_true]
  exact ⟨canLay_three a b c, decide_eq_true hd⟩

theorem reads_all {h : Heap} {f : Nat → Addr} {key : Nat → Rk} : ∀ {qs : List Nat}, (∀ j ∈ qs, TupAt h (f j) (key j)) → ReadsAll h (refs f qs) ((qs.map key).map rkD) []
  | [], _ => .nil
  | j :: qs, ht => by
    obtain ⟨t, u, o, e, c, n, d⟩ := ht j List.mem_cons_self
    exact .cons (as := []) (bs := []) (reads_tuple_at e c d (.cons (as := []) (bs := []) (.int _ _) (.cons (as := []) (bs := []) (.int _ _) .nil))) (reads_all fun j hj => ht j (List.mem_cons_of_mem _ hj))
theorem reads_rks {h : Heap} {l : Addr} {f : Nat → Addr} {key : Nat → Rk} {qs : List Nat} (hl : h.PlainList l (refs f qs).toArray) (ht : ∀ j ∈ qs, TupAt h (f j) (key j)) : Reads h (.ref l) (rksD (qs.map key)) [l] := by
  obtain ⟨n, e⟩ := hl
  exact .list e rfl rfl (reads_all ht)
theorem reads_three {h : Heap} {D : Addr} {tl : Nat → Addr} {f : Nat → Nat → Addr} {key : Nat → Nat → Rk} {as : Nat → List Nat} (hD : h.PlainList D (refs tl [0, 1, 2]).toArray) (hl : ∀ q, q < 3 → h.PlainList (tl q) (refs (f q) (as q)).toArray)
    (ht : ∀ q, q < 3 → ∀ j ∈ as q, TupAt h (f q j) (key q j)) : ∃ bs, Reads h (.ref D) (.list [rksD ((as 0).map (key 0)), rksD ((as 1).map (key 1)), rksD ((as 2).map (key 2))]) bs := by
  obtain ⟨n, e⟩ := hD
  exact ⟨_, .list e rfl rfl (.cons (reads_rks (hl 0 (by omega)) (ht 0 (by omega))) (.cons (reads_rks (hl 1 (by omega)) (ht 1 (by omega))) (.cons (reads_rks (hl 2 (by omega)) (ht 2 (by omega))) .nil)))⟩

section
variable {prog : Program} {w : World} {A : Around} {E : Value → Shared → Prop} {s : Shared} {base : Heap} {mg mb : Str → Option Value} {c : Cfg} {L fa : Addr} {cd : Value} {r : Nat → Nat} {H : Nat → List Nat}

structure So2 (c : Cfg) (tl : Nat → Addr) (as H : Nat → List Nat) (k : Nat) (h : Heap) : Prop where
  A : ∀ q, q < k → h.PlainList (tl q) (refs (c.T q) (as q)).toArray
  perm : ∀ q, q < k → (as q).Perm (H q)
  srt : ∀ q, q < k → (as q).Pairwise (fun x y => rlt (c.rk q x) (c.rk q y) = true)

/-- both answers are one -/
theorem same_lists (ok : c.Ok) {mk : Nat → Option Nat} {as bs : Nat → List Nat} (D : DA c.n c.w c.rk c.cap r H []) (M : MK c.n c.w c.rk c.cap (mkR c mk)) (room : ∀ q, q < 3 → cnt c.n (inS c.w (fst c mk) q) ≤ c.cap q)
    (pa : ∀ q, q < 3 → (as q).Perm (H q)) (sa : ∀ q, q < 3 → (as q).Pairwise (fun x y => rlt (c.rk q x) (c.rk q y) = true)) (pb : ∀ q, q < 3 → (bs q).Perm (askers c mk c.n q)) (sb : ∀ q, q < 3 → (bs q).Pairwise (fun x y => rlt (c.rk q x) (c.rk q y) = true))
    {q : Nat} (hq : q < 3) : (as q).map (c.rk q) = (bs q).map (c.rk q) := by
  have he := same_end D M ok.w3 room
  have h1 : (H q).Perm (askers c mk c.n q) := by
    refine (D.at_end hq).trans (List.Perm.of_eq ?_)
    unfold askers
    refine List.filter_congr fun i hi => ?_
    have hi' : i < c.n := by simpa using hi
    unfold inS
    rw [he i hi']
  have weak : ∀ {l : List Nat}, l.Pairwise (fun x y => rlt (c.rk q x) (c.rk q y) = true) → (l.map (c.rk q)).Pairwise (fun x y => rlt y x = false) := fun {l} h => by
    rw [List.pairwise_map]
    exact h.imp fun h => rlt_asymm h
  exact sorted_uniq ((((pa q hq).trans h1).trans (pb q hq).symm).map _) (weak (sa q hq)) (weak (sb q hq))

theorem final_stmt (ok : c.Ok) (G : Glb base mg mb) (hh : A.handled = none) (hdp : A.depth + 5 < recursionLimit) (hu : A.units + 300 < cLine) (T : Tn c base L r H [] s.heap) {Q : Flow → Shared → Prop}
    (hQ : ∀ h' tk, Sub base h' → Q (.ret (.bool true)) { s with heap := h', toks := tk }) : Rs (model prog w) A (lawSt 11) (lwEnv L fa cd) Q E s := by
  constructor
  have hz := ok.small
  have W := T.S.W
  have B : Sub base s.heap := T.S.F.ch.sub
  have hHm : ∀ q, q < 3 → ∀ j ∈ H q, j < c.n := fun q hq j hj => (T.D.held q hq j hj).1
  have hHl : ∀ q, q < 3 → (H q).Nodup := fun q hq => ((T.D.at_end hq).nodup_iff).mpr (List.Nodup.sublist List.filter_sublist List.nodup_range)
  have hHn : ∀ q, q < 3 → (H q).length ≤ c.n := fun q hq => by
    rw [(T.D.at_end hq).length_eq]
    have := List.length_filter_le (inS c.w r q) (List.range c.n)
    simpa using this
  refine wpAny_Return_some ?_
  refine wpAny_Compare1 ?_
  refine listL (cl := []) rfl (by decide) rfl (by decide) ?_
  refine nm T.S.F rfl ?_
  refine Turns.list (J := fun Zz k ys h => ∃ tl as, ys = refs tl (List.range k) ∧ (∀ q, q < k → tl q ∉ Zz) ∧ So2 c tl as H k h) hh W.Hh ⟨?_, ?_, ?_, ?_⟩ rfl rfl fun I h2 fI k2 Sr => ⟨s.heap, I, _, _, _, rfl, k2, by simpa using fI, Sr, fun C D h3 tk ys fD hl hj k3 => ?_⟩
  · rw [sizeLine_eq]; simp [refs_length]
  · rintro Zz i ys h h' ⟨tl, as, e, hn, So1⟩ hc
    exact ⟨tl, as, e, hn, fun q hq => hc.list (So1.A q hq) (hn q hq), So1.perm, So1.srt⟩
  · exact fun Zz h _ => ⟨fun _ => 0, fun _ => [], rfl, fun q hq => absurd hq (Nat.not_lt_zero _), ⟨fun q hq => absurd hq (Nat.not_lt_zero _), fun q hq => absurd hq (Nat.not_lt_zero _), fun q hq => absurd hq (Nat.not_lt_zero _)⟩⟩
  · rintro X C D i b ys s₃ E' hi ⟨v, hv, rfl⟩ hlv hlive hsub ⟨tl, as, rfl, hn, So1⟩
    have hi3 : i < 3 := by simpa [refs_length] using hi
    have ev : v = .ref (c.hp i) := by
      rw [List.getElem?_toArray, refs_three _ hi3] at hv
      exact (Option.some.inj hv).symm
    subst ev
    have G3 := G.keeps fun a o e => hsub a o (B a o e)
    have ks := KS.of_sub hsub
    refine wpAny_tests_nil ?_
    rw [if_pos rfl]
    refine Call_ <| nmB G3 (by decide) boot_sorted' (by decide) <| PyProof.Rows.callWith_builtin1 <| args_cons <| nmV hlv rfl <| args_nil ?_
    refine sorted_refs (key := c.rk i) (ks.list (W.Hl i hi3)) (fun j hj => ks.tup (W.Rt i hi3 j (hHm i hi3 j hj))) (inj_of ok (hHl i hi3)) (by have := hHn i hi3; omega) ?_
    intro D' h' qs' fD' k' hp' hperm hsrt
    refine ⟨⟨_, _, rfl, k'⟩, upd tl i D', upd as i qs', ?_, fun q hq => ?_, fun q hq => ?_, fun q hq => ?_, fun q hq => ?_⟩
    · rw [List.range_succ]
      unfold refs
      rw [List.map_append]
      congr 1
      · refine List.map_congr_left fun q hq => ?_
        rw [upd_other _ _ (Nat.ne_of_lt (by simpa using hq))]
      · simp [upd_same]
    · by_cases e : q = i
      · subst e; rw [upd_same]
        intro hm
        obtain ⟨o, eo⟩ := hlive _ hm
        rw [fD'] at eo; cases eo
      · rw [upd_other _ _ e]; exact hn q (by omega)
    · by_cases e : q = i
      · subst e; rw [upd_same, upd_same]; exact hp'
      · rw [upd_other _ _ e, upd_other _ _ e]; exact (KS.of_sub k').list (So1.A q (by omega))
    · by_cases e : q = i
      · subst e; rw [upd_same]; exact hperm
      · rw [upd_other _ _ e]; exact So1.perm q (by omega)
    · by_cases e : q = i
      · subst e; rw [upd_same]; exact hsrt
      · rw [upd_other _ _ e]; exact So1.srt q (by omega)
  · obtain ⟨tl, as, e, hn, So1⟩ := hj
    have e3 : ys = refs tl [0, 1, 2] := e
    subst e3
    have B3 : Sub base h3 := fun a o e => k3 a o (B a o e)
    have F3 : FX base [] L (b0 c) h3 := T.S.F.grow k3
    obtain ⟨a, hga, hfa⟩ := G.ll
    refine Call_ <| nmG (G.keeps B3) hga <| callWith_fn hfa <| args_cons <| nm F3 rfl <| args_cons <| nm F3 rfl <| args_cons <| nm F3 rfl <| args_nil ?_
    refine ⟨B3, wpAny_call ?_⟩
    have Z3 : Fz c h3 := W.fz.sub k3
    refine left_call (s := { s with heap := h3, toks := tk }) ok G B3 Z3 (hfa.keeps B3) hh (by omega) (by omega) ?_
    intro h4 tk4 D4 mk tl4 as4 Lf
    have k4 : Sub h3 h4 := Lf.sub
    have Z4 := Z3.sub k4
    have in1 : ∀ q, q < 3 → ∀ j ∈ as q, TupAt h4 (c.T q j) (c.rk q j) := fun q hq j hj => Z4.Rt q hq j (hHm q hq j ((So1.perm q hq).mem_iff.mp hj))
    have in2 : ∀ q, q < 3 → ∀ j ∈ as4 q, TupAt h4 (c.T q j) (c.rk q j) := fun q hq j hj => Z4.Rt q hq j (askers_mem ((Lf.K.perm q hq).mem_iff.mp hj))
    obtain ⟨bs1, r1⟩ := reads_three ((KS.of_sub k4).list hl) (fun q hq => (KS.of_sub k4).list (So1.A q hq)) in1
    obtain ⟨bs2, r2⟩ := reads_three Lf.O Lf.K.A in2
    have sm : ∀ q, q < 3 → (as q).map (c.rk q) = (as4 q).map (c.rk q) := fun q hq => same_lists ok T.D Lf.M Lf.room So1.perm So1.srt Lf.K.perm Lf.K.srt hq
    refine eq_dataH (s := { s with heap := h4, toks := tk4 }) r1 r2 (shaped_three _ _ _) (shaped_three _ _ _) (by omega) ?_
    rw [sm 0 (by omega), sm 1 (by omega), sm 2 (by omega), PySem.SeqAt.eqv_refl _ (canLay_three _ _ _)]
    exact hQ h4 tk4 fun a o e => k4 a o (B3 a o e)
end
end Mine
end PartA5

section PartA6
open PySem PySem.W PyProof.Rows
set_option Elab.async false
set_option maxRecDepth 100000
set_option maxHeartbeats 2000000
set_option autoImplicit false
namespace Mine

theorem KS.isList {h h' : Heap} {l : Addr} {vs : Array Value} (k : KS h h') (x : h.IsList l vs) : h'.IsList l vs := let ⟨o, e, hc, n, d⟩ := x; ⟨o, k _ _ _ _ e d, hc, n, d⟩

/-- one of three -/
def pick3 {α : Type} (a b d : α) (s : Nat) : α := if s = 0 then a else if s = 1 then b else d

def cfgOf (n : Nat) (jj : Nat → Nat) (oa : Nat → Addr) (v0 v1 v2 : Nat → Int) (cap : Nat → Nat) (T0 T1 T2 : Nat → Addr) (D0 D1 D2 : Addr) (hp : Nat → Addr) (aW aR aH aS aF aP : Addr) : Cfg where
  n := n
  w := fun i t => pref (jj i) t
  rk := fun s i => (pick3 v0 v1 v2 s i, (i : Int))
  cap := cap
  wa := fun i => oa (jj i)
  T := pick3 T0 T1 T2
  rl := pick3 D0 D1 D2
  hp := hp
  aW := aW
  aR := aR
  aH := aH
  aS := aS
  aF := aF
  aP := aP

theorem nodup_all {a1 a2 a3 a4 a5 a6 a7 a8 a9 a10 a11 a12 : Addr} (h : [a1, a2, a3, a4, a5, a6, a7, a8, a9, a10, a11, a12].Nodup) : [a1, a2, a6, a5, a4, a11, a9, a12, a3, a10, a8, a7].Nodup := by
  have p : [a1, a2, a6, a5, a4, a11, a9, a12, a3, a10, a8, a7].Perm [a1, a2, a3, a4, a5, a6, a7, a8, a9, a10, a11, a12] := by
    refine .cons _ (.cons _ ?_)
    refine List.perm_iff_count.mpr fun a => ?_
    simp only [List.count_cons, List.count_nil]
    omega
  exact p.nodup_iff.mpr h

section
variable {prog : Program} {w : World} {A : Around} {E : Value → Shared → Prop} {s : Shared} {base : Heap} {mg mb : Str → Option Value} {L fa : Addr} {cd : Value} {aX : Addr} {xs : List Value} {ns : List Int}

/-- a block runs so -/
structure Rb (M : Model) (A : Around) (st : List Stmt) (env : Env) (Q : Flow → Shared → Prop) (E : Value → Shared → Prop) (s : Shared) : Prop where
  run : wpAny M A (execs st env) Q E s

def lawR (k : Nat) : List Stmt := (bodyOf (fnAt 6)).drop k
theorem law_len : (bodyOf (fnAt 6)).length = 12 := rfl
theorem lawR_cons {k : Nat} (hk : k < 12) : lawR k = lawSt k :: lawR (k + 1) := by
  unfold lawR lawSt
  have hk' : k < (bodyOf (fnAt 6)).length := by rw [law_len]; exact hk
  rw [List.drop_eq_getElem_cons hk', List.getD, List.getElem?_eq_getElem hk']
  rfl
theorem law_next {k : Nat} {M : Model} {env : Env} (hk : k < 12) {Q : Flow → Shared → Prop} (h : Rs M A (lawSt k) env (fun f s₁ => match f with
      | .next => Rb M A (lawR (k + 1)) env Q E s₁
      | f => Q f s₁) E s) : Rb M A (lawR k) env Q E s := by
  constructor
  rw [lawR_cons hk]
  exact wpAny_execs_cons (wpAny_mono h.run (fun f s₁ h₁ => by
    cases f with
    | next => exact h₁.run
    | _ => exact h₁) fun _ _ x => x)

/-- the loop, and the last statement -/
theorem da_loop' {c : Cfg} {r₀ : Nat → Nat} {H₀ : Nat → List Nat} {p₀ : List Nat} (ok : c.Ok) (G : Glb base mg mb) (hbP : base.get? c.aP = none) (hbF : base.get? c.aF = none) (hbH : ∀ q, q < 3 → base.get? (c.hp q) = none)
    (hh : A.handled = none) (hdp : A.depth + 5 < recursionLimit) (hu : A.units + 100 < cLine) {Q : Flow → Shared → Prop} (T0 : Tn c base L r₀ H₀ p₀ s.heap)
    (hQ : ∀ h tk r H, Tn c base L r H [] h → Q .next { s with heap := h, toks := tk }) :
    Rs (model prog w) A (lawSt 10) (lwEnv L fa cd) Q E s := by
  constructor
  exact da_loop ok G hbP hbF hbH hh hdp hu T0 hQ

theorem setup (G : Glb base mg mb) (hh : A.handled = none) (S : LS base L (lwCs L) [] [(Str.ofString "script", .ref aX)] s.heap) (hX : s.heap.IsList aX xs.toArray) (hi : IntsAre xs ns) (hl : xs.length < 1000) {Q : Flow → Shared → Prop}
    (hQ : ∀ (c : Cfg) h tk, c.Ok → Tn c base L (fun _ => 0) (fun _ => []) (List.range c.n) h → base.get? c.aP = none → base.get? c.aF = none → (∀ q, q < 3 → base.get? (c.hp q) = none) →
      Rb (model prog w) A (lawR 10) (lwEnv L fa cd) Q E { s with heap := h, toks := tk }) :
    Rb (model prog w) A (lawR 0) (lwEnv L fa cd) Q E s := by
  refine law_next (by decide) ?_
  refine drawn_stmt G hh S rfl hX hi hl ?_
  intro h0 tk0 aD ds dn S0 hD0 hdi hdl k0
  have hX0 := k0.ks.isList hX
  refine law_next (by decide) ?_
  refine seats_stmt (s := { s with heap := h0, toks := tk0 }) G hh S0 rfl hX0 hi ?_
  intro h1 tk1 aS cap ts fS S1 hS1 hcap k1
  have U0 : Us base h0 [] := ⟨List.nodup_nil, fun x hx => (by cases hx), fun x hx => (by cases hx)⟩
  have U1 := U0.add S0.sub fS k1.ks hS1
  have hD1 := k1.ks.list hD0
  refine law_next (by decide) ?_
  refine orders_stmt (s := { s with heap := h1, toks := tk1 }) S1 ?_
  intro h2 tk2 aO oa S2 hO2 hOt2 k2
  refine law_next (by decide) ?_
  have hD2 := k2.ks.list hD1
  refine wishes_stmt (s := { s with heap := h2, toks := tk2 }) hh S2 rfl rfl hD2 hdi hdl hO2 ?_
  intro h3 tk3 aW jj fW S3 hW3 hjj k3
  have U3 := (U1.keep k2.ks).add S2.sub fW k3.ks hW3
  have hD3 := k3.ks.list hD2
  have hS3 := k3.ks.list (k2.ks.list hS1)
  have hOt3 : ∀ j, j < 6 → ∃ t0 t1 t2, h3.IsTuple (oa j) #[.int (pref j 0 : Nat) t0, .int (pref j 1 : Nat) t1, .int (pref j 2 : Nat) t2] := fun j hj => let ⟨a, b, d, x⟩ := hOt2 j hj; ⟨a, b, d, k3.ks.tuple x⟩
  refine law_next (by decide) ?_
  refine ranks_stmt (s := { s with heap := h3, toks := tk3 }) G hh S3 rfl hD3 hdi hdl ?_
  intro h4 h5 tk5 D0 aR T0 v0 fD0 k34 hD0' fR S5 k45 hR5 hT0
  dsimp only at fD0 k34
  have U4 := U3.add S3.sub fD0 (.of_sub k34) hD0'
  have B4 : Sub base h4 := fun a o e => k34 a o (S3.sub a o e)
  have U5 := U4.add B4 fR k45.ks hR5
  have k35 : KS h3 h5 := (KS.of_sub k34).trans k45.ks
  have hRf : base.get? aR = none := fresh_sub B4 fR
  have ne4 : ∀ {x : Addr} {vs : Array Value}, h4.PlainList x vs → x ≠ aR := fun {x vs} ⟨n, e⟩ q => by rw [q, fR] at e; cases e
  have neD : aD ≠ aR := ne4 ((KS.of_sub k34).list hD3)
  have neS : aS ≠ aR := ne4 ((KS.of_sub k34).list hS3)
  have neW : aW ≠ aR := ne4 ((KS.of_sub k34).list hW3)
  have neD0 : D0 ≠ aR := ne4 hD0'
  refine law_next (by decide) ?_
  refine append5 (s := { s with heap := h5, toks := tk5 }) G hh S5 rfl rfl (k35.list hD3) hdi hdl (ov := [.ref D0]) hR5 (by simp) hRf ?_
  intro h6 h7 tk7 D1 T1 v1 fD1 k56 hD1' hT1 hR6 S7 c67 hR7
  dsimp only at fD1 k56
  have U6 := U5.add S5.sub fD1 (.of_sub k56) hD1'
  have U7 := U6.chg c67 hR7
  have neD1 : D1 ≠ aR := fun q => by obtain ⟨n, e⟩ := hR5; rw [q, e] at fD1; cases fD1
  have l57 : ∀ {x : Addr} {vs : Array Value}, h5.PlainList x vs → x ≠ aR → h7.PlainList x vs := fun hx ne => only c67 hR6 ((KS.of_sub k56).list hx) ne
  have t57 : ∀ {x : Addr} {vs : Array Value}, h5.IsTuple x vs → h7.IsTuple x vs := fun hx => onlyT c67 hR6 ((KS.of_sub k56).tuple hx)
  have r57 : ∀ {x : Addr} {y : Rk}, h5.IsTuple x #[.int y.1 0, .int y.2 0] → True := fun _ => trivial
  refine law_next (by decide) ?_
  refine append6 (s := { s with heap := h7, toks := tk7 }) G hh S7 rfl rfl (l57 (k35.list hD3) neD) hdi hdl (ov := [.ref D0, .ref D1]) hR7 (by simp) hRf ?_
  intro h8 h9 tk9 D2 T2 v2 fD2 k78 hD2' hT2 hR8 S9 c89 hR9
  dsimp only at fD2 k78
  have U8 := U7.add S7.sub fD2 (.of_sub k78) hD2'
  have U9 := U8.chg c89 hR9
  have neD2 : D2 ≠ aR := fun q => by obtain ⟨n, e⟩ := hR7; rw [q, e] at fD2; cases fD2
  have l79 : ∀ {x : Addr} {vs : Array Value}, h7.PlainList x vs → x ≠ aR → h9.PlainList x vs := fun hx ne => only c89 hR8 ((KS.of_sub k78).list hx) ne
  have t79 : ∀ {x : Addr} {vs : Array Value}, h7.IsTuple x vs → h9.IsTuple x vs := fun hx => onlyT c89 hR8 ((KS.of_sub k78).tuple hx)
  have l59 : ∀ {x : Addr} {vs : Array Value}, h5.PlainList x vs → x ≠ aR → h9.PlainList x vs := fun hx ne => l79 (l57 hx ne) ne
  have t59 : ∀ {x : Addr} {vs : Array Value}, h5.IsTuple x vs → h9.IsTuple x vs := fun hx => t79 (t57 hx)
  have hD9 := l59 (k35.list hD3) neD
  refine law_next (by decide) ?_
  refine heaps_stmt (s := { s with heap := h9, toks := tk9 }) S9 U9 ?_
  intro h10 tk10 hp aH S10 k10 hH10 hHl10 U10
  refine law_next (by decide) ?_
  refine refused_stmt (s := { s with heap := h10, toks := tk10 }) G S10 rfl (k10.ks.list hD9) hdl U10 ?_
  intro h11 tk11 aF tF S11 k11 hF11 U11
  refine law_next (by decide) ?_
  refine pile_stmt (s := { s with heap := h11, toks := tk11 }) G hh S11 rfl (k11.ks.list (k10.ks.list hD9)) hdl U11 ?_
  intro h12 tk12 aP vs S12 k12 hP12 hPi U12
  have k912 : KS h9 h12 := (k10.ks.trans k11.ks).trans k12.ks
  have tups : ∀ {x : Addr} {y : Rk} {h h' : Heap}, (∀ {x : Addr} {vs : Array Value}, h.IsTuple x vs → h'.IsTuple x vs) → TupAt h x y → TupAt h' x y := fun k ⟨t, u, z⟩ => ⟨t, u, k z⟩
  have ok : (cfgOf ds.length jj oa v0 v1 v2 cap T0 T1 T2 D0 D1 D2 hp aW aR aH aS aF aP).Ok := ⟨fun i hi t ht => pref_lt (hjj i hi) ht, fun _ _ => rfl, by show ds.length < 60; omega, fun q hq => (hcap q hq).1, fun q hq => (hcap q hq).2⟩
  have Wd : Wo (cfgOf ds.length jj oa v0 v1 v2 cap T0 T1 T2 D0 D1 D2 hp aW aR aH aS aF aP) (fun _ => 0) (fun _ => []) (List.range ds.length) h12 := by
    refine ⟨k912.list (l59 (k35.list hW3) neW), fun i hi => ?_, k912.list hR9, fun q hq => ?_, fun q hq i hi => ?_, (k11.ks.trans k12.ks).list hH10, fun q hq => (k11.ks.trans k12.ks).list (hHl10 q hq), ⟨ts, k912.list (l59 (k35.list hS3) neS)⟩, ⟨fun _ => tF, k12.ks.list hF11⟩, ⟨vs, hP12, hPi⟩, ?_⟩
    · obtain ⟨a, b, d, x⟩ := hOt3 (jj i) (hjj i hi)
      exact ⟨a, b, d, k912.tuple (t59 (k35.tuple x))⟩
    · rcases lt3 hq with rfl | rfl | rfl
      · exact k912.list (l59 (k45.ks.list hD0') neD0)
      · exact k912.list (l79 (only c67 hR6 hD1' neD1) neD1)
      · exact k912.list (only c89 hR8 hD2' neD2)
    · rcases lt3 hq with rfl | rfl | rfl
      · exact k912.tup (tups t59 (k45.ks.tup (hT0 i hi)))
      · exact k912.tup (tups t79 (onlyR c67 hR6 (hT1 i hi)))
      · exact k912.tup (onlyR c89 hR8 (hT2 i hi))
    · exact nodup_all U12.nd
  refine hQ _ h12 tk12 ok ⟨⟨S12.F.fewer ⟨rfl, rfl, rfl, rfl, rfl, rfl, trivial⟩, Wd⟩, DA.start, fun q _ => ?_⟩ (U12.fr aP (by simp)) (U12.fr aF (by simp)) fun q hq => ?_
  · intro i hi1 hi2
    exact absurd hi2 (Nat.not_lt_zero _)
  · rcases lt3 hq with rfl | rfl | rfl
    · exact U12.fr (hp 0) (by simp)
    · exact U12.fr (hp 1) (by simp)
    · exact U12.fr (hp 2) (by simp)

/-- law returns True -/
theorem law_body (G : Glb base mg mb) (hh : A.handled = none) (hdp : A.depth + 5 < recursionLimit) (hu : A.units + 300 < cLine) (S : LS base L (lwCs L) [] [(Str.ofString "script", .ref aX)] s.heap) (hX : s.heap.IsList aX xs.toArray) (hi : IntsAre xs ns) (hl : xs.length < 1000) {Q : Flow → Shared → Prop}
    (hQ : ∀ h' tk, Sub base h' → Q (.ret (.bool true)) { s with heap := h', toks := tk }) :
    Rb (model prog w) A (lawR 0) (lwEnv L fa cd) Q E s := by
  refine setup G hh S hX hi hl ?_
  intro c h tk ok T fP fF fH
  refine law_next (by decide) ?_
  refine da_loop' (s := { s with heap := h, toks := tk }) ok G fP fF fH hh hdp (by omega) T ?_
  intro h1 tk1 r H T1
  refine law_next (by decide) ?_
  refine final_stmt (s := { s with heap := h1, toks := tk1 }) ok G hh hdp hu T1 ?_
  intro h2 tk2 B
  exact hQ h2 tk2 B
end
end Mine
end PartA6

section PartH1
open PySem PySem.W PyProof.Rows
set_option Elab.async false
set_option maxRecDepth 100000
set_option maxHeartbeats 2000000
set_option autoImplicit false
namespace Mine
section
variable {p : Program} {loose : List Str} {mean : ExcName → Option Value} {mg mb : Str → Option Value}

theorem fn_of {h : Heap} (T : Top p loose mean mg mb h) {d : DefRec} {name : Str} {k : Nat} (hd : d ∈ recsOf p) (e1 : d.name = name) (e2 : d.params = paramsOf (fnAt k)) (e3 : d.body = bodyOf (fnAt k)) (e4 : d.scope = scopeOf (fnAt k)) :
    ∃ a, mg name = some (.ref a) ∧ Fn h a name k := by
  obtain ⟨a, o, pm, code, doc, h1, h2, h3, h4⟩ := T.fn d hd
  subst e1
  rw [e2, e3, e4] at h3
  exact ⟨a, h1, ⟨o, pm, code, doc, h2, h3, h4⟩⟩

def recOf (k : Nat) (name : Str) (pos : Pos) : DefRec := ⟨name, paramsOf (fnAt k), bodyOf (fnAt k), scopeOf (fnAt k), pos⟩

theorem glb_of {h : Heap} (T : Top p loose mean mg mb h) {p1 p2 p3 p5 p6 : Pos}
    (hr : recsOf p = [recOf 1 (Str.ofString "_heapreplace_max") p1, recOf 2 (Str.ofString "_siftdown_max") p2, recOf 3 (Str.ofString "_siftup_max") p3, recOf 5 (Str.ofString "_law_left") p5, recOf 6 (Str.ofString "law") p6])
    (hm : ∀ x ∈ bnames, Str.ofString x ∉ startupNames ∧ Str.ofString x ∉ loose ∧ Str.ofString x ∉ (recsOf p).map (·.name) ∧ Str.ofString x ∉ (litsOf p).map (·.1) ∧ Str.ofString x ∉ (clssOf p loose).map (·.name)) : Glb h mg mb where
  g := T.g
  b := T.b
  nolimit := T.nolimit
  hr := fn_of T (d := recOf 1 (Str.ofString "_heapreplace_max") p1) (by rw [hr]; simp) rfl rfl rfl rfl
  sd := fn_of T (d := recOf 2 (Str.ofString "_siftdown_max") p2) (by rw [hr]; simp) rfl rfl rfl rfl
  su := fn_of T (d := recOf 3 (Str.ofString "_siftup_max") p3) (by rw [hr]; simp) rfl rfl rfl rfl
  ll := fn_of T (d := recOf 5 (Str.ofString "_law_left") p5) (by rw [hr]; simp) rfl rfl rfl rfl
  miss := fun x hx => let ⟨a, b, c, d, e⟩ := hm x hx; T.free _ a b c d e
  bi := T.builtins

theorem law_top {prog : Program} {w : World} {A : Around} {E : Value → Shared → Prop} {s₁ : Shared} {h₁ : Heap} {tk₁ : Nat} {fa : Addr} {cd : Value} {aX : Addr} {xs : List Value} {ns : List Int} {o1 o2 : Obj} {m : Str → Option Value} {v1 v2 : Option Value} {Q : Flow → Shared → Prop}
    (G : Glb s₁.heap mg mb) (hL : s₁.heap.IsList aX xs.toArray) (hI : IntsAre xs ns) (hlen : ¬ ((63 : Nat) : Int) < (ns.length : Int)) (F : Fr s₁.heap s₁.heap.objs.size h₁ m)
    (N0 : News s₁.heap s₁.heap.objs.size h₁ [(s₁.heap.objs.size + 1 + 1, o1), (s₁.heap.objs.size + 1, o2)]) (e1 : o1.data = .cell v1) (e2 : o2.data = .cell v2) (hv2 : v2 = some (.ref aX))
    (hh : A.handled = none) (hdp : A.depth + 5 < recursionLimit) (hu : A.units + 300 < cLine)
    (hQ : ∀ h' tk, Sub s₁.heap h' → Q (.ret (.bool true)) { s₁ with heap := h', toks := tk }) :
    Rb (model prog w) A (lawR 0) (lwEnv s₁.heap.objs.size fa cd) Q E { s₁ with heap := h₁, toks := tk₁ } := by
  have n1 := N0 _ (List.mem_cons_self ..)
  have n2 := N0 _ (List.mem_cons_of_mem _ (List.mem_cons_self ..))
  have fN : ∀ x, s₁.heap.objs.size ≤ x → s₁.heap.get? x = none := fun x hx => Heap.get?_none_of_le hx
  have ecs : lwCs s₁.heap.objs.size = [(Str.ofString "orders", s₁.heap.objs.size + 1 + 1), (Str.ofString "script", s₁.heap.objs.size + 1)] := rfl
  have C : Cl s₁.heap.objs.size (lwCs s₁.heap.objs.size) h₁ (fun x => if x = Str.ofString "orders" then v1 else v2) := by
    rw [ecs]
    refine ⟨fun x c' e => ?_, ?_, fun x c' e => ?_⟩
    · rw [List.lookup_cons] at e
      cases q : x == Str.ofString "orders" with
      | true =>
        rw [q] at e; cases e
        rw [if_pos (beq_iff_eq.mp q)]
        exact ⟨o1, n1.1, e1⟩
      | false =>
        rw [q] at e
        simp only at e
        rw [List.lookup_cons] at e
        cases q' : x == Str.ofString "script" with
        | true =>
          rw [q'] at e; cases e
          rw [if_neg (by simpa using q)]
          exact ⟨o2, n2.1, e2⟩
        | false => rw [q'] at e; cases e
    · refine List.pairwise_cons.mpr ⟨fun y hy => ?_, List.pairwise_singleton _ _⟩
      rw [List.mem_singleton.mp hy]
      exact Nat.succ_ne_self _
    · rcases List.mem_cons.mp e with h | h
      · cases h; exact Nat.lt_succ_of_lt (Nat.lt_succ_self _)
      · cases List.mem_singleton.mp h; exact Nat.lt_succ_self _
  have S : LS s₁.heap s₁.heap.objs.size (lwCs s₁.heap.objs.size) [] [(Str.ofString "script", .ref aX)] h₁ := by
    refine ⟨⟨⟨_, F.ns, fun x v e => by cases e⟩, Ch.of_sub F.keep, .inl (fN _ (Nat.le_refl _))⟩, ⟨_, C, fun x v e => ?_⟩, fun x c' hm => fN _ (Nat.le_of_lt (C.above x c' hm))⟩
    rw [List.lookup_cons] at e
    cases q : x == Str.ofString "script" with
    | true =>
      rw [q] at e; cases e
      have hx := beq_iff_eq.mp q
      rw [if_neg (by rw [hx]; decide)]
      exact hv2
    | false => rw [q] at e; cases e
  refine law_body (s := { s₁ with heap := h₁, toks := tk₁ }) G hh hdp hu S (hL.at fun o e => F.keep _ o e) hI ?_ ?_
  · have := hI.length
    omega
  · intro h' tk k
    exact hQ h' tk k
end
end Mine
end PartH1

section PartTop1
open PySem PySem.W PyProof.Rows
set_option Elab.async false
set_option maxRecDepth 100000
set_option maxHeartbeats 8000000
namespace Mine
open_top hd for PySem.Challenge.rw_dp0036_01
end Mine
end PartTop1

section PartTop3
open PySem PySem.W PyProof.Rows
set_option Elab.async false
set_option maxRecDepth 100000
set_option maxHeartbeats 8000000
namespace Mine
def posOf : Stmt → Pos
  | .FunctionDef _ _ _ _ _ _ _ _ _ p => p
  | _ => ⟨0, 0, 0, 0⟩
theorem goodB {c : ClaimW} {cl : Str → Option Addr} {mean : ExcName → Option Value} {args : List WData} {s₁ s' : Shared} {b : Bool} (hk : Sub s₁.heap s'.heap) (hg : s'.gens = #[]) (hn : ∀ cls, c.raises args cls = false) (hp : c.post args (.bool b) args = true) (hos : s'.os = s₁.os := by rfl) :
    GoodW c cl mean args s₁ (.ok (.ret (.bool b))) s' := ⟨.inl ⟨_, _, [], rfl, hn, .bool b, hp, unshared_nil⟩, hk, hos, hg⟩
theorem deep_ok (env : Env) : (callerA.deeper env).depth + 5 < recursionLimit := by
  show callerA.depth + 1 + 5 < recursionLimit
  decide
theorem units_ok (env : Env) : (callerA.deeper env).units + 300 < cLine := by
  show callerA.units + 3 + 300 < cLine
  decide
end Mine
end PartTop3

open PySem PySem.W PyProof.Rows
set_option Elab.async false
set_option maxRecDepth 100000
set_option maxHeartbeats 8000000 in
theorem PySem.Challenge.cw_dp0036_01_holds : PySem.Challenge.rw_dp0036_01.Holds := by
  exact Mine.hd (by
    k_go0
    refine Mine.Rb.run ?_
    have T := ‹Top _ _ _ _ _ _›
    have G := Mine.glb_of T (p1 := Mine.posOf (Mine.fnAt 1)) (p2 := Mine.posOf (Mine.fnAt 2)) (p3 := Mine.posOf (Mine.fnAt 3)) (p5 := Mine.posOf (Mine.fnAt 5)) (p6 := Mine.posOf (Mine.fnAt 6)) (by kernel_rfl) (by decide +kernel)
    refine Mine.law_top G ‹Heap.IsList _ _ _› ‹IntsAre _ _› ‹¬ ((63 : Nat) : Int) < _› ‹Fr _ _ _ _› ‹News _ _ _ _› (by assumption) (by assumption) rfl rfl (Mine.deep_ok _) (Mine.units_ok _) ?_
    intro h' tk k
    show GoodW _ _ _ _ _ (.ok (.ret (.bool true))) _
    refine Mine.goodB k (by assumption) (raisesW_false ?_) ?_
    · wrow_none_raised
    · wrow_post)
