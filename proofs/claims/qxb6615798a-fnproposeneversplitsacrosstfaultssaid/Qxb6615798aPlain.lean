/-
  The plain laws of the two 'propose' statements: no Go in sight.
  'V j', 'O j': what node j said, and whether that counts. 'cnt V O x k': how many of the first k nodes said x.
-/
namespace Go.Proofs.Qxb6615798a

/-- What node j said (0 where it said nothing). -/
def sayV (len id : Nat) (idx : Int) (ph vl : Nat → Int) (j : Nat) : Int :=
  if j = id then idx else if j < len ∧ ph j = 1 then vl j else 0
/-- Whether that counts. -/
def sayO (len id : Nat) (st idx : Int) (ph vl : Nat → Int) (j : Nat) : Bool :=
  if j = id then decide (idx < st) else if j < len ∧ ph j = 1 then decide (vl j < st) else false

def cnt (V : Nat → Int) (O : Nat → Bool) (x : Int) : Nat → Nat
  | 0 => 0
  | k + 1 => cnt V O x k + if O k = true ∧ V k = x then 1 else 0
def hrd (O : Nat → Bool) : Nat → Nat
  | 0 => 0
  | k + 1 => hrd O k + if O k = true then 1 else 0

section
variable {V : Nat → Int} {O : Nat → Bool}

theorem cnt_hit {x : Int} {k : Nat} (h : O k = true) (e : V k = x) : cnt V O x (k + 1) = cnt V O x k + 1 := by
  simp [cnt, h, e]
theorem cnt_miss {x : Int} {k : Nat} (h : ¬ (O k = true ∧ V k = x)) : cnt V O x (k + 1) = cnt V O x k := by
  simp only [cnt, if_neg h]; rfl
theorem hrd_hit {k : Nat} (h : O k = true) : hrd O (k + 1) = hrd O k + 1 := by simp [hrd, h]
theorem hrd_miss {k : Nat} (h : O k = false) : hrd O (k + 1) = hrd O k := by simp [hrd, h]
theorem cnt_le (x : Int) : ∀ k, cnt V O x k ≤ hrd O k
  | 0 => Nat.le_refl _
  | k + 1 => by
    have := cnt_le x k
    by_cases h : O k = true
    · rw [hrd_hit h]
      by_cases e : V k = x
      · rw [cnt_hit h e]; omega
      · rw [cnt_miss (fun q => e q.2)]; omega
    · rw [cnt_miss (fun q => h q.1), hrd_miss (by simpa using h)]; exact this
theorem hrd_le : ∀ k, hrd O k ≤ k
  | 0 => Nat.le_refl _
  | k + 1 => by
    have := hrd_le k
    by_cases h : O k = true
    · rw [hrd_hit h]; omega
    · rw [hrd_miss (by simpa using h)]; omega
theorem cnt_le_self (x : Int) (k : Nat) : cnt V O x k ≤ k := Nat.le_trans (cnt_le x k) (hrd_le k)
/-- A value that somebody said counts one at least. -/
theorem cnt_pos_of : ∀ {k j : Nat}, j < k → O j = true → 1 ≤ cnt V O (V j) k
  | 0, j, h, _ => absurd h (Nat.not_lt_zero _)
  | k + 1, j, h, ho => by
    by_cases e : j = k
    · subst e; rw [cnt_hit ho rfl]; omega
    · have := cnt_pos_of (k := k) (j := j) (by omega) ho
      have h2 : cnt V O (V j) k ≤ cnt V O (V j) (k + 1) := by simp [cnt]
      omega
/-- A value that is counted was said. -/
theorem of_cnt_pos {x : Int} : ∀ {k : Nat}, 1 ≤ cnt V O x k → ∃ j, j < k ∧ O j = true ∧ V j = x
  | 0, h => by simp [cnt] at h
  | k + 1, h => by
    by_cases e : O k = true ∧ V k = x
    · exact ⟨k, by omega, e.1, e.2⟩
    · rw [cnt_miss e] at h
      obtain ⟨j, h1, h2⟩ := of_cnt_pos h
      exact ⟨j, by omega, h2⟩

/-! ### The majority vote -/
def Bm (V : Nat → Int) (O : Nat → Bool) (k : Nat) (c vt : Int) : Prop :=
  0 ≤ vt ∧ vt ≤ k ∧ 2 * (cnt V O c k : Int) ≤ hrd O k + vt ∧ ∀ x, x ≠ c → 2 * (cnt V O x k : Int) + vt ≤ hrd O k

theorem bm_start : Bm V O 0 0 0 := ⟨by omega, by omega, by simp [cnt, hrd], fun x _ => by simp [cnt, hrd]⟩
theorem bm_skip {k : Nat} {c vt : Int} (h : Bm V O k c vt) (ho : O k = false) : Bm V O (k + 1) c vt := by
  obtain ⟨h1, h2, h3, h4⟩ := h
  refine ⟨h1, by omega, ?_, fun x hx => ?_⟩
  · rw [cnt_miss (by simp [ho]), hrd_miss ho]; exact h3
  · rw [cnt_miss (by simp [ho]), hrd_miss ho]; exact h4 x hx
theorem bm_new {k : Nat} {c : Int} (h : Bm V O k c 0) (ho : O k = true) : Bm V O (k + 1) (V k) 1 := by
  obtain ⟨h1, h2, h3, h4⟩ := h
  have all : ∀ x, 2 * (cnt V O x k : Int) ≤ hrd O k := fun x => by
    by_cases e : x = c
    · subst e; omega
    · have := h4 x e; omega
  refine ⟨by omega, by omega, ?_, fun x hx => ?_⟩
  · rw [cnt_hit ho rfl, hrd_hit ho]; have := all (V k); omega
  · rw [cnt_miss (fun q => hx q.2.symm), hrd_hit ho]; have := all x; omega
theorem bm_up {k : Nat} {c vt : Int} (h : Bm V O k c vt) (ho : O k = true) (e : V k = c) : Bm V O (k + 1) c (vt + 1) := by
  obtain ⟨h1, h2, h3, h4⟩ := h
  refine ⟨by omega, by omega, ?_, fun x hx => ?_⟩
  · rw [cnt_hit ho e, hrd_hit ho]; omega
  · rw [cnt_miss (fun q => hx (by rw [← q.2, e])), hrd_hit ho]; have := h4 x hx; omega
theorem bm_down {k : Nat} {c vt : Int} (h : Bm V O k c vt) (ho : O k = true) (e : V k ≠ c) (hv : vt ≠ 0) : Bm V O (k + 1) c (vt - 1) := by
  obtain ⟨h1, h2, h3, h4⟩ := h
  refine ⟨by omega, by omega, ?_, fun x hx => ?_⟩
  · rw [cnt_miss (fun q => e q.2), hrd_hit ho]; omega
  · have := h4 x hx
    by_cases ex : V k = x
    · rw [cnt_hit ho ex, hrd_hit ho]; omega
    · rw [cnt_miss (fun q => ex q.2), hrd_hit ho]; omega

/-! ### The plurality -/
def Pl (V : Nat → Int) (O : Nat → Bool) (n k : Nat) (v s : Int) : Prop :=
  0 ≤ s ∧ s ≤ n ∧ (s = cnt V O v n ∨ s = 0) ∧ ∀ j, j < k → O j = true → (cnt V O (V j) n : Int) ≤ s
theorem pl_start {n : Nat} : Pl V O n 0 0 0 := ⟨by omega, by omega, .inr rfl, fun j h => absurd h (Nat.not_lt_zero _)⟩
theorem pl_skip {n k : Nat} {v s : Int} (h : Pl V O n k v s) (ho : O k = false) : Pl V O n (k + 1) v s := by
  obtain ⟨h1, h2, h3, h4⟩ := h
  refine ⟨h1, h2, h3, fun j hj hoj => ?_⟩
  by_cases e : j = k
  · subst e; rw [ho] at hoj; cases hoj
  · exact h4 j (by omega) hoj
theorem pl_keep {n k : Nat} {v s : Int} (h : Pl V O n k v s) (hc : (cnt V O (V k) n : Int) ≤ s) : Pl V O n (k + 1) v s := by
  obtain ⟨h1, h2, h3, h4⟩ := h
  refine ⟨h1, h2, h3, fun j hj hoj => ?_⟩
  by_cases e : j = k
  · subst e; exact hc
  · exact h4 j (by omega) hoj
theorem pl_take {n k : Nat} {v s : Int} (h : Pl V O n k v s) (hc : s ≤ (cnt V O (V k) n : Int)) : Pl V O n (k + 1) (V k) (cnt V O (V k) n) := by
  obtain ⟨h1, h2, h3, h4⟩ := h
  refine ⟨by omega, by have := cnt_le_self (V := V) (O := O) (V k) n; omega, .inl rfl, fun j hj hoj => ?_⟩
  by_cases e : j = k
  · subst e; exact Int.le_refl _
  · have := h4 j (by omega) hoj; omega

/-! ### The quorum's value -/
/-- 'r' is the value that n - t of the n nodes name, or the mark 'none' where no value has that many. -/
def Quor (V : Nat → Int) (O : Nat → Bool) (n : Nat) (t r : Int) : Prop :=
  (n : Int) - t ≤ cnt V O r n ∨ (r = 4294967295 ∧ ∀ x, (cnt V O x n : Int) < n - t)

theorem quor_of_pl {n : Nat} {t v s : Int} (h : Pl V O n n v s) (ht : t < n) (hs : (n : Int) - t ≤ s) : Quor V O n t v := by
  obtain ⟨h1, h2, h3, h4⟩ := h
  rcases h3 with h3 | h3
  · exact .inl (by omega)
  · omega
theorem quor_none_of_pl {n : Nat} {t v s : Int} (h : Pl V O n n v s) (ht : t < n) (hs : s < (n : Int) - t) : Quor V O n t 4294967295 := by
  obtain ⟨h1, h2, h3, h4⟩ := h
  refine .inr ⟨rfl, fun x => ?_⟩
  by_cases hx : 1 ≤ cnt V O x n
  · obtain ⟨j, hj, ho, rfl⟩ := of_cnt_pos hx
    have := h4 j hj ho; omega
  · omega
theorem quor_none_of_bm {n : Nat} {t c vt : Int} (h : Bm V O n c vt) (ht : 2 * t < n) (hs : (cnt V O c n : Int) < n - t) : Quor V O n t 4294967295 := by
  obtain ⟨h1, h2, h3, h4⟩ := h
  refine .inr ⟨rfl, fun x => ?_⟩
  by_cases hx : x = c
  · subst hx; exact hs
  · have := h4 x hx; have := hrd_le (O := O) n; omega

theorem cnt_two {x y : Int} (hne : x ≠ y) : ∀ k, cnt V O x k + cnt V O y k ≤ k
  | 0 => Nat.le_refl _
  | k + 1 => by
    have := cnt_two hne k
    by_cases h : O k = true ∧ V k = x
    · rw [cnt_hit h.1 h.2, cnt_miss (fun q => hne (by rw [← h.2, q.2]))]; omega
    · rw [cnt_miss h]
      by_cases h' : O k = true ∧ V k = y
      · rw [cnt_hit h'.1 h'.2]; omega
      · rw [cnt_miss h']; omega
theorem quor_one {n : Nat} {t r r' : Int} (ht : 2 * t < n) (h : Quor V O n t r) (h' : Quor V O n t r') : r = r' := by
  rcases h with h | ⟨e, h⟩ <;> rcases h' with h' | ⟨e', h'⟩
  · by_cases hne : r = r'
    · exact hne
    · have := cnt_two (V := V) (O := O) hne n; omega
  · have := h' r; omega
  · have := h r'; omega
  · rw [e, e']
end

/-! ### Two receptions -/
def dif (V W : Nat → Int) (O P : Nat → Bool) : Nat → Nat
  | 0 => 0
  | k + 1 => dif V W O P k + if O k ≠ P k ∨ (O k = true ∧ V k ≠ W k) then 1 else 0
theorem dif_hit {V W : Nat → Int} {O P : Nat → Bool} {k : Nat} (h : O k ≠ P k ∨ (O k = true ∧ V k ≠ W k)) : dif V W O P (k + 1) = dif V W O P k + 1 := by
  simp only [dif, if_pos h]
theorem dif_miss {V W : Nat → Int} {O P : Nat → Bool} {k : Nat} (h : ¬ (O k ≠ P k ∨ (O k = true ∧ V k ≠ W k))) : dif V W O P (k + 1) = dif V W O P k := by
  simp only [dif, if_neg h]; rfl
theorem dif_le (V W : Nat → Int) (O P : Nat → Bool) : ∀ k, dif V W O P k ≤ k
  | 0 => Nat.le_refl _
  | k + 1 => by
    have := dif_le V W O P k
    by_cases h : O k ≠ P k ∨ (O k = true ∧ V k ≠ W k)
    · rw [dif_hit h]; omega
    · rw [dif_miss h]; omega
theorem cnt_across {V W : Nat → Int} {O P : Nat → Bool} {x y : Int} (hne : x ≠ y) : ∀ k, cnt V O x k + cnt W P y k ≤ k + dif V W O P k
  | 0 => Nat.le_refl _
  | k + 1 => by
    have := cnt_across (V := V) (W := W) (O := O) (P := P) hne k
    by_cases h : O k = true ∧ V k = x
    · rw [cnt_hit h.1 h.2]
      by_cases h' : P k = true ∧ W k = y
      · rw [cnt_hit h'.1 h'.2, dif_hit (.inr ⟨h.1, by rw [h.2, h'.2]; exact hne⟩)]; omega
      · rw [cnt_miss h']
        have : dif V W O P k ≤ dif V W O P (k + 1) := by simp [dif]
        omega
    · rw [cnt_miss h]
      have h3 : dif V W O P k ≤ dif V W O P (k + 1) := by simp [dif]
      by_cases h' : P k = true ∧ W k = y
      · rw [cnt_hit h'.1 h'.2]; omega
      · rw [cnt_miss h']; omega
theorem no_split {V W : Nat → Int} {O P : Nat → Bool} {n : Nat} {t r r' : Int} (ht : 3 * t < n) (hd : (dif V W O P n : Int) ≤ t)
    (h : Quor V O n t r) (h' : Quor W P n t r') (e : r ≠ 4294967295) (e' : r' ≠ 4294967295) : r = r' := by
  rcases h with h | ⟨q, _⟩
  · rcases h' with h' | ⟨q, _⟩
    · by_cases hne : r = r'
      · exact hne
      · have := cnt_across (V := V) (W := W) (O := O) (P := P) hne n; omega
    · exact absurd q e'
  · exact absurd q e
end Go.Proofs.Qxb6615798a
