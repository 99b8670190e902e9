/-
  PLAIN: no Go in sight. A string's byte at a place, as an Int.
-/
namespace Go.Proofs.Qxb6601606a.Pl

/-- byte j of s, as an Int; -1 outside. -/
def bt (s : ByteArray) (j : Nat) : Int := if h : j < s.size then (s[j].toNat : Int) else -1

theorem bt_of (s : ByteArray) (j : Nat) (h : j < s.size) : (s[j].toNat : Int) = bt s j := by
  simp [bt, h]

theorem bt_bd (s : ByteArray) (j : Nat) (h : j < s.size) : 0 ≤ bt s j ∧ bt s j ≤ 255 := by
  rw [← bt_of s j h]
  have := s[j].toNat_lt
  omega

theorem bt_append_right (p s : ByteArray) (j : Nat) (h : j < s.size) : bt (p ++ s) (p.size + j) = bt s j := by
  have h' : p.size + j < (p ++ s).size := by simp; omega
  rw [← bt_of _ _ h', ← bt_of _ _ h]
  simp [ByteArray.getElem_append_right]

theorem bt_extract (s : ByteArray) (m j : Nat) (hm : m ≤ s.size) (h : j < m) : bt (s.extract 0 m) j = bt s j := by
  have h' : j < (s.extract 0 m).size := by simp; omega
  rw [← bt_of _ _ h', ← bt_of _ _ (by omega)]
  simp [ByteArray.getElem_extract]

/-! ### title -/

/-- the loop of 'title': 'f' rounds are left, 'j' is the place, 'e' the end so far. -/
def tLoop (g : Nat → Int) (c : Int) : Nat → Nat → Int → Int
  | 0, _, e => e
  | f + 1, j, e =>
    if g j ≠ c ∧ (c ≠ 41 ∨ g j ≠ 40) then tLoop g c f (j + 1) e
    else
      if g (j - 1) ≠ 92 then (if g j = c then (j : Int) + 1 else e)
      else tLoop g c f (j + 1) (if g j = c then (j : Int) + 1 else e)

def closer (o : Int) : Int := if o = 40 then 41 else if o = 34 ∨ o = 39 then o else -1

def title (g : Nat → Int) (n i : Nat) : Int :=
  if i = n then -1
  else if closer (g i) = -1 then -1 else tLoop g (closer (g i)) (n - (i + 1)) (i + 1) (-1)

theorem tLoop_succ (g : Nat → Int) (c : Int) (n j : Nat) (e : Int) (hlt : j < n) :
    tLoop g c (n - j) j e =
      if g j ≠ c ∧ (c ≠ 41 ∨ g j ≠ 40) then tLoop g c (n - (j + 1)) (j + 1) e
      else
        if g (j - 1) ≠ 92 then (if g j = c then (j : Int) + 1 else e)
        else tLoop g c (n - (j + 1)) (j + 1) (if g j = c then (j : Int) + 1 else e) := by
  have h : n - j = (n - (j + 1)) + 1 := by omega
  rw [h]
  rfl

theorem tLoop_end (g : Nat → Int) (c : Int) (n j : Nat) (e : Int) (h : n ≤ j) : tLoop g c (n - j) j e = e := by
  have h : n - j = 0 := by omega
  rw [h]
  rfl

theorem tl_skip {g : Nat → Int} {c : Int} {n j : Nat} {e R : Int} (hlt : j < n) (h : g j ≠ c) (h' : c ≠ 41 ∨ g j ≠ 40)
    (H : tLoop g c (n - j) j e = R) : tLoop g c (n - (j + 1)) (j + 1) e = R := by
  rw [tLoop_succ g c n j e hlt, if_pos ⟨h, h'⟩] at H
  exact H

theorem tl_hit_go {g : Nat → Int} {c : Int} {n j : Nat} {e R : Int} (hlt : j < n) (h : g j = c) (h' : g (j - 1) = 92)
    (H : tLoop g c (n - j) j e = R) : tLoop g c (n - (j + 1)) (j + 1) ((j : Int) + 1) = R := by
  rw [tLoop_succ g c n j e hlt, if_neg (fun q => q.1 h), if_neg (fun q => q h'), if_pos h] at H
  exact H

theorem tl_hit_stop {g : Nat → Int} {c : Int} {n j : Nat} {e R : Int} (hlt : j < n) (h : g j = c) (h' : g (j - 1) ≠ 92)
    (H : tLoop g c (n - j) j e = R) : (j : Int) + 1 = R := by
  rw [tLoop_succ g c n j e hlt, if_neg (fun q => q.1 h), if_pos h', if_pos h] at H
  exact H

theorem tl_par_go {g : Nat → Int} {n j : Nat} {e R : Int} (hlt : j < n) (h : g j = 40) (h' : g (j - 1) = 92)
    (H : tLoop g 41 (n - j) j e = R) : tLoop g 41 (n - (j + 1)) (j + 1) e = R := by
  rw [tLoop_succ g 41 n j e hlt, if_neg (by rw [h]; simp), if_neg (fun q => q h'), if_neg (by rw [h]; simp)] at H
  exact H

theorem tl_par_stop {g : Nat → Int} {n j : Nat} {e R : Int} (hlt : j < n) (h : g j = 40) (h' : g (j - 1) ≠ 92)
    (H : tLoop g 41 (n - j) j e = R) : e = R := by
  rw [tLoop_succ g 41 n j e hlt, if_neg (by rw [h]; simp), if_pos h', if_neg (by rw [h]; simp)] at H
  exact H

/-! the same, in the walk's own words -/
theorem eq92 {x : Int} (h : (x != 92) = false) : x = 92 := by simpa using h
theorem ne92 {x : Int} (h : (x != 92) = true) : x ≠ 92 := by simpa using h

theorem ne40 {x : Int} (h : (x != 41) = true ∧ (x != 40) = true) : x ≠ 40 := by simpa using h.2
theorem eq40 {x : Int} (h : ¬ x = 41) (h' : (x != 41) = false ∨ (x != 40) = false) : x = 40 := by
  simp at h'
  omega

theorem title_of {g : Nat → Int} {n i : Nat} {c : Int} (hi : ¬ i = n) (hc : closer (g i) = c) (h : ¬ c = -1) :
    title g n i = tLoop g c (n - (i + 1)) (i + 1) (-1) := by
  rw [title, if_neg hi, hc, if_neg h]

/-! ### a string put ahead shifts the answer -/
def sh (d : Nat) (e : Int) : Int := if e < 0 then -1 else (d : Int) + e

theorem tLoop_shift (g g' : Nat → Int) (c : Int) (d n : Nat) (hg : ∀ j, j < n → g' (d + j) = g j) :
    ∀ (f j : Nat) (e : Int), 0 < j → j + f ≤ n → tLoop g' c f (d + j) (sh d e) = sh d (tLoop g c f j e) := by
  intro f
  induction f with
  | zero => intro j e _ _; rfl
  | succ f ih =>
    intro j e hj hn
    have e1 : g' (d + j) = g j := hg j (by omega)
    have e2 : g' (d + j - 1) = g (j - 1) := by
      rw [show d + j - 1 = d + (j - 1) from by omega]
      exact hg (j - 1) (by omega)
    have e3 : (((d + j : Nat) : Int) + 1) = sh d ((j : Int) + 1) := by
      rw [sh, if_neg (by omega)]; omega
    have i1 := ih (j + 1) e (by omega) (by omega)
    have i2 := ih (j + 1) ((j : Int) + 1) (by omega) (by omega)
    rw [← Nat.add_assoc] at i1 i2
    rw [tLoop, tLoop, e1, e2, e3]
    by_cases h1 : g j ≠ c ∧ (c ≠ 41 ∨ g j ≠ 40)
    · rw [if_pos h1, if_pos h1, i1]
    · rw [if_neg h1, if_neg h1]
      by_cases h2 : g j = c
      · rw [if_pos h2, if_pos h2, i2]
        by_cases h3 : g (j - 1) ≠ 92
        · rw [if_pos h3, if_pos h3]
        · rw [if_neg h3, if_neg h3]
      · rw [if_neg h2, if_neg h2, i1]
        by_cases h3 : g (j - 1) ≠ 92
        · rw [if_pos h3, if_pos h3]
        · rw [if_neg h3, if_neg h3]

theorem title_shift (g g' : Nat → Int) (d n i : Nat) (hi : i ≤ n) (hg : ∀ j, j < n → g' (d + j) = g j) :
    title g' (d + n) (d + i) = sh d (title g n i) := by
  by_cases he : i = n
  · simp [title, he, sh]
  · rw [title, title, if_neg (by omega), if_neg he, hg i (by omega)]
    by_cases hc : closer (g i) = -1
    · rw [if_pos hc, if_pos hc]; rfl
    · rw [if_neg hc, if_neg hc, ← tLoop_shift g g' _ d n hg _ _ _ (by omega) (by omega)]
      rw [show d + n - (d + i + 1) = n - (i + 1) from by omega, Nat.add_assoc]
      rfl

theorem tLoop_bd (g : Nat → Int) (c : Int) :
    ∀ (f j : Nat) (e : Int), -1 ≤ e → e ≤ j → -1 ≤ tLoop g c f j e ∧ tLoop g c f j e ≤ ((j + f : Nat) : Int) := by
  intro f
  induction f with
  | zero => intro j e h1 h2; rw [tLoop]; omega
  | succ f ih =>
    intro j e h1 h2
    have i1 := ih (j + 1) e (by omega) (by omega)
    have i2 := ih (j + 1) ((j : Int) + 1) (by omega) (by omega)
    rw [tLoop]
    by_cases c1 : g j ≠ c ∧ (c ≠ 41 ∨ g j ≠ 40)
    · rw [if_pos c1]; omega
    · rw [if_neg c1]
      by_cases c2 : g j = c
      · rw [if_pos c2]
        by_cases c3 : g (j - 1) ≠ 92
        · rw [if_pos c3]; omega
        · rw [if_neg c3]; omega
      · rw [if_neg c2]
        by_cases c3 : g (j - 1) ≠ 92
        · rw [if_pos c3]; omega
        · rw [if_neg c3]; omega

theorem title_bd (g : Nat → Int) (n i : Nat) (hi : i ≤ n) : -1 ≤ title g n i ∧ title g n i ≤ n := by
  rw [title]
  by_cases he : i = n
  · rw [if_pos he]; omega
  · rw [if_neg he]
    by_cases hc : closer (g i) = -1
    · rw [if_pos hc]; omega
    · rw [if_neg hc]
      have := tLoop_bd g (closer (g i)) (n - (i + 1)) (i + 1) (-1) (by omega) (by omega)
      omega

end Go.Proofs.Qxb6601606a.Pl
