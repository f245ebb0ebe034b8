import Derived.Test.Qxb6000023aServe
namespace Go.Proofs.Qxb6000023a

theorem getO_some (l : List Nat) : getO (some l) = l := rfl
theorem getO_none : getO none = [] := rfl

theorem cmp_self (l : List Nat) : cmpL l l = 0 := (cmp_zero l l).2 rfl

/-- Equal lengths ahead: the first parts decide, else what follows. -/
theorem cmp_app {a c : List Nat} (h : a.length = c.length) (b d : List Nat) : cmpL (a ++ b) (c ++ d) = if cmpL a c = 0 then cmpL b d else cmpL a c := by
  induction a generalizing c with
  | nil => cases c with
    | nil => simp [cmpL]
    | cons y ys => simp at h
  | cons x xs ih => cases c with
    | nil => simp at h
    | cons y ys =>
      have h' : xs.length = ys.length := by simpa using h
      simp only [List.cons_append, cmpL]
      by_cases h1 : x < y
      · simp [h1]
      · by_cases h2 : y < x
        · simp [h1, h2]
        · simp [h1, h2, ih h']

/-- Against a shorter list only as much counts as that list has, and then the length. -/
theorem cmp_long {a c : List Nat} (h : a.length = c.length) (b : List Nat) : cmpL (a ++ b) c = if cmpL a c = 0 then (if b = [] then 0 else 1) else cmpL a c := by
  have := cmp_app h b []
  rw [List.append_nil] at this
  rw [this]
  cases b with
  | nil => simp [cmpL]
  | cons x xs => simp [cmpL]

theorem lo_long {a c : List Nat} (h : a.length = c.length) (b : List Nat) : loB (some c) false (a ++ b) = decide (0 ≤ cmpL a c) := by
  simp only [loB, Bool.and_false, Bool.or_false, cmp_long h b]
  rcases cmp_cases a c with e | e | e
  · simp [e]
  · rw [e]
    by_cases hb : b = [] <;> simp [hb]
  · simp [e]

theorem hi_long {a c : List Nat} (h : a.length = c.length) (b : List Nat) : hiB (some c) true (a ++ b) = decide (cmpL a c < 0) := by
  simp only [hiB, Bool.and_true, cmp_long h b]
  rcases cmp_cases a c with e | e | e
  · simp [e]
  · rw [e]
    by_cases hb : b = [] <;> simp [hb]
  · simp [e]

/-- Nothing of that length is above bytes that are all 255. -/
theorem aft_none_le {a c : List Nat} (h : a.length = c.length) (hb : ∀ x ∈ a, x < 256) (hn : aft c = none) : cmpL a c ≤ 0 := by
  induction c generalizing a with
  | nil => cases a with
    | nil => simp [cmpL]
    | cons x xs => simp at h
  | cons y ys ih => cases a with
    | nil => simp at h
    | cons x xs =>
      simp only [aft] at hn
      cases hy : aft ys with
      | some q => rw [hy] at hn; cases hn
      | none =>
        rw [hy] at hn
        have hy255 : y = 255 := by
          by_cases e : y = 255
          · exact e
          · simp [e] at hn
        have hx := hb x (by simp)
        simp only [cmpL]
        by_cases h1 : x < y
        · simp [h1]
        · rw [if_neg h1, if_neg (by omega)]
          exact ih (by simpa using h) (fun z hz => hb z (by simp [hz])) hy

/-- 'At least the next one above all that begin with c' is 'above c as far as c goes'. -/
theorem aft_cmp {a c q : List Nat} (h : a.length = c.length) (hb : ∀ x ∈ a, x < 256) (b : List Nat) (hq : aft c = some q) : cmpL (a ++ b) q < 0 ↔ cmpL a c ≤ 0 := by
  induction c generalizing a q with
  | nil => simp [aft] at hq
  | cons y ys ih => cases a with
    | nil => simp at h
    | cons x xs =>
      simp only [aft] at hq
      have hlen : xs.length = ys.length := by simpa using h
      have hbx : ∀ z ∈ xs, z < 256 := fun z hz => hb z (by simp [hz])
      cases hy : aft ys with
      | some q' =>
        rw [hy] at hq
        injection hq with hq
        subst hq
        simp only [List.cons_append, cmpL]
        by_cases h1 : x < y
        · simp [h1]
        · rw [if_neg h1, if_neg h1]
          by_cases h2 : y < x
          · simp [h2]
          · rw [if_neg h2, if_neg h2]
            exact ih hlen hbx hy
      | none =>
        rw [hy] at hq
        have hne : ¬ y = 255 := by intro e; simp [e] at hq
        simp only [hne, if_false] at hq
        injection hq with hq
        subst hq
        have hle := aft_none_le hlen hbx hy
        simp only [List.cons_append, cmpL]
        by_cases h1 : x < y
        · rw [if_pos (by omega), if_pos h1]; simp
        · by_cases h2 : y < x
          · rw [if_neg h1, if_pos h2]
            by_cases h3 : x < y + 1
            · omega
            · rw [if_neg h3]
              by_cases h4 : y + 1 < x
              · rw [if_pos h4]; omega
              · rw [if_neg h4]
                cases hxb : xs ++ b with
                | nil => simp [cmpL]
                | cons z zs => simp [cmpL]
          · rw [if_pos (by omega : x < y + 1), if_neg h1, if_neg h2]
            simp [hle]

theorem lo_aft {a c q : List Nat} (h : a.length = c.length) (hb : ∀ x ∈ a, x < 256) (b : List Nat) (hq : aft c = some q) : loB (some q) false (a ++ b) = decide (0 < cmpL a c) := by
  have := aft_cmp h hb b hq
  simp only [loB, Bool.and_false, Bool.or_false]
  by_cases h1 : cmpL (a ++ b) q < 0
  · rw [decide_eq_true h1, decide_eq_false (by have := this.1 h1; omega)]; rfl
  · rw [decide_eq_false h1, decide_eq_true (by
      by_cases h2 : cmpL a c ≤ 0
      · exact absurd (this.2 h2) h1
      · omega)]; rfl

theorem hi_aft {a c q : List Nat} (h : a.length = c.length) (hb : ∀ x ∈ a, x < 256) (b : List Nat) (hq : aft c = some q) : hiB (some q) true (a ++ b) = decide (cmpL a c ≤ 0) := by
  have := aft_cmp h hb b hq
  simp only [hiB, Bool.and_true]
  by_cases h1 : cmpL a c ≤ 0
  · have h2 := this.2 h1
    rw [decide_eq_true h1, decide_eq_false (by omega), decide_eq_false (by omega)]; rfl
  · have h2 : ¬ cmpL (a ++ b) q < 0 := fun h => h1 (this.1 h)
    rw [decide_eq_false h1]
    rcases cmp_cases (a ++ b) q with e | e | e
    · omega
    · simp [e]
    · simp [e]

/-- The lower bound's answer at k. -/
def lowerAt (lo : Option (Option (List Nat))) (k : List Nat) : Bool := match lo with
  | none => false
  | some o => loB o false k

theorem lower_ok {k1 p v rest : List Nat} {o : Option (List Nat)} {le z : Bool} (h1 : k1.length = p.length) (hv : ∀ l, o = some l → v.length = l.length) (hb1 : ∀ x ∈ k1, x < 256) (hbv : ∀ x ∈ v, x < 256) (hz : z = true → p = []) :
    lowerAt (lowF o le (if z then none else some p)) (k1 ++ (v ++ rest)) = (decide (0 < cmpL k1 p) || (decide (cmpL k1 p = 0) && loB o le v)) := by
  have hpre : getO (if z then none else some p) = p := by
    cases z
    · rfl
    · rw [hz rfl]; rfl
  cases o with
  | none =>
    cases z
    · have e : lowF none le (if false = true then none else some p) = some (some p) := by simp [lowF, getO_some, getO_none]
      rw [e]
      show loB (some p) false (k1 ++ (v ++ rest)) = _
      rw [lo_long h1]
      simp only [loB, Bool.and_true]
      rcases cmp_cases k1 p with e | e | e <;> simp [e]
    · have hp := hz rfl
      subst hp
      have hk : k1 = [] := List.eq_nil_of_length_eq_zero (by simpa using h1)
      subst hk
      rfl
  | some l =>
    have hvl := hv l rfl
    have hlen : (k1 ++ v).length = (p ++ l).length := by simp [h1, hvl]
    have hbb : ∀ x ∈ k1 ++ v, x < 256 := fun x hx => by
      rcases List.mem_append.1 hx with h | h
      · exact hb1 x h
      · exact hbv x h
    have happ := cmp_app h1 v l
    cases le
    · have e : lowF (some l) false (if z then none else some p) = some (some (p ++ l)) := by simp [lowF, hpre, getO_some]
      rw [e]
      show loB (some (p ++ l)) false (k1 ++ (v ++ rest)) = _
      rw [← List.append_assoc, lo_long hlen, happ]
      simp only [loB, Bool.and_false, Bool.or_false]
      rcases cmp_cases k1 p with e | e | e
      · simp [e]
      · rcases cmp_cases v l with e' | e' | e' <;> simp [e, e']
      · simp [e]
    · have e : lowF (some l) true (if z then none else some p) = (match aft (p ++ l) with | none => none | some q => some (some q)) := by simp [lowF, hpre, getO_some]; cases aft (p ++ l) <;> rfl
      rw [e]
      cases hq : aft (p ++ l) with
      | none =>
        have hle := aft_none_le hlen hbb hq
        rw [happ] at hle
        show false = _
        simp only [loB, Bool.and_true]
        rcases cmp_cases k1 p with e | e | e
        · simp [e]
        · rw [if_pos e] at hle
          rcases cmp_cases v l with e' | e' | e'
          · simp [e, e']
          · simp [e, e']
          · omega
        · rw [e] at hle; simp at hle
      | some q =>
        show loB (some q) false (k1 ++ (v ++ rest)) = _
        rw [← List.append_assoc, lo_aft hlen hbb rest hq, happ]
        simp only [loB, Bool.and_true]
        rcases cmp_cases k1 p with e | e | e
        · simp [e]
        · rcases cmp_cases v l with e' | e' | e' <;> simp [e, e']
        · simp [e]

theorem upper_ok {k1 p v rest : List Nat} {o : Option (List Nat)} {he z : Bool} (h1 : k1.length = p.length) (hv : ∀ l, o = some l → v.length = l.length) (hb1 : ∀ x ∈ k1, x < 256) (hbv : ∀ x ∈ v, x < 256) (hz : z = true → p = []) :
    hiB (upF o he (if z then none else some p)) true (k1 ++ (v ++ rest)) = (decide (cmpL k1 p < 0) || (decide (cmpL k1 p = 0) && hiB o he v)) := by
  have hpre : getO (if z then none else some p) = p := by
    cases z
    · rfl
    · rw [hz rfl]; rfl
  cases o with
  | none =>
    cases z
    · have e : upF none he (if false = true then none else some p) = aft p := by simp [upF, getO_some, getO_none]
      rw [e]
      cases hq : aft p with
      | none =>
        have hle := aft_none_le h1 hb1 hq
        show true = _
        simp only [hiB, Bool.and_true]
        rcases cmp_cases k1 p with e | e | e
        · simp [e]
        · simp [e]
        · omega
      | some q =>
        rw [hi_aft h1 hb1 (v ++ rest) hq]
        simp only [hiB, Bool.and_true]
        rcases cmp_cases k1 p with e | e | e <;> simp [e]
    · have hp := hz rfl
      subst hp
      have hk : k1 = [] := List.eq_nil_of_length_eq_zero (by simpa using h1)
      subst hk
      rfl
  | some l =>
    have hvl := hv l rfl
    have hlen : (k1 ++ v).length = (p ++ l).length := by simp [h1, hvl]
    have hbb : ∀ x ∈ k1 ++ v, x < 256 := fun x hx => by
      rcases List.mem_append.1 hx with h | h
      · exact hb1 x h
      · exact hbv x h
    have happ := cmp_app h1 v l
    cases he
    · have e : upF (some l) false (if z then none else some p) = aft (p ++ l) := by simp [upF, hpre, getO_some]
      rw [e]
      cases hq : aft (p ++ l) with
      | none =>
        have hle := aft_none_le hlen hbb hq
        rw [happ] at hle
        show true = _
        simp only [hiB, Bool.and_false, Bool.or_false]
        rcases cmp_cases k1 p with e | e | e
        · simp [e]
        · rw [if_pos e] at hle
          rcases cmp_cases v l with e' | e' | e'
          · simp [e, e']
          · simp [e, e']
          · omega
        · rw [e] at hle; simp at hle
      | some q =>
        rw [← List.append_assoc, hi_aft hlen hbb rest hq, happ]
        simp only [hiB, Bool.and_false, Bool.or_false]
        rcases cmp_cases k1 p with e | e | e
        · simp [e]
        · rcases cmp_cases v l with e' | e' | e' <;> simp [e, e']
        · simp [e]
    · have e : upF (some l) true (if z then none else some p) = some (p ++ l) := by simp [upF, hpre, getO_some]
      rw [e, ← List.append_assoc, hi_long hlen, happ]
      simp only [hiB, Bool.and_true]
      rcases cmp_cases k1 p with e | e | e
      · simp [e]
      · rcases cmp_cases v l with e' | e' | e' <;> simp [e, e']
      · simp [e]

/-- Both together. -/
theorem both_ok {k1 p v rest : List Nat} {o o' : Option (List Nat)} {le he z : Bool} (h1 : k1.length = p.length) (hv : ∀ l, o = some l → v.length = l.length) (hv' : ∀ l, o' = some l → v.length = l.length) (hb1 : ∀ x ∈ k1, x < 256) (hbv : ∀ x ∈ v, x < 256) (hz : z = true → p = []) :
    (lowerAt (lowF o le (if z then none else some p)) (k1 ++ (v ++ rest)) && hiB (upF o' he (if z then none else some p)) true (k1 ++ (v ++ rest))) = (decide (k1 = p) && (loB o le v && hiB o' he v)) := by
  rw [lower_ok h1 hv hb1 hbv hz, upper_ok h1 hv' hb1 hbv hz]
  have hk : decide (k1 = p) = decide (cmpL k1 p = 0) := by simp [cmp_zero]
  rw [hk]
  rcases cmp_cases k1 p with e | e | e <;> simp [e]
end Go.Proofs.Qxb6000023a
