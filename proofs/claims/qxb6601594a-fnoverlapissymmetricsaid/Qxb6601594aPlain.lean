/- The plain side: which roles carry a key or a pair. No Go here. -/
import Derived.Test.Qxb6601594aBase
namespace Go.Proofs.Qxb6601594a

/-- The value that the last of the first j labels with key x gives. -/
def lastV (K V : Nat → ByteArray) : Nat → ByteArray → Option ByteArray
  | 0, _ => none
  | j + 1, x => if K j = x then some (V j) else lastV K V j x

theorem lastV_some {K V : Nat → ByteArray} {x v : ByteArray} : ∀ {j : Nat}, lastV K V j x = some v → ∃ i, i < j ∧ K i = x ∧ V i = v
  | 0, h => by cases h
  | j + 1, h => by
    unfold lastV at h
    split at h
    · rename_i hk
      cases h
      exact ⟨j, by omega, hk, rfl⟩
    · obtain ⟨i, h1, h2⟩ := lastV_some h
      exact ⟨i, by omega, h2⟩

/-- Role i's labels, as a map. -/
def mr (l : Lab) (i : Nat) (x : ByteArray) : Option ByteArray := lastV (l.Ks i) (l.Vs i) (l.L i) x

def hasK (l : Lab) (x : ByteArray) (i : Nat) : Bool := (mr l i x).isSome
def hasP (l : Lab) (p : ByteArray × ByteArray) (i : Nat) : Bool := decide (mr l i p.1 = some p.2)
def plK (l : Lab) (k : Nat) (x : ByteArray) : List Nat := (List.range k).filter (hasK l x)
def plP (l : Lab) (k : Nat) (p : ByteArray × ByteArray) : List Nat := (List.range k).filter (hasP l p)

/-- Has one of the first j labels of role k brought key x? pair p? -/
def seenK (l : Lab) (k : Nat) : Nat → ByteArray → Bool
  | 0, _ => false
  | j + 1, x => seenK l k j x || (decide (l.Ks k j = x) && decide (mr l k x = some (l.Vs k j)))
def seenP (l : Lab) (k : Nat) : Nat → ByteArray × ByteArray → Bool
  | 0, _ => false
  | j + 1, p => seenP l k j p || (decide (l.Ks k j = p.1) && (decide (l.Vs k j = p.2) && decide (mr l k p.1 = some p.2)))

/-- What keyed, labelled hold while role k is being worked at, j labels done. -/
def LK (l : Lab) (k j : Nat) (x : ByteArray) : List Nat := plK l k x ++ (if seenK l k j x then [k] else [])
def LP (l : Lab) (k j : Nat) (p : ByteArray × ByteArray) : List Nat := plP l k p ++ (if seenP l k j p then [k] else [])

theorem seenK_of {l : Lab} {k : Nat} {x : ByteArray} : ∀ {j : Nat}, seenK l k j x = true → hasK l x k = true
  | 0, h => by cases h
  | j + 1, h => by
    simp only [seenK, Bool.or_eq_true, Bool.and_eq_true, decide_eq_true_eq] at h
    rcases h with h | ⟨_, h⟩
    · exact seenK_of h
    · simp [hasK, h]

theorem seenK_mk {l : Lab} {k : Nat} {x : ByteArray} : ∀ {j : Nat} {i : Nat}, i < j → l.Ks k i = x → mr l k x = some (l.Vs k i) → seenK l k j x = true
  | 0, _, h, _, _ => by omega
  | j + 1, i, h, h1, h2 => by
    simp only [seenK, Bool.or_eq_true, Bool.and_eq_true, decide_eq_true_eq]
    by_cases e : i = j
    · subst e
      exact Or.inr ⟨h1, h2⟩
    · exact Or.inl (seenK_mk (by omega) h1 h2)

theorem seenK_all (l : Lab) (k : Nat) (x : ByteArray) : seenK l k (l.L k) x = hasK l x k := by
  rw [Bool.eq_iff_iff]
  refine ⟨seenK_of, fun h => ?_⟩
  obtain ⟨v, hv⟩ := Option.isSome_iff_exists.1 h
  obtain ⟨i, h1, h2, h3⟩ := lastV_some hv
  exact seenK_mk h1 h2 (by rw [hv, h3])

theorem seenP_of {l : Lab} {k : Nat} {p : ByteArray × ByteArray} : ∀ {j : Nat}, seenP l k j p = true → hasP l p k = true
  | 0, h => by cases h
  | j + 1, h => by
    simp only [seenP, Bool.or_eq_true, Bool.and_eq_true, decide_eq_true_eq] at h
    rcases h with h | ⟨_, _, h⟩
    · exact seenP_of h
    · simp [hasP, h]

theorem seenP_mk {l : Lab} {k : Nat} {p : ByteArray × ByteArray} : ∀ {j : Nat} {i : Nat}, i < j → l.Ks k i = p.1 → l.Vs k i = p.2 → mr l k p.1 = some p.2 → seenP l k j p = true
  | 0, _, h, _, _, _ => by omega
  | j + 1, i, h, h1, h2, h3 => by
    simp only [seenP, Bool.or_eq_true, Bool.and_eq_true, decide_eq_true_eq]
    by_cases e : i = j
    · subst e
      exact Or.inr ⟨h1, h2, h3⟩
    · exact Or.inl (seenP_mk (by omega) h1 h2 h3)

theorem seenP_all (l : Lab) (k : Nat) (p : ByteArray × ByteArray) : seenP l k (l.L k) p = hasP l p k := by
  rw [Bool.eq_iff_iff]
  refine ⟨seenP_of, fun h => ?_⟩
  have hv : mr l k p.1 = some p.2 := of_decide_eq_true h
  obtain ⟨i, h1, h2, h3⟩ := lastV_some hv
  exact seenP_mk h1 h2 h3 hv

theorem LK_zero (l : Lab) (k : Nat) (x : ByteArray) : LK l k 0 x = plK l k x := by simp [LK, seenK]
theorem LP_zero (l : Lab) (k : Nat) (p : ByteArray × ByteArray) : LP l k 0 p = plP l k p := by simp [LP, seenP]
theorem LK_all (l : Lab) (k : Nat) (x : ByteArray) : LK l k (l.L k) x = plK l (k + 1) x := by
  rw [LK, seenK_all, plK, plK, List.range_succ, List.filter_append]
  cases h : hasK l x k <;> simp [h]
theorem LP_all (l : Lab) (k : Nat) (p : ByteArray × ByteArray) : LP l k (l.L k) p = plP l (k + 1) p := by
  rw [LP, seenP_all, plP, plP, List.range_succ, List.filter_append]
  cases h : hasP l p k <;> simp [h]

theorem plK_len (l : Lab) (k : Nat) (x : ByteArray) : (plK l k x).length ≤ k := by
  have := List.length_filter_le (hasK l x) (List.range k)
  simpa [plK] using this
theorem plP_len (l : Lab) (k : Nat) (p : ByteArray × ByteArray) : (plP l k p).length ≤ k := by
  have := List.length_filter_le (hasP l p) (List.range k)
  simpa [plP] using this
theorem LK_len (l : Lab) (k j : Nat) (x : ByteArray) : (LK l k j x).length ≤ k + 1 := by
  have := plK_len l k x
  simp only [LK, List.length_append]
  split <;> simp <;> omega
theorem LP_len (l : Lab) (k j : Nat) (p : ByteArray × ByteArray) : (LP l k j p).length ≤ k + 1 := by
  have := plP_len l k p
  simp only [LP, List.length_append]
  split <;> simp <;> omega

/-- The last place on the list is k just where role k has brought the key. -/
theorem LK_seen {l : Lab} {k j : Nat} {x : ByteArray} (h : seenK l k j x = true) : LK l k j x = plK l k x ++ [k] := by simp [LK, h]
theorem LK_unseen {l : Lab} {k j : Nat} {x : ByteArray} (h : seenK l k j x = false) : LK l k j x = plK l k x := by simp [LK, h]
theorem LP_seen {l : Lab} {k j : Nat} {p : ByteArray × ByteArray} (h : seenP l k j p = true) : LP l k j p = plP l k p ++ [k] := by simp [LP, h]
theorem LP_unseen {l : Lab} {k j : Nat} {p : ByteArray × ByteArray} (h : seenP l k j p = false) : LP l k j p = plP l k p := by simp [LP, h]
theorem plK_lt {l : Lab} {k : Nat} {x : ByteArray} {i : Nat} (h : i ∈ plK l k x) : i < k := by
  simp only [plK, List.mem_filter, List.mem_range] at h
  exact h.1
theorem plP_lt {l : Lab} {k : Nat} {p : ByteArray × ByteArray} {i : Nat} (h : i ∈ plP l k p) : i < k := by
  simp only [plP, List.mem_filter, List.mem_range] at h
  exact h.1

/-- One label more that does not count: nothing turns. -/
theorem seenK_skip {l : Lab} {k j : Nat} (h : mr l k (l.Ks k j) ≠ some (l.Vs k j)) (x : ByteArray) : seenK l k (j + 1) x = seenK l k j x := by
  simp only [seenK]
  by_cases e : l.Ks k j = x
  · subst e
    simp [h]
  · simp [e]
theorem seenP_skip {l : Lab} {k j : Nat} (h : mr l k (l.Ks k j) ≠ some (l.Vs k j)) (p : ByteArray × ByteArray) : seenP l k (j + 1) p = seenP l k j p := by
  simp only [seenP]
  by_cases e : l.Ks k j = p.1
  · by_cases e2 : l.Vs k j = p.2
    · rw [e, e2] at h
      simp [h]
    · simp [e2]
  · simp [e]
/-- One label more that counts. -/
theorem seenK_hit {l : Lab} {k j : Nat} (h : mr l k (l.Ks k j) = some (l.Vs k j)) : seenK l k (j + 1) (l.Ks k j) = true := seenK_mk (Nat.lt_succ_self j) rfl h
theorem seenP_hit {l : Lab} {k j : Nat} (h : mr l k (l.Ks k j) = some (l.Vs k j)) : seenP l k (j + 1) (l.Ks k j, l.Vs k j) = true := seenP_mk (Nat.lt_succ_self j) rfl rfl h
theorem seenK_other {l : Lab} {k j : Nat} {x : ByteArray} (h : x ≠ l.Ks k j) : seenK l k (j + 1) x = seenK l k j x := by
  simp only [seenK]
  simp [show ¬ l.Ks k j = x from fun e => h e.symm]
theorem seenP_other {l : Lab} {k j : Nat} {p : ByteArray × ByteArray} (h : p ≠ (l.Ks k j, l.Vs k j)) : seenP l k (j + 1) p = seenP l k j p := by
  simp only [seenP]
  by_cases e : l.Ks k j = p.1
  · by_cases e2 : l.Vs k j = p.2
    · exact absurd (by rw [e, e2]) h
    · simp [e2]
  · simp [e]

/-! ### the law -/
/-- A list of roles: its kind (2: by key, 3: by pair), its key, its value. -/
def onL (l : Lab) (kd : Int) (x y : ByteArray) (i : Nat) : Bool := if kd = 2 then hasK l x i else hasP l (x, y) i
def plL (l : Lab) (kd : Int) (x y : ByteArray) : List Nat := (List.range l.n).filter (onL l kd x y)
/-- What overlap answers where the index remembers nothing of the two. -/
def ovl (l : Lab) (ak : Int) (ax ay : ByteArray) (bk : Int) (bx bY : ByteArray) : Nat :=
  if ax = bx then
    if ak = 2 then (plL l bk bx bY).length
    else if bk = 2 then (plL l ak ax ay).length
    else if bY = ay then (plL l ak ax ay).length else 0
  else if (plL l bk bx bY).length < (plL l ak ax ay).length then ((plL l bk bx bY).filter (onL l ak ax ay)).length
  else ((plL l ak ax ay).filter (onL l bk bx bY)).length

theorem ovl_cross (l : Lab) (ak : Int) (ax ay : ByteArray) (bk : Int) (bx bY : ByteArray) :
    ((plL l bk bx bY).filter (onL l ak ax ay)).length = ((plL l ak ax ay).filter (onL l bk bx bY)).length := by
  unfold plL
  rw [List.filter_filter, List.filter_filter]
  congr 2
  funext i
  exact Bool.and_comm _ _

theorem ovl_symm (l : Lab) (ak : Int) (ax ay : ByteArray) (bk : Int) (bx bY : ByteArray) (ha : ak = 2 ∨ ak = 3) (hb : bk = 2 ∨ bk = 3) :
    ovl l ak ax ay bk bx bY = ovl l bk bx bY ak ax ay := by
  unfold ovl
  by_cases e : ax = bx
  · subst e
    rcases ha with rfl | rfl <;> rcases hb with rfl | rfl
    · have e1 : onL l 2 ax bY = onL l 2 ax ay := by funext i; simp [onL]
      simp [plL, e1]
    · simp
    · simp
    · by_cases e2 : bY = ay
      · subst e2
        simp
      · simp [e2, show ¬ ay = bY from fun h => e2 h.symm]
  · have e' : ¬ bx = ax := fun h => e h.symm
    have := ovl_cross l ak ax ay bk bx bY
    simp only [if_neg e, if_neg e']
    split <;> split <;> omega

end Go.Proofs.Qxb6601594a
