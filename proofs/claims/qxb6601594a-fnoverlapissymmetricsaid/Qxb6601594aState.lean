/- What zzBuild's memory holds, and what each step does to it. -/
import Derived.Test.Qxb6601594aPlain
import Derived.Test.Qxb6601594aMaps
namespace Go.Proofs.Qxb6601594a
open Go Go.RowKit Go.Maps

/-- Whose a block is: a kind (1: a key's row, 2: a pair's row, 3: the keys, 4: the pairs, 5: a role's map), and the key and value. -/
abbrev Tag := Nat × ByteArray × ByteArray

def ints (xs : List Nat) : List Value := xs.map fun i : Nat => Value.int .i64 i
def strs' (xs : List ByteArray) : List Value := xs.map Value.string
def prs (xs : List (ByteArray × ByteArray)) : List Value := xs.flatMap fun p => [Value.string p.1, Value.string p.2]
def encP (p : ByteArray × ByteArray) : Value := .agg #[.string p.1, .string p.2]
def tagK (x : ByteArray) : Tag := (1, x, ByteArray.empty)
def tagP (p : ByteArray × ByteArray) : Tag := (2, p.1, p.2)
def tag3 : Tag := (3, ByteArray.empty, ByteArray.empty)
def tag4 : Tag := (4, ByteArray.empty, ByteArray.empty)

theorem encP_inj {p q : ByteArray × ByteArray} (h : encP p = encP q) : p = q := by
  obtain ⟨a, b⟩ := p
  obtain ⟨c, d⟩ := q
  simp [encP] at h
  rw [h.1, h.2]
theorem tagP_inj {p q : ByteArray × ByteArray} (h : tagP p = tagP q) : p = q := by
  obtain ⟨a, b⟩ := p
  obtain ⟨c, d⟩ := q
  simp [tagP] at h
  rw [h.1, h.2]
theorem tagK_inj {p q : ByteArray} (h : tagK p = tagK q) : p = q := by simpa [tagK] using h
theorem ints_snoc (xs : List Nat) (k : Nat) : ints (xs ++ [k]) = ints xs ++ [.int .i64 k] := by simp [ints]
theorem strs_snoc (xs : List ByteArray) (s : ByteArray) : strs' (xs ++ [s]) = strs' xs ++ [.string s] := by simp [strs']
theorem prs_snoc (xs : List (ByteArray × ByteArray)) (p : ByteArray × ByteArray) : prs (xs ++ [p]) = prs xs ++ [.string p.1, .string p.2] := by simp [prs]
theorem ints_len (xs : List Nat) : (ints xs).length = xs.length := by simp [ints]

/-- A row of the call's own that bears a tag. -/
def RowOf (base : Nat) (e : TypeId) (size : Nat) (T : Nat → Tag) (t : Tag) (w : World) (v : Value) (n : Nat) (xs : List Value) : Prop :=
  w.ownsRow base e size v n xs ∧ ∀ g, v.ownBlock = some g → T g = t

theorem RowOf.kept {base : Nat} {e : TypeId} {size : Nat} {T T' : Nat → Tag} {t : Tag} {w w' : World} {v : Value} {n : Nat} {xs : List Value} {row : Option Nat}
    (h : RowOf base e size T t w v n xs) (hg : w.grownBy w' row) (hT : ∀ g, g < w.heap.size → T' g = T g) (hr : ∀ g, row = some g → base ≤ g → T g ≠ t) : RowOf base e size T' t w' v n xs := by
  refine ⟨h.1.kept hg ?_, fun g hg' => ?_⟩
  · cases hv : v.ownBlock with
    | none => exact Or.inl rfl
    | some g => exact Or.inr fun e => hr g e.symm (h.1.lt g hv).1 (h.2 g hv)
  · rw [hT g (h.1.lt g hg').2]
    exact h.2 g hg'

/-- A map from keys to rows of numbers. -/
def KMap {κ : Type} (k : TypeId) (b base : Nat) (enc : κ → Value) (tag : κ → Tag) (T : Nat → Tag) (LL : κ → List Nat) (w : World) (F : Value → Option Value) : Prop :=
  MapIs Try.prog k w b F ∧ ∀ x, (LL x = [] ∧ F (enc x) = none) ∨ (LL x ≠ [] ∧ ∃ v, F (enc x) = some v ∧ RowOf base 3 1 T (tag x) w v (LL x).length (ints (LL x)))

section
variable {κ : Type} {k : TypeId} {b base : Nat} {enc : κ → Value} {tag : κ → Tag} {T T' : Nat → Tag} {LL LL' : κ → List Nat} {w w0 w1 w2 : World} {F : Value → Option Value} {row : Option Nat}

theorem KMap.kept (h : KMap k b base enc tag T LL w F) (hg : w.grownBy w1 row) (hT : ∀ g, g < w.heap.size → T' g = T g) (hb : some b ≠ row) (hr : ∀ g, row = some g → base ≤ g → ∀ x, T g ≠ tag x) : KMap k b base enc tag T' LL w1 F := by
  refine ⟨h.1.of_block (hg.block b h.1.lt hb), fun x => ?_⟩
  rcases h.2 x with h' | ⟨h1, v, h2, h3⟩
  · exact Or.inl h'
  · exact Or.inr ⟨h1, v, h2, h3.kept hg hT (fun g e hb => hr g e hb x)⟩

/-- What a look-up gives. -/
theorem KMap.at' (h : KMap k b base enc tag T LL w F) (x : κ) : ∃ a c, (F (enc x)).getD (.slice none 0 0) = .slice a (LL x).length c ∧ (F (enc x)).isSome = !(LL x).isEmpty ∧
    RowOf base 3 1 T (tag x) w (.slice a (LL x).length c) (LL x).length (ints (LL x)) := by
  rcases h.2 x with ⟨h1, h2⟩ | ⟨h1, v, h2, h3⟩
  · rw [h1, h2]
    exact ⟨none, 0, rfl, rfl, World.ownsRow_nil _ _ _ _, fun g hg => by simp [Value.ownBlock] at hg⟩
  · rw [h2]
    have hv : ∃ a c, v = .slice a (LL x).length c := by
      rcases h3.1.2 with ⟨e1, e2⟩ | ⟨g, cap, cur, e1, _⟩
      · exact ⟨none, 0, by rw [e2]; exact e1⟩
      · exact ⟨_, _, e1⟩
    obtain ⟨a, c, rfl⟩ := hv
    exact ⟨a, c, rfl, by simp [h1], h3⟩

theorem KMap.step (h : KMap k b base enc tag T LL w F) (hinj : ∀ x y, enc x = enc y → x = y) (htag : ∀ x y, tag x = tag y → x = y) (hbb : b < base) (x : κ) {v v' : Value} {num : Nat}
    (hrow : RowOf base 3 1 T (tag x) w v (LL x).length (ints (LL x)))
    (hg0 : w.grownBy w0 none) (hg1 : w0.grownBy w1 v.ownBlock) (hown : w1.ownsRow base 3 1 v' ((LL x).length + 1) (ints (LL x) ++ [.int .i64 num])) (hloc : v'.ownBlock = v.ownBlock ∨ v'.ownBlock = some w0.heap.size)
    (hg2 : w1.grownBy w2 (some b)) (hup : ∀ F' : Value → Option Value, F' (enc x) = some v' → (∀ y, y ≠ enc x → F' y = F y) → MapIs Try.prog k w2 b F')
    (hT : ∀ g, g < w0.heap.size → T' g = T g) (hTn : T' w0.heap.size = tag x) (h1 : LL' x = LL x ++ [num]) (h2 : ∀ y, y ≠ x → LL' y = LL y) :
    ∃ F', KMap k b base enc tag T' LL' w2 F' := by
  open Classical in
  refine ⟨fun y => if y = enc x then some v' else F y, hup _ (by simp) (fun y hy => by simp [hy]), fun y => ?_⟩
  have hs01 := hg1.size
  by_cases hy : y = x
  · subst hy
    refine Or.inr ⟨by rw [h1]; simp, v', by simp, ?_, ?_⟩
    · rw [h1, ints_snoc]
      have hne' : v'.ownBlock = none ∨ v'.ownBlock ≠ some b := by
        cases hv : v'.ownBlock with
        | none => exact Or.inl rfl
        | some g =>
          refine Or.inr fun e => ?_
          have := (hown.lt g hv).1
          cases e
          omega
      have := hown.kept hg2 hne'
      simpa using this
    · intro g hg
      rcases hloc with e | e
      · rw [e] at hg
        rw [hT g (Nat.lt_of_lt_of_le (hrow.1.lt g hg).2 hg0.size)]
        exact hrow.2 g hg
      · rw [e] at hg
        cases hg
        exact hTn
  · have hne : enc y ≠ enc x := fun e => hy (hinj y x e)
    simp only [if_neg hne, h2 y hy]
    rcases h.2 y with h' | ⟨h3, u, h4, h5⟩
    · exact Or.inl h'
    · refine Or.inr ⟨h3, u, h4, ?_⟩
      have s0 : RowOf base 3 1 T (tag y) w0 u (LL y).length (ints (LL y)) := h5.kept hg0 (fun _ _ => rfl) (fun g e => by cases e)
      have s1 : RowOf base 3 1 T' (tag y) w1 u (LL y).length (ints (LL y)) := s0.kept hg1 hT (fun g e _ => by
        rw [hrow.2 g e]
        exact fun e => hy (htag x y e).symm)
      exact s1.kept hg2 (fun _ _ => rfl) (fun g e hb => by cases e; omega)
end

/-- zzBuild's memory while it works: B the first block of its own (the maps' row; then the row of every place, keyed, labelled), k roles done. -/
structure St (l : Lab) (B k : Nat) (M : Nat → Nat) (T : Nat → Tag) (LKf : ByteArray → List Nat) (LPf : ByteArray × ByteArray → List Nat) (ks : List ByteArray) (ps : List (ByteArray × ByteArray)) (FK FP : Value → Option Value) (v9 v10 : Value) (w wr : World) : Prop where
  below : Below B w wr
  size : B + 4 ≤ wr.heap.size
  maps : ∃ cm, wr.heap[B]? = some (.cells cm 43 (0, 0)) ∧ cm.size = l.n ∧ ∀ i, i < k → cm[i]? = some (.map (some (M i)))
  every : ∃ ce, wr.heap[B + 1]? = some (.cells ce 3 (0, 0)) ∧ ce.size = l.n
  role : ∀ i, i < k → B + 4 ≤ M i ∧ ∃ F, MapIs Try.prog 9 wr (M i) F ∧ ∀ x, F (.string x) = (mr l i x).map Value.string
  keyed : KMap 9 (B + 2) (B + 4) Value.string tagK T LKf wr FK
  labelled : KMap 36 (B + 3) (B + 4) encP tagP T LPf wr FP
  keys : RowOf (B + 4) 9 1 T tag3 wr v9 ks.length (strs' ks)
  pairs : RowOf (B + 4) 36 2 T tag4 wr v10 ps.length (prs ps)
  inK : ∀ x, LKf x ≠ [] → x ∈ ks
  inP : ∀ p, LPf p ≠ [] → p ∈ ps
  okK : ∀ x, x ∈ ks → x.size ≤ 9223372036854775807
  okP : ∀ p, p ∈ ps → p.1.size ≤ 9223372036854775807 ∧ p.2.size ≤ 9223372036854775807

section
variable {l : Lab} {B k : Nat} {M : Nat → Nat} {T T' : Nat → Tag} {LKf LKf' : ByteArray → List Nat} {LPf LPf' : ByteArray × ByteArray → List Nat} {ks : List ByteArray} {ps : List (ByteArray × ByteArray)} {FK FP : Value → Option Value} {v9 v10 : Value} {w wr w0 w1 w2 : World} {row : Option Nat}

theorem St.congr (h : St l B k M T LKf LPf ks ps FK FP v9 v10 w wr) (h1 : ∀ x, LKf' x = LKf x) (h2 : ∀ p, LPf' p = LPf p) : St l B k M T LKf' LPf' ks ps FK FP v9 v10 w wr := by
  have e1 : LKf' = LKf := funext h1
  have e2 : LPf' = LPf := funext h2
  rw [e1, e2]
  exact h

/-- A block of another's is written, or new ones are made. -/
theorem St.kept (h : St l B k M T LKf LPf ks ps FK FP v9 v10 w wr) (hg : wr.grownBy w1 row) (hT : ∀ g, g < wr.heap.size → T' g = T g)
    (hr : ∀ g, row = some g → B + 4 ≤ g ∧ (T g).1 = 5 ∧ ∀ i, i < k → M i ≠ g) : St l B k M T' LKf LPf ks ps FK FP v9 v10 w w1 := by
  have hsz := h.size
  have hlow : ∀ b, b < B + 4 → some b ≠ row := fun b hb e => by
    have := (hr b e.symm).1
    omega
  have ht : ∀ g, row = some g → ∀ t : Tag, t.1 ≠ 5 → T g ≠ t := fun g e t h5 ht => h5 (by rw [← ht]; exact (hr g e).2.1)
  refine ⟨h.below.grown hg (by omega) (fun g e => by have := (hr g e).1; omega), by have := hg.size; omega, ?_, ?_, ?_, ?_, ?_, ?_, ?_, h.inK, h.inP, h.okK, h.okP⟩
  · obtain ⟨cm, c1, c2, c3⟩ := h.maps
    exact ⟨cm, (hg.block B (by omega) (hlow _ (by omega))).trans c1, c2, c3⟩
  · obtain ⟨cm, c1, c2⟩ := h.every
    exact ⟨cm, (hg.block (B + 1) (by omega) (hlow _ (by omega))).trans c1, c2⟩
  · intro i hi
    obtain ⟨r1, F, r2, r3⟩ := h.role i hi
    exact ⟨r1, F, r2.of_block (hg.block _ r2.lt (fun e => (hr _ e.symm).2.2 i hi rfl)), r3⟩
  · exact h.keyed.kept hg hT (hlow _ (by omega)) (fun g e _ x => ht g e _ (by simp [tagK]))
  · exact h.labelled.kept hg hT (hlow _ (by omega)) (fun g e _ x => ht g e _ (by simp [tagP]))
  · exact h.keys.kept hg hT (fun g e _ => ht g e _ (by simp [tag3]))
  · exact h.pairs.kept hg hT (fun g e _ => ht g e _ (by simp [tag4]))

theorem St.alloc (h : St l B k M T LKf LPf ks ps FK FP v9 v10 w wr) (o : Obj) : St l B k M T LKf LPf ks ps FK FP v9 v10 w (wr.alloc o) :=
  h.kept (World.grownBy_alloc wr o none) (fun _ _ => rfl) (fun g e => by cases e)

theorem St.drew (h : St l B k M T LKf LPf ks ps FK FP v9 v10 w wr) : St l B k M T LKf LPf ks ps FK FP v9 v10 w wr.drew :=
  h.kept (row := none) ⟨rfl, rfl, rfl, Nat.le_refl _, fun _ _ _ => rfl⟩ (fun _ _ => rfl) (fun g e => by cases e)

/-- A role's map is not a row. -/
theorem map_not_row {k' : TypeId} {b g base : Nat} {F : Value → Option Value} {e : TypeId} {size : Nat} {v : Value} {n : Nat} {xs : List Value} (h : MapIs Try.prog k' wr b F) (hown : wr.ownsRow base e size v n xs) (hv : v.ownBlock = some g) : b ≠ g := by
  rintro rfl
  obtain ⟨es, clock, hb, _⟩ := h
  rcases hown.2 with ⟨rfl, _⟩ | ⟨g', cap, cur, rfl, _, hg, _⟩
  · simp [Value.ownBlock] at hv
  · simp [Value.ownBlock] at hv
    subst hv
    rw [hb] at hg
    cases hg

/-- 'keys = append(keys, x)'. -/
theorem St.keysAppend (h : St l B k M T LKf LPf ks ps FK FP v9 v10 w wr) {v' : Value} {x : ByteArray} (hxs : x.size ≤ 9223372036854775807) (hg0 : wr.grownBy w0 none) (hg1 : w0.grownBy w1 v9.ownBlock)
    (hown : w1.ownsRow (B + 4) 9 1 v' (ks.length + 1) (strs' ks ++ [.string x])) (hloc : v'.ownBlock = v9.ownBlock ∨ v'.ownBlock = some w0.heap.size) :
    ∃ T', St l B k M T' LKf LPf (ks ++ [x]) ps FK FP v' v10 w w1 := by
  have hT : ∀ g, g < w0.heap.size → (fun g => if g = w0.heap.size then tag3 else T g) g = T g := fun g hg => by simp [show ¬ g = w0.heap.size by omega]
  have h0 := h.kept (T' := T) hg0 (fun _ _ => rfl) (fun g e => by cases e)
  have hsz := h0.size
  have hlt : ∀ g, v9.ownBlock = some g → B + 4 ≤ g ∧ g < w0.heap.size := fun g e => h0.keys.1.lt g e
  have htag : ∀ g, v9.ownBlock = some g → T g = tag3 := h0.keys.2
  have hlow : ∀ b, b < B + 4 → some b ≠ v9.ownBlock := fun b hb e => by
    have := (hlt b e.symm).1
    omega
  refine ⟨fun g => if g = w0.heap.size then tag3 else T g, ⟨h0.below.grown hg1 (by omega) (fun g e => by have := (hlt g e).1; omega), by have := hg1.size; omega, ?_, ?_, ?_, ?_, ?_, ?_, ?_, ?_, h.inP, ?_, h.okP⟩⟩
  · obtain ⟨cm, c1, c2, c3⟩ := h0.maps
    exact ⟨cm, (hg1.block B (by omega) (hlow _ (by omega))).trans c1, c2, c3⟩
  · obtain ⟨cm, c1, c2⟩ := h0.every
    exact ⟨cm, (hg1.block (B + 1) (by omega) (hlow _ (by omega))).trans c1, c2⟩
  · intro i hi
    obtain ⟨r1, F, r2, r3⟩ := h0.role i hi
    exact ⟨r1, F, r2.of_block (hg1.block _ r2.lt (fun e => map_not_row r2 h0.keys.1 e.symm rfl)), r3⟩
  · exact h0.keyed.kept hg1 hT (hlow _ (by omega)) (fun g e _ x => by rw [htag g e]; simp [tagK, tag3])
  · exact h0.labelled.kept hg1 hT (hlow _ (by omega)) (fun g e _ x => by rw [htag g e]; simp [tagP, tag3])
  · refine ⟨by rw [strs_snoc]; simpa using hown, fun g hg => ?_⟩
    rcases hloc with e | e
    · rw [e] at hg
      rw [hT g (hlt g hg).2]
      exact htag g hg
    · rw [e] at hg
      cases hg
      simp
  · exact h0.pairs.kept hg1 hT (fun g e _ => by rw [htag g e]; simp [tag3, tag4])
  · intro x' hx'
    exact List.mem_append_left _ (h.inK x' hx')
  · intro x' hx'
    rcases List.mem_append.1 hx' with h' | h'
    · exact h.okK x' h'
    · simp only [List.mem_singleton] at h'
      rw [h']
      exact hxs

/-- 'pairs = append(pairs, p)'. -/
theorem St.pairsAppend (h : St l B k M T LKf LPf ks ps FK FP v9 v10 w wr) {v' : Value} {p : ByteArray × ByteArray} (hxs : p.1.size ≤ 9223372036854775807 ∧ p.2.size ≤ 9223372036854775807) (hg0 : wr.grownBy w0 none) (hg1 : w0.grownBy w1 v10.ownBlock)
    (hown : w1.ownsRow (B + 4) 36 2 v' (ps.length + 1) (prs ps ++ [.string p.1, .string p.2])) (hloc : v'.ownBlock = v10.ownBlock ∨ v'.ownBlock = some w0.heap.size) :
    ∃ T', St l B k M T' LKf LPf ks (ps ++ [p]) FK FP v9 v' w w1 := by
  have hT : ∀ g, g < w0.heap.size → (fun g => if g = w0.heap.size then tag4 else T g) g = T g := fun g hg => by simp [show ¬ g = w0.heap.size by omega]
  have h0 := h.kept (T' := T) hg0 (fun _ _ => rfl) (fun g e => by cases e)
  have hsz := h0.size
  have hlt : ∀ g, v10.ownBlock = some g → B + 4 ≤ g ∧ g < w0.heap.size := fun g e => h0.pairs.1.lt g e
  have htag : ∀ g, v10.ownBlock = some g → T g = tag4 := h0.pairs.2
  have hlow : ∀ b, b < B + 4 → some b ≠ v10.ownBlock := fun b hb e => by
    have := (hlt b e.symm).1
    omega
  refine ⟨fun g => if g = w0.heap.size then tag4 else T g, ⟨h0.below.grown hg1 (by omega) (fun g e => by have := (hlt g e).1; omega), by have := hg1.size; omega, ?_, ?_, ?_, ?_, ?_, ?_, ?_, h.inK, ?_, h.okK, ?_⟩⟩
  · obtain ⟨cm, c1, c2, c3⟩ := h0.maps
    exact ⟨cm, (hg1.block B (by omega) (hlow _ (by omega))).trans c1, c2, c3⟩
  · obtain ⟨cm, c1, c2⟩ := h0.every
    exact ⟨cm, (hg1.block (B + 1) (by omega) (hlow _ (by omega))).trans c1, c2⟩
  · intro i hi
    obtain ⟨r1, F, r2, r3⟩ := h0.role i hi
    exact ⟨r1, F, r2.of_block (hg1.block _ r2.lt (fun e => map_not_row r2 h0.pairs.1 e.symm rfl)), r3⟩
  · exact h0.keyed.kept hg1 hT (hlow _ (by omega)) (fun g e _ x => by rw [htag g e]; simp [tagK, tag4])
  · exact h0.labelled.kept hg1 hT (hlow _ (by omega)) (fun g e _ x => by rw [htag g e]; simp [tagP, tag4])
  · exact h0.keys.kept hg1 hT (fun g e _ => by rw [htag g e]; simp [tag3, tag4])
  · refine ⟨by rw [prs_snoc]; simpa using hown, fun g hg => ?_⟩
    rcases hloc with e | e
    · rw [e] at hg
      rw [hT g (hlt g hg).2]
      exact htag g hg
    · rw [e] at hg
      cases hg
      simp
  · intro x' hx'
    exact List.mem_append_left _ (h.inP x' hx')
  · intro x' hx'
    rcases List.mem_append.1 hx' with h' | h'
    · exact h.okP x' h'
    · simp only [List.mem_singleton] at h'
      rw [h']
      exact hxs

/-- 'keyed[x] = append(ps, w)'. -/
theorem St.keyedStep (h : St l B k M T LKf LPf ks ps FK FP v9 v10 w wr) {x : ByteArray} (hin : x ∈ ks) {v v' : Value} {num : Nat}
    (hrow : RowOf (B + 4) 3 1 T (tagK x) wr v (LKf x).length (ints (LKf x))) (hg0 : wr.grownBy w0 none) (hg1 : w0.grownBy w1 v.ownBlock)
    (hown : w1.ownsRow (B + 4) 3 1 v' ((LKf x).length + 1) (ints (LKf x) ++ [.int .i64 num])) (hloc : v'.ownBlock = v.ownBlock ∨ v'.ownBlock = some w0.heap.size)
    (hg2 : w1.grownBy w2 (some (B + 2))) (hup : ∀ F' : Value → Option Value, F' (.string x) = some v' → (∀ y, y ≠ .string x → F' y = FK y) → MapIs Try.prog 9 w2 (B + 2) F')
    (h1 : LKf' x = LKf x ++ [num]) (h2 : ∀ y, y ≠ x → LKf' y = LKf y) : ∃ T' FK', St l B k M T' LKf' LPf ks ps FK' FP v9 v10 w w2 := by
  have hT : ∀ g, g < w0.heap.size → (fun g => if g = w0.heap.size then tagK x else T g) g = T g := fun g hg => by simp [show ¬ g = w0.heap.size by omega]
  have h0 := h.kept (T' := T) hg0 (fun _ _ => rfl) (fun g e => by cases e)
  have hrow0 := hrow.kept (T' := T) hg0 (fun _ _ => rfl) (fun g e => by cases e)
  have hsz := h0.size
  have hs1 := hg1.size
  have hlt : ∀ g, v.ownBlock = some g → B + 4 ≤ g ∧ g < w0.heap.size := fun g e => hrow0.1.lt g e
  have htag : ∀ g, v.ownBlock = some g → T g = tagK x := hrow0.2
  have hlow : ∀ b, b < B + 4 → some b ≠ v.ownBlock := fun b hb e => by
    have := (hlt b e.symm).1
    omega
  obtain ⟨F', hst⟩ := h.keyed.step (T' := fun g => if g = w0.heap.size then tagK x else T g) (LL' := LKf') (fun a c e => by simpa using e) (fun a c e => tagK_inj e) (by omega) x hrow hg0 hg1 hown hloc hg2 hup hT (by simp) h1 h2
  refine ⟨fun g => if g = w0.heap.size then tagK x else T g, F', ⟨(h0.below.grown hg1 (by omega) (fun g e => by have := (hlt g e).1; omega)).grown hg2 (by omega) (fun g e => by cases e; omega), by have := hg2.size; omega, ?_, ?_, ?_, hst, ?_, ?_, ?_, ?_, h.inP, h.okK, h.okP⟩⟩
  · obtain ⟨cm, c1, c2, c3⟩ := h0.maps
    exact ⟨cm, ((hg2.block B (by omega) (by simp)).trans (hg1.block B (by omega) (hlow _ (by omega)))).trans c1, c2, c3⟩
  · obtain ⟨cm, c1, c2⟩ := h0.every
    exact ⟨cm, ((hg2.block (B + 1) (by omega) (by simp)).trans (hg1.block (B + 1) (by omega) (hlow _ (by omega)))).trans c1, c2⟩
  · intro i hi
    obtain ⟨r1, F, r2, r3⟩ := h0.role i hi
    have r4 := r2.of_block (hg1.block _ r2.lt (fun e => map_not_row r2 hrow0.1 e.symm rfl))
    exact ⟨r1, F, r4.of_block (hg2.block _ r4.lt (fun e => by simp at e; omega)), r3⟩
  · exact (h0.labelled.kept hg1 hT (hlow _ (by omega)) (fun g e _ x => by rw [htag g e]; simp [tagP, tagK])).kept hg2 (fun _ _ => rfl) (by simp) (fun g e hb => by cases e; omega)
  · exact (h0.keys.kept hg1 hT (fun g e _ => by rw [htag g e]; simp [tag3, tagK])).kept hg2 (fun _ _ => rfl) (fun g e hb => by cases e; omega)
  · exact (h0.pairs.kept hg1 hT (fun g e _ => by rw [htag g e]; simp [tag4, tagK])).kept hg2 (fun _ _ => rfl) (fun g e hb => by cases e; omega)
  · intro y hy
    by_cases e : y = x
    · rw [e]; exact hin
    · rw [h2 y e] at hy
      exact h.inK y hy

/-- 'labelled[p] = append(qs, w)'. -/
theorem St.labelledStep (h : St l B k M T LKf LPf ks ps FK FP v9 v10 w wr) {x : ByteArray × ByteArray} (hin : x ∈ ps) {v v' : Value} {num : Nat}
    (hrow : RowOf (B + 4) 3 1 T (tagP x) wr v (LPf x).length (ints (LPf x))) (hg0 : wr.grownBy w0 none) (hg1 : w0.grownBy w1 v.ownBlock)
    (hown : w1.ownsRow (B + 4) 3 1 v' ((LPf x).length + 1) (ints (LPf x) ++ [.int .i64 num])) (hloc : v'.ownBlock = v.ownBlock ∨ v'.ownBlock = some w0.heap.size)
    (hg2 : w1.grownBy w2 (some (B + 3))) (hup : ∀ F' : Value → Option Value, F' (encP x) = some v' → (∀ y, y ≠ encP x → F' y = FP y) → MapIs Try.prog 36 w2 (B + 3) F')
    (h1 : LPf' x = LPf x ++ [num]) (h2 : ∀ y, y ≠ x → LPf' y = LPf y) : ∃ T' FP', St l B k M T' LKf LPf' ks ps FK FP' v9 v10 w w2 := by
  have hT : ∀ g, g < w0.heap.size → (fun g => if g = w0.heap.size then tagP x else T g) g = T g := fun g hg => by simp [show ¬ g = w0.heap.size by omega]
  have h0 := h.kept (T' := T) hg0 (fun _ _ => rfl) (fun g e => by cases e)
  have hrow0 := hrow.kept (T' := T) hg0 (fun _ _ => rfl) (fun g e => by cases e)
  have hsz := h0.size
  have hs1 := hg1.size
  have hlt : ∀ g, v.ownBlock = some g → B + 4 ≤ g ∧ g < w0.heap.size := fun g e => hrow0.1.lt g e
  have htag : ∀ g, v.ownBlock = some g → T g = tagP x := hrow0.2
  have hlow : ∀ b, b < B + 4 → some b ≠ v.ownBlock := fun b hb e => by
    have := (hlt b e.symm).1
    omega
  obtain ⟨F', hst⟩ := h.labelled.step (T' := fun g => if g = w0.heap.size then tagP x else T g) (LL' := LPf') (fun a c e => encP_inj e) (fun a c e => tagP_inj e) (by omega) x hrow hg0 hg1 hown hloc hg2 hup hT (by simp) h1 h2
  refine ⟨fun g => if g = w0.heap.size then tagP x else T g, F', ⟨(h0.below.grown hg1 (by omega) (fun g e => by have := (hlt g e).1; omega)).grown hg2 (by omega) (fun g e => by cases e; omega), by have := hg2.size; omega, ?_, ?_, ?_, ?_, hst, ?_, ?_, h.inK, ?_, h.okK, h.okP⟩⟩
  · obtain ⟨cm, c1, c2, c3⟩ := h0.maps
    exact ⟨cm, ((hg2.block B (by omega) (by simp)).trans (hg1.block B (by omega) (hlow _ (by omega)))).trans c1, c2, c3⟩
  · obtain ⟨cm, c1, c2⟩ := h0.every
    exact ⟨cm, ((hg2.block (B + 1) (by omega) (by simp)).trans (hg1.block (B + 1) (by omega) (hlow _ (by omega)))).trans c1, c2⟩
  · intro i hi
    obtain ⟨r1, F, r2, r3⟩ := h0.role i hi
    have r4 := r2.of_block (hg1.block _ r2.lt (fun e => map_not_row r2 hrow0.1 e.symm rfl))
    exact ⟨r1, F, r4.of_block (hg2.block _ r4.lt (fun e => by simp at e; omega)), r3⟩
  · exact (h0.keyed.kept hg1 hT (hlow _ (by omega)) (fun g e _ x => by rw [htag g e]; simp [tagP, tagK])).kept hg2 (fun _ _ => rfl) (by simp) (fun g e hb => by cases e; omega)
  · exact (h0.keys.kept hg1 hT (fun g e _ => by rw [htag g e]; simp [tag3, tagP])).kept hg2 (fun _ _ => rfl) (fun g e hb => by cases e; omega)
  · exact (h0.pairs.kept hg1 hT (fun g e _ => by rw [htag g e]; simp [tag4, tagP])).kept hg2 (fun _ _ => rfl) (fun g e hb => by cases e; omega)
  · intro y hy
    by_cases e : y = x
    · rw [e]; exact hin
    · rw [h2 y e] at hy
      exact h.inP y hy
end
end Go.Proofs.Qxb6601594a
