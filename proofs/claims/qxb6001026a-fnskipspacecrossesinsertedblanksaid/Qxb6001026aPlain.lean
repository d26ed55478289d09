/-
  skipSpace with no Go in sight.
-/
import Derived.Test.Qxb6001026aRows
import Derived.Lib.Bytealg
namespace Go.Proofs.Qxb6001026a

/-- A blank. -/
def blankC (c : UInt8) : Bool := c == 32 || c == 9 || c == 10 || c == 13

/-- How many bytes are skipped; 'true': inside a comment. -/
def skA : Bool → List UInt8 → Nat
  | _, [] => 0
  | false, c :: r => if blankC c then 1 + skA false r else if c = 35 then 1 + skA true r else 0
  | true, c :: r => if c = 10 then 1 + skA false r else 1 + skA true r

/-- Where skipSpace stops from p on. -/
def sk (L : List UInt8) (p : Nat) : Nat := p + skA false (L.drop p)

theorem skA_le : ∀ (b : Bool) (l : List UInt8), skA b l ≤ l.length
  | _, [] => by unfold skA; exact Nat.le_refl _
  | false, c :: r => by
    have h1 := skA_le false r
    have h2 := skA_le true r
    unfold skA
    simp only [List.length_cons]
    split
    · omega
    · split <;> omega
  | true, c :: r => by
    have h1 := skA_le false r
    have h2 := skA_le true r
    unfold skA
    simp only [List.length_cons]
    split <;> omega

theorem sk_le {L : List UInt8} {p : Nat} (h : p ≤ L.length) : sk L p ≤ L.length := by
  have h1 := skA_le false (L.drop p)
  rw [List.length_drop] at h1
  unfold sk
  omega

theorem le_sk (L : List UInt8) (p : Nat) : p ≤ sk L p := Nat.le_add_right _ _

/-- It stops at the end, or at a byte that opens no blank. -/
theorem skA_stops : ∀ (b : Bool) (l : List UInt8) (c : UInt8), l[skA b l]? = some c → blankC c = false ∧ c ≠ 35
  | _, [], c, h => by simp at h
  | false, d :: r, c, h => by
    unfold skA at h
    split at h
    · rw [Nat.add_comm, List.getElem?_cons_succ] at h
      exact skA_stops false r c h
    · next hb =>
      split at h
      · rw [Nat.add_comm, List.getElem?_cons_succ] at h
        exact skA_stops true r c h
      · next hc =>
        simp at h
        subst h
        exact ⟨by simpa using hb, hc⟩
  | true, d :: r, c, h => by
    unfold skA at h
    split at h
    · rw [Nat.add_comm, List.getElem?_cons_succ] at h
      exact skA_stops false r c h
    · rw [Nat.add_comm, List.getElem?_cons_succ] at h
      exact skA_stops true r c h

theorem skA_zero {l : List UInt8} (h : ∀ c, l[0]? = some c → blankC c = false ∧ c ≠ 35) : skA false l = 0 := by
  cases l with
  | nil => rfl
  | cons c r =>
    obtain ⟨h1, h2⟩ := h c rfl
    unfold skA
    rw [h1, if_neg (by decide), if_neg h2]

theorem sk_at (L : List UInt8) (p : Nat) (c : UInt8) (h : L[sk L p]? = some c) : blankC c = false ∧ c ≠ 35 := by
  refine skA_stops false (L.drop p) c ?_
  rw [List.getElem?_drop]
  exact h

/-- Skipping again does not move. -/
theorem sk_again (L : List UInt8) (p : Nat) : sk L (sk L p) = sk L p := by
  have h : skA false (L.drop (sk L p)) = 0 := skA_zero fun c hc => by
    rw [List.getElem?_drop, Nat.add_zero] at hc
    exact sk_at L p c hc
  unfold sk at h ⊢
  omega

theorem sk_blank {L : List UInt8} {p : Nat} {c : UInt8} (h : L[p]? = some c) (hc : blankC c = true) : sk L (p + 1) = sk L p := by
  obtain ⟨hp, e⟩ := List.getElem?_eq_some_iff.1 h
  unfold sk
  rw [List.drop_eq_getElem_cons hp, e]
  conv => rhs; unfold skA
  rw [hc, if_pos rfl]
  omega

theorem sk_stop {L : List UInt8} {p : Nat} {c : UInt8} (h : L[p]? = some c) (hc : blankC c = false) (h35 : c ≠ 35) : sk L p = p := by
  unfold sk
  rw [skA_zero fun d hd => by
    rw [List.getElem?_drop, Nat.add_zero, h] at hd
    cases hd
    exact ⟨hc, h35⟩]
  rfl

theorem sk_end {L : List UInt8} {p : Nat} (h : L.length ≤ p) : sk L p = p := by
  unfold sk
  rw [List.drop_of_length_le h]
  rfl

theorem skA_in (c : UInt8) (r : List UInt8) : skA true (c :: r) = if c = 10 then 1 + skA false r else 1 + skA true r := by
  rw [skA.eq_def]

theorem skA_hash (r : List UInt8) : skA false (35 :: r) = 1 + skA true r := by
  rw [skA.eq_def]
  rfl

theorem skA_comment : ∀ (l : List UInt8), (Lib.indexByte l 10 = -1 → skA true l = l.length) ∧ ∀ k : Nat, Lib.indexByte l 10 = (k : Int) → k < l.length ∧ skA true l = k + 1 + skA false (l.drop (k + 1))
  | [] => ⟨fun _ => rfl, fun k h => by unfold Lib.indexByte at h; omega⟩
  | c :: r => by
    obtain ⟨h1, h2⟩ := skA_comment r
    have hge := Lib.indexByte_ge r 10
    unfold Lib.indexByte
    rw [skA_in]
    by_cases hc : c = 10
    · subst hc
      refine ⟨fun h => by simp at h, fun k h => ?_⟩
      obtain rfl : k = 0 := by simp at h; omega
      simp
    · have hc' : (c == 10) = false := by simpa using hc
      simp only [hc', Bool.false_eq_true, if_false, hc]
      by_cases h0 : Lib.indexByte r 10 = -1
      · rw [h0]
        refine ⟨fun _ => by rw [h1 h0]; simp; omega, fun k h => by simp at h⟩
      · have h0' : (Lib.indexByte r 10 == -1) = false := by simpa using h0
        rw [h0']
        simp only [Bool.false_eq_true, if_false]
        refine ⟨fun h => by omega, fun k h => ?_⟩
        obtain ⟨j, rfl⟩ : ∃ j : Nat, k = j + 1 := ⟨k - 1, by omega⟩
        obtain ⟨g1, g2⟩ := h2 j (by omega)
        refine ⟨by simp; omega, ?_⟩
        rw [g2, List.drop_succ_cons]
        omega

/-- At a '#': what bytes.IndexByte finds behind it. -/
theorem sk_hash {L : List UInt8} {p : Nat} (h : L[p]? = some 35) : (Lib.indexByte (L.drop p) 10 = -1 → sk L p = L.length) ∧ ∀ k : Nat, Lib.indexByte (L.drop p) 10 = (k : Int) → p + k < L.length ∧ sk L (p + (k + 1)) = sk L p := by
  obtain ⟨hp, e⟩ := List.getElem?_eq_some_iff.1 h
  have hd : L.drop p = 35 :: L.drop (p + 1) := by rw [List.drop_eq_getElem_cons hp, e]
  have hs : skA false (L.drop p) = skA true (L.drop p) := by
    rw [hd, skA_hash, skA_in, if_neg (by decide)]
  obtain ⟨h1, h2⟩ := skA_comment (L.drop p)
  have hl : (L.drop p).length = L.length - p := List.length_drop
  refine ⟨fun h0 => ?_, fun k hk => ?_⟩
  · unfold sk
    rw [hs, h1 h0]
    omega
  · obtain ⟨g1, g2⟩ := h2 k hk
    refine ⟨by omega, ?_⟩
    unfold sk
    rw [hs, g2, List.drop_drop]
    omega

/-! ### Crossing -/
theorem skA_blank {c : UInt8} (h : blankC c = true) (l : List UInt8) : skA false (c :: l) = 1 + skA false l := by
  conv => lhs; unfold skA
  rw [h, if_pos rfl]

theorem skA_cross : ∀ (com l : List UInt8), (∀ c ∈ com, c ≠ 10) → skA true (com ++ 10 :: l) = com.length + 1 + skA false l
  | [], l, _ => by
    rw [List.nil_append, skA_in, if_pos rfl]
    simp
  | c :: com, l, h => by
    rw [List.cons_append, skA_in, if_neg (h c (by simp)), skA_cross com l (fun d hd => h d (by simp [hd]))]
    simp
    omega

/-- What stands for one kind. -/
def piece (com : List UInt8) (k : UInt8) : List UInt8 :=
  if k.toNat % 5 = 0 then [32] else if k.toNat % 5 = 1 then [9] else if k.toNat % 5 = 2 then [10] else if k.toNat % 5 = 3 then [13] else 35 :: (com.filter (· != 10) ++ [10])

def pieces (com : List UInt8) (ks : List UInt8) : List UInt8 := (ks.map (piece com)).flatten

theorem skA_piece (com : List UInt8) (k : UInt8) (l : List UInt8) : skA false (piece com k ++ l) = (piece com k).length + skA false l := by
  unfold piece
  split
  · exact skA_blank (by decide) l
  · split
    · exact skA_blank (by decide) l
    · split
      · exact skA_blank (by decide) l
      · split
        · exact skA_blank (by decide) l
        · rw [List.cons_append, skA_hash, List.append_assoc, List.singleton_append, skA_cross _ _ (fun c hc => by have h := (List.mem_filter.1 hc).2; simpa using h)]
          simp
          omega

theorem skA_pieces (com : List UInt8) : ∀ (ks l : List UInt8), skA false (pieces com ks ++ l) = (pieces com ks).length + skA false l
  | [], l => by simp [pieces]
  | k :: ks, l => by
    have ih := skA_pieces com ks l
    have e : pieces com (k :: ks) = piece com k ++ pieces com ks := by simp [pieces]
    rw [e, List.append_assoc, skA_piece, ih, List.length_append]
    omega

/-- The law. -/
theorem sk_cross (com ks L : List UInt8) {p : Nat} (h : p ≤ L.length) : sk (L.take p ++ (pieces com ks ++ L.drop p)) p = sk L p + (pieces com ks).length := by
  have e : (L.take p ++ (pieces com ks ++ L.drop p)).drop p = pieces com ks ++ L.drop p := by
    rw [List.drop_left' (by rw [List.length_take]; omega)]
  unfold sk
  rw [e, skA_pieces]
  omega

end Go.Proofs.Qxb6001026a
