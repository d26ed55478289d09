/-
  nextElement (28); strings.IndexByte (31, 34).
-/
import Derived.Test.Qxb6000821aSpell
namespace Go.Proofs.Qxb6000821a
open Go.RowKit

set_option maxHeartbeats 400000 in
theorem ib_any (s : ByteArray) (c : Int) (w : World) :
    Calls Try.prog 34 #[.string s, .int .u8 c] w fun e w' => e = .returned (.int .i64 (Lib.indexByte s.data.toList c.toNat.toUInt8)) ∧ w' = w := by
  go_enter Try.func34, Try.ntmps34
  go_wp2
  rw [run_callFunc_extern Try.func35 (by kernel_rfl) (by kernel_rfl) (by kernel_rfl) (e := Extern.BytealgIndexByte.indexByte) (by kernel_rfl), Lib.run_indexByteString]
  simp only [Result.andThen]
  rw [Oper.upon_value]
  go_wp2
  go_ret
  exact ⟨rfl, rfl⟩

set_option maxHeartbeats 400000 in
theorem sib_any (s : ByteArray) (c : Int) (w : World) :
    Calls Try.prog 31 #[.string s, .int .u8 c] w fun e w' => e = .returned (.int .i64 (Lib.indexByte s.data.toList c.toNat.toUInt8)) ∧ w' = w := by
  go_enter Try.func31, Try.ntmps31
  go_wp2_with (go_at_call 34; refine (ib_any _ _ _).mono ?_; rintro e w' ⟨rfl, rfl⟩)
  go_ret
  exact ⟨rfl, rfl⟩

/-- What nextElement hands back. -/
def elemV (nm : ByteArray) : Option ((Nat × Nat) × Bool × Nat) → Value
  | none => .tuple #[.agg #[.string ⟨#[]⟩, .bool false], .int .i64 0, .bool false]
  | some (r, br, next) => .tuple #[.agg #[.string (nm.extract r.1 r.2), .bool br], .int .i64 (next : Int), .bool true]

/-- It came back; only new memory was made. -/
def Elem (nm : ByteArray) (o : Option ((Nat × Nat) × Bool × Nat)) (w : World) (e : Ending) (w' : World) : Prop := e = .returned (elemV nm o) ∧ Below w.heap.size w w'

theorem at_list (nm : ByteArray) (i : Nat) (h : i < nm.size) : nm.data.toList[i]? = some nm[i] := List.getElem?_eq_some_iff.2 ⟨by rw [← Lib.size_eq]; exact h, rfl⟩

theorem int_byte {a : UInt8} {n : Nat} (hn : n < 256) : ((a.toNat : Int) == (n : Int)) = (a == n.toUInt8) := by
  have e : (n.toUInt8).toNat = n := by simp; omega
  rw [show ((n : Nat) : Int) = ((n.toUInt8).toNat : Int) by rw [e]]
  exact byte_eq

set_option maxHeartbeats 400000 in
theorem ne_end (nm : ByteArray) (i : Nat) (hi : nm.size ≤ i) (w : World) : Calls Try.prog 28 #[.string nm, .int .i64 (i : Int)] w (Elem nm none w) := by
  go_enter Try.func28, Try.ntmps28
  go_wp2
  exact bodyPost_ret (v := elemV nm none) (by simp [results, Try.results28, go_sem, elemV]) rfl ⟨rfl, (Below.refl _ _).alloc (Nat.le_refl _) _⟩

theorem drop_extract (nm : ByteArray) (k : Nat) : (nm.extract k nm.size).data.toList = nm.data.toList.drop k := by
  rw [Lib.extract_data]
  exact List.take_of_length_le (by rw [List.length_drop, ← Lib.size_eq]; exact Nat.le_refl _)

set_option maxHeartbeats 400000 in
/-- At a bracket. -/
theorem ne_bracket (nm : ByteArray) (i : Nat) (h0 : 0 < i) (hi : i < nm.size) (hs : nm.size ≤ 1048576) (hb : ((nm[i].toNat : Int) == 91) = true) (w : World) : Calls Try.prog 28 #[.string nm, .int .i64 (i : Int)] w (Elem nm (nextE nm.data.toList i) w) := by
  have e91 : nm[i] = 91 := by
    have := hb
    rw [show (91 : Int) = ((91 : Nat) : Int) from rfl, int_byte (by omega)] at this
    simpa using this
  have en : nextE nm.data.toList i = (if Lib.indexByte (nm.data.toList.drop (i + 1)) 93 ≤ 0 then none
     else some ((i + 1, i + 1 + (Lib.indexByte (nm.data.toList.drop (i + 1)) 93).toNat), true, i + 1 + (Lib.indexByte (nm.data.toList.drop (i + 1)) 93).toNat + 1)) := by
    unfold nextE
    rw [if_neg (by rw [← Lib.size_eq]; omega), if_pos ⟨h0, by rw [at_list nm i hi, e91]⟩]
  rw [en]
  clear en e91
  have hc := sib_any (nm.extract (i + 1) nm.size) 93
  rw [drop_extract, show (Int.toNat 93).toUInt8 = (93 : UInt8) from rfl] at hc
  have hge := Lib.indexByte_ge (nm.data.toList.drop (i + 1)) 93
  have hc1 : (0 : Int) < (i : Int) := by omega
  have hc2 : (i : Int) < (nm.size : Int) := by omega
  by_cases hx : Lib.indexByte (nm.data.toList.drop (i + 1)) 93 ≤ 0
  · rw [if_pos hx]
    generalize hX : Lib.indexByte (nm.data.toList.drop (i + 1)) 93 = X at hx hc hge
    clear hX
    have HC : Hid (∀ w, Calls Try.prog 31 #[.string (nm.extract (i + 1) nm.size), .int .u8 93] w fun e w' => e = .returned (.int .i64 X) ∧ w' = w) := hc
    clear hc
    go_enter Try.func28, Try.ntmps28
    go_wp2_with (go_at_call 31; refine (HC.out _).mono ?_; rintro e w' ⟨rfl, rfl⟩)
    exact bodyPost_ret (v := elemV nm none) (by simp [results, Try.results28, go_sem, elemV]) rfl ⟨rfl, (Below.refl _ _).alloc (Nat.le_refl _) _⟩
  · rw [if_neg hx]
    obtain ⟨n, hn⟩ : ∃ n : Nat, Lib.indexByte (nm.data.toList.drop (i + 1)) 93 = n := ⟨_, (Int.toNat_of_nonneg (by omega)).symm⟩
    obtain ⟨hl1, _⟩ := Lib.indexByte_some hn
    have hl := (List.getElem?_eq_some_iff.1 hl1).1
    rw [List.length_drop, ← Lib.size_eq] at hl
    rw [hn] at hx hc ⊢
    rw [Int.toNat_natCast]
    have HC : Hid (∀ w, Calls Try.prog 31 #[.string (nm.extract (i + 1) nm.size), .int .u8 93] w fun e w' => e = .returned (.int .i64 (n : Int)) ∧ w' = w) := hc
    clear hc hl1 hn hge
    go_enter Try.func28, Try.ntmps28
    go_wp2_with (go_at_call 31; refine (HC.out _).mono ?_; rintro e w' ⟨rfl, rfl⟩)
    refine bodyPost_ret (v := elemV nm (some ((i + 1, i + 1 + n), true, i + 1 + n + 1))) ?_ rfl ⟨rfl, (Below.refl _ _).alloc (Nat.le_refl _) _⟩
    simp [results, Try.results28, go_sem, elemV]

/-- The element's text ends where the loop has ended. -/
theorem runE_eq {nm : ByteArray} {start k : Nat} (hsk : start ≤ k) (hks : k ≤ nm.size) (h : ∀ j (hj : j < nm.size), start ≤ j → j < k → stopE nm[j] = false) (he : k = nm.size ∨ ∃ hk : k < nm.size, stopE nm[k] = true) : runE nm.data.toList start = k - start := by
  unfold runE
  have hd : nm.data.toList.drop start = (nm.data.toList.drop start).take (k - start) ++ nm.data.toList.drop k := by
    have := (List.take_append_drop (k - start) (nm.data.toList.drop start)).symm
    rw [List.drop_drop, show start + (k - start) = k by omega] at this
    exact this
  rw [hd, List.takeWhile_append_of_pos]
  · have e2 : (nm.data.toList.drop k).takeWhile (fun c => !stopE c) = [] := by
      rcases he with rfl | ⟨hk, he⟩
      · rw [List.drop_of_length_le (by rw [← Lib.size_eq]; exact Nat.le_refl _)]
        rfl
      · have : nm.data.toList.drop k = nm[k] :: nm.data.toList.drop (k + 1) := by
          rw [List.drop_eq_getElem_cons (by rw [← Lib.size_eq]; exact hk)]
          rfl
        rw [this]
        simp [List.takeWhile, he]
    rw [e2, List.append_nil, List.length_take, List.length_drop, ← Lib.size_eq]
    omega
  · intro c hc
    obtain ⟨j, hj, rfl⟩ := List.getElem_of_mem hc
    rw [List.length_take, List.length_drop, ← Lib.size_eq] at hj
    have e : ((nm.data.toList.drop start).take (k - start))[j]'(by rw [List.length_take, List.length_drop, ← Lib.size_eq]; exact hj) = nm[start + j]'(by omega) := by
      rw [List.getElem_take, List.getElem_drop]
      rfl
    rw [e, h (start + j) (by omega) (by omega) (by omega)]
    rfl

theorem stop_cases {c : UInt8} : stopE c = false ↔ ((c.toNat : Int) == 46) = false ∧ ((c.toNat : Int) == 91) = false := by
  rw [show (46 : Int) = ((46 : Nat) : Int) from rfl, show (91 : Int) = ((91 : Nat) : Int) from rfl, int_byte (by omega), int_byte (by omega)]
  unfold stopE
  rw [Bool.or_eq_false_iff]
  exact Iff.rfl

theorem stop_true {c : UInt8} (h : stopE c = true) : ((c.toNat : Int) != 46) = false ∨ (((c.toNat : Int) != 46) = true ∧ ((c.toNat : Int) != 91) = false) := by
  by_cases h1 : ((c.toNat : Int) == 46) = true
  · left; simp only [bne, h1, Bool.not_true]
  · right
    have h1' : ((c.toNat : Int) == 46) = false := by simpa using h1
    refine ⟨by simp only [bne, h1', Bool.not_false], ?_⟩
    cases h2 : ((c.toNat : Int) == 91)
    · have := stop_cases.2 ⟨h1', h2⟩
      rw [h] at this
      cases this
    · simp only [bne, h2, Bool.not_true]

set_option maxHeartbeats 1000000 in
/-- At an element's text, from start on: the first one, or one behind a dot. -/
theorem ne_text (nm : ByteArray) (i : Nat) (hi : i < nm.size) (hs : nm.size ≤ 1048576) (hb : 0 < i → ((nm[i].toNat : Int) == 91) = false ∧ ((nm[i].toNat : Int) == 46) = true) (w : World) : Calls Try.prog 28 #[.string nm, .int .i64 (i : Int)] w (Elem nm (nextE nm.data.toList i) w) := by
  have en : nextE nm.data.toList i = (if runE nm.data.toList (stE i) = 0 then none else some ((stE i, stE i + runE nm.data.toList (stE i)), false, stE i + runE nm.data.toList (stE i))) := by
    unfold nextE
    rw [if_neg (by rw [← Lib.size_eq]; omega), if_neg, if_neg]
    · rintro ⟨h0, h1⟩
      apply h1
      have h2 := (hb h0).2
      rw [show (46 : Int) = ((46 : Nat) : Int) from rfl, int_byte (by omega)] at h2
      rw [at_list nm i hi, eq_of_beq h2]
      rfl
    · rintro ⟨h0, h1⟩
      have h2 := (hb h0).1
      rw [at_list nm i hi] at h1
      simp only [Option.some.injEq] at h1
      rw [h1] at h2
      cases h2
  have hse : stE i ≤ nm.size := by unfold stE; split <;> omega
  have hc2 : (i : Int) < (nm.size : Int) := by omega
  have HB : Hid (0 < i → ((nm[i].toNat : Int) == 91) = false ∧ ((nm[i].toNat : Int) == 46) = true) := hb
  obtain ⟨a, ha⟩ : ∃ a, a = stE i := ⟨_, rfl⟩
  rw [← ha] at hse en
  have HA : Hid (a = stE i) := ha
  have EN : Hid (nextE nm.data.toList i = (if runE nm.data.toList a = 0 then none else some ((a, a + runE nm.data.toList a), false, a + runE nm.data.toList a))) := en
  clear en hb ha
  by_cases h0 : 0 < i
  · have hc1 : (0 : Int) < (i : Int) := by omega
    obtain ⟨hb1, hb2⟩ := HB.out h0
    have hb3 : ((nm[i].toNat : Int) != 46) = false := by simp only [bne, hb2, Bool.not_true]
    obtain rfl : a = i + 1 := by rw [HA.out]; unfold stE; rw [if_pos h0]
    clear HA HB hb2
    go_enter Try.func28, Try.ntmps28
    go_wp2
    go_loop [10] (fun t => ∃ k : Nat, i + 1 ≤ k ∧ k ≤ nm.size ∧ t = .int .i64 k ∧ Hid (∀ j (hj : j < nm.size), i + 1 ≤ j → j < k → stopE nm[j] = false)) (fun t => nm.size - (intOf t).toNat)
    case atStart => exact ⟨i + 1, Nat.le_refl _, hse, rfl, fun j _ h1 h2 => by omega⟩
    case round =>
      obtain ⟨k, hak, hk, rfl, hd⟩ := hrel
      by_cases hlt : k < nm.size
      · cases hst : stopE nm[k]
        · obtain ⟨s1, s2⟩ := stop_cases.1 hst
          have s3 : ((nm[k].toNat : Int) != 46) = true := by simp only [bne, s1, Bool.not_false]
          have s4 : ((nm[k].toNat : Int) != 91) = true := by simp only [bne, s2, Bool.not_false]
          have HN : Hid (∀ j (hj : j < nm.size), i + 1 ≤ j → j < k + 1 → stopE nm[j] = false) := fun j hj h1 h2 => by
            by_cases e : j = k
            · subst e; exact hst
            · exact hd.out j hj h1 (by omega)
          clear hd hst
          go_wp2
          go_round
          case rel => exact ⟨k + 1, by omega, by omega, by go_num, HN⟩
          case measure => simp [intOf]; omega
        · have HR : Hid (runE nm.data.toList (i + 1) = k - (i + 1)) := runE_eq hak hk hd.out (.inr ⟨hlt, hst⟩)
          have hs46 : (((nm[k].toNat : Int) != 46) = false) ∨ (((nm[k].toNat : Int) != 46) = true ∧ ((nm[k].toNat : Int) != 91) = false) := stop_true hst
          clear hd hst
          rcases hs46 with hs1 | ⟨hs1, hs2⟩
          all_goals
            by_cases hka : k = i + 1
            · have hkb : ((k : Int) == (i : Int) + 1) = true := by simp; omega
              have HX : Hid (nextE nm.data.toList _ = none) := EN.out.trans (by rw [HR.out, if_pos (by omega)])
              clear hka
              go_wp2
              exact bodyPost_ret (v := elemV nm none) (by simp [results, Try.results28, go_sem, elemV]) rfl ⟨by rw [HX.out], (Below.refl _ _).alloc (Nat.le_refl _) _⟩
            · have hkb : ((k : Int) == (i : Int) + 1) = false := by simp; omega
              have HX : Hid (nextE nm.data.toList _ = some ((i + 1, k), false, k)) := EN.out.trans (by rw [HR.out, if_neg (by omega), show i + 1 + (k - (i + 1)) = k by omega])
              clear hka
              go_wp2
              exact bodyPost_ret (v := elemV nm (some ((i + 1, k), false, k))) (by simp [results, Try.results28, go_sem, elemV]) rfl ⟨by rw [HX.out], (Below.refl _ _).alloc (Nat.le_refl _) _⟩
      · have HR : Hid (runE nm.data.toList (i + 1) = k - (i + 1)) := runE_eq hak hk hd.out (.inl (by omega))
        have hlt' : decide ((k : Int) < (nm.size : Int)) = false := decide_eq_false (by omega)
        clear hd
        by_cases hka : k = i + 1
        · have hkb : ((k : Int) == (i : Int) + 1) = true := by simp; omega
          have HX : Hid (nextE nm.data.toList _ = none) := EN.out.trans (by rw [HR.out, if_pos (by omega)])
          clear hka
          go_wp2
          exact bodyPost_ret (v := elemV nm none) (by simp [results, Try.results28, go_sem, elemV]) rfl ⟨by rw [HX.out], (Below.refl _ _).alloc (Nat.le_refl _) _⟩
        · have hkb : ((k : Int) == (i : Int) + 1) = false := by simp; omega
          have HX : Hid (nextE nm.data.toList _ = some ((i + 1, k), false, k)) := EN.out.trans (by rw [HR.out, if_neg (by omega), show i + 1 + (k - (i + 1)) = k by omega])
          clear hka
          go_wp2
          exact bodyPost_ret (v := elemV nm (some ((i + 1, k), false, k))) (by simp [results, Try.results28, go_sem, elemV]) rfl ⟨by rw [HX.out], (Below.refl _ _).alloc (Nat.le_refl _) _⟩
  · obtain rfl : i = 0 := by omega
    obtain rfl : a = 0 := by rw [HA.out]; unfold stE; rw [if_neg h0]
    have hne : ¬ nm = ByteArray.empty := fun e => by rw [e] at hi; exact absurd hi (Nat.lt_irrefl 0)
    clear HA HB
    go_enter Try.func28, Try.ntmps28
    go_wp2
    go_loop [10] (fun t => ∃ k : Nat, 0 ≤ k ∧ k ≤ nm.size ∧ t = .int .i64 k ∧ Hid (∀ j (hj : j < nm.size), 0 ≤ j → j < k → stopE nm[j] = false)) (fun t => nm.size - (intOf t).toNat)
    case atStart => exact ⟨0, Nat.le_refl _, hse, rfl, fun j _ h1 h2 => by omega⟩
    case round =>
      obtain ⟨k, hak, hk, rfl, hd⟩ := hrel
      by_cases hlt : k < nm.size
      · cases hst : stopE nm[k]
        · obtain ⟨s1, s2⟩ := stop_cases.1 hst
          have s3 : ((nm[k].toNat : Int) != 46) = true := by simp only [bne, s1, Bool.not_false]
          have s4 : ((nm[k].toNat : Int) != 91) = true := by simp only [bne, s2, Bool.not_false]
          have HN : Hid (∀ j (hj : j < nm.size), 0 ≤ j → j < k + 1 → stopE nm[j] = false) := fun j hj h1 h2 => by
            by_cases e : j = k
            · subst e; exact hst
            · exact hd.out j hj h1 (by omega)
          clear hd hst
          go_wp2
          go_round
          case rel => exact ⟨k + 1, by omega, by omega, by go_num, HN⟩
          case measure => simp [intOf]; omega
        · have HR : Hid (runE nm.data.toList (0) = k - (0)) := runE_eq hak hk hd.out (.inr ⟨hlt, hst⟩)
          have hs46 : (((nm[k].toNat : Int) != 46) = false) ∨ (((nm[k].toNat : Int) != 46) = true ∧ ((nm[k].toNat : Int) != 91) = false) := stop_true hst
          clear hd hst
          rcases hs46 with hs1 | ⟨hs1, hs2⟩
          all_goals
            by_cases hka : k = 0
            · have hkb : ((k : Int) == 0) = true := by simp; omega
              have HX : Hid (nextE nm.data.toList _ = none) := EN.out.trans (by rw [HR.out, if_pos (by omega)])
              clear hka
              go_wp2
              exact bodyPost_ret (v := elemV nm none) (by simp [results, Try.results28, go_sem, elemV]) rfl ⟨by rw [HX.out], (Below.refl _ _).alloc (Nat.le_refl _) _⟩
            · have hkb : ((k : Int) == 0) = false := by simp; omega
              have HX : Hid (nextE nm.data.toList _ = some ((0, k), false, k)) := EN.out.trans (by rw [HR.out, if_neg (by omega), show 0 + (k - (0)) = k by omega])
              clear hka
              go_wp2
              exact bodyPost_ret (v := elemV nm (some ((0, k), false, k))) (by simp [results, Try.results28, go_sem, elemV]) rfl ⟨by rw [HX.out], (Below.refl _ _).alloc (Nat.le_refl _) _⟩
      · have HR : Hid (runE nm.data.toList (0) = k - (0)) := runE_eq hak hk hd.out (.inl (by omega))
        have hlt' : decide ((k : Int) < (nm.size : Int)) = false := decide_eq_false (by omega)
        clear hd
        by_cases hka : k = 0
        · have hkb : ((k : Int) == 0) = true := by simp; omega
          have HX : Hid (nextE nm.data.toList _ = none) := EN.out.trans (by rw [HR.out, if_pos (by omega)])
          clear hka
          go_wp2
          exact bodyPost_ret (v := elemV nm none) (by simp [results, Try.results28, go_sem, elemV]) rfl ⟨by rw [HX.out], (Below.refl _ _).alloc (Nat.le_refl _) _⟩
        · have hkb : ((k : Int) == 0) = false := by simp; omega
          have HX : Hid (nextE nm.data.toList _ = some ((0, k), false, k)) := EN.out.trans (by rw [HR.out, if_neg (by omega), show 0 + (k - (0)) = k by omega])
          clear hka
          go_wp2
          exact bodyPost_ret (v := elemV nm (some ((0, k), false, k))) (by simp [results, Try.results28, go_sem, elemV]) rfl ⟨by rw [HX.out], (Below.refl _ _).alloc (Nat.le_refl _) _⟩

set_option maxHeartbeats 400000 in
/-- At a character that sets no element off. -/
theorem ne_none (nm : ByteArray) (i : Nat) (h0 : 0 < i) (hi : i < nm.size) (hb1 : ((nm[i].toNat : Int) == 91) = false) (hb2 : ((nm[i].toNat : Int) == 46) = false) (w : World) : Calls Try.prog 28 #[.string nm, .int .i64 (i : Int)] w (Elem nm none w) := by
  have hc1 : (0 : Int) < (i : Int) := by omega
  have hc2 : (i : Int) < (nm.size : Int) := by omega
  have hb3 : ((nm[i].toNat : Int) != 46) = true := by simp only [bne, hb2, Bool.not_false]
  go_enter Try.func28, Try.ntmps28
  go_wp2
  exact bodyPost_ret (v := elemV nm none) (by simp [results, Try.results28, go_sem, elemV]) rfl ⟨rfl, (Below.refl _ _).alloc (Nat.le_refl _) _⟩

/-- nextElement. -/
theorem ne_any (nm : ByteArray) (i : Nat) (hs : nm.size ≤ 1048576) (w : World) : Calls Try.prog 28 #[.string nm, .int .i64 (i : Int)] w (Elem nm (nextE nm.data.toList i) w) := by
  by_cases hi : i < nm.size
  · by_cases h0 : 0 < i
    · cases hb : ((nm[i].toNat : Int) == 91)
      · cases hd : ((nm[i].toNat : Int) == 46)
        · have en : nextE nm.data.toList i = none := by
            unfold nextE
            rw [if_neg (by rw [← Lib.size_eq]; omega), if_neg, if_pos]
            · refine ⟨h0, fun h1 => ?_⟩
              rw [at_list nm i hi] at h1
              simp only [Option.some.injEq] at h1
              rw [h1] at hd
              cases hd
            · rintro ⟨_, h1⟩
              rw [at_list nm i hi] at h1
              simp only [Option.some.injEq] at h1
              rw [h1] at hb
              cases hb
          rw [en]
          exact ne_none nm i h0 hi hb hd w
        · exact ne_text nm i hi hs (fun _ => ⟨hb, hd⟩) w
      · exact ne_bracket nm i h0 hi hs hb w
    · exact ne_text nm i hi hs (fun h => absurd h h0) w
  · have en : nextE nm.data.toList i = none := by
      unfold nextE
      rw [if_pos (by rw [← Lib.size_eq]; omega)]
    rw [en]
    exact ne_end nm i (by omega) w

end Go.Proofs.Qxb6000821a
