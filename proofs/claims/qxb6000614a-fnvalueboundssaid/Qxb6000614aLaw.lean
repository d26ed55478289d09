/-
  The law (5).
-/
import Derived.Test.Qxb6000614aLexv
namespace Go.Proofs.Qxb6000614a
open Go.RowKit

/-- True came back; nothing that was there has turned. -/
def Right (w : World) (e : Ending) (w' : World) : Prop := e = .returned (.bool true) ∧ Below w.heap.size w w'

theorem ret_bool {a : Bool} (h : a = true) : Ending.returned (.bool a) = .returned (.bool true) := by rw [h]

set_option maxHeartbeats 400000 in
theorem law_long (s : ByteArray) (i : Int) (h : (1048576 : Int) < s.size) (w : World) : Calls Try.prog 5 #[.string s, .int .i64 i] w (Right w) := by
  go_enter Try.func5, Try.ntmps5
  go_wp2
  go_ret
  exact ⟨rfl, Below.refl _ _⟩

set_option maxHeartbeats 400000 in
theorem law_out (s : ByteArray) (i : Int) (hs : s.size ≤ 1048576) (h : i < 0 ∨ (s.size : Int) < i) (w : World) : Calls Try.prog 5 #[.string s, .int .i64 i] w (Right w) := by
  by_cases h0 : i < 0
  · clear h
    go_enter Try.func5, Try.ntmps5
    go_wp2
    go_ret
    exact ⟨rfl, Below.refl _ _⟩
  · have h1 : (s.size : Int) < i := by omega
    clear h
    go_enter Try.func5, Try.ntmps5
    go_wp2
    go_ret
    exact ⟨rfl, Below.refl _ _⟩

set_option maxHeartbeats 400000 in
theorem law_quoted (s : ByteArray) (i : Nat) (hs : s.size ≤ 1048576) (hi : i < s.size) (hq : ((s[i].toNat : Int) == 34) = true) (w : World) : Calls Try.prog 5 #[.string s, .int .i64 (i : Int)] w (Right w) := by
  have V : Hid (Calls Try.prog 9 #[.string s, .int .i64 (i : Int)] w _) := lexv_quoted s i hi hs hq w
  have hi' : (i : Int) < (s.size : Int) := by omega
  go_enter Try.func5, Try.ntmps5
  go_wp2_with (first | (go_at_call 9; refine V.out.mono ?_) | go_in)
  rintro e w1 ⟨v, ok, j, hr, rfl, hb⟩
  rcases hr with ⟨rfl, rfl, rfl⟩ | ⟨rfl, h1, h2, ⟨h3, h4⟩, h5⟩
  · clear V
    go_wp2
    go_ret
    exact ⟨rfl, hb⟩
  · have e4 : ((s[j - 1].toNat : Int) == 34) = true := by simpa using h4
    clear V h4
    go_wp2
    go_ret
    exact ⟨ret_bool (decide_eq_true (by omega)), hb⟩

/-- A run of s, as a string of its own. -/
theorem run_cut {s : ByteArray} {i j : Nat} (h : RunOf s i j) : ∃ v : ByteArray, v = s.extract i j ∧ v.size = j - i ∧ ∀ k (hk : k < v.size), dl v[k] = false := by
  refine ⟨_, rfl, ?_, fun k hk => ?_⟩
  · have := h.2.1
    simp
    omega
  · have h2 := h.2.1
    have hk' : k < j - i := by simp at hk; omega
    have e : (s.extract i j)[k] = s[i + k]'(by omega) := by simp [ByteArray.getElem_extract]
    rw [e]
    exact h.2.2.1 (i + k) (by omega) (by omega) (by omega)

set_option maxHeartbeats 1000000 in
theorem law_plain (s : ByteArray) (i : Nat) (hs : s.size ≤ 1048576) (hi : i ≤ s.size) (hq : (h : i < s.size) → ((s[i].toNat : Int) == 34) = false) (w : World) : Calls Try.prog 5 #[.string s, .int .i64 (i : Int)] w (Right w) := by
  have V : Hid (Calls Try.prog 9 #[.string s, .int .i64 (i : Int)] w _) := lexv_plain s i hi hs hq w
  have HQ : Hid ((h : i < s.size) → ((s[i].toNat : Int) == 34) = false) := hq
  clear hq
  have z1 : decide ((1048576 : Int) < (s.size : Int)) = false := decide_eq_false (by omega)
  have z2 : decide ((i : Int) < 0) = false := decide_eq_false (by omega)
  have z3 : decide ((s.size : Int) < (i : Int)) = false := decide_eq_false (by omega)
  go_enter Try.func5, Try.ntmps5
  go_wp2_with (first | (go_at_call 9; refine V.out.mono ?_) | go_in)
  rintro e w1 ⟨j, hr, rfl, hb⟩
  obtain ⟨v, hv, hvs, hvd⟩ := run_cut hr
  have hn : (!(v.toList == (s.extract i j).toList)) = false := by rw [hv]; simp
  rw [← hv]
  obtain ⟨r1, r2, r3, r4⟩ := hr
  have HV : Hid (∀ k (hk : k < v.size), dl v[k] = false) := hvd
  have HE : Hid (j = s.size ∨ ∃ h : j < s.size, dl s[j] = true) := r4
  clear V hv hvd r3 r4
  have z4 : decide (j < i) = false := decide_eq_false (by omega)
  have z5 : decide (s.size < j) = false := decide_eq_false (by omega)
  have hvb : v.size ≤ 1048576 := by omega
  clear hvs
  have fin : ∀ w2 : World, Hid (∀ k (hk : k < v.size), (Calls Try.prog 12 #[.int .u8 (v[k].toNat : Int)] w2 fun e w' => e = .returned (.bool false) ∧ w' = w2)) := fun w2 k hk => by
    have h := delim_any v[k] w2
    rw [HV.out k hk] at h
    exact h
  have fin2 : Hid (∀ (w2 : World) (h : j < s.size), (Calls Try.prog 12 #[.int .u8 (s[j].toNat : Int)] w2 fun e w' => e = .returned (.bool true) ∧ w' = w2)) := fun w2 h => by
    have h' := delim_any s[j] w2
    rcases HE.out with e | ⟨_, e⟩
    · omega
    · rw [e] at h'
      exact h'
  have FIN : Hid (∀ (w2 : World) k (hk : k < v.size), (Calls Try.prog 12 #[.int .u8 (v[k].toNat : Int)] w2 fun e w' => e = .returned (.bool false) ∧ w' = w2)) := fun w2 => fin w2
  clear fin
  by_cases hlt : i < s.size
  all_goals
    first
      | (have hq := HQ.out hlt; have hd : (i : Int) < (s.size : Int) := by omega)
      | have hd : decide ((i : Int) < (s.size : Int)) = false := decide_eq_false (by omega)
    go_wp2
    go_loop [9] (fun t => ∃ k : Nat, k ≤ v.size ∧ t = .int .i64 k) (fun t => v.size - (intOf t).toNat)
    case atStart => exact ⟨0, Nat.zero_le _, rfl⟩
    case round =>
      obtain ⟨k, hk, rfl⟩ := hrel
      by_cases hkv : k < v.size
      · go_wp2_with (go_at_call 12; refine (FIN.out _ k hkv).mono ?_; rintro e w' ⟨rfl, hw⟩; obtain rfl := hw.symm)
        go_round
        case rel => exact ⟨k + 1, by omega, by go_num⟩
        case measure => simp [intOf]; omega
      · by_cases hj : j < s.size
        · have hj' : ((j : Int) == (s.size : Int)) = false := by simp; omega
          go_wp2_with (go_at_call 12; refine (fin2.out _ hj).mono ?_; rintro e w' ⟨rfl, hw⟩; obtain rfl := hw.symm)
          go_ret
          exact ⟨rfl, hb⟩
        · have hj' : ((j : Int) == (s.size : Int)) = true := by simp; omega
          go_wp2
          go_ret
          exact ⟨rfl, hb⟩

end Go.Proofs.Qxb6000614a
