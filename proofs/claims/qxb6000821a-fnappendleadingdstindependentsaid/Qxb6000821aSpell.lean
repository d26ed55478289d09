/-
  spellString (29), isDigits (33).
-/
import Derived.Test.Qxb6000821aMoves
import Derived.Deep.LoopGhost
namespace Go.Proofs.Qxb6000821a
open Go.RowKit

theorem take_snoc (s : ByteArray) (k : Nat) (h : k < s.size) : s.data.toList.take (k + 1) = s.data.toList.take k ++ [s[k]] := by
  rw [List.take_succ_eq_append_getElem (by simpa using h)]; rfl

theorem spS_snoc (N : List UInt8) (st : List UInt8 × Int) (l : List UInt8) (c : UInt8) : spS N st (l ++ [c]) = spB N (spS N st l) c := by simp [spS]

set_option maxHeartbeats 1000000 in
/-- spellString. -/
theorem ss_any (B : Nat) (v : Value) (pre : List Value) (st : List UInt8 × Int) (nm s : ByteArray) (p : Nat) (hf : Fine nm.data.toList st p) (hp : p + s.size ≤ nm.size) (hs : nm.size ≤ 1048576) (hpre : pre.length ≤ 1048576) (w : World) (hh : Holds B w v pre st.1) :
    Calls Try.prog 29 #[v, .int .i64 st.2, .string nm, .string s] w (Spelled B pre w v (spS nm.data.toList st s.data.toList)) := by
  have HH : Hid (Holds B w v pre st.1) := hh
  have HF : Hid (Fine nm.data.toList st p) := hf
  clear hh hf
  go_enter Try.func29, Try.ntmps29
  go_wp2
  go_loopg [0, 1, 10] s.size (fun g a b i wr => ∃ (k : Nat) (v' : Value), k ≤ s.size ∧ g = s.size - k ∧ i = .int .i64 k ∧ a = v' ∧ b = .int .i64 (spS nm.data.toList st (s.data.toList.take k)).2 ∧ Holds B wr v' pre (spS nm.data.toList st (s.data.toList.take k)).1 ∧ Moves w v wr v')
  case atStart => exact ⟨0, v, Nat.zero_le _, rfl, rfl, rfl, rfl, HH.out, Moves.refl _ _⟩
  case round =>
    obtain ⟨k, v', hk, hg, rfl, hv, rfl, hh, hm⟩ := hrel
    obtain rfl := hv.symm
    have HG : Hid (gk = s.size - k) := hg
    clear hg
    by_cases hlt : k < s.size
    · have hfk : Fine nm.data.toList (spS nm.data.toList st (s.data.toList.take k)) (p + k) := by
        have := fine_spS (s := s.data.toList.take k) HF.out (by rw [List.length_take, ← Lib.size_eq, ← Lib.size_eq]; omega)
        have e : (s.data.toList.take k).length = k := by rw [List.length_take, ← Lib.size_eq]; omega
        rw [e] at this
        exact this
      have hN := hfk.2.2.2
      rw [← Lib.size_eq] at hN
      have C := sb_any B v' pre _ nm hfk.1 (by have := hfk.2.2.1; omega) hs s[k] wr hh (by have := hfk.2.2.1; omega)
      rw [← spS_snoc, ← take_snoc s k hlt] at C
      have HC : Hid (Calls Try.prog 32 #[v', .int .i64 (spS nm.data.toList st (s.data.toList.take k)).2, .string nm, .int .u8 (s[k].toNat : Int)] wr (Spelled B pre wr v' (spS nm.data.toList st (s.data.toList.take (k + 1))))) := C
      have HM : Hid (Moves w v wr v') := hm
      clear C hh hm hfk
      go_wp2_with (go_at_call 32; refine HC.out.mono ?_; rintro e w1 ⟨v1, rfl, hh1, hm1⟩)
      go_roundg (s.size - (k + 1))
      case measure => rw [HG.out]; omega
      case rel => exact ⟨k + 1, v1, by omega, rfl, by go_num, rfl, rfl, hh1, HM.out.trans hm1⟩
    · obtain rfl : k = s.size := by omega
      have e : s.data.toList.take s.size = s.data.toList := List.take_of_length_le (by rw [← Lib.size_eq]; exact Nat.le_refl _)
      rw [e] at hh
      rw [e]
      clear e
      go_wp2
      go_ret2
      exact ⟨v', rfl, hh, hm⟩

theorem digit_iff (c : UInt8) : (48 ≤ c && c ≤ 57) = decide (48 ≤ (c.toNat : Int) ∧ (c.toNat : Int) ≤ 57) := by
  rw [Bool.eq_iff_iff]; simp [UInt8.le_iff_toNat_le]; omega

theorem digs_empty {s : ByteArray} (h : s.size = 0) : digs s.data.toList = false := by
  have : s.data.toList = [] := List.eq_nil_of_length_eq_zero (by rw [← Lib.size_eq]; exact h)
  rw [this]
  rfl

theorem digs_bad {s : ByteArray} {k : Nat} (hk : k < s.size) (h : ¬ (48 ≤ (s[k].toNat : Int) ∧ (s[k].toNat : Int) ≤ 57)) : digs s.data.toList = false := by
  unfold digs
  have hm : s[k] ∈ s.data.toList := by
    have : s[k] = s.data.toList[k]'(by rw [← Lib.size_eq]; exact hk) := rfl
    rw [this]
    exact List.getElem_mem _
  have : s.data.toList.all (fun c => 48 ≤ c && c ≤ 57) = false := by
    rw [List.all_eq_false]
    exact ⟨s[k], hm, by rw [digit_iff]; simpa using h⟩
  rw [this]
  simp

theorem digs_good {s : ByteArray} (h0 : s.size ≠ 0) (h : ∀ k (hk : k < s.size), 48 ≤ (s[k].toNat : Int) ∧ (s[k].toNat : Int) ≤ 57) : digs s.data.toList = true := by
  unfold digs
  have h1 : s.data.toList.isEmpty = false := by
    rw [List.isEmpty_eq_false_iff]
    intro e
    apply h0
    rw [Lib.size_eq, e]
    rfl
  have h2 : s.data.toList.all (fun c => 48 ≤ c && c ≤ 57) = true := by
    rw [List.all_eq_true]
    intro c hc
    obtain ⟨k, hk, rfl⟩ := List.getElem_of_mem hc
    rw [digit_iff]
    have := h k (by rw [Lib.size_eq]; exact hk)
    exact decide_eq_true this
  rw [h1, h2]
  rfl

theorem ret_bool {a b : Bool} (h : a = b) : Ending.returned (.bool a) = .returned (.bool b) := by rw [h]

set_option maxHeartbeats 1000000 in
/-- isDigits. -/
theorem dig_any (s : ByteArray) (hs : s.size ≤ 1048576) (w : World) : Calls Try.prog 33 #[.string s] w fun e w' => e = .returned (.bool (digs s.data.toList)) ∧ w' = w := by
  by_cases h0 : s.size = 0
  · rw [digs_empty h0]
    have he : s.toList.isEmpty = true := by
      rw [Lib.toList_data, List.isEmpty_iff]
      exact List.eq_nil_of_length_eq_zero (by rw [← Lib.size_eq]; exact h0)
    clear h0
    go_enter Try.func33, Try.ntmps33
    go_wp2
    go_ret
    exact ⟨rfl, rfl⟩
  · have he : s.toList.isEmpty = false := by
      rw [Lib.toList_data, List.isEmpty_eq_false_iff]
      intro e
      apply h0
      rw [Lib.size_eq, e]
      rfl
    have H0 : Hid (s.size ≠ 0) := h0
    clear h0
    go_enter Try.func33, Try.ntmps33
    go_wp2
    go_loop [3] (fun t => ∃ k : Nat, k ≤ s.size ∧ t = .int .i64 k ∧ Hid (∀ j (hj : j < s.size), j < k → 48 ≤ (s[j].toNat : Int) ∧ (s[j].toNat : Int) ≤ 57)) (fun t => s.size - (intOf t).toNat)
    case atStart => exact ⟨0, Nat.zero_le _, rfl, fun j _ h => by omega⟩
    case round =>
      obtain ⟨k, hk, rfl, hd⟩ := hrel
      by_cases hlt : k < s.size
      · by_cases h1 : (s[k].toNat : Int) < 48
        · have HB : Hid (digs s.data.toList = false) := digs_bad hlt (by omega)
          go_wp2
          go_ret
          exact ⟨ret_bool HB.out.symm, rfl⟩
        · by_cases h2 : 57 < (s[k].toNat : Int)
          · have HB : Hid (digs s.data.toList = false) := digs_bad hlt (by omega)
            go_wp2
            go_ret
            exact ⟨ret_bool HB.out.symm, rfl⟩
          · have HN : Hid (∀ j (hj : j < s.size), j < k + 1 → 48 ≤ (s[j].toNat : Int) ∧ (s[j].toNat : Int) ≤ 57) := fun j hj hjk => by
              by_cases e : j = k
              · subst e; omega
              · exact hd.out j hj (by omega)
            clear hd
            go_wp2
            go_round
            case rel => exact ⟨k + 1, by omega, by go_num, HN⟩
            case measure => simp [intOf]; omega
      · have HB : Hid (digs s.data.toList = true) := digs_good H0.out (fun j hj => hd.out j hj (by omega))
        clear hd
        go_wp2
        go_ret
        exact ⟨ret_bool HB.out.symm, rfl⟩

end Go.Proofs.Qxb6000821a
