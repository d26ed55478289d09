/-
  zzAgreeAll (27), zzEqOn (18): two maps that read as one and the same datum: true.
-/
import Derived.Test.Qxb6000019aMk
namespace Go.Proofs.Qxb6000019a
open Go.RowKit Go.Maps

/-- What a look-up with 'ok' answers, as a function of the datum and the key. -/
theorem look_is {w : World} {b n : Nat} {D : DataW Unit} (h : IsMp w b n D) {s : ByteArray} (hs : s.size ≤ maxLen) : ∃ c : Int, (Instr.lookup 29 (.map (some b)) (.string s) true).run Try.prog w = .ok (.tuple #[.int .u64 c, .bool (Maps.has D (.string s.data.toList))]) w ∧ D.atKey (.string s.data.toList) (.lit (.int .u64 0)) = .lit (.int .u64 c) := by
  obtain ⟨v, ps, hrun, hv⟩ := h.look_ok law Try.underlying29 (zeroE w) (plainElem_int Try.underlying36 (by decide)) (WideMaps.keyOf_string_mk Try.underlying9 hs)
  obtain ⟨c, rfl, hc, _⟩ := plainElem_int_inv Try.underlying36 hv
  exact ⟨c, hrun, congrArg Prod.fst hc⟩

set_option maxHeartbeats 400000 in
theorem agree_none (va vb : Value) (a : Option Addr) (c : Nat) (w : World) : Calls Try.prog 27 #[va, vb, .slice a 0 c] w fun e w' => e = .returned (.bool true) ∧ w' = w := by
  go_enter Try.func27, Try.ntmps27
  go_wp2
  refine wp_loop_rounds 1 ?_
  rw [rounds_succ]
  go_wp2
  go_ret
  exact ⟨rfl, rfl⟩

set_option maxHeartbeats 400000 in
theorem agree_some (ba na bb nb : Nat) (D : DataW Unit) (bk n c : Nat) (S : Nat → ByteArray) (hn : n ≤ 65536) (w : World) (hA : IsMp w ba na D) (hB : IsMp w bb nb D) (hk : w.rowIs bk 9 n (fun i => .string (S i)))
    (hS : ∀ i, i < n → (S i).size ≤ maxLen) : Calls Try.prog 27 #[.map (some ba), .map (some bb), .slice (some ⟨bk, 0, none⟩) n c] w fun e w' => e = .returned (.bool true) ∧ w' = w := by
  go_enter Try.func27, Try.ntmps27
  go_wp2
  go_loop [7] (fun i => ∃ k : Nat, k ≤ n ∧ i = .int .i64 k) (fun i => n - (intOf i).toNat)
  case atStart => exact ⟨0, Nat.zero_le _, rfl⟩
  case round =>
    obtain ⟨k, hkn, rfl⟩ := hrel
    by_cases hlt : k < n
    · have g1 : w.cell? ⟨bk, k, none⟩ = some (.string (S k)) := hk.cell hlt
      obtain ⟨c1, l1, e1⟩ := look_is hA (hS k hlt)
      obtain ⟨c2, l2, e2⟩ := look_is hB (hS k hlt)
      obtain rfl : c1 = c2 := by rw [e1] at e2; simpa using e2
      clear hk hS hA hB e1 e2
      go_wp2
      go_round
      case rel => exact ⟨k + 1, by omega, by go_num⟩
      case measure => simp [intOf]; omega
    · clear hk hS hA hB
      go_wp2
      go_ret
      exact ⟨rfl, rfl⟩

theorem agree_any (ba na bb nb : Nat) (D : DataW Unit) (a : Option Addr) (n c : Nat) (S : Nat → ByteArray) (hn : n ≤ 65536) (w : World) (hA : IsMp w ba na D) (hB : IsMp w bb nb D)
    (hk : n = 0 ∨ ∃ bk, a = some ⟨bk, 0, none⟩ ∧ w.rowIs bk 9 n (fun i => .string (S i))) (hS : ∀ i, i < n → (S i).size ≤ maxLen) :
    Calls Try.prog 27 #[.map (some ba), .map (some bb), .slice a n c] w fun e w' => e = .returned (.bool true) ∧ w' = w := by
  rcases hk with rfl | ⟨bk, rfl, hk⟩
  · exact agree_none _ _ _ _ _
  · exact agree_some ba na bb nb D bk n c S hn w hA hB hk hS

set_option maxHeartbeats 400000 in
theorem eqOn_any (ba na bb nb : Nat) (D : DataW Unit) (a : Option Addr) (n c : Nat) (S : Nat → ByteArray) (hn : n ≤ 65536) (w : World) (hA : IsMp w ba na D) (hB : IsMp w bb nb D)
    (hk : n = 0 ∨ ∃ bk, a = some ⟨bk, 0, none⟩ ∧ w.rowIs bk 9 n (fun i => .string (S i))) (hS : ∀ i, i < n → (S i).size ≤ maxLen) :
    Calls Try.prog 18 #[.map (some ba), .map (some bb), .slice a n c, .slice none 0 0, .slice none 0 0] w fun e w' => e = .returned (.bool true) ∧ w' = w := by
  have H : Hid (Calls Try.prog 27 #[.map (some ba), .map (some bb), .slice a n c] w fun e w' => e = .returned (.bool true) ∧ w' = w) := agree_any ba na bb nb D a n c S hn w hA hB hk hS
  clear hk hS
  go_enter Try.func18, Try.ntmps18
  go_wp2_with (first | (at_len; refine wpList_len_own _ rfl (.tmp 11) 29 rfl 9 36 Try.underlying29 _ ba na D rfl hA ?_) | (at_len; refine wpList_len_own _ rfl (.tmp 13) 29 rfl 9 36 Try.underlying29 _ bb nb D rfl hB ?_))
  refine H.out.mono ?_
  rintro e w' ⟨rfl, rfl⟩
  clear H hA hB
  go_wp2_with (first | (go_at_call 27; refine (agree_none _ _ _ _ _).mono ?_; rintro e w' ⟨rfl, rfl⟩))
  go_ret
  exact ⟨rfl, rfl⟩

end Go.Proofs.Qxb6000019a
