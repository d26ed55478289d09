/-
  The law (8) where one of the slices is nil: deps is nil.
-/
import Derived.Test.Qxb6000019aLaw
namespace Go.Proofs.Qxb6000019a
open Go.RowKit Go.Maps

theorem cloneS_gen (a : Option Addr) (n c : Nat) (S : Nat → ByteArray) (hn : n ≤ 65536) (hz : a = none → n = 0) (w : World) (h : Lies w a n (fun i => .string (S i))) :
    Calls Try.prog 11 #[.slice a n c] w fun e w' => ∃ a', e = .returned (.slice a' n n) ∧ (n = 0 ∨ ∃ bk, a' = some ⟨bk, 0, none⟩ ∧ w'.rowIs bk 9 n (fun i => .string (S i))) ∧ (a = none → a' = none) ∧ Below w.heap.size w w' := by
  cases a with
  | none =>
    obtain rfl := hz rfl
    refine (cloneS_nil 0 c w).mono ?_
    rintro e w' ⟨rfl, rfl⟩
    exact ⟨none, rfl, .inl rfl, fun _ => rfl, Below.refl _ _⟩
  | some x =>
    refine (cloneS_any x n c S hn w h).mono ?_
    rintro e w' ⟨rfl, hr, hb⟩
    exact ⟨_, rfl, .inr ⟨_, rfl, hr⟩, (fun e => by cases e), hb⟩

theorem cloneU_gen (a : Option Addr) (n c : Nat) (V : Nat → Int) (hn : n ≤ 65536) (hz : a = none → n = 0) (w : World) (h : Lies w a n (fun i => .int .u64 (V i))) :
    Calls Try.prog 12 #[.slice a n c] w fun e w' => ∃ a', e = .returned (.slice a' n n) ∧ (a = none → a' = none) ∧ Below w.heap.size w w' := by
  cases a with
  | none =>
    obtain rfl := hz rfl
    refine (cloneU_nil 0 c w).mono ?_
    rintro e w' ⟨rfl, rfl⟩
    exact ⟨none, rfl, fun _ => rfl, Below.refl _ _⟩
  | some x =>
    refine (cloneU_any x n c V hn w h).mono ?_
    rintro e w' ⟨rfl, hr, hb⟩
    exact ⟨_, rfl, (fun e => by cases e), hb⟩

theorem mk_nil (a1 : Option Addr) (n1 c1 : Nat) (a2 : Option Addr) (n2 c2 : Nat) (h : a1 = none ∨ a2 = none) (w : World) :
    Calls Try.prog 13 #[.slice a1 n1 c1, .slice a2 n2 c2] w fun e w' => e = .returned (.map none) ∧ w' = w := by
  cases a1 with
  | none => exact mk_nil1 n1 c1 a2 n2 c2 w
  | some x =>
    rcases h with h | rfl
    · cases h
    · exact mk_nil2 x n1 c1 n2 c2 w

theorem rows_below {B n : Nat} {w w' : World} {a : Option Addr} {S : Nat → ByteArray} (h : n = 0 ∨ ∃ bk, a = some ⟨bk, 0, none⟩ ∧ w.rowIs bk 9 n (fun i => .string (S i))) (hb : Below B w w') (hB : w.heap.size ≤ B) :
    n = 0 ∨ ∃ bk, a = some ⟨bk, 0, none⟩ ∧ w'.rowIs bk 9 n (fun i => .string (S i)) := by
  rcases h with h | ⟨bk, e, hr⟩
  · exact .inl h
  · exact .inr ⟨bk, e, rowIs_below hr hb (Nat.lt_of_lt_of_le hr.lt hB)⟩

set_option maxHeartbeats 1000000 in
set_option maxRecDepth 100000 in
theorem law_nil (later : ByteArray) (hl : later.size ≤ maxLen) (a1 : Option Addr) (n1 c1 : Nat) (S : Nat → ByteArray) (hS : ∀ i, i < n1 → (S i).size ≤ maxLen) (hn1 : n1 ≤ maxLen) (a2 : Option Addr) (n2 c2 : Nat) (V : Nat → Int)
    (hn2 : n2 ≤ maxLen) (hz1 : a1 = none → n1 = 0) (hz2 : a2 = none → n2 = 0) (hnil : a1 = none ∨ a2 = none) (w : World) (h1 : Lies w a1 n1 (fun i => .string (S i))) (h2 : Lies w a2 n2 (fun i => .int .u64 (V i))) :
    Calls Try.prog 8 #[.string later, .slice a1 n1 c1, .slice a2 n2 c2] w (Right w) := by
  have Hl : Hid (later.size ≤ maxLen) := hl
  unfold maxLen at hl
  have G := guard_any later Hl.out a1 n1 c1 S hS hn1 a2 n2 c2 hn2 w h1
  have HZ : Hid ((a1 = none → n1 = 0) ∧ (a2 = none → n2 = 0) ∧ (a1 = none ∨ a2 = none)) := ⟨hz1, hz2, hnil⟩
  clear hz1 hz2 hnil
  by_cases b1 : (1048576 : Int) < later.size
  · go_enter Try.func8, Try.ntmps8
    go_wp2_with (go_at_call 26; refine G.mono ?_; rintro e w' ⟨x, rfl, rfl⟩; clear G; cases x)
    all_goals
      go_ret
      exact ⟨rfl, Below.refl _ _⟩
  by_cases b2 : (65536 : Int) < n1
  · go_enter Try.func8, Try.ntmps8
    go_wp2_with (go_at_call 26; refine G.mono ?_; rintro e w' ⟨x, rfl, rfl⟩; clear G; cases x)
    all_goals
      go_ret
      exact ⟨rfl, Below.refl _ _⟩
  by_cases b3 : (65536 : Int) < n2
  · go_enter Try.func8, Try.ntmps8
    go_wp2_with (go_at_call 26; refine G.mono ?_; rintro e w' ⟨x, rfl, rfl⟩; clear G; cases x)
    all_goals
      go_ret
      exact ⟨rfl, Below.refl _ _⟩
  have B := bytes_any a1 n1 c1 S hS (by omega) a2 n2 c2 (by omega) w h1
  have Q1 := cloneS_gen a1 n1 c1 S (by omega) HZ.out.1 w h1
  have q := fun (w : World) (r : Option Nat) => run_neq_map_nil (P := Try.prog) w _ _ _ r Try.underlying29
  go_enter Try.func8, Try.ntmps8
  go_wp2_with (first
    | (go_at_call 26; refine G.mono ?_; rintro e w' ⟨x, rfl, hw⟩; obtain rfl := hw.symm; clear G; cases x)
    | (go_at_call 10; refine B.mono ?_; rintro e w' ⟨t, ht0, ht1, rfl, hw⟩; obtain rfl := hw.symm; clear B))
  · go_ret
    exact ⟨rfl, Below.refl _ _⟩
  · go_ret
    exact ⟨rfl, Below.refl _ _⟩
  refine Q1.mono ?_
  rintro e w1 ⟨k1, rfl, hr1, hk1, hb1⟩
  have Q2 := cloneU_gen a2 n2 c2 V (by omega) HZ.out.2.1 w1 (lies_below h2 hb1 (Nat.le_refl _))
  have HR : Hid ((n1 = 0 ∨ ∃ bk, k1 = some ⟨bk, 0, none⟩ ∧ w1.rowIs bk 9 n1 (fun i => .string (S i))) ∧ (a1 = none → k1 = none)) := ⟨hr1, hk1⟩
  clear Q1 h1 h2 hr1 hk1
  go_wp2_with fail
  refine Q2.mono ?_
  rintro e w2 ⟨k2, rfl, hk2, hb2⟩
  have hmn : k1 = none ∨ k2 = none := by
    rcases HZ.out.2.2 with h | h
    · exact .inl (HR.out.2 h)
    · exact .inr (hk2 h)
  have Q3 := mk_nil k1 n1 n1 k2 n2 n2 hmn w2
  clear Q2 hk2 hmn
  go_wp2_with fail
  refine Q3.mono ?_
  rintro e w' ⟨rfl, hw⟩
  obtain rfl := hw.symm
  have Q4 := follows_nil later w2
  clear Q3
  go_wp2_with fail
  refine Q4.mono ?_
  rintro e w4 ⟨rfl, hm4, hb4⟩
  obtain ⟨c, hlk, _⟩ := look_is hm4 Hl.out
  rw [show has (.map [] : DataW Unit) (.string later.data.toList) = false from rfl] at hlk
  have Q5 := follows_some later Hl.out w2.heap.size 0 (by omega) _ w4 hm4
  clear Q4
  go_wp2_with fail
  refine Q5.mono ?_
  rintro e w5 ⟨rfl, ⟨D'', hm5, hk5⟩, hb5⟩
  obtain rfl : D'' = .map [] := kept_all hk5 (fun k hk => by cases hk) (hm5.canon law) canon_empty
  have z1 := hb1.size
  have z2 := hb2.size
  have z4 := hm4.lt
  have z5 := hm5.lt
  have hrc := rows_below (rows_below (rows_below HR.out.1 hb2 (Nat.le_refl _)) hb4 (Nat.le_refl _)) hb5 (Nat.le_refl _)
  have hm4b := isMp_below hm4 hb5 z4
  have Q6 := eqOn_any w4.heap.size 0 w2.heap.size 0 (.map []) k1 n1 n1 S (by omega) w5 hm5 hm4b hrc hS
  have Q9 := meet_nil w2.heap.size 0 (.map []) (fun _ => rfl) w5 hm4b
  clear Q5 hlk
  go_wp2_with fail
  refine Q6.mono ?_
  rintro e w' ⟨rfl, hw⟩
  obtain rfl := hw.symm
  clear Q6
  go_wp2_with fail
  refine Q9.mono ?_
  rintro e w7 ⟨rfl, hm7, hb7⟩
  have z7 := hm7.lt
  have Qa := eqOn_any w5.heap.size 0 w2.heap.size 0 (.map []) k1 n1 n1 S (by omega) w7 hm7 (isMp_below hm4b hb7 (by omega)) (rows_below hrc hb7 (Nat.le_refl _)) hS
  clear Q9
  go_wp2_with fail
  refine Qa.mono ?_
  rintro e w' ⟨rfl, hw⟩
  obtain rfl := hw.symm
  clear Qa
  go_wp2
  go_ret
  exact ⟨rfl, (((hb1.trans (hb2.mono (by omega))).trans (hb4.mono (by omega))).trans (hb5.mono (by omega))).trans (hb7.mono (by omega))⟩

end Go.Proofs.Qxb6000019a
