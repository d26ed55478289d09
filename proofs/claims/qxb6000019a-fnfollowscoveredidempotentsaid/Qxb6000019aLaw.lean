/-
  The law itself (8).
-/
import Derived.Test.Qxb6000019aSize
import Derived.Test.Qxb6000019aEq
import Derived.Test.Qxb6000019aJoin
namespace Go.Proofs.Qxb6000019a
open Go.RowKit Go.Maps

/-- A slice of n elements that came in: where there is an element, its cells lie at a plain address of old memory. -/
def Lies (w : World) (a : Option Addr) (n : Nat) (f : Nat → Value) : Prop := n = 0 ∨ ∃ b off, a = some ⟨b, off, none⟩ ∧ b < w.heap.size ∧ ∀ i, i < n → w.cell? ⟨b, off + i, none⟩ = some (f i)

theorem guard_any (s : ByteArray) (hs : s.size ≤ maxLen) (a : Option Addr) (n c : Nat) (S : Nat → ByteArray) (hS : ∀ i, i < n → (S i).size ≤ maxLen) (hn : n ≤ maxLen) (a2 : Option Addr) (n2 c2 : Nat) (hn2 : n2 ≤ maxLen) (w : World)
    (h : Lies w a n (fun i => .string (S i))) : Calls Try.prog 26 #[.string s, .slice a n c, .slice a2 n2 c2] w (SomeBool w) := by
  rcases h with rfl | ⟨b, off, rfl, _, hc⟩
  · exact guard_none s hs a c a2 n2 c2 hn2 w
  · exact guard_some s hs b off n c S hS hn a2 n2 c2 hn2 w hc

theorem bytes_any (a : Option Addr) (n c : Nat) (S : Nat → ByteArray) (hS : ∀ i, i < n → (S i).size ≤ maxLen) (hn : n ≤ 65536) (a2 : Option Addr) (n2 c2 : Nat) (hn2 : n2 ≤ 65536) (w : World)
    (h : Lies w a n (fun i => .string (S i))) : Calls Try.prog 10 #[.slice a n c, .slice a2 n2 c2] w (SomeInt w) := by
  rcases h with rfl | ⟨b, off, rfl, _, hc⟩
  · exact bytes_none a c a2 n2 c2 hn2 w
  · exact bytes_some b off n c S hS hn a2 n2 c2 hn2 w hc

theorem cloneS_any (x : Addr) (n c : Nat) (S : Nat → ByteArray) (hn : n ≤ 65536) (w : World) (h : Lies w (some x) n (fun i => .string (S i))) :
    Calls Try.prog 11 #[.slice (some x) n c] w fun e w' => e = .returned (.slice (some ⟨w.heap.size, 0, none⟩) n n) ∧ w'.rowIs w.heap.size 9 n (fun i => .string (S i)) ∧ Below w.heap.size w w' := by
  rcases h with rfl | ⟨b, off, e, hb, hc⟩
  · exact cloneS_empty x c S w
  · cases e
    exact cloneS_some b off n c S hn w hb hc

theorem cloneU_any (x : Addr) (n c : Nat) (S : Nat → Int) (hn : n ≤ 65536) (w : World) (h : Lies w (some x) n (fun i => .int .u64 (S i))) :
    Calls Try.prog 12 #[.slice (some x) n c] w fun e w' => e = .returned (.slice (some ⟨w.heap.size, 0, none⟩) n n) ∧ w'.rowIs w.heap.size 36 n (fun i => .int .u64 (S i)) ∧ Below w.heap.size w w' := by
  rcases h with rfl | ⟨b, off, e, hb, hc⟩
  · exact cloneU_empty x c S w
  · cases e
    exact cloneU_some b off n c S hn w hb hc

theorem lies_below {B : Nat} {w w' : World} {a : Option Addr} {n : Nat} {f : Nat → Value} (h : Lies w a n f) (hb : Below B w w') (hB : w.heap.size ≤ B) : Lies w' a n f := by
  rcases h with h | ⟨b, off, e, hlt, hc⟩
  · exact .inl h
  · exact .inr ⟨b, off, e, Nat.lt_of_lt_of_le hlt hb.size, fun i hi => (hb.cell (p := ⟨b, off + i, none⟩) (Nat.lt_of_lt_of_le hlt hB)).trans (hc i hi)⟩

/-! ### the plain laws -/
theorem keepB_later (later : ByteArray) (c : Int) : keepB later later c = false := by simp [keepB]

theorem keepL_later (later : ByteArray) (D : DataW Unit) : keepL later D (.string later.data.toList) = false := by
  unfold keepL
  cases D.atKey (.string later.data.toList) .nil <;> try rfl
  rename_i l
  cases l <;> try rfl
  exact keepB_later later _

/-- Follows never names later. -/
theorem kept_later {later : ByteArray} {D' D : DataW Unit} (h : Kept (keepL later D) D' D) : has D' (.string later.data.toList) = false := by
  rw [h.1, keepL_later]; simp

/-- Follows of what Follows gave: the same. -/
theorem kept_again {later : ByteArray} {D'' D' D : DataW Unit} (h : Kept (keepL later D) D' D) (h' : Kept (keepL later D') D'' D') (c2 : Canon D'') (c1 : Canon D') : D'' = D' := by
  refine kept_all h' (fun k hk => ?_) c2 c1
  have e : keepL later D' k = keepL later D k := by
    unfold keepL
    rw [h.2 k .nil hk]
  rw [e]
  have := h.1 k
  rw [hk] at this
  simp at this
  exact this.2

theorem kept_sub {p : Lit → Bool} {D' D : DataW Unit} (h : Kept p D' D) : Sub D' D := fun k z hk => (h.2 k z hk).symm

theorem kept_pos {later : ByteArray} {D' D : DataW Unit} (h : Kept (keepL later D) D' D) : Pos D' := by
  intro k c hk hat
  have h1 := h.1 k
  rw [hk] at h1
  simp at h1
  have h2 := h1.2
  unfold keepL at h2
  rw [← h.2 k .nil hk, hat] at h2
  cases k <;> simp [keepB] at h2
  exact h2.2

theorem kept_empty {p : Lit → Bool} {D' : DataW Unit} (h : Kept p D' (.map [])) (k : Lit) : has D' k = false := by rw [h.1]; rfl

/-- True came back; nothing that was there has turned. -/
def Right (w : World) (e : Ending) (w' : World) : Prop := e = .returned (.bool true) ∧ Below w.heap.size w w'

set_option maxHeartbeats 1000000 in
set_option maxRecDepth 100000 in
theorem law_both (later : ByteArray) (hl : later.size ≤ maxLen) (x1 : Addr) (n1 c1 : Nat) (S : Nat → ByteArray) (hS : ∀ i, i < n1 → (S i).size ≤ maxLen) (hn1 : n1 ≤ maxLen) (x2 : Addr) (n2 c2 : Nat) (V : Nat → Int)
    (hV : ∀ i, i < n2 → (Lit.int .u64 (V i)).wf = true) (hn2 : n2 ≤ maxLen) (w : World) (h1 : Lies w (some x1) n1 (fun i => .string (S i))) (h2 : Lies w (some x2) n2 (fun i => .int .u64 (V i))) :
    Calls Try.prog 8 #[.string later, .slice (some x1) n1 c1, .slice (some x2) n2 c2] w (Right w) := by
  have Hl : Hid (later.size ≤ maxLen) := hl
  unfold maxLen at hl
  have G := guard_any later Hl.out (some x1) n1 c1 S hS hn1 (some x2) n2 c2 hn2 w h1
  by_cases b1 : (1048576 : Int) < later.size
  · go_enter Try.func8, Try.ntmps8
    go_wp2_with (go_at_call 26; refine G.mono ?_; rintro e w' ⟨x, rfl, rfl⟩; clear G; cases x)
    all_goals
      go_ret
      exact ⟨rfl, Below.refl _ _⟩
  by_cases b2 : (65536 : Int) < n1
  · go_enter Try.func8, Try.ntmps8
    go_wp2_with (go_at_call 26; refine G.mono ?_; rintro e w' ⟨x, rfl, rfl⟩; clear G; cases x)
    all_goals
      go_ret
      exact ⟨rfl, Below.refl _ _⟩
  by_cases b3 : (65536 : Int) < n2
  · go_enter Try.func8, Try.ntmps8
    go_wp2_with (go_at_call 26; refine G.mono ?_; rintro e w' ⟨x, rfl, rfl⟩; clear G; cases x)
    all_goals
      go_ret
      exact ⟨rfl, Below.refl _ _⟩
  have B := bytes_any (some x1) n1 c1 S hS (by omega) (some x2) n2 c2 (by omega) w h1
  have Q1 := cloneS_any x1 n1 c1 S (by omega) w h1
  have q := fun (w : World) (r : Option Nat) => run_neq_map_nil (P := Try.prog) w _ _ _ r Try.underlying29
  go_enter Try.func8, Try.ntmps8
  go_wp2_with (first
    | (go_at_call 26; refine G.mono ?_; rintro e w' ⟨x, rfl, hw⟩; obtain rfl := hw.symm; clear G; cases x)
    | (go_at_call 10; refine B.mono ?_; rintro e w' ⟨t, ht0, ht1, rfl, hw⟩; obtain rfl := hw.symm; clear B))
  · go_ret
    exact ⟨rfl, Below.refl _ _⟩
  · go_ret
    exact ⟨rfl, Below.refl _ _⟩
  refine Q1.mono ?_
  rintro e w1 ⟨rfl, hr1, hb1⟩
  have Q2 := cloneU_any x2 n2 c2 V (by omega) w1 (lies_below h2 hb1 (Nat.le_refl _))
  clear Q1 h1 h2
  go_wp2_with fail
  refine Q2.mono ?_
  rintro e w2 ⟨rfl, hr2, hb2⟩
  have hr1b := rowIs_below hr1 hb2 hr1.lt
  have Q3 := mk_some w.heap.size n1 n1 S w1.heap.size n2 n2 V (by omega) w2 hr1b hr2 hS hV
  clear Q2
  go_wp2_with fail
  refine Q3.mono ?_
  rintro e w3 ⟨rfl, ⟨D, hm3⟩, hb3⟩
  have Q4 := follows_some later Hl.out w2.heap.size 65536 (by omega) D w3 hm3
  clear Q3
  go_wp2_with fail
  refine Q4.mono ?_
  rintro e w4 ⟨rfl, ⟨D', hm4, hk4⟩, hb4⟩
  obtain ⟨c, hlk, _⟩ := look_is hm4 Hl.out
  rw [kept_later hk4] at hlk
  have Q5 := follows_some later Hl.out w3.heap.size 65536 (by omega) D' w4 hm4
  clear Q4
  go_wp2_with fail
  refine Q5.mono ?_
  rintro e w5 ⟨rfl, ⟨D'', hm5, hk5⟩, hb5⟩
  obtain rfl : D' = D'' := (kept_again hk4 hk5 (hm5.canon law) (hm4.canon law)).symm
  have z1 := hr1.lt
  have z2 := hr2.lt
  have z3 := hm3.lt
  have z4 := hm4.lt
  have z5 := hm5.lt
  have hr1c : w5.rowIs w.heap.size 9 n1 (fun i => .string (S i)) := rowIs_below (rowIs_below (rowIs_below hr1b hb3 (by omega)) hb4 (by omega)) hb5 (by omega)
  have hm4b := isMp_below hm4 hb5 z4
  have hm3b := isMp_below (isMp_below hm3 hb4 z3) hb5 (by omega)
  have Q6 := eqOn_any w4.heap.size 65536 w3.heap.size 65536 D' (some ⟨w.heap.size, 0, none⟩) n1 n1 S (by omega) w5 hm5 hm4b (.inr ⟨_, rfl, hr1c⟩) hS
  have Q7 := join_some w3.heap.size 65536 (by omega) D' w2.heap.size 65536 (by omega) D w5 hm4b hm3b (kept_sub hk4)
  clear Q5 hlk
  go_wp2_with fail
  refine Q6.mono ?_
  rintro e w' ⟨rfl, hw⟩
  obtain rfl := hw.symm
  clear Q6
  go_wp2_with fail
  refine Q7.mono ?_
  rintro e w6 ⟨rfl, hm6, hb6⟩
  have z6 := hm6.lt
  have hr1d := rowIs_below hr1c hb6 (by omega)
  have hm3c := isMp_below hm3b hb6 (by omega)
  have hm4c := isMp_below hm4b hb6 (by omega)
  have Q8 := eqOn_any w5.heap.size 131072 w2.heap.size 65536 D (some ⟨w.heap.size, 0, none⟩) n1 n1 S (by omega) w6 hm6 hm3c (.inr ⟨_, rfl, hr1d⟩) hS
  have Q9 := meet_some w3.heap.size 65536 (by omega) D' w2.heap.size 65536 D w6 hm4c hm3c (kept_sub hk4) (kept_pos hk4)
  clear Q7
  go_wp2_with fail
  refine Q8.mono ?_
  rintro e w' ⟨rfl, hw⟩
  obtain rfl := hw.symm
  clear Q8
  go_wp2_with fail
  refine Q9.mono ?_
  rintro e w7 ⟨rfl, hm7, hb7⟩
  have z7 := hm7.lt
  have Qa := eqOn_any w6.heap.size 65536 w3.heap.size 65536 D' (some ⟨w.heap.size, 0, none⟩) n1 n1 S (by omega) w7 hm7 (isMp_below hm4c hb7 (by omega)) (.inr ⟨_, rfl, rowIs_below hr1d hb7 (by omega)⟩) hS
  clear Q9
  go_wp2_with fail
  refine Qa.mono ?_
  rintro e w' ⟨rfl, hw⟩
  obtain rfl := hw.symm
  clear Qa
  go_wp2
  go_ret
  exact ⟨rfl, (((((hb1.trans (hb2.mono (by omega))).trans (hb3.mono (by omega))).trans (hb4.mono (by omega))).trans (hb5.mono (by omega))).trans (hb6.mono (by omega))).trans (hb7.mono (by omega))⟩

end Go.Proofs.Qxb6000019a
