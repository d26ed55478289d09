/-
  zzPairs (15), zzMk (13): nil, or a new map of whatever content.
-/
import Derived.Test.Qxb6000019aClone
import Derived.Maps.Own
import Derived.Maps.OwnOps
import Derived.Maps.OwnSet
import Derived.Maps.RangeWalk
import Derived.Maps.Ext
import Derived.RegionTactic
import Derived.BigRegion
namespace Go.Proofs.Qxb6000019a
open Go.RowKit Go.Maps

theorem law : Keyed Try.prog 9 := string_keyed Try.underlying9
theorem zeroE (w : World) : (zeroValue 36).run Try.prog w = .ok (.int .u64 0) w := by kernel_rfl

/-- Block b of w is a map[string]uint64 of at most n entries that reads as D. -/
abbrev IsMp (w : World) (b n : Nat) (D : DataW Unit) : Prop := w.ownsMap Try.prog 9 (plainElem Try.prog 36) b n D

theorem isMp_below {B b n : Nat} {w w' : World} {D : DataW Unit} (h : IsMp w b n D) (hb : Below B w w') (hB : b < B) : IsMp w' b n D := by
  obtain ⟨es, clock, e, r⟩ := h
  exact ⟨es, clock, (hb.block b hB).trans e, r⟩

/-- Some number came back that is at most both lengths. -/
def Pairs (n1 n2 : Nat) (w : World) (e : Ending) (w' : World) : Prop := ∃ m : Nat, m ≤ n1 ∧ m ≤ n2 ∧ e = .returned (.int .i64 m) ∧ w' = w

set_option maxHeartbeats 400000 in
theorem pairs_any (a1 : Option Addr) (n1 c1 : Nat) (a2 : Option Addr) (n2 c2 : Nat) (w : World) :
    Calls Try.prog 15 #[.slice a1 n1 c1, .slice a2 n2 c2] w (Pairs n1 n2 w) := by
  by_cases h : n2 < n1
  · go_enter Try.func15, Try.ntmps15
    go_wp2
    go_ret
    exact ⟨n2, by omega, by omega, rfl, rfl⟩
  · go_enter Try.func15, Try.ntmps15
    go_wp2
    go_ret
    exact ⟨n1, by omega, by omega, rfl, rfl⟩

set_option maxHeartbeats 400000 in
theorem mk_nil1 (n1 c1 : Nat) (a2 : Option Addr) (n2 c2 : Nat) (w : World) :
    Calls Try.prog 13 #[.slice none n1 c1, .slice a2 n2 c2] w fun e w' => e = .returned (.map none) ∧ w' = w := by
  have q := fun (w : World) (a : Option Addr) (n c n' c' : Nat) => Lib.run_eql_slice_nil (P := Try.prog) w _ _ a n c n' c' Try.underlying22
  go_enter Try.func13, Try.ntmps13
  go_wp2
  go_ret
  exact ⟨rfl, rfl⟩

set_option maxHeartbeats 400000 in
theorem mk_nil2 (x : Addr) (n1 c1 : Nat) (n2 c2 : Nat) (w : World) :
    Calls Try.prog 13 #[.slice (some x) n1 c1, .slice none n2 c2] w fun e w' => e = .returned (.map none) ∧ w' = w := by
  have q := fun (w : World) (a : Option Addr) (n c n' c' : Nat) => Lib.run_eql_slice_nil (P := Try.prog) w _ _ a n c n' c' Try.underlying22
  have q2 := fun (w : World) (a : Option Addr) (n c n' c' : Nat) => Lib.run_eql_slice_nil (P := Try.prog) w _ _ a n c n' c' Try.underlying23
  go_enter Try.func13, Try.ntmps13
  go_wp2
  go_ret
  exact ⟨rfl, rfl⟩

set_option maxHeartbeats 1000000 in
theorem mk_some (b1 n1 c1 : Nat) (S : Nat → ByteArray) (b2 n2 c2 : Nat) (V : Nat → Int) (hn1 : n1 ≤ 65536) (w : World) (h1 : w.rowIs b1 9 n1 (fun i => .string (S i))) (h2 : w.rowIs b2 36 n2 (fun i => .int .u64 (V i)))
    (hS : ∀ i, i < n1 → (S i).size ≤ maxLen) (hV : ∀ i, i < n2 → (Lit.int .u64 (V i)).wf = true) :
    Calls Try.prog 13 #[.slice (some ⟨b1, 0, none⟩) n1 c1, .slice (some ⟨b2, 0, none⟩) n2 c2] w fun e w' => e = .returned (.map (some w.heap.size)) ∧ (∃ D, IsMp w' w.heap.size 65536 D) ∧ Below w.heap.size w w' := by
  have q := fun (w : World) (a : Option Addr) (n c n' c' : Nat) => Lib.run_eql_slice_nil (P := Try.prog) w _ _ a n c n' c' Try.underlying22
  have q2 := fun (w : World) (a : Option Addr) (n c n' c' : Nat) => Lib.run_eql_slice_nil (P := Try.prog) w _ _ a n c n' c' Try.underlying23
  have hmm := @run_makeMap Try.prog
  go_enter Try.func13, Try.ntmps13
  go_wp2_with (first | (go_at_call 15; refine (pairs_any _ _ _ _ _ _ _).mono ?_; rintro e w' ⟨m, hm1, hm2, rfl, rfl⟩))
  clear q q2 hmm
  go_loopw [7] (fun i wr => ∃ (k : Nat) (D : DataW Unit), k ≤ m ∧ i = .int .i64 k ∧ IsMp wr w.heap.size k D ∧ Below w.heap.size w wr) (fun i _ => m - (intOf i).toNat)
  case atStart => exact ⟨0, _, Nat.zero_le _, rfl, World.ownsMap_made _ _ _ _, (Below.refl _ _).alloc (Nat.le_refl _) _⟩
  case round =>
    obtain ⟨k, D, hk, rfl, hown, hbel⟩ := hrel
    by_cases hlt : k < m
    · have g1 : wr.cell? ⟨b1, k, none⟩ = some (.string (S k)) := (hbel.cell (by exact h1.lt)).trans (h1.cell (by omega))
      have g2 : wr.cell? ⟨b2, k, none⟩ = some (.int .u64 (V k)) := (hbel.cell (by exact h2.lt)).trans (h2.cell (by omega))
      obtain ⟨w1, hrun, hown1, hg1⟩ := hown.drew.update law Try.underlying29 (by unfold maxLen; omega) (WideMaps.keyOf_string_mk Try.underlying9 (hS k (by omega))) (plainElem_int Try.underlying36 (hV k (by omega)))
      have c1' : (k : Int) < (n1 : Int) := by omega
      have c2' : (k : Int) < (n2 : Int) := by omega
      clear h1 h2 hS hV hown
      go_wp2
      go_region
      go_wp2
      go_roundw
      case rel => exact ⟨k + 1, _, by omega, by go_num, hown1, hbel.drew.grown hg1 hbel.size (fun j hj => by cases hj; exact Nat.le_refl _)⟩
      case measure => simp [intOf]; omega
    · clear h1 h2
      go_wp2
      go_ret
      exact ⟨rfl, ⟨D, hown.mono (by omega)⟩, hbel⟩

end Go.Proofs.Qxb6000019a
