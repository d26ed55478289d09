/-
  oneOrNone (10), cloneBytes (8), eqBytes (11), zzBytes (7).
-/
import Derived.Test.Qxb6000821aLead
import Derived.Laws.CopyOwn
import Derived.Laws.IdiomStrings
import Derived.Deep.OwnRows
import Derived.BigQuiet
namespace Go.Proofs.Qxb6000821a
open Go.RowKit

/-- No byte at zero, else the one byte. -/
def oneOf (c : UInt8) : ByteArray := if c = 0 then ⟨#[]⟩ else ⟨#[c]⟩
theorem oneOf_size (c : UInt8) : (oneOf c).size ≤ 1 := by
  unfold oneOf
  split
  · decide
  · exact Nat.le_refl 1

set_option maxHeartbeats 400000 in
theorem one_any (c : UInt8) (w : World) : Calls Try.prog 10 #[.int .u8 (c.toNat : Int)] w fun e w' => e = .returned (.string (oneOf c)) ∧ Below w.heap.size w w' := by
  by_cases h0 : c = 0
  · have hr : oneOf c = ⟨#[]⟩ := by unfold oneOf; rw [if_pos h0]
    have hz : ((c.toNat : Int)) = 0 := by rw [h0]; rfl
    rw [hr, hz]
    go_enter Try.func10, Try.ntmps10
    go_wp2
    go_ret
    exact ⟨rfl, Below.refl _ _⟩
  · have hr : oneOf c = ⟨#[c]⟩ := by unfold oneOf; rw [if_neg h0]
    have hz : ¬ (c.toNat : Int) = 0 := fun h => h0 (UInt8.toNat_inj.1 (by show c.toNat = 0; omega))
    have kc : (convert 23 9 (.slice (some ⟨w.heap.size, 0, none⟩) 1 1)).run Try.prog (w.alloc (.cells #[.int .u8 (c.toNat : Int)] 5)) = .ok (.string ⟨#[c]⟩) (w.alloc (.cells #[.int .u8 (c.toNat : Int)] 5)) :=
      run_convert_bytes_back _ 23 9 5 ⟨w.heap.size, 0, none⟩ 1 [c] Try.underlying23 Try.underlying5 Try.underlying9 (fun j hj => by
        obtain rfl : j = 0 := by simpa using hj
        simp [Addr.add])
    rw [hr]
    go_enter Try.func10, Try.ntmps10
    go_wp2
    go_ret
    exact ⟨rfl, (Below.refl _ _).alloc (Nat.le_refl _) _⟩

theorem Try.info5z : (Try.prog.info? 5).map (fun i => (i.zero, i.size, i.bytes)) = some (some (.int .u8 0), 1, 1) := by kernel_rfl

/-- A slice whose cells read pre. -/
def Reads (w : World) (v : Value) (pre : List Value) : Prop :=
  ∃ ao c, v = .slice ao pre.length c ∧ (0 < pre.length → ∃ b off, b < w.heap.size ∧ ao = some ⟨b, off, none⟩ ∧ ∀ (j : Nat) (x : Value), pre[j]? = some x → w.cell? ⟨b, off + j, none⟩ = some x)

/-- Bytes. -/
def Octets (pre : List Value) : Prop := ∀ x ∈ pre, ∃ n : Int, x = .int .u8 n

theorem Holds.reads {B : Nat} {w : World} {v : Value} {pre : List Value} {l : List UInt8} (h : Holds B w v pre l) : Reads w v (pre ++ Lib.byteCells l) := by
  obtain ⟨⟨h1, h2⟩, _⟩ := h
  have hl : (pre ++ Lib.byteCells l).length = pre.length + l.length := by rw [h1, Nat.mul_one]
  rcases h2 with ⟨rfl, hn⟩ | ⟨g, cap, cur, rfl, hg, hh, hc, hm, hs, ht⟩
  · exact ⟨none, 0, by rw [hl, hn], fun h => by omega⟩
  · refine ⟨_, cap, by rw [hl], fun _ => ⟨g, 0, (Array.getElem?_eq_some_iff.1 hh).1, rfl, fun j x hx => ?_⟩⟩
    have hj : j < pre.length + l.length := by have := (List.getElem?_eq_some_iff.1 hx).1; omega
    rw [← ht, List.getElem?_take_of_lt (by omega)] at hx
    simp [World.cell?, hh]
    simpa using hx

theorem splice_all {L cs : List Value} (h : L.length = cs.length) : splice L 0 cs = cs := by
  simp [splice, ← h]

set_option maxHeartbeats 800000 in
theorem clone_any (v : Value) (pre : List Value) (ho : Octets pre) (hs : pre.length ≤ 1048576) (w : World) (hr : Reads w v pre) :
    Calls Try.prog 8 #[v] w fun e w' => ∃ v', e = .returned v' ∧ Holds w.heap.size w' v' pre [] ∧ Below w.heap.size w w' := by
  obtain ⟨ao, c, rfl, hc⟩ := hr
  have q := fun (w : World) (a : Option Addr) (n c n' c' : Nat) => Lib.run_eql_slice_nil (P := Try.prog) w _ _ a n c n' c' Try.underlying23
  have hmk := run_make_row' (P := Try.prog) 23 5 (.int .u8 0) 1 Try.underlying23 Try.info5z rfl .i64 .i64 pre.length (by omega) (by omega)
  have HC : Hid (0 < pre.length → ∃ b off, b < w.heap.size ∧ ao = some ⟨b, off, none⟩ ∧ ∀ (j : Nat) (x : Value), pre[j]? = some x → w.cell? ⟨b, off + j, none⟩ = some x) := hc
  have HO : Hid (Octets pre) := ho
  clear hc ho
  cases ao with
  | none =>
    go_enter Try.func8, Try.ntmps8
    go_wp2
    go_ret
    have hn : pre = [] := by
      rcases Nat.eq_zero_or_pos pre.length with h | h
      · exact List.eq_nil_of_length_eq_zero h
      · obtain ⟨_, _, _, h2, _⟩ := HC.out h; cases h2
    exact ⟨_, rfl, ⟨⟨by simp [hn, Lib.byteCells], .inl ⟨rfl, by simp [hn]⟩⟩, Nat.le_refl _⟩, Below.refl _ _⟩
  | some ad =>
    have HG0 : Hid ((w.alloc (.cells (madeCells #[.int .u8 0] pre.length) 5)).heap[w.heap.size]? = some (.cells (madeCells #[.int .u8 0] pre.length).toList.toArray 5 (0, 0))) := Deep.blk_alloc_new w _
    have hml : (madeCells #[.int .u8 0] pre.length).toList.length = pre.length := by simp [madeCells]
    have H1 : Hid (0 + pre.length ≤ (madeCells #[.int .u8 0] pre.length).toList.length ∧ (∀ x ∈ pre, x.oneCell' = true) ∧ pre.length = Nat.min pre.length pre.length) := ⟨by rw [hml]; omega, fun x hx => by obtain ⟨n, rfl⟩ := HO.out x hx; rfl, (Nat.min_self _).symm⟩
    have HM : Hid ((madeCells #[.int .u8 0] pre.length).toList.length = pre.length) := hml
    clear hml
    have HP : Hid (0 < pre.length → ∃ ad', some ad = some ad' ∧ ∀ j x, pre[j]? = some x → (w.alloc (.cells (madeCells #[.int .u8 0] pre.length) 5)).cell? (ad'.add j) = some x) := by
      intro h
      obtain ⟨b, off, hb, e, hx⟩ := HC.out h
      cases e
      refine ⟨_, rfl, fun j x hj => ?_⟩
      have h2 := (((Below.refl w.heap.size w).alloc (Nat.le_refl _) (.cells (madeCells #[.int .u8 0] pre.length) 5)).cell (p := ⟨b, off + j, none⟩) hb).trans (hx j x hj)
      have ea : (⟨b, off, none⟩ : Addr).add j = ⟨b, off + j, none⟩ := by
        unfold Addr.add
        split
        · next h => rw [h]; rfl
        · rfl
      rw [ea]
      exact h2
    go_enter Try.func8, Try.ntmps8
    go_wp2_with (first | (refine wpList_copy_splice rfl (.tmp 9) (.tmp 10) 23 23 rfl 5 Try.underlying23 (by kernel_rfl) _ _ _ _ _ _ rfl rfl w.heap.size 0 (madeCells #[.int .u8 0] pre.length).toList 5 HG0.out pre H1.out.2.2 (fun h => ⟨rfl, HP.out h⟩) H1.out.1 H1.out.2.1 w.heap.size w ((Below.refl _ _).alloc (Nat.le_refl _) _) (Nat.le_refl _) ?_; intro w2 HG HB2; skip))
    go_ret
    refine ⟨_, rfl, ⟨⟨by simp [Lib.byteCells], .inr ⟨w.heap.size, pre.length, pre.toArray, rfl, Nat.le_refl _, ?_, by simp, by unfold maxLen; omega, by simp, by simp [Lib.byteCells]⟩⟩, HB2.size⟩, HB2⟩
    have h := HG.out
    rw [splice_all HM.out] at h
    exact h

set_option maxHeartbeats 800000 in
theorem eq_any (v1 v2 : Value) (pre : List Value) (ho : Octets pre) (hs : pre.length ≤ 4194304) (w : World) (h1 : Reads w v1 pre) (h2 : Reads w v2 pre) :
    Calls Try.prog 11 #[v1, v2] w fun e w' => ∃ m : Nat, e = .returned (.bool true) ∧ w' = w.drewN m := by
  obtain ⟨a1, c1, rfl, hc1⟩ := h1
  obtain ⟨a2, c2, rfl, hc2⟩ := h2
  have HC : Hid (Octets pre ∧ (0 < pre.length → ∃ b off, b < w.heap.size ∧ a1 = some ⟨b, off, none⟩ ∧ ∀ (j : Nat) (x : Value), pre[j]? = some x → w.cell? ⟨b, off + j, none⟩ = some x) ∧ (0 < pre.length → ∃ b off, b < w.heap.size ∧ a2 = some ⟨b, off, none⟩ ∧ ∀ (j : Nat) (x : Value), pre[j]? = some x → w.cell? ⟨b, off + j, none⟩ = some x)) := ⟨ho, hc1, hc2⟩
  clear ho hc1 hc2
  go_enter Try.func11, Try.ntmps11
  go_wp2
  go_loopw [5] (fun i wr => ∃ k m : Nat, k ≤ pre.length ∧ i = .int .i64 k ∧ wr = w.drewN m) (fun i _ => pre.length - (intOf i).toNat)
  case atStart => exact ⟨0, 0, Nat.zero_le _, rfl, rfl⟩
  case round =>
    obtain ⟨k, m, hk, rfl, rfl⟩ := hrel
    by_cases hlt : k < pre.length
    · obtain ⟨b1, o1, _, rfl, hx1⟩ := HC.out.2.1 (by omega)
      obtain ⟨b2, o2, _, rfl, hx2⟩ := HC.out.2.2 (by omega)
      obtain ⟨n, hn⟩ := HC.out.1 pre[k] (List.getElem_mem hlt)
      have g1 : (w.drewN m).cell? ⟨b1, o1 + k, none⟩ = some (.int .u8 n) := hx1 k _ (by rw [List.getElem?_eq_getElem hlt, hn])
      have g2 : (w.drewN m).cell? ⟨b2, o2 + k, none⟩ = some (.int .u8 n) := hx2 k _ (by rw [List.getElem?_eq_getElem hlt, hn])
      obtain ⟨W, hW⟩ : ∃ W : World, W = w.drewN m := ⟨_, rfl⟩
      rw [← hW] at g1 g2 ⊢
      have HW : Hid (W = w.drewN m) := hW
      clear hx1 hx2 hn hW
      go_wp2
      go_quiet (fail)
      go_wp2
      go_roundw
      case rel => exact ⟨k + 1, _, by omega, by go_num, by rw [HW.out, World.drewN_drewN]⟩
      case measure => simp [intOf]; omega
    · go_wp2
      go_ret
      exact ⟨m, rfl, rfl⟩

end Go.Proofs.Qxb6000821a
