/-
  Meet (20): a map with one that holds it, at positive numbers alone: the map itself.
-/
import Derived.Test.Qxb6000019aFollows
namespace Go.Proofs.Qxb6000019a
open Go.RowKit Go.Maps

/-- Every entry of Dr is one of Dd. -/
def Sub (Dr Dd : DataW Unit) : Prop := ∀ k z, has Dr k = true → Dd.atKey k z = Dr.atKey k z
/-- Every number that Dr holds is positive. -/
def Pos (Dr : DataW Unit) : Prop := ∀ k c, has Dr k = true → (∀ z, Dr.atKey k z = .lit (.int .u64 c)) → 0 < c

theorem look_plain {w : World} {b n : Nat} {D : DataW Unit} (h : IsMp w b n D) {s : ByteArray} (hs : s.size ≤ maxLen) : ∃ c : Int, (Instr.lookup 29 (.map (some b)) (.string s) false).run Try.prog w = .ok (.int .u64 c) w ∧ D.atKey (.string s.data.toList) (.lit (.int .u64 0)) = .lit (.int .u64 c) ∧ (Lit.int .u64 c).wf = true :=
  h.lookup_int law Try.underlying29 Try.underlying36 (zeroE w) (WideMaps.keyOf_string_mk Try.underlying9 hs)

set_option maxHeartbeats 1000000 in
set_option maxRecDepth 100000 in
theorem meet_some (br nr : Nat) (hn : nr ≤ 65536) (Dr : DataW Unit) (bd nd : Nat) (Dd : DataW Unit) (w : World) (hown : IsMp w br nr Dr) (hd : IsMp w bd nd Dd) (hsub : Sub Dr Dd) (hpos : Pos Dr) :
    Calls Try.prog 20 #[.map (some br), .map (some bd)] w fun e w' => e = .returned (.map (some w.heap.size)) ∧ IsMp w' w.heap.size nr Dr ∧ Below w.heap.size w w' := by
  have hmm := @run_makeMap Try.prog
  have hbl := hown.lt
  have hbd := hd.lt
  have hsz := hown.size_le
  have e1 : (w.alloc (.map #[] 0)).heap.size = w.heap.size + 1 := by simp
  go_enter Try.func20, Try.ntmps20
  go_wp2_with (first
    | (at_range; refine wpList_range_own _ rfl _ 29 rfl 9 36 law Try.underlying29 _ br nr _ rfl (hown.alloc _) ?_; intro w0 hrg0 hg0 hs0)
    | go_in)
  go_frame
  rw [e1] at hrg0 hs0 ⊢
  go_loopw [6] (fun _ wr => ∃ (left : Lit → Bool) (cnt : Nat) (Dout : DataW Unit), wr.ranges Try.prog 9 (plainElem Try.prog 36) br (w.heap.size + 1) nr Dr left cnt ∧ cnt ≤ Maps.size Dr ∧
      IsMp wr w.heap.size (Maps.size Dr - cnt) Dout ∧ Agree Dout Dr left ∧ Below w.heap.size w wr)
    (fun _ wr => wr.rangeLeft br (w.heap.size + 1))
  case atStart =>
    exact ⟨_, _, .map [], hrg0, Nat.le_refl _, ((World.ownsMap_made _ _ _ _).kept hg0 (by simp)).mono (Nat.zero_le _), agree_start Dr, ((Below.refl _ _).alloc (Nat.le_refl _) _).grown hg0 (by simp) (fun j hj => by cases hj)⟩
  case round =>
    obtain ⟨left, cnt, Dout, hrg, hcs, hout, hA, hnx⟩ := hrel
    clear hmm hrg0 hg0 hs0 e1
    go_wp2_with (first
      | (at_next; refine wpList_next_su _ rfl _ rfl br (w.heap.size + 1) nr _ _ _ rfl hrg ?_ ?_)
      | go_in)
    · -- NOTHING IS LEFT
      intro hc0 hl0
      go_wp2
      go_ret
      have e := agree_end hA hl0 (hout.canon law) (hown.canon law)
      subst e
      exact ⟨rfl, hout.mono (by omega), hnx⟩
    · -- AN ENTRY HAS COME
      intro s c w1 cnt1 hsz1 hwc hlx hat hrg1 hlt hg1 hs1 hen
      have hout1 := hout.kept hg1 (by simp)
      have hb1 : Below w.heap.size w w1 := hnx.grown hg1 hnx.size (fun j hj => by cases hj; exact Nat.le_succ _)
      have hws : w.heap.size ≤ w1.heap.size := hb1.size
      have hlf0 := hrg.left_eq
      have HM : Hid (cnt1 < cnt) := hlt
      have hhas := has_true_of_atKey hat
      have hp : 0 < c := hpos _ c hhas hat
      obtain ⟨c2, hl2, hat2, _⟩ := look_plain (isMp_below hd hb1 hbd) hsz1
      obtain rfl : c = c2 := by rw [hsub _ _ hhas, hat] at hat2; simpa using hat2
      clear hlt hs1 hnx hrg hout hat2 hhas hsub hpos hd
      go_wp2_with (first
        | (at_mapUpdate; refine wpList_mapUpdate_own _ rfl _ _ _ 29 rfl 9 36 law Try.underlying29 _ w.heap.size _ _ rfl hout1 (by have := HM.out; unfold maxLen; omega) _ _ _ rfl rfl (WideMaps.keyOf_string_mk Try.underlying9 hsz1) _ [] (plainElem_int Try.underlying36 hwc) ?_; intro w2 hout2 hg2; go_frame)
        | go_in)
      have hrg2 := hrg1.kept hg2 (fun e => by have := Option.some.inj e; omega) (fun e => by have := Option.some.inj e; omega)
      go_roundw
      case rel =>
        exact ⟨_, cnt1, _, hrg2, by have := HM.out; omega, hout2.mono (by have := HM.out; omega), agree_step hA hout1.isMap trivial hat,
          hb1.grown hg2 (by exact hws) (fun j hj => by cases hj; exact Nat.le_refl _)⟩
      case measure => rw [hrg2.left_eq, hlf0]; exact HM.out

set_option maxHeartbeats 1000000 in
set_option maxRecDepth 100000 in
theorem meet_nil (br nr : Nat) (Dr : DataW Unit) (hDr : ∀ k, has Dr k = false) (w : World) (hown : IsMp w br nr Dr) :
    Calls Try.prog 20 #[.map (some br), .map none] w fun e w' => e = .returned (.map (some w.heap.size)) ∧ IsMp w' w.heap.size nr Dr ∧ Below w.heap.size w w' := by
  have hmm := @run_makeMap Try.prog
  have hbl := hown.lt
  have hsz := hown.size_le
  have e1 : (w.alloc (.map #[] 0)).heap.size = w.heap.size + 1 := by simp
  go_enter Try.func20, Try.ntmps20
  go_wp2_with (first
    | (at_range; refine wpList_range_own _ rfl _ 29 rfl 9 36 law Try.underlying29 _ br nr _ rfl (hown.alloc _) ?_; intro w0 hrg0 hg0 hs0)
    | go_in)
  go_frame
  rw [e1] at hrg0 hs0 ⊢
  go_loopw [6] (fun _ wr => ∃ (left : Lit → Bool) (cnt : Nat) (Dout : DataW Unit), wr.ranges Try.prog 9 (plainElem Try.prog 36) br (w.heap.size + 1) nr Dr left cnt ∧ cnt ≤ Maps.size Dr ∧
      IsMp wr w.heap.size (Maps.size Dr - cnt) Dout ∧ Agree Dout Dr left ∧ Below w.heap.size w wr)
    (fun _ wr => wr.rangeLeft br (w.heap.size + 1))
  case atStart =>
    exact ⟨_, _, .map [], hrg0, Nat.le_refl _, ((World.ownsMap_made _ _ _ _).kept hg0 (by simp)).mono (Nat.zero_le _), agree_start Dr, ((Below.refl _ _).alloc (Nat.le_refl _) _).grown hg0 (by simp) (fun j hj => by cases hj)⟩
  case round =>
    obtain ⟨left, cnt, Dout, hrg, hcs, hout, hA, hnx⟩ := hrel
    clear hmm hrg0 hg0 hs0 e1
    go_wp2_with (first
      | (at_next; refine wpList_next_su _ rfl _ rfl br (w.heap.size + 1) nr _ _ _ rfl hrg ?_ ?_)
      | go_in)
    · -- NOTHING IS LEFT
      intro hc0 hl0
      go_wp2
      go_ret
      have e := agree_end hA hl0 (hout.canon law) (hown.canon law)
      subst e
      exact ⟨rfl, hout.mono (by omega), hnx⟩
    · -- AN ENTRY HAS COME: there is none
      intro s c w1 cnt1 hsz1 hwc hlx hat hrg1 hlt hg1 hs1 hen
      have hhas := has_true_of_atKey hat
      rw [hDr] at hhas
      cases hhas

end Go.Proofs.Qxb6000019a
