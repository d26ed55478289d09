/-
  Follows (24): those entries of deps that name another incarnation of later's node, at a positive number.
-/
import Derived.Test.Qxb6000019aNode
import Derived.Test.Qxb6000019aMk
import Derived.Test.Qxb6000019aPlain
namespace Go.Proofs.Qxb6000019a
open Go.RowKit Go.Maps

section
variable {ops : Array Oper} {rest : List Oper} {o : Oper} {a : Act} {Q : Exit → Act → World → Prop}
/-- The range loop's step at a map[string]uint64. -/
theorem wpList_next_su (w : World) (hg : o.guard = none) (it : Operand) (hop : o.op = Op.next it false) (b r n : Nat) (D : DataW Unit) (left : Lit → Bool) (cnt : Nat)
    (hit : a.eval it = .pointer (some ⟨r, 0, none⟩)) (h : w.ranges Try.prog 9 (plainElem Try.prog 36) b r n D left cnt)
    (hDone : cnt = 0 → (∀ kl, left kl = false) → wpList Try.prog ops Q rest (a.put o.dst (.tuple #[.bool false])) w)
    (hMore : ∀ (s : ByteArray) (c : Int) (w' : World) (cnt' : Nat), s.size ≤ maxLen → (Lit.int .u64 c).wf = true → left (.string s.data.toList) = true → (∀ zd, D.atKey (.string s.data.toList) zd = .lit (.int .u64 c)) →
      w'.ranges Try.prog 9 (plainElem Try.prog 36) b r n D (fun z => left z && !z.sameKey (.string s.data.toList)) cnt' → cnt' < cnt →
      w.grownBy w' (some r) → w'.heap.size = w.heap.size → (Instr.entry (.pointer (some ⟨r, 0, none⟩))).run Try.prog w' = .ok (.tuple #[.string s, .int .u64 c]) w' → wpList Try.prog ops Q rest (a.put o.dst (.tuple #[.bool true, .string s, .int .u64 c])) w') :
    wpList Try.prog ops Q (o :: rest) a w :=
  wpList_next_ranges w hg it hop 9 law (plainElem Try.prog 36) Value.string (Value.int .u64) (fun key kl hkey => by obtain ⟨s, rfl, _⟩ := WideMaps.string_of_keyOf Try.underlying9 hkey; exact ⟨s, rfl⟩) (fun v y hv => by obtain ⟨c, rfl, _⟩ := plainElem_int_inv Try.underlying36 hv; exact ⟨c, rfl⟩)
    b r n D left cnt hit h hDone (fun s c kl y w' cnt' hkey hlk hv hat hrg hlt hgr hsz hen => by
      obtain ⟨s', es, rfl, hs⟩ := WideMaps.string_of_keyOf Try.underlying9 hkey
      cases es
      obtain ⟨c', ec, rfl, hwc⟩ := plainElem_int_inv Try.underlying36 hv
      cases ec
      exact hMore s c w' cnt' hs hwc hlk hat hrg hlt hgr hsz hen)
end

/-- Does Follows keep the entry of name s and number c? -/
def keepB (later s : ByteArray) (c : Int) : Bool := !(s.toList == later.toList) && (nodeB s).toList == (nodeB later).toList && decide (0 < c)
/-- .. the same, off the map's own datum. -/
def keepL (later : ByteArray) (D : DataW Unit) (k : Lit) : Bool :=
  match k, D.atKey k .nil with
  | .string x, .lit (.int _ c) => keepB later ⟨x.toArray⟩ c
  | _, _ => false

theorem keepL_at {later : ByteArray} {D : DataW Unit} {s : ByteArray} {c : Int} (hat : ∀ zd, D.atKey (.string s.data.toList) zd = .lit (.int .u64 c)) : keepL later D (.string s.data.toList) = keepB later s c := by
  unfold keepL
  rw [hat]

theorem isMp_drewN {w : World} {b n m : Nat} {D : DataW Unit} (h : IsMp w b n D) : IsMp (w.drewN m) b n D := h
theorem ranges_drewN {w : World} {b r n m cnt : Nat} {D : DataW Unit} {left : Lit → Bool} (h : w.ranges Try.prog 9 (plainElem Try.prog 36) b r n D left cnt) : (w.drewN m).ranges Try.prog 9 (plainElem Try.prog 36) b r n D left cnt := h
theorem below_drewN {B m : Nat} {w w' : World} (h : Below B w w') : Below B w (w'.drewN m) := ⟨h.os, h.tape, h.output, h.size, h.block⟩

set_option maxHeartbeats 1000000 in
set_option maxRecDepth 100000 in
theorem follows_some (later : ByteArray) (hl : later.size ≤ maxLen) (b n : Nat) (hn : n ≤ 65536) (D0 : DataW Unit) (w : World) (hown : IsMp w b n D0) :
    Calls Try.prog 24 #[.string later, .map (some b)] w fun e w' => e = .returned (.map (some w.heap.size)) ∧ (∃ D', IsMp w' w.heap.size n D' ∧ Kept (keepL later D0) D' D0) ∧ Below w.heap.size w w' := by
  have hmm := @run_makeMap Try.prog
  have hbl := hown.lt
  have hsz := hown.size_le
  have e1 : (w.alloc (.map #[] 0)).heap.size = w.heap.size + 1 := by simp
  go_enter Try.func24, Try.ntmps24
  go_wp2_with (first
    | (at_range; refine wpList_range_own _ rfl _ 29 rfl 9 36 law Try.underlying29 _ b n _ rfl (hown.alloc _) ?_; intro w0 hrg0 hg0 hs0)
    | go_in)
  go_frame
  rw [e1] at hrg0 hs0 ⊢
  go_loopw [6] (fun _ wr => ∃ (left : Lit → Bool) (cnt : Nat) (Dout : DataW Unit), wr.ranges Try.prog 9 (plainElem Try.prog 36) b (w.heap.size + 1) n D0 left cnt ∧ cnt ≤ Maps.size D0 ∧
      IsMp wr w.heap.size (Maps.size D0 - cnt) Dout ∧ Filt (keepL later D0) Dout D0 left ∧ Below w.heap.size w wr)
    (fun _ wr => wr.rangeLeft b (w.heap.size + 1))
  case atStart =>
    exact ⟨_, _, .map [], hrg0, Nat.le_refl _, ((World.ownsMap_made _ _ _ _).kept hg0 (by simp)).mono (Nat.zero_le _), filt_start _ D0, ((Below.refl _ _).alloc (Nat.le_refl _) _).grown hg0 (by simp) (fun j hj => by cases hj)⟩
  case round =>
    obtain ⟨left, cnt, Dout, hrg, hcs, hout, hA, hnx⟩ := hrel
    clear hmm hrg0 hg0 hs0 e1
    go_wp2_with (first
      | (at_next; refine wpList_next_su _ rfl _ rfl b (w.heap.size + 1) n _ _ _ rfl hrg ?_ ?_)
      | go_in)
    · -- NOTHING IS LEFT
      intro hc0 hl0
      go_wp2
      go_ret
      exact ⟨rfl, ⟨Dout, hout.mono (by omega), filt_end hA hl0⟩, hnx⟩
    · -- AN ENTRY HAS COME
      intro s c w1 cnt1 hsz1 hwc hlx hat hrg1 hlt hg1 hs1 hen
      have hout1 := hout.kept hg1 (by simp)
      have hb1 : Below w.heap.size w w1 := hnx.grown hg1 hnx.size (fun j hj => by cases hj; exact Nat.le_succ _)
      have hws : w.heap.size ≤ w1.heap.size := hb1.size
      have hlf0 := hrg.left_eq
      have HM : Hid (cnt1 < cnt) := hlt
      clear hlt hs1 hnx hrg hout
      cases h1 : (s.toList == later.toList)
      · cases h2 : ((nodeB s).toList == (nodeB later).toList)
        · have hk : Hid (keepL later D0 (.string s.data.toList) = false) := by rw [keepL_at hat]; show keepB later s c = false; unfold keepB; rw [h1, h2]; rfl
          go_wp2_with (go_at_call 28; refine (node_any _ (by assumption) _).mono ?_; rintro e w' ⟨nn, rfl, rfl⟩)
          go_roundw
          case rel => exact ⟨_, cnt1, Dout, ranges_drewN hrg1, by have := HM.out; omega, (isMp_drewN hout1).mono (by have := HM.out; omega), filt_skip hA hk.out, below_drewN hb1⟩
          case measure => rw [(ranges_drewN hrg1).left_eq, hlf0]; exact HM.out
        · by_cases h3 : 0 < c
          · have hk : Hid (keepL later D0 (.string s.data.toList) = true) := by rw [keepL_at hat]; show keepB later s c = true; unfold keepB; rw [h1, h2, decide_eq_true h3]; rfl
            go_wp2_with (first
              | (go_at_call 28; refine (node_any _ (by assumption) _).mono ?_; rintro e w' ⟨nn, rfl, rfl⟩)
              | (at_mapUpdate; refine wpList_mapUpdate_own _ rfl _ _ _ 29 rfl 9 36 law Try.underlying29 _ w.heap.size _ _ rfl (isMp_drewN hout1) (by have := HM.out; unfold maxLen; omega) _ _ _ rfl rfl (WideMaps.keyOf_string_mk Try.underlying9 hsz1) _ [] (plainElem_int Try.underlying36 hwc) ?_; intro w2 hout2 hg2; go_frame))
            have hrg2 := (ranges_drewN hrg1).kept hg2 (fun e => by have := Option.some.inj e; omega) (fun e => by have := Option.some.inj e; omega)
            go_roundw
            case rel =>
              exact ⟨_, cnt1, _, hrg2, by have := HM.out; omega, hout2.mono (by have := HM.out; omega), filt_put hA hout1.isMap trivial hat hk.out,
                (below_drewN hb1).grown hg2 (by exact hws) (fun j hj => by cases hj; exact Nat.le_refl _)⟩
            case measure => rw [hrg2.left_eq, hlf0]; exact HM.out
          · have hk : Hid (keepL later D0 (.string s.data.toList) = false) := by rw [keepL_at hat]; show keepB later s c = false; unfold keepB; rw [h1, h2, decide_eq_false h3]; rfl
            go_wp2_with (go_at_call 28; refine (node_any _ (by assumption) _).mono ?_; rintro e w' ⟨nn, rfl, rfl⟩)
            go_roundw
            case rel => exact ⟨_, cnt1, Dout, ranges_drewN hrg1, by have := HM.out; omega, (isMp_drewN hout1).mono (by have := HM.out; omega), filt_skip hA hk.out, below_drewN hb1⟩
            case measure => rw [(ranges_drewN hrg1).left_eq, hlf0]; exact HM.out
      · have hk : Hid (keepL later D0 (.string s.data.toList) = false) := by rw [keepL_at hat]; show keepB later s c = false; unfold keepB; rw [h1]; rfl
        go_wp2
        go_roundw
        case rel => exact ⟨_, cnt1, Dout, hrg1, by have := HM.out; omega, hout1.mono (by have := HM.out; omega), filt_skip hA hk.out, hb1⟩
        case measure => rw [hrg1.left_eq, hlf0]; exact HM.out

set_option maxHeartbeats 400000 in
theorem follows_nil (later : ByteArray) (w : World) :
    Calls Try.prog 24 #[.string later, .map none] w fun e w' => e = .returned (.map (some w.heap.size)) ∧ IsMp w' w.heap.size 0 (.map []) ∧ Below w.heap.size w w' := by
  have hmm := @run_makeMap Try.prog
  have hrg := run_range_nilMap (P := Try.prog) (w.alloc (.map #[] 0)) 29 9 36 Try.underlying29
  have hnx : ∀ ty, (Instr.next (.pointer (some ⟨(w.alloc (.map #[] 0)).heap.size, 0, none⟩)) false ty).run Try.prog ((w.alloc (.map #[] 0)).alloc (.mapIter none 0 #[] 0)) = _ := fun ty => run_next_nilMap _ ty 0 0 #[]
  have e1 : (w.alloc (.map #[] 0)).heap.size = w.heap.size + 1 := by simp
  rw [e1] at hrg hnx
  go_enter Try.func24, Try.ntmps24
  go_wp2
  refine wp_loop_rounds 1 ?_
  rw [rounds_succ]
  go_wp2
  go_ret
  exact ⟨rfl, (World.ownsMap_made _ _ _ _).alloc _, ((Below.refl _ _).alloc (Nat.le_refl _) _).alloc (by simp) _⟩

end Go.Proofs.Qxb6000019a
