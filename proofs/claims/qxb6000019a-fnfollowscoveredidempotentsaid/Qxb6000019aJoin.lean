/-
  Join (14): a map with one that holds it: the larger one.
-/
import Derived.Test.Qxb6000019aMeet
import Derived.OpenShut
namespace Go.Proofs.Qxb6000019a
open Go.RowKit Go.Maps

/-- Dout holds the entries of Dp and those of Dw that are no longer to come, each at Dw's number. -/
def Over (Dp Dout Dw : DataW Unit) (left : Lit → Bool) : Prop := (∀ k, has Dout k = (has Dp k || (has Dw k && !left k))) ∧ ∀ k z, has Dout k = true → Dout.atKey k z = Dw.atKey k z

theorem sub_has {Dp Dw : DataW Unit} (h : Sub Dp Dw) {k : Lit} (hk : has Dp k = true) : has Dw k = true :=
  has_true_of_atKey (y := Dp.atKey k .nil) (fun z => by rw [h k z hk]; exact atKey_any hk _ _)

theorem over_start {Dp Dw : DataW Unit} (h : Sub Dp Dw) : Over Dp Dp Dw (has Dw) := ⟨fun k => by cases has Dp k <;> cases has Dw k <;> rfl, fun k z hk => (h k z hk).symm⟩

theorem over_put {Dp Dout Dw : DataW Unit} {left : Lit → Bool} {kl : Lit} {d : DataW Unit} (hA : Over Dp Dout Dw left) (hm : IsMap Dout) (hk : WideAt.IsKeyLit kl) (hat : ∀ zd, Dw.atKey kl zd = d) :
    Over Dp (Dout.put kl d) Dw (fun z => left z && !z.sameKey kl) := by
  refine ⟨fun k => ?_, fun k z h => ?_⟩
  · by_cases e : k = kl
    · subst e
      show has (Dout.put k d) k = (has Dp k || (has Dw k && !(left k && !k.sameKey k)))
      rw [has_put_same hm hk, has_true_of_atKey hat, WideAt.sameKey_self hk]
      simp
    · show has (Dout.put kl d) k = (has Dp k || (has Dw k && !(left k && !k.sameKey kl)))
      rw [has_put_other e, hA.1 k, sameKey_ne e]
      simp
  · by_cases e : k = kl
    · subst e
      rw [atKey_put_same hm hk, hat]
    · rw [has_put_other e] at h
      rw [atKey_put_other e, hA.2 k z h]

theorem over_end {Dp Dout Dw : DataW Unit} {left : Lit → Bool} (hA : Over Dp Dout Dw left) (hs : Sub Dp Dw) (hl : ∀ k, left k = false) (c1 : Canon Dout) (c2 : Canon Dw) : Dout = Dw :=
  ext c1 c2 (fun k => by
    rw [hA.1, hl]
    cases e : has Dp k
    · simp
    · rw [sub_has hs e]; rfl) hA.2

/-- What the look-up in Dout answers at a key that comes: the number itself, or 0. -/
theorem over_look {Dp Dout Dw : DataW Unit} {left : Lit → Bool} {kl : Lit} {c c2 : Int} (hA : Over Dp Dout Dw left) (hat : ∀ zd, Dw.atKey kl zd = .lit (.int .u64 c)) (h2 : Dout.atKey kl (.lit (.int .u64 0)) = .lit (.int .u64 c2)) : c2 = c ∨ c2 = 0 := by
  cases e : has Dout kl
  · rw [atKey_of_not_has e] at h2
    right; simpa using h2.symm
  · rw [hA.2 _ _ e, hat] at h2
    left; simpa using h2.symm

/-- What j reads as behind i rounds of the outer loop. -/
def Dof (Dr Dd : DataW Unit) : Nat → DataW Unit
  | 0 => .map []
  | 1 => Dr
  | _ => Dd

theorem blk_two (w : World) (o1 o2 : Obj) : ((w.alloc o1).alloc o2).heap[w.heap.size + 1]? = some o2 := by
  have := Deep.blk_alloc_new (w.alloc o1) o2
  simpa using this

/-- The inner loop under way over block bw, its iterator in block r. -/
def JoinIn (w : World) (k bw r nw : Nat) (Dp Dw : DataW Unit) (o : Obj) (wr : World) : Prop := ∃ (left : Lit → Bool) (cnt : Nat) (Dout : DataW Unit), wr.ranges Try.prog 9 (plainElem Try.prog 36) bw r nw Dw left cnt ∧ cnt ≤ Maps.size Dw ∧
  IsMp wr w.heap.size (k * 65536 + (Maps.size Dw - cnt)) Dout ∧ Over Dp Dout Dw left ∧ Below w.heap.size w wr ∧ wr.heap[w.heap.size + 1]? = some o

theorem sub_empty (D : DataW Unit) : Sub (.map []) D := fun k z h => by cases h

set_option maxHeartbeats 1000000 in
set_option maxRecDepth 100000 in
theorem join_some (br nr : Nat) (hnr : nr ≤ 65536) (Dr : DataW Unit) (bd nd : Nat) (hnd : nd ≤ 65536) (Dd : DataW Unit) (w : World) (hr : IsMp w br nr Dr) (hd : IsMp w bd nd Dd) (hsub : Sub Dr Dd) :
    Calls Try.prog 14 #[.map (some br), .map (some bd)] w fun e w' => e = .returned (.map (some w.heap.size)) ∧ IsMp w' w.heap.size 131072 Dd ∧ Below w.heap.size w w' := by
  have hmm := @run_makeMap Try.prog
  go_enter Try.func14, Try.ntmps14
  go_wp2
  clear hmm
  have hbr := hr.lt
  have hbd := hd.lt
  go_loopw [15] (fun i wr => ∃ k : Nat, k ≤ 2 ∧ i = .int .i64 k ∧ IsMp wr w.heap.size (k * 65536) (Dof Dr Dd k) ∧ Below w.heap.size w wr ∧ wr.heap[w.heap.size + 1]? = some (.cells #[.map (some br), .map (some bd)] 29 (0, 0))) (fun i _ => 2 - (intOf i).toNat)
  case atStart => exact ⟨0, by omega, rfl, (World.ownsMap_made _ _ _ _).alloc _, ((Below.refl _ _).alloc (Nat.le_refl _) _).alloc (by simp) _, blk_two _ _ _⟩
  case round =>
    obtain ⟨k, hk, rfl, hout0, hbel, hblk⟩ := hrel
    by_cases hlt : k < 2
    · obtain ⟨bw, nw, Dw, hcell, hw, hbw, hnw, hsw, hDw⟩ : ∃ bw nw Dw, wr.cell? ⟨w.heap.size + 1, k, none⟩ = some (.map (some bw)) ∧ IsMp wr bw nw Dw ∧ bw < w.heap.size ∧ nw ≤ 65536 ∧ Sub (Dof Dr Dd k) Dw ∧ Dof Dr Dd (k + 1) = Dw := by
        rcases (show k = 0 ∨ k = 1 by omega) with rfl | rfl
        · exact ⟨br, nr, Dr, by simp [World.cell?, hblk], isMp_below hr hbel hbr, hbr, hnr, sub_empty _, rfl⟩
        · exact ⟨bd, nd, Dd, by simp [World.cell?, hblk], isMp_below hd hbel hbd, hbd, hnd, hsub, rfl⟩
      have hszw := hw.size_le
      have hlt1 : w.heap.size + 1 < wr.heap.size := (Array.getElem?_eq_some_iff.1 hblk).1
      have HD : Hid (Dof Dr Dd (k + 1) = Dw) := hDw
      obtain ⟨Dp, HP⟩ : ∃ Dp, Hid (Dp = Dof Dr Dd k) := ⟨_, rfl⟩
      rw [← HP.out] at hout0 hsw
      clear hDw hr hd hsub
      go_wp2_with (first
        | (at_range; refine wpList_range_own _ rfl _ 29 rfl 9 36 law Try.underlying29 _ bw nw _ rfl hw ?_; intro w0 hrg0 hg0 hs0)
        | go_in)
      go_frame
      obtain ⟨wo, rfl⟩ : ∃ wo : World, wo = wr := ⟨_, rfl⟩
      go_loopw [8] (fun _ wr => JoinIn w k bw wo.heap.size nw Dp Dw (.cells #[.map (some br), .map (some bd)] 29 (0, 0)) wr)
        (fun _ wr => wr.rangeLeft bw wo.heap.size)
      case atStart =>
        exact ⟨_, _, Dp, hrg0, Nat.le_refl _, (hout0.kept hg0 (by simp)).mono (by omega), over_start hsw, hbel.grown hg0 hbel.size (fun j hj => by cases hj), (hg0.block _ hlt1 (by simp)).trans hblk⟩
      case round =>
        obtain ⟨left, cnt, Dout, hrg, hcs, hout, hA, hnx, hblk2⟩ := hrel
        clear hrg0 hg0 hs0 hcell hblk hbel hout0
        go_wp2_with (first
          | (at_next; refine wpList_next_su _ rfl _ rfl bw wo.heap.size nw _ _ _ rfl hrg ?_ ?_)
          | go_in)
        · -- NOTHING IS LEFT
          intro hc0 hl0
          have e := over_end hA hsw hl0 (hout.canon law) (hw.canon law)
          have hout' : IsMp wr w.heap.size ((k + 1) * 65536) (Dof Dr Dd (k + 1)) := by rw [HD.out, ← e]; exact hout.mono (by omega)
          clear hout hw hrg hA hl0 e
          go_wp2
          go_roundw
          case rel => exact ⟨k + 1, by omega, by go_num, hout', hnx, hblk2⟩
          case measure => simp [intOf]; omega
        · -- AN ENTRY HAS COME
          intro s c w1 cnt1 hsz1 hwc hlx hat hrg1 hlt' hg1 hs1 hen
          have hout1 := hout.kept hg1 (by simp; omega)
          have hb1 : Below w.heap.size w w1 := hnx.grown hg1 hnx.size (fun j hj => by cases hj; omega)
          have hblk1 := (hg1.block _ (Array.getElem?_eq_some_iff.1 hblk2).1 (by simp; omega)).trans hblk2
          have hws : w.heap.size ≤ w1.heap.size := hb1.size
          have HL : Hid (wr.rangeLeft bw wo.heap.size = cnt) := hrg.left_eq
          have HM : Hid (cnt1 < cnt) := hlt'
          obtain ⟨c2, hl2, hat2, _⟩ := look_plain hout1 hsz1
          have hor := over_look hA hat hat2
          have hcb : 0 ≤ c := (bounds_u64 hwc).1
          have HX : Hid (plainElem (H := Unit) Try.prog 36 (.int .u64 (if c2 < c then c else c2)) = some (.lit (.int .u64 c), [])) := by
            have e : (if c2 < c then c else c2) = c := by split <;> omega
            show plainElem (H := Unit) Try.prog 36 (.int .u64 (if c2 < c then c else c2)) = some (.lit (.int .u64 c), [])
            rw [e]
            exact plainElem_int Try.underlying36 hwc
          clear hlt' hs1 hnx hrg hout hat2 hblk2 hor hw
          go_wp2_with (first
            | (at_mapUpdate; refine wpList_mapUpdate_own _ rfl _ _ _ 29 rfl 9 36 law Try.underlying29 _ w.heap.size _ _ rfl hout1 (by have := HM.out; unfold maxLen; omega) _ _ _ rfl rfl (WideMaps.keyOf_string_mk Try.underlying9 hsz1) _ [] HX.out ?_; intro w2 hout2 hg2; go_frame)
            | go_in)
          all_goals
            have hrg2 := hrg1.kept hg2 (fun e => by have := Option.some.inj e; omega) (fun e => by have := Option.some.inj e; omega)
            go_roundw
            case rel =>
              exact ⟨_, cnt1, _, hrg2, by have := HM.out; omega, hout2.mono (by have := HM.out; omega), over_put hA hout1.isMap trivial hat,
                hb1.grown hg2 (by exact hws) (fun j hj => by cases hj; exact Nat.le_refl _), (hg2.block _ (Array.getElem?_eq_some_iff.1 hblk1).1 (by simp)).trans hblk1⟩
            case measure => rw [hrg2.left_eq, HL.out]; exact HM.out
    · obtain rfl : k = 2 := by omega
      go_wp2
      go_ret
      exact ⟨rfl, hout0, hbel⟩

end Go.Proofs.Qxb6000019a
