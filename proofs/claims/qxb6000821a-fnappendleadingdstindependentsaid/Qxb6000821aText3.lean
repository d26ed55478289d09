/-
  spellText (30) at an element without brackets, while the spelling is the name's own start.
-/
import Derived.Test.Qxb6000821aText2
namespace Go.Proofs.Qxb6000821a
open Go.RowKit

set_option maxHeartbeats 4000000 in
set_option maxRecDepth 100000 in
theorem st_pos (B : Nat) (bf : Nat) (v : Value) (pre : List Value) (acc : List UInt8) (a0 : Nat) (nm text : ByteArray) (T : UInt8 → UInt8) (sep opn cls : ByteArray) (p : Nat) (hf : Fine nm.data.toList (acc, (a0 : Int)) p) (hp : p + text.size ≤ nm.size) (hs : nm.size ≤ 1048576) (hpre : pre.length ≤ 1048576) (w : World) (hh : Holds B w v pre acc) (hfm : Form w bf T sep opn cls) :
    Calls Try.prog 30 #[.pointer (some ⟨bf, 0, none⟩), v, .int .i64 (a0 : Int), .string nm, .agg #[.string text, .bool false]] w (SpelledT B pre w v (spT nm.data.toList T (acc, (a0 : Int)) text.data.toList false)) := by
  have HE : Hid (spT nm.data.toList T (acc, (a0 : Int)) text.data.toList false = spR nm.data.toList T (text.data.toList.drop (preN T text.data.toList)) (acc, (a0 : Int) + preN T text.data.toList) (decide (0 < preN T text.data.toList))) := by
    show _ = _
    unfold spT
    have e : spJ T (acc, (a0 : Int)) text.data.toList = preN T text.data.toList := by unfold spJ; rw [if_pos (by show (0 : Int) ≤ (a0 : Int); omega)]
    rw [e]
    rfl
  have HFJ : Hid (Fine nm.data.toList (acc, (a0 : Int) + preN T text.data.toList) (p + preN T text.data.toList)) := by
    have h := fine_spJ (T := T) (s := text.data.toList) hf (by rw [← Lib.size_eq, ← Lib.size_eq]; exact hp)
    have e : spJ T (acc, (a0 : Int)) text.data.toList = preN T text.data.toList := by unfold spJ; rw [if_pos (by show (0 : Int) ≤ (a0 : Int); omega)]
    rw [e] at h
    exact h
  have ha0 : a0 ≤ nm.size := by have := hf.2.2.1; simp at this; omega
  generalize spT nm.data.toList T (acc, (a0 : Int)) text.data.toList false = R at HE ⊢
  have hfm0 : Form (w.alloc (.cells #[.string text, .bool false] 45)) bf T sep opn cls := hfm.of_block (Below.heap_alloc _ _ _ hfm.lt)
  have HFM : Hid (Form (w.alloc (.cells #[.string text, .bool false] 45)) bf T sep opn cls) := hfm0
  have HNE : Hid (some bf ≠ v.ownBlock ∧ some w.heap.size ≠ v.ownBlock) := ⟨hh.form_ne hfm, fun e => absurd (hh.lt e) (Nat.lt_irrefl _)⟩
  have HH : Hid (Holds B w v pre acc) := hh
  have hz : (0 : Int) ≤ (a0 : Int) := by omega
  clear hh hf hfm hfm0
  go_enter Try.func30, Try.ntmps30
  go_wp2
  go_loopg [13] text.size (fun g t wr => ∃ k n : Nat, g = text.size - k ∧ k ≤ text.size ∧ t = .int .i64 (k : Int) ∧ wr = (w.alloc (.cells #[.string text, .bool false] 45)).drewN n ∧ Hid (∀ j (hj : j < text.size), j < k → same1 T text[j] = true))
  case atStart => exact ⟨0, 0, rfl, Nat.zero_le _, rfl, rfl, fun j _ h => by omega⟩
  case round =>
    obtain ⟨J, n, hg, hJ, rfl, rfl, hd⟩ := hrel
    have HG1 : Hid (gk = text.size - J) := hg
    clear hg
    by_cases hlt : J < text.size
    · have cf := HFM.out.cell text[J]
      have hb : (text[J].toNat : Int) < 256 := by have := text[J].toNat_lt; omega
      have hlt' : (J : Int) < (text.size : Int) := by omega
      rcases same1_cases (T := T) (t := text[J]) with ⟨hs1, hs2, hs3⟩ | ⟨hs1, hs2⟩ | ⟨hs1, hs2, hs3⟩
      · have HN : Hid (∀ j (hj : j < text.size), j < J + 1 → same1 T text[j] = true) := fun j hj hjk => by
          by_cases e : j = J
          · subst e; exact hs1
          · exact hd.out j hj (by omega)
        clear hd hs1
        go_wp2
        go_quiet (fail)
        go_wp2
        go_roundg (text.size - (J + 1))
        case measure => rw [HG1.out]; omega
        case rel => exact ⟨J + 1, _, rfl, by omega, by go_num, rfl, HN⟩
      · have HJ : Hid (preN T text.data.toList = J) := preN_eq hJ hd.out (.inr ⟨hlt, hs1⟩)
        clear hd hs1
        go_wp2
        go_quiet (fail)
        go_wp2
        clear cf hb hs2
        go_loopg [1, 2, 13, 14] (text.size - J) (fun g v' a b c wr => ∃ (k : Nat) (v1 : Value), g = text.size - k ∧ v' = v1 ∧ Loop2 B pre nm text T p R (w.alloc (.cells #[.string text, .bool false] 45)) v k v1 a b c wr)
        case atStart => exact ⟨J, v, rfl, rfl, (acc, (a0 : Int) + J), decide (0 < J), hJ, rfl, rfl, rfl, by rw [HE.out, HJ.out], by have h := HFJ.out; rw [HJ.out] at h; exact h, (HH.out.alloc _).drewN _, (Moves.refl _ _).drewN _⟩
        case round =>
          obtain ⟨k, v1, hg, hv, st', wrote, hk, rfl, rfl, rfl, hR, hfk, hhk, hm⟩ := hrel
          obtain rfl := hv.symm
          have HG : Hid (gk = text.size - k) := hg
          have HR : Hid (spR nm.data.toList T (text.data.toList.drop k) st' wrote = R) := hR
          have HK : Hid (Fine nm.data.toList st' (p + k) ∧ Holds B wr v1 pre st'.1 ∧ Moves (w.alloc (.cells #[.string text, .bool false] 45)) v wr v1) := ⟨hfk, hhk, hm⟩
          have ce : wr.cell? ⟨w.heap.size, 0, none⟩ = some (.string text) := by
            have e := hm.block w.heap.size (by simp) HNE.out.2
            rw [World.cell?_of_block (w := w.alloc (.cells #[.string text, .bool false] 45)) e]
            simp
          have hfm := HFM.out.moves hm HNE.out.1
          clear hg hR hfk hhk hm
          by_cases hlt : k < text.size
          · have cf := hfm.cell text[k]
            have hb : (text[k].toNat : Int) < 256 := by have := text[k].toNat_lt; omega
            have hlt' : (k : Int) < (text.size : Int) := by omega
            have hRk := HR.out
            rw [drop_cons text k hlt] at hRk
            unfold spR at hRk
            clear hfm
            by_cases h255 : T text[k] = 255
            · rw [if_pos h255] at hRk
              have HX : Hid ((st', false) = R) := hRk
              have e1 : (((T text[k]).toNat : Int) == 255) = true := by rw [h255]; rfl
              clear hRk h255
              go_wp2
              go_quiet (fail)
              go_wp2
              go_ret3
              exact ⟨v1, ret_t HX.out.symm, by rw [← HX.out]; exact HK.out.2.1.drewN _, ((Moves.refl w v).alloc _).trans (HK.out.2.2.drewN _)⟩
            · rw [if_neg h255] at hRk
              have e1 : (((T text[k]).toNat : Int) == 255) = false := by
                rw [show (255 : Int) = (((255 : UInt8).toNat : Nat) : Int) from rfl, byte_eq]
                exact beq_eq_false_iff_ne.2 h255
              clear h255
              by_cases hz0 : T text[k] = 0
              · rw [if_pos hz0] at hRk
                have HX : Hid (spR nm.data.toList T (text.data.toList.drop (k + 1)) st' wrote = R) := hRk
                have e2 : (((T text[k]).toNat : Int) != 0) = false := by rw [hz0]; rfl
                clear hRk hz0
                go_wp2
                go_quiet (fail)
                go_wp2
                go_roundg (text.size - (k + 1))
                case measure => rw [HG.out]; omega
                case rel => exact ⟨k + 1, v1, rfl, rfl, st', wrote, by omega, rfl, by go_num, rfl, HX.out, fine_mono HK.out.1 (by omega) (by rw [← Lib.size_eq]; omega), HK.out.2.1.drewN _, HK.out.2.2.drewN _⟩
              · rw [if_neg hz0] at hRk
                have HX : Hid (spR nm.data.toList T (text.data.toList.drop (k + 1)) (spB nm.data.toList st' (T text[k])) true = R) := hRk
                have e2 : (((T text[k]).toNat : Int) != 0) = true := by
                  show (!(((T text[k]).toNat : Int) == 0)) = true
                  rw [show (0 : Int) = (((0 : UInt8).toNat : Nat) : Int) from rfl, byte_eq, beq_eq_false_iff_ne.2 hz0]
                  rfl
                have hfk := HK.out.1
                have C : ∀ n, Hid (Calls Try.prog 32 #[v1, .int .i64 st'.2, .string nm, .int .u8 ((T text[k]).toNat : Int)] (wr.drewN n) (Spelled B pre (wr.drewN n) v1 (spB nm.data.toList st' (T text[k])))) := fun n =>
                  sb_any B v1 pre st' nm hfk.1 (by have := hfk.2.2.1; omega) hs (T text[k]) _ (HK.out.2.1.drewN n) (by have := hfk.2.2.1; omega)
                clear hRk hz0 hfk
                go_wp2
                go_quiet (fail)
                go_wp2_with (go_at_call 32; refine (C _).out.mono ?_; rintro e w1 ⟨v2, rfl, hh2, hm2⟩)
                go_roundg (text.size - (k + 1))
                case measure => rw [HG.out]; omega
                case rel => exact ⟨k + 1, v2, rfl, rfl, _, true, by omega, rfl, by go_num, rfl, HX.out, fine_spB HK.out.1 (by rw [← Lib.size_eq]; omega) _, hh2, (HK.out.2.2.drewN _).trans hm2⟩
          · obtain rfl : k = text.size := by omega
            have hRk := HR.out
            rw [List.drop_of_length_le (by rw [← Lib.size_eq]; exact Nat.le_refl _)] at hRk
            have HX : Hid ((st', wrote) = R) := hRk
            clear hRk hfm
            go_wp2
            go_ret3
            exact ⟨v1, ret_t HX.out.symm, by rw [← HX.out]; exact HK.out.2.1, ((Moves.refl w v).alloc _).trans HK.out.2.2⟩
      · have HJ : Hid (preN T text.data.toList = J) := preN_eq hJ hd.out (.inr ⟨hlt, hs1⟩)
        clear hd hs1
        go_wp2
        go_quiet (fail)
        go_wp2
        clear cf hb hs2 hs3
        go_loopg [1, 2, 13, 14] (text.size - J) (fun g v' a b c wr => ∃ (k : Nat) (v1 : Value), g = text.size - k ∧ v' = v1 ∧ Loop2 B pre nm text T p R (w.alloc (.cells #[.string text, .bool false] 45)) v k v1 a b c wr)
        case atStart => exact ⟨J, v, rfl, rfl, (acc, (a0 : Int) + J), decide (0 < J), hJ, rfl, rfl, rfl, by rw [HE.out, HJ.out], by have h := HFJ.out; rw [HJ.out] at h; exact h, (HH.out.alloc _).drewN _, (Moves.refl _ _).drewN _⟩
        case round =>
          obtain ⟨k, v1, hg, hv, st', wrote, hk, rfl, rfl, rfl, hR, hfk, hhk, hm⟩ := hrel
          obtain rfl := hv.symm
          have HG : Hid (gk = text.size - k) := hg
          have HR : Hid (spR nm.data.toList T (text.data.toList.drop k) st' wrote = R) := hR
          have HK : Hid (Fine nm.data.toList st' (p + k) ∧ Holds B wr v1 pre st'.1 ∧ Moves (w.alloc (.cells #[.string text, .bool false] 45)) v wr v1) := ⟨hfk, hhk, hm⟩
          have ce : wr.cell? ⟨w.heap.size, 0, none⟩ = some (.string text) := by
            have e := hm.block w.heap.size (by simp) HNE.out.2
            rw [World.cell?_of_block (w := w.alloc (.cells #[.string text, .bool false] 45)) e]
            simp
          have hfm := HFM.out.moves hm HNE.out.1
          clear hg hR hfk hhk hm
          by_cases hlt : k < text.size
          · have cf := hfm.cell text[k]
            have hb : (text[k].toNat : Int) < 256 := by have := text[k].toNat_lt; omega
            have hlt' : (k : Int) < (text.size : Int) := by omega
            have hRk := HR.out
            rw [drop_cons text k hlt] at hRk
            unfold spR at hRk
            clear hfm
            by_cases h255 : T text[k] = 255
            · rw [if_pos h255] at hRk
              have HX : Hid ((st', false) = R) := hRk
              have e1 : (((T text[k]).toNat : Int) == 255) = true := by rw [h255]; rfl
              clear hRk h255
              go_wp2
              go_quiet (fail)
              go_wp2
              go_ret3
              exact ⟨v1, ret_t HX.out.symm, by rw [← HX.out]; exact HK.out.2.1.drewN _, ((Moves.refl w v).alloc _).trans (HK.out.2.2.drewN _)⟩
            · rw [if_neg h255] at hRk
              have e1 : (((T text[k]).toNat : Int) == 255) = false := by
                rw [show (255 : Int) = (((255 : UInt8).toNat : Nat) : Int) from rfl, byte_eq]
                exact beq_eq_false_iff_ne.2 h255
              clear h255
              by_cases hz0 : T text[k] = 0
              · rw [if_pos hz0] at hRk
                have HX : Hid (spR nm.data.toList T (text.data.toList.drop (k + 1)) st' wrote = R) := hRk
                have e2 : (((T text[k]).toNat : Int) != 0) = false := by rw [hz0]; rfl
                clear hRk hz0
                go_wp2
                go_quiet (fail)
                go_wp2
                go_roundg (text.size - (k + 1))
                case measure => rw [HG.out]; omega
                case rel => exact ⟨k + 1, v1, rfl, rfl, st', wrote, by omega, rfl, by go_num, rfl, HX.out, fine_mono HK.out.1 (by omega) (by rw [← Lib.size_eq]; omega), HK.out.2.1.drewN _, HK.out.2.2.drewN _⟩
              · rw [if_neg hz0] at hRk
                have HX : Hid (spR nm.data.toList T (text.data.toList.drop (k + 1)) (spB nm.data.toList st' (T text[k])) true = R) := hRk
                have e2 : (((T text[k]).toNat : Int) != 0) = true := by
                  show (!(((T text[k]).toNat : Int) == 0)) = true
                  rw [show (0 : Int) = (((0 : UInt8).toNat : Nat) : Int) from rfl, byte_eq, beq_eq_false_iff_ne.2 hz0]
                  rfl
                have hfk := HK.out.1
                have C : ∀ n, Hid (Calls Try.prog 32 #[v1, .int .i64 st'.2, .string nm, .int .u8 ((T text[k]).toNat : Int)] (wr.drewN n) (Spelled B pre (wr.drewN n) v1 (spB nm.data.toList st' (T text[k])))) := fun n =>
                  sb_any B v1 pre st' nm hfk.1 (by have := hfk.2.2.1; omega) hs (T text[k]) _ (HK.out.2.1.drewN n) (by have := hfk.2.2.1; omega)
                clear hRk hz0 hfk
                go_wp2
                go_quiet (fail)
                go_wp2_with (go_at_call 32; refine (C _).out.mono ?_; rintro e w1 ⟨v2, rfl, hh2, hm2⟩)
                go_roundg (text.size - (k + 1))
                case measure => rw [HG.out]; omega
                case rel => exact ⟨k + 1, v2, rfl, rfl, _, true, by omega, rfl, by go_num, rfl, HX.out, fine_spB HK.out.1 (by rw [← Lib.size_eq]; omega) _, hh2, (HK.out.2.2.drewN _).trans hm2⟩
          · obtain rfl : k = text.size := by omega
            have hRk := HR.out
            rw [List.drop_of_length_le (by rw [← Lib.size_eq]; exact Nat.le_refl _)] at hRk
            have HX : Hid ((st', wrote) = R) := hRk
            clear hRk hfm
            go_wp2
            go_ret3
            exact ⟨v1, ret_t HX.out.symm, by rw [← HX.out]; exact HK.out.2.1, ((Moves.refl w v).alloc _).trans HK.out.2.2⟩
    · have HJ : Hid (preN T text.data.toList = J) := preN_eq hJ hd.out (.inl (by omega))
      have hlt' : decide ((J : Int) < (text.size : Int)) = false := decide_eq_false (by omega)
      clear hd
      go_wp2
      go_quiet (fail)
      go_wp2
      clear hlt'
      go_loopg [1, 2, 13, 14] (text.size - J) (fun g v' a b c wr => ∃ (k : Nat) (v1 : Value), g = text.size - k ∧ v' = v1 ∧ Loop2 B pre nm text T p R (w.alloc (.cells #[.string text, .bool false] 45)) v k v1 a b c wr)
      case atStart => exact ⟨J, v, rfl, rfl, (acc, (a0 : Int) + J), decide (0 < J), hJ, rfl, rfl, rfl, by rw [HE.out, HJ.out], by have h := HFJ.out; rw [HJ.out] at h; exact h, (HH.out.alloc _).drewN _, (Moves.refl _ _).drewN _⟩
      case round =>
        obtain ⟨k, v1, hg, hv, st', wrote, hk, rfl, rfl, rfl, hR, hfk, hhk, hm⟩ := hrel
        obtain rfl := hv.symm
        have HG : Hid (gk = text.size - k) := hg
        have HR : Hid (spR nm.data.toList T (text.data.toList.drop k) st' wrote = R) := hR
        have HK : Hid (Fine nm.data.toList st' (p + k) ∧ Holds B wr v1 pre st'.1 ∧ Moves (w.alloc (.cells #[.string text, .bool false] 45)) v wr v1) := ⟨hfk, hhk, hm⟩
        have ce : wr.cell? ⟨w.heap.size, 0, none⟩ = some (.string text) := by
          have e := hm.block w.heap.size (by simp) HNE.out.2
          rw [World.cell?_of_block (w := w.alloc (.cells #[.string text, .bool false] 45)) e]
          simp
        have hfm := HFM.out.moves hm HNE.out.1
        clear hg hR hfk hhk hm
        by_cases hlt : k < text.size
        · have cf := hfm.cell text[k]
          have hb : (text[k].toNat : Int) < 256 := by have := text[k].toNat_lt; omega
          have hlt' : (k : Int) < (text.size : Int) := by omega
          have hRk := HR.out
          rw [drop_cons text k hlt] at hRk
          unfold spR at hRk
          clear hfm
          by_cases h255 : T text[k] = 255
          · rw [if_pos h255] at hRk
            have HX : Hid ((st', false) = R) := hRk
            have e1 : (((T text[k]).toNat : Int) == 255) = true := by rw [h255]; rfl
            clear hRk h255
            go_wp2
            go_quiet (fail)
            go_wp2
            go_ret3
            exact ⟨v1, ret_t HX.out.symm, by rw [← HX.out]; exact HK.out.2.1.drewN _, ((Moves.refl w v).alloc _).trans (HK.out.2.2.drewN _)⟩
          · rw [if_neg h255] at hRk
            have e1 : (((T text[k]).toNat : Int) == 255) = false := by
              rw [show (255 : Int) = (((255 : UInt8).toNat : Nat) : Int) from rfl, byte_eq]
              exact beq_eq_false_iff_ne.2 h255
            clear h255
            by_cases hz0 : T text[k] = 0
            · rw [if_pos hz0] at hRk
              have HX : Hid (spR nm.data.toList T (text.data.toList.drop (k + 1)) st' wrote = R) := hRk
              have e2 : (((T text[k]).toNat : Int) != 0) = false := by rw [hz0]; rfl
              clear hRk hz0
              go_wp2
              go_quiet (fail)
              go_wp2
              go_roundg (text.size - (k + 1))
              case measure => rw [HG.out]; omega
              case rel => exact ⟨k + 1, v1, rfl, rfl, st', wrote, by omega, rfl, by go_num, rfl, HX.out, fine_mono HK.out.1 (by omega) (by rw [← Lib.size_eq]; omega), HK.out.2.1.drewN _, HK.out.2.2.drewN _⟩
            · rw [if_neg hz0] at hRk
              have HX : Hid (spR nm.data.toList T (text.data.toList.drop (k + 1)) (spB nm.data.toList st' (T text[k])) true = R) := hRk
              have e2 : (((T text[k]).toNat : Int) != 0) = true := by
                show (!(((T text[k]).toNat : Int) == 0)) = true
                rw [show (0 : Int) = (((0 : UInt8).toNat : Nat) : Int) from rfl, byte_eq, beq_eq_false_iff_ne.2 hz0]
                rfl
              have hfk := HK.out.1
              have C : ∀ n, Hid (Calls Try.prog 32 #[v1, .int .i64 st'.2, .string nm, .int .u8 ((T text[k]).toNat : Int)] (wr.drewN n) (Spelled B pre (wr.drewN n) v1 (spB nm.data.toList st' (T text[k])))) := fun n =>
                sb_any B v1 pre st' nm hfk.1 (by have := hfk.2.2.1; omega) hs (T text[k]) _ (HK.out.2.1.drewN n) (by have := hfk.2.2.1; omega)
              clear hRk hz0 hfk
              go_wp2
              go_quiet (fail)
              go_wp2_with (go_at_call 32; refine (C _).out.mono ?_; rintro e w1 ⟨v2, rfl, hh2, hm2⟩)
              go_roundg (text.size - (k + 1))
              case measure => rw [HG.out]; omega
              case rel => exact ⟨k + 1, v2, rfl, rfl, _, true, by omega, rfl, by go_num, rfl, HX.out, fine_spB HK.out.1 (by rw [← Lib.size_eq]; omega) _, hh2, (HK.out.2.2.drewN _).trans hm2⟩
        · obtain rfl : k = text.size := by omega
          have hRk := HR.out
          rw [List.drop_of_length_le (by rw [← Lib.size_eq]; exact Nat.le_refl _)] at hRk
          have HX : Hid ((st', wrote) = R) := hRk
          clear hRk hfm
          go_wp2
          go_ret3
          exact ⟨v1, ret_t HX.out.symm, by rw [← HX.out]; exact HK.out.2.1, ((Moves.refl w v).alloc _).trans HK.out.2.2⟩

end Go.Proofs.Qxb6000821a
