/-
  spellText (30) at an element without brackets.
-/
import Derived.Test.Qxb6000821aText
namespace Go.Proofs.Qxb6000821a
open Go.RowKit

theorem preN_eq {s : ByteArray} {T : UInt8 → UInt8} {k : Nat} (hk : k ≤ s.size) (h : ∀ j (hj : j < s.size), j < k → same1 T s[j] = true) (he : k = s.size ∨ ∃ hk : k < s.size, same1 T s[k] = false) : preN T s.data.toList = k := by
  unfold preN
  have hd : s.data.toList = s.data.toList.take k ++ s.data.toList.drop k := (List.take_append_drop k _).symm
  rw [hd, List.takeWhile_append_of_pos]
  · have e2 : (s.data.toList.drop k).takeWhile (same1 T) = [] := by
      rcases he with rfl | ⟨hk, he⟩
      · rw [List.drop_of_length_le (by rw [← Lib.size_eq]; exact Nat.le_refl _)]
        rfl
      · have : s.data.toList.drop k = s[k] :: s.data.toList.drop (k + 1) := by
          rw [List.drop_eq_getElem_cons (by rw [← Lib.size_eq]; exact hk)]
          rfl
        rw [this]
        simp [List.takeWhile, he]
    rw [e2, List.append_nil, List.length_take, ← Lib.size_eq]
    omega
  · intro c hc
    obtain ⟨j, hj, rfl⟩ := List.getElem_of_mem hc
    rw [List.length_take, ← Lib.size_eq] at hj
    have e : (s.data.toList.take k)[j]'(by rw [List.length_take, ← Lib.size_eq]; exact hj) = s[j]'(by omega) := by
      rw [List.getElem_take]
      rfl
    rw [e]
    exact h j (by omega) (by omega)

theorem drop_cons (s : ByteArray) (k : Nat) (h : k < s.size) : s.data.toList.drop k = s[k] :: s.data.toList.drop (k + 1) := by
  rw [List.drop_eq_getElem_cons (by rw [← Lib.size_eq]; exact h)]
  rfl

theorem same1_cases {T : UInt8 → UInt8} {t : UInt8} : (same1 T t = true ∧ (((T t).toNat : Int) == (t.toNat : Int)) = true ∧ ((t.toNat : Int) != 0) = true) ∨ (same1 T t = false ∧ (((T t).toNat : Int) == (t.toNat : Int)) = false) ∨ (same1 T t = false ∧ (((T t).toNat : Int) == (t.toNat : Int)) = true ∧ ((t.toNat : Int) != 0) = false) := by
  have e0 : ((t.toNat : Int) != 0) = !(t == 0) := by
    show (!((t.toNat : Int) == 0)) = _
    rw [show (0 : Int) = (((0 : UInt8).toNat : Nat) : Int) from rfl, byte_eq]
  rw [byte_eq, e0]
  unfold same1
  cases T t == t <;> cases t == 0 <;> simp

/-- The second loop under way at place k. -/
def Loop2 (B : Nat) (pre : List Value) (nm text : ByteArray) (T : UInt8 → UInt8) (p : Nat) (R : (List UInt8 × Int) × Bool) (w0 : World) (v0 : Value) (k : Nat) (v a b c : Value) (wr : World) : Prop :=
  ∃ (st : List UInt8 × Int) (wrote : Bool), k ≤ text.size ∧ a = .int .i64 st.2 ∧ b = .int .i64 (k : Int) ∧ c = .bool wrote ∧ spR nm.data.toList T (text.data.toList.drop k) st wrote = R ∧ Fine nm.data.toList st (p + k) ∧ Holds B wr v pre st.1 ∧ Moves w0 v0 wr v

set_option maxHeartbeats 2000000 in
set_option maxRecDepth 100000 in
theorem st_neg (B : Nat) (bf : Nat) (v : Value) (pre : List Value) (st : List UInt8 × Int) (h0 : st.2 < 0) (nm text : ByteArray) (T : UInt8 → UInt8) (sep opn cls : ByteArray) (p : Nat) (hf : Fine nm.data.toList st p) (hp : p + text.size ≤ nm.size) (hs : nm.size ≤ 1048576) (hpre : pre.length ≤ 1048576) (w : World) (hh : Holds B w v pre st.1) (hfm : Form w bf T sep opn cls) :
    Calls Try.prog 30 #[.pointer (some ⟨bf, 0, none⟩), v, .int .i64 st.2, .string nm, .agg #[.string text, .bool false]] w (SpelledT B pre w v (spT nm.data.toList T st text.data.toList false)) := by
  have HE : Hid (spT nm.data.toList T st text.data.toList false = spR nm.data.toList T text.data.toList st false) := by
    show _ = _
    unfold spT
    have e : spJ T st text.data.toList = 0 := by unfold spJ; rw [if_neg (by omega)]
    rw [e]
    simp
  generalize spT nm.data.toList T st text.data.toList false = R at HE ⊢
  have hfm0 : Form (w.alloc (.cells #[.string text, .bool false] 45)) bf T sep opn cls := hfm.of_block (Below.heap_alloc _ _ _ hfm.lt)
  have HFM : Hid (Form (w.alloc (.cells #[.string text, .bool false] 45)) bf T sep opn cls) := hfm0
  have HNE : Hid (some bf ≠ v.ownBlock ∧ some w.heap.size ≠ v.ownBlock) := ⟨hh.form_ne hfm, fun e => absurd (hh.lt e) (Nat.lt_irrefl _)⟩
  have HH : Hid (Holds B w v pre st.1) := hh
  have HF : Hid (Fine nm.data.toList st p) := hf
  have hz : decide ((0 : Int) ≤ st.2) = false := decide_eq_false (by omega)
  clear hh hf hfm hfm0
  go_enter Try.func30, Try.ntmps30
  go_wp2
  go_loopg [1, 2, 13, 14] text.size (fun g v' a b c wr => ∃ (k : Nat) (v1 : Value), g = text.size - k ∧ v' = v1 ∧ Loop2 B pre nm text T p R (w.alloc (.cells #[.string text, .bool false] 45)) v k v1 a b c wr)
  case atStart => exact ⟨0, v, rfl, rfl, st, false, Nat.zero_le _, rfl, rfl, rfl, by rw [HE.out]; rfl, HF.out, HH.out.alloc _, Moves.refl _ _⟩
  case round =>
    obtain ⟨k, v1, hg, hv, st', wrote, hk, rfl, rfl, rfl, hR, hfk, hhk, hm⟩ := hrel
    obtain rfl := hv.symm
    have HG : Hid (gk = text.size - k) := hg
    have HR : Hid (spR nm.data.toList T (text.data.toList.drop k) st' wrote = R) := hR
    have HK : Hid (Fine nm.data.toList st' (p + k) ∧ Holds B wr v1 pre st'.1 ∧ Moves (w.alloc (.cells #[.string text, .bool false] 45)) v wr v1) := ⟨hfk, hhk, hm⟩
    have ce : wr.cell? ⟨w.heap.size, 0, none⟩ = some (.string text) := by
      have e := hm.block w.heap.size (by simp) HNE.out.2
      rw [World.cell?_of_block (w := w.alloc (.cells #[.string text, .bool false] 45)) e]
      simp
    have hfm := HFM.out.moves hm HNE.out.1
    clear hg hR hfk hhk hm
    by_cases hlt : k < text.size
    · have cf := hfm.cell text[k]
      have hb : (text[k].toNat : Int) < 256 := by have := text[k].toNat_lt; omega
      have hlt' : (k : Int) < (text.size : Int) := by omega
      have hRk := HR.out
      rw [drop_cons text k hlt] at hRk
      unfold spR at hRk
      clear hfm
      by_cases h255 : T text[k] = 255
      · rw [if_pos h255] at hRk
        have HX : Hid ((st', false) = R) := hRk
        have e1 : (((T text[k]).toNat : Int) == 255) = true := by rw [h255]; rfl
        clear hRk h255
        go_wp2
        go_quiet (fail)
        go_wp2
        go_ret3
        exact ⟨v1, ret_t HX.out.symm, by rw [← HX.out]; exact HK.out.2.1.drewN _, ((Moves.refl w v).alloc _).trans (HK.out.2.2.drewN _)⟩
      · rw [if_neg h255] at hRk
        have e1 : (((T text[k]).toNat : Int) == 255) = false := by
          rw [show (255 : Int) = (((255 : UInt8).toNat : Nat) : Int) from rfl, byte_eq]
          exact beq_eq_false_iff_ne.2 h255
        clear h255
        by_cases hz0 : T text[k] = 0
        · rw [if_pos hz0] at hRk
          have HX : Hid (spR nm.data.toList T (text.data.toList.drop (k + 1)) st' wrote = R) := hRk
          have e2 : (((T text[k]).toNat : Int) != 0) = false := by rw [hz0]; rfl
          clear hRk hz0
          go_wp2
          go_quiet (fail)
          go_wp2
          go_roundg (text.size - (k + 1))
          case measure => rw [HG.out]; omega
          case rel => exact ⟨k + 1, v1, rfl, rfl, st', wrote, by omega, rfl, by go_num, rfl, HX.out, fine_mono HK.out.1 (by omega) (by rw [← Lib.size_eq]; omega), HK.out.2.1.drewN _, HK.out.2.2.drewN _⟩
        · rw [if_neg hz0] at hRk
          have HX : Hid (spR nm.data.toList T (text.data.toList.drop (k + 1)) (spB nm.data.toList st' (T text[k])) true = R) := hRk
          have e2 : (((T text[k]).toNat : Int) != 0) = true := by
            show (!(((T text[k]).toNat : Int) == 0)) = true
            rw [show (0 : Int) = (((0 : UInt8).toNat : Nat) : Int) from rfl, byte_eq, beq_eq_false_iff_ne.2 hz0]
            rfl
          have hfk := HK.out.1
          have C : ∀ n, Hid (Calls Try.prog 32 #[v1, .int .i64 st'.2, .string nm, .int .u8 ((T text[k]).toNat : Int)] (wr.drewN n) (Spelled B pre (wr.drewN n) v1 (spB nm.data.toList st' (T text[k])))) := fun n =>
            sb_any B v1 pre st' nm hfk.1 (by have := hfk.2.2.1; omega) hs (T text[k]) _ (HK.out.2.1.drewN n) (by have := hfk.2.2.1; omega)
          clear hRk hz0 hfk
          go_wp2
          go_quiet (fail)
          go_wp2_with (go_at_call 32; refine (C _).out.mono ?_; rintro e w1 ⟨v2, rfl, hh2, hm2⟩)
          go_roundg (text.size - (k + 1))
          case measure => rw [HG.out]; omega
          case rel => exact ⟨k + 1, v2, rfl, rfl, _, true, by omega, rfl, by go_num, rfl, HX.out, fine_spB HK.out.1 (by rw [← Lib.size_eq]; omega) _, hh2, (HK.out.2.2.drewN _).trans hm2⟩
    · obtain rfl : k = text.size := by omega
      have hRk := HR.out
      rw [List.drop_of_length_le (by rw [← Lib.size_eq]; exact Nat.le_refl _)] at hRk
      have HX : Hid ((st', wrote) = R) := hRk
      clear hRk hfm
      go_wp2
      go_ret3
      exact ⟨v1, ret_t HX.out.symm, by rw [← HX.out]; exact HK.out.2.1, ((Moves.refl w v).alloc _).trans HK.out.2.2⟩

end Go.Proofs.Qxb6000821a
