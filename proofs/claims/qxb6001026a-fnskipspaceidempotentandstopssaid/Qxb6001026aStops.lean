/-
  FnSkipSpaceIdempotentAndStops (7).
-/
import Derived.Test.Qxb6001026aZz
namespace Go.Proofs.Qxb6001026a
open Go.RowKit

theorem below_step {W0 w w' : World} (h : Below W0.heap.size W0 w) (h2 : Below w.heap.size w w') : Below W0.heap.size W0 w' :=
  ⟨h2.os.trans h.os, h2.tape.trans h.tape, h2.output.trans h.output, Nat.le_trans h.size h2.size, fun k hk => (h2.block k (Nat.lt_of_lt_of_le hk h.size)).trans (h.block k hk)⟩

set_option maxHeartbeats 800000 in
theorem stops_any (a : Option Addr) (c : Nat) (L : List UInt8) (hL : L.length ≤ 9223372036854775807) (x : Int) (w : World) (hz : a = none → c = 0) (hs : Src w a c L) :
    Calls Try.prog 7 #[.slice a L.length c, .int .i64 x] w fun e w' => e = .returned (.bool true) ∧ Below w.heap.size w w' := by
  have HZ : Hid (Calls Try.prog 20 #[.slice a L.length c, .int .i64 x] w fun e w' => SomeBool e ∧ w' = w) := zz20 a L.length c _ hL w
  have HS : Hid ((a = none → c = 0) ∧ Src w a c L) := ⟨hz, hs⟩
  clear hz hs
  go_enter Try.func7, Try.ntmps7
  go_upto_if 9 with (first | (go_at_call 20; refine HZ.out.mono ?_; rintro e w1 ⟨⟨b, rfl⟩, hw⟩; obtain rfl := hw.symm))
  clear HZ
  cases b with
  | false =>
    go_wp2
    go_ret
    exact ⟨rfl, Below.refl _ _⟩
  | true =>
    by_cases hbig : (1048576 : Int) < (L.length : Int)
    · go_wp2
      go_ret
      exact ⟨rfl, Below.refl _ _⟩
    by_cases hneg : x < 0
    · go_wp2
      go_ret
      exact ⟨rfl, Below.refl _ _⟩
    by_cases hout : (L.length : Int) < x
    · go_wp2
      go_ret
      exact ⟨rfl, Below.refl _ _⟩
    obtain ⟨p, rfl⟩ : ∃ p : Nat, x = (p : Int) := ⟨x.toNat, by omega⟩
    have hp : p ≤ L.length := by omega
    have HC : Hid (Calls Try.prog 16 #[.slice a L.length c] w (Copied w L)) := clone_any a c L (by omega) w HS.out.1 HS.out.2
    clear HS
    go_wp2_with fail
    refine HC.out.mono ?_
    rintro e w1 ⟨a1, c1, rfl, hs1, hb1⟩
    clear HC
    have HS1 : Hid (Src w1 a1 c1 L ∧ Below w.heap.size w w1) := ⟨hs1, hb1⟩
    have H1 : Hid (Calls Try.prog 21 #[.slice a1 L.length c1, .int .i64 (p : Int)] w1 fun e w' => e = .returned (.int .i64 (sk L p : Int)) ∧ Below w1.heap.size w1 w') := zs_any a1 c1 L (by omega) p hp w1 hs1
    clear hs1 hb1
    go_wp2_with fail
    refine H1.out.mono ?_
    rintro e w2 ⟨rfl, hb2⟩
    clear H1
    have hs2 := HS1.out.1.below hb2
    have hr1 := le_sk L p
    have hr2 := sk_le hp
    have HR : Hid (∀ c, L[sk L p]? = some c → blankC c = false ∧ c ≠ 35) := fun c hc => sk_at L p c hc
    have H2 : Hid (Calls Try.prog 21 #[.slice a1 L.length c1, .int .i64 (sk L p : Int)] w2 fun e w' => e = .returned (.int .i64 (sk L p : Int)) ∧ Below w2.heap.size w2 w') := by
      have h := zs_any a1 c1 L (by omega) (sk L p) hr2 w2 hs2
      rw [sk_again] at h
      exact h
    obtain ⟨r, hr⟩ : ∃ r, r = sk L p := ⟨_, rfl⟩
    rw [← hr] at hr1 hr2 HR H2 ⊢
    have HB : Hid (Below w.heap.size w w2) := below_step HS1.out.2 hb2
    have HS2 : Hid (Src w2 a1 c1 L) := hs2
    clear HS1 hb2 hs2 hr
    by_cases hlt : r < L.length
    · obtain ⟨ch, hch⟩ : ∃ ch, L[r]? = some ch := ⟨_, List.getElem?_eq_getElem hlt⟩
      obtain ⟨hbl, h35⟩ := HR.out ch hch
      obtain ⟨hcc, b, o, rfl, hblt, hl⟩ : L.length ≤ c1 ∧ ∃ b o, a1 = some ⟨b, o, none⟩ ∧ b < w2.heap.size ∧ Lies w2 b o L := by
        rcases HS2.out with rfl | h
        · simp at hlt
        · exact h
      have cb : w2.cell? ⟨b, o + r, none⟩ = some (.int .u8 (ch.toNat : Int)) := hl r ch hch
      have HI : Hid (∀ w, Calls Try.prog 22 #[.int .u8 (ch.toNat : Int)] w fun e w' => e = .returned (.bool false) ∧ w' = w) := fun w => ibs_any ch hbl h35 w
      clear hch hbl h35 hl HR HS2
      go_wp2_with (first | (go_at_call 22; refine (HI.out _).mono ?_; rintro e w3 ⟨rfl, hw⟩; obtain rfl := hw.symm) | (go_at_call 21; refine H2.out.mono ?_; rintro e w4 ⟨rfl, hb4⟩; have HB4 : Hid (Below w2.heap.size w2 w4) := hb4; clear hb4))
      go_ret
      exact ⟨rfl, below_step HB.out HB4.out⟩
    · clear HR HS2
      go_wp2_with (first | (go_at_call 21; refine H2.out.mono ?_; rintro e w4 ⟨rfl, hb4⟩; have HB4 : Hid (Below w2.heap.size w2 w4) := hb4; clear hb4))
      go_ret
      exact ⟨rfl, below_step HB.out HB4.out⟩

end Go.Proofs.Qxb6001026a
