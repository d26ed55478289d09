/-
  FnAppendLeadingDstIndependent (3).
-/
import Derived.Test.Qxb6000821aLaw
namespace Go.Proofs.Qxb6000821a
open Go.RowKit

theorem below_step {W0 w w' : World} (h : Below W0.heap.size W0 w) (h2 : Below w.heap.size w w') : Below W0.heap.size W0 w' :=
  ⟨h2.os.trans h.os, h2.tape.trans h.tape, h2.output.trans h.output, Nat.le_trans h.size h2.size, fun k hk => (h2.block k (Nat.lt_of_lt_of_le hk h.size)).trans (h.block k hk)⟩

theorem rng_of {w : World} {b : Nat} {L : List Value} (h : w.heap[b]? = some (.cells L.toArray 22 (0, 0))) : w.rangeAt b 0 L := fun j v hv => by
  simp [World.cell?, h, hv]

theorem holds_nil (w : World) : Holds w.heap.size w (.slice none 0 0) [] [] := ⟨⟨rfl, .inl ⟨rfl, rfl⟩⟩, Nat.le_refl _⟩

set_option maxHeartbeats 2000000 in
set_option maxRecDepth 100000 in
theorem main_any (L : List Value) (hcs : L.toArray.size = 256) (T : UInt8 → UInt8) (hT : ∀ c : UInt8, L.toArray[c.toNat]? = some (.int .u8 ((T c).toNat : Int))) (c1 c2 c3 : UInt8) (ao : Option Addr) (pre : List Value) (c : Nat) (nm : ByteArray) (aw : Bool)
    (hn : pre.length ≤ 9223372036854775807) (hm : nm.size ≤ 9223372036854775807) (w : World) (ho : Octets pre) (hr : Reads w (.slice ao pre.length c) pre) :
    Calls Try.prog 3 #[.agg L.toArray, .int .u8 (c1.toNat : Int), .int .u8 (c2.toNat : Int), .int .u8 (c3.toNat : Int), .slice ao pre.length c, .string nm, .bool aw] w fun e w' => e = .returned (.bool true) ∧ Below w.heap.size w w' := by
  have HZ : Hid (Calls Try.prog 7 #[.agg L.toArray, .int .u8 (c1.toNat : Int), .int .u8 (c2.toNat : Int), .int .u8 (c3.toNat : Int), .slice ao pre.length c, .string nm, .bool aw] (w.alloc (.cells L.toArray 22)) fun e w' => SomeBool e ∧ Below (w.alloc (.cells L.toArray 22)).heap.size (w.alloc (.cells L.toArray 22)) w') := zz_any L.toArray _ _ _ ao pre.length c nm _ hn hm _
  have HS : Hid ((Try.prog.info? 22).map (·.size) = some L.toArray.size) := by rw [hcs]; exact size22
  have HT : Hid (L.toArray.size = 256 ∧ (∀ c : UInt8, L.toArray[c.toNat]? = some (.int .u8 ((T c).toNat : Int))) ∧ Octets pre ∧ Reads w (.slice ao pre.length c) pre) := ⟨hcs, hT, ho, hr⟩
  clear hcs hT ho hr
  go_enter Try.func3, Try.ntmps3
  go_upto_if 32 with (first | (refine wpList_load_row rfl 22 (.tmp 7) rfl w.heap.size rfl 22 L.toArray (0, 0) _ (Deep.blk_alloc_new w _) Try.underlying22 rfl HS.out ?_) | (go_at_call 7; refine HZ.out.mono ?_; rintro e w1 ⟨⟨b, rfl⟩, hb1⟩; have HB1 : Hid (Below (w.alloc (.cells L.toArray 22)).heap.size (w.alloc (.cells L.toArray 22)) w1) := hb1; clear hb1))
  have HBW : Hid (Below w.heap.size w w1) := below_step ((Below.refl _ _).alloc (Nat.le_refl _) _) HB1.out
  have hsz : w.heap.size < w1.heap.size := by have := HB1.out.size; simp at this; omega
  have HK1 : Hid (w1.heap[w.heap.size]? = some (.cells L.toArray 22 (0, 0))) := (HB1.out.block w.heap.size (by simp)).trans (Deep.blk_alloc_new w _)
  clear HZ HB1
  cases b with
  | false =>
    go_wp2
    go_ret
    exact ⟨rfl, HBW.out⟩
  | true =>
    by_cases hbig : (262144 : Int) < (pre.length : Int)
    · go_wp2
      go_ret
      exact ⟨rfl, HBW.out⟩
    by_cases hbig2 : (262144 : Int) < (nm.size : Int)
    · go_wp2
      go_ret
      exact ⟨rfl, HBW.out⟩
    have hp1 : pre.length ≤ 262144 := by omega
    have hm1 : nm.size ≤ 262144 := by omega
    have hrd : Reads w1 (.slice ao pre.length c) pre := by
      obtain ⟨ao', c', e, h⟩ := HT.out.2.2.2
      refine ⟨ao', c', e, fun h0 => ?_⟩
      obtain ⟨b, off, hb, e2, hc⟩ := h h0
      exact ⟨b, off, Nat.lt_of_lt_of_le hb HBW.out.size, e2, fun j x hx => (HBW.out.cell (p := ⟨b, off + j, none⟩) hb).trans (hc j x hx)⟩
    have HC1 : Hid (Calls Try.prog 8 #[.slice ao pre.length c] w1 fun e w' => ∃ v', e = .returned v' ∧ Holds w1.heap.size w' v' pre [] ∧ Below w1.heap.size w1 w') := clone_any _ pre HT.out.2.2.1 (by omega) w1 hrd
    clear hrd
    go_wp2_with fail
    refine HC1.out.mono ?_
    rintro e w2 ⟨v4, rfl, hh4, hb2⟩
    clear HC1
    have HC2 : Hid (Calls Try.prog 8 #[v4] w2 fun e w' => ∃ v', e = .returned v' ∧ Holds w2.heap.size w' v' pre [] ∧ Below w2.heap.size w2 w') := clone_any _ pre HT.out.2.2.1 (by omega) w2 (by simpa [Lib.byteCells] using hh4.reads)
    have HH4 : Hid (Holds w1.heap.size w2 v4 pre [] ∧ Below w1.heap.size w1 w2) := ⟨hh4, hb2⟩
    clear hh4 hb2
    go_wp2_with fail
    refine HC2.out.mono ?_
    rintro e w3 ⟨v15, rfl, hh15, hb3⟩
    clear HC2
    have H15 : Hid (Holds w2.heap.size w3 v15 pre []) := hh15
    have H4 : Hid (Holds w1.heap.size w3 v4 pre []) := HH4.out.1.below hb3
    have HB13 : Hid (Below w1.heap.size w1 w3) := below_step HH4.out.2 hb3
    have HO4 : Hid (∀ k, some k = v4.ownBlock → w1.heap.size ≤ k ∧ k < w2.heap.size) := fun k hk => HH4.out.1.own hk
    have hs23 : w1.heap.size ≤ w2.heap.size := HH4.out.2.size
    have hs33 : w2.heap.size ≤ w3.heap.size := hb3.size
    clear hh15 hb3 HH4
    obtain ⟨R, hR⟩ : ∃ R, al nm.data.toList T (oneOf c1).data.toList (oneOf c2).data.toList (oneOf c3).data.toList aw (nm.size + 1) ([], 0) true 0 = R := ⟨_, rfl⟩
    have HP : Hid ((bodyOf R).length ≤ nm.size ∧ ((sameOf R = true ∧ bodyOf R = [] ∧ 0 ≤ nOf R ∧ nOf R ≤ (nm.size : Int)) ∨ (sameOf R = false ∧ nOf R = ((bodyOf R).length : Int)))) := al_plain (oneOf_size _) (oneOf_size _) (oneOf_size _) hR
    have ZA : Hid (∀ w', Holds w1.heap.size w' v4 pre [] → Calls Try.prog 9 #[.agg L.toArray, .string (oneOf c1), .string (oneOf c2), .string (oneOf c3), v4, .string nm, .bool aw] w' (Led w1.heap.size pre w' v4 R)) := fun w' h => by
      rw [← hR]
      exact za_any w1.heap.size v4 pre nm aw T L.toArray HT.out.1 HT.out.2.1 (oneOf c1) (oneOf c2) (oneOf c3) (oneOf_size _) (oneOf_size _) (oneOf_size _) (by omega) (by omega) w' h
    have ZN : Hid (∀ w' : World, Calls Try.prog 9 #[.agg L.toArray, .string (oneOf c1), .string (oneOf c2), .string (oneOf c3), .slice none 0 0, .string nm, .bool aw] w' (Led w'.heap.size [] w' (.slice none 0 0) R)) := fun w' => by
      rw [← hR]
      exact za_any w'.heap.size (.slice none 0 0) [] nm aw T L.toArray HT.out.1 HT.out.2.1 (oneOf c1) (oneOf c2) (oneOf c3) (oneOf_size _) (oneOf_size _) (oneOf_size _) (by omega) (by simp) w' (holds_nil w')
    clear hR
    have hu : Try.prog.underlying 22 = some (.array 256 5) := Try.underlying22
    have hi : (Try.prog.info? 22).map (·.size) = some L.length := by simpa using HS.out
    have HB : Hid (Below w3.heap.size w3 w3.drew) := ⟨rfl, rfl, rfl, Nat.le_refl _, fun _ _ => rfl⟩
    have HK : Hid (w3.drew.heap[w.heap.size]? = some (.cells L.toArray 22 (0, 0))) := (HB13.out.block _ hsz).trans HK1.out
    go_wp2
    go_region_held3 (fun w' => w'.rangeAt w.heap.size 0 L) (exact rng_of HK.out) (first | (go_at_call 10; refine (one_any _ _).mono ?_; rintro e w9 ⟨rfl, hb9⟩; replace HK : Hid (w9.heap[w.heap.size]? = some (.cells L.toArray 22 (0, 0))) := (hb9.block _ (Array.getElem?_eq_some_iff.1 HK.out).1).trans HK.out; replace HB : Hid (Below w3.heap.size w3 w9) := below_step HB.out hb9; clear hb9) | (go_at_call 9; refine (ZA.out _ (H4.out.below HB.out)).mono ?_; rintro e w4 ⟨v16, rfl, hh16, hm16⟩; replace HK : Hid (w4.heap[w.heap.size]? = some (.cells L.toArray 22 (0, 0))) := (hm16.block _ (Array.getElem?_eq_some_iff.1 HK.out).1 (fun e => by have := HO4.out _ e; omega)).trans HK.out; have HM16 : Hid (Holds w1.heap.size w4 v16 pre (bodyOf R) ∧ Moves w3 v4 w4 v16) := ⟨hh16, moves_below HB.out hm16⟩; clear hh16 hm16))
    have HBa : Hid (Below w.heap.size w w4) := Moves.below (below_step HBW.out HB13.out) HM16.out.2 (by omega) (fun k hk => by have := HO4.out k hk; omega)
    have H15a : Hid (Holds w2.heap.size w4 v15 pre []) := H15.out.other HM16.out.2 (fun k hk e => by have h1 := (H15.out.own hk).1; have h2 := (HO4.out k e).2; omega)
    clear HB HB13 H4 H15 ZA HO4 HBW HK1
    have HB : Hid (Below w4.heap.size w4 w4.drew) := ⟨rfl, rfl, rfl, Nat.le_refl _, fun _ _ => rfl⟩
    replace HK : Hid (w4.drew.heap[w.heap.size]? = some (.cells L.toArray 22 (0, 0))) := HK
    go_wp2
    go_region_held3 (fun w' => w'.rangeAt w.heap.size 0 L) (exact rng_of HK.out) (first | (go_at_call 10; refine (one_any _ _).mono ?_; rintro e w9 ⟨rfl, hb9⟩; replace HK : Hid (w9.heap[w.heap.size]? = some (.cells L.toArray 22 (0, 0))) := (hb9.block _ (Array.getElem?_eq_some_iff.1 HK.out).1).trans HK.out; replace HB : Hid (Below w4.heap.size w4 w9) := below_step HB.out hb9; clear hb9) | (go_at_call 9; refine (ZN.out _).mono ?_; rintro e w5 ⟨v20, rfl, hh20, hm20⟩; replace HK : Hid (w5.heap[w.heap.size]? = some (.cells L.toArray 22 (0, 0))) := (hm20.block _ (Array.getElem?_eq_some_iff.1 HK.out).1 (fun e => by cases e)).trans HK.out; have HM20 : Hid (∃ B, Holds B w5 v20 [] (bodyOf R)) := ⟨_, hh20⟩; have HMb : Hid (Moves w4 (.slice none 0 0) w5 v20) := moves_below HB.out hm20; clear hh20 hm20))
    have HBb : Hid (Below w4.heap.size w4 w5) := Moves.below (Below.refl _ _) HMb.out (Nat.le_refl _) (fun k hk => by cases hk)
    have H15b : Hid (Holds w2.heap.size w5 v15 pre []) := H15a.out.below HBb.out
    have H16b : Hid (Holds w1.heap.size w5 v16 pre (bodyOf R)) := HM16.out.1.below HBb.out
    have HBW : Hid (Below w.heap.size w w5) := below_step HBa.out HBb.out
    obtain ⟨B20, H20⟩ := HM20.out
    have H20b : Hid (Holds B20 w5 v20 [] (bodyOf R)) := H20
    obtain ⟨a15, k15, e15, hk15⟩ := H15b.out.slice
    obtain ⟨a16, k16, e16, hk16⟩ := H16b.out.slice
    obtain ⟨a20, k20, e20, hk20⟩ := H20.slice
    have hO : Octets pre := HT.out.2.2.1
    clear H20 HM20 HMb HBb HBa HB HM16 H15a ZN HK HT HS hu hi
    subst e15 e16 e20
    obtain ⟨N, hN⟩ : ∃ N, nOf R = N := ⟨_, rfl⟩
    obtain ⟨S, hS⟩ : ∃ S, sameOf R = S := ⟨_, rfl⟩
    obtain ⟨q, hq⟩ : ∃ q, R.2 = q := ⟨_, rfl⟩
    obtain ⟨bd, hbd⟩ : ∃ bd, bodyOf R = bd := ⟨_, rfl⟩
    rw [hN, hS, hbd] at HP
    rw [hbd] at H16b H20b hk16 hk20 ⊢
    rw [hN, hS, hq]
    clear hN hS hq hbd
    simp only [List.length_nil, Nat.add_zero, Nat.zero_add] at hk15 hk20 ⊢
    have hbl : bd.length ≤ nm.size := HP.out.1
    have hlow : (0 : Int) ≤ (pre.length : Int) := by omega
    have hlow2 : (pre.length : Int) ≤ (pre.length : Int) + (bd.length : Int) := by omega
    go_wp2_with fail
    have hr16 : Reads w5 (.slice a16 pre.length k16) pre := by
      have h := (H16b.out.cut (k := 0) (Nat.zero_le _)).reads
      simpa [Lib.byteCells] using h
    have hr15 : Reads w5 (.slice a15 pre.length k15) pre := by
      have h := H15b.out.reads
      simpa [Lib.byteCells] using h
    refine (eq_any (.slice a16 pre.length k16) (.slice a15 pre.length k15) pre hO (by omega) w5 hr16 hr15).mono ?_
    rintro e w6 ⟨m, rfl, rfl⟩
    clear hr16 hr15
    have HW : Hid (∀ m' : Nat, Below w.heap.size w (w5.drewN m')) := fun m' => below_step HBW.out ⟨rfl, rfl, rfl, Nat.le_refl _, fun _ _ => rfl⟩
    have hcase := HP.out.2
    by_cases hbd : bd = []
    · subst hbd
      simp only [List.length_nil, Nat.add_zero] at hk16 hk20 hbl hcase ⊢
      have hN : 0 ≤ N ∧ N ≤ (nm.size : Int) ∧ (S = false → N = 0) := by
        rcases hcase with ⟨h1, _, h2, h3⟩ | ⟨h1, h2⟩
        · exact ⟨h2, h3, fun h => by rw [h1] at h; cases h⟩
        · exact ⟨by omega, by omega, fun _ => h2⟩
      obtain ⟨hN0, hN1, hN2⟩ := hN
      have HN2 : Hid (S = false → N = 0) := hN2
      clear hcase hN2 HP H15b H16b H20b hlow2
      by_cases hE : k16 = pre.length
      · subst hE
        go_wp2_with fail
        refine (eq_any _ _ [] (fun _ h => by cases h) (by simp) _ ⟨_, _, rfl, fun h => by cases h⟩ ⟨_, _, rfl, fun h => by cases h⟩).mono ?_
        rintro e w7 ⟨m2, rfl, rfl⟩
        cases S with
        | true =>
          go_wp2
          go_ret
          exact ⟨rfl, HW.out _⟩
        | false =>
          obtain rfl := HN2.out rfl
          go_wp2
          go_ret
          exact ⟨rfl, HW.out _⟩
      · go_wp2_with fail
        refine (eq_any _ _ [] (fun _ h => by cases h) (by simp) _ ⟨_, _, rfl, fun h => by cases h⟩ ⟨_, _, rfl, fun h => by cases h⟩).mono ?_
        rintro e w7 ⟨m2, rfl, rfl⟩
        cases S with
        | true =>
          go_wp2
          go_ret
          exact ⟨rfl, HW.out _⟩
        | false =>
          obtain rfl := HN2.out rfl
          go_wp2
          go_ret
          exact ⟨rfl, HW.out _⟩
    · have hpos : 0 < bd.length := List.length_pos_iff.2 hbd
      obtain ⟨rfl, rfl⟩ : S = false ∧ N = (bd.length : Int) := by
        rcases hcase with ⟨_, h1, _⟩ | h
        · exact absurd h1 hbd
        · exact h
      have hlt : pre.length < k16 := by omega
      have hE : ¬ k16 = pre.length := by omega
      obtain ⟨g, rfl, hg16⟩ : ∃ g, a16 = some ⟨g, 0, none⟩ ∧ (g < w5.heap.size ∧ ∀ j x, (Lib.byteCells bd)[j]? = some x → w5.cell? ⟨g, pre.length + j, none⟩ = some x) := by
        obtain ⟨ao', c', e, h⟩ := H16b.out.reads
        rcases H16b.out.1.2 with ⟨e2, h2⟩ | ⟨g, cap, cur, e2, _, hh, _⟩
        · omega
        · simp only [Value.slice.injEq] at e2
          refine ⟨g, e2.1, (Array.getElem?_eq_some_iff.1 hh).1, fun j x hj => ?_⟩
          simp only [Value.slice.injEq] at e
          obtain ⟨b, off, hb, e3, hc⟩ := h (by rw [List.length_append, Lib.byteCells_length]; omega)
          rw [← e.1, e2.1] at e3
          cases e3
          have h4 := hc (pre.length + j) x (by rw [List.getElem?_append_right (by omega)]; simpa using hj)
          simpa using h4
      have HG : Hid (g < w5.heap.size ∧ ∀ j x, (Lib.byteCells bd)[j]? = some x → w5.cell? ⟨g, pre.length + j, none⟩ = some x) := hg16
      have hr20 : Hid (Reads w5 (.slice a20 bd.length k20) (Lib.byteCells bd)) := by
        have h := H20b.out.reads
        show Reads w5 (.slice a20 bd.length k20) (Lib.byteCells bd)
        simpa using h
      clear hcase hg16 HP H15b H16b H20b
      go_wp2_with fail
      refine (eq_any (.slice (some ⟨g, pre.length, none⟩) bd.length (k16 - pre.length)) (.slice a20 bd.length k20) (Lib.byteCells bd) ?o (by rw [Lib.byteCells_length]; omega) (w5.drewN m) ⟨some ⟨g, pre.length, none⟩, k16 - pre.length, ?e, fun _ => ⟨g, pre.length, HG.out.1, rfl, HG.out.2⟩⟩ hr20.out).mono ?_
      case o =>
        intro x hx
        obtain ⟨u, _, rfl⟩ := List.mem_map.1 hx
        exact ⟨_, rfl⟩
      case e => rw [Lib.byteCells_length]
      rintro e w7 ⟨m2, rfl, rfl⟩
      go_wp2
      go_ret
      exact ⟨rfl, HW.out _⟩

end Go.Proofs.Qxb6000821a
