/-
  FnSkipSpaceCrossesInsertedBlank (8).
-/
import Derived.Test.Qxb6001026aCat
namespace Go.Proofs.Qxb6001026a
open Go.RowKit

theorem below_step {W0 w w' : World} (h : Below W0.heap.size W0 w) (h2 : Below w.heap.size w w') : Below W0.heap.size W0 w' :=
  ⟨h2.os.trans h.os, h2.tape.trans h.tape, h2.output.trans h.output, Nat.le_trans h.size h2.size, fun k hk => (h2.block k (Nat.lt_of_lt_of_le hk h.size)).trans (h.block k hk)⟩

/-- The three arguments as they came in. -/
def Args (w : World) (a0 a1 a2 : Option Addr) (c0 c1 c2 : Nat) (K C L : List UInt8) : Prop := ((a0 = none → c0 = 0) ∧ Src w a0 c0 K) ∧ ((a1 = none → c1 = 0) ∧ Src w a1 c1 C) ∧ ((a2 = none → c2 = 0) ∧ Src w a2 c2 L)

/-- A byte of a text that is there. -/
theorem Src.at {w : World} {a : Option Addr} {c : Nat} {L : List UInt8} (h : Src w a c L) {i : Nat} (hi : i < L.length) : ∃ b o, a = some ⟨b, o, none⟩ ∧ b < w.heap.size ∧ Lies w b o L ∧ L.length ≤ c := by
  rcases h with rfl | ⟨hc, b, o, e, hb, hl⟩
  · simp at hi
  · exact ⟨b, o, e, hb, hl, hc⟩

theorem piece_len (C : List UInt8) (k : UInt8) : (k.toNat % 5 = 4 → (piece C k).length ≤ C.length + 2) ∧ (¬ k.toNat % 5 = 4 → (piece C k).length = 1) := by
  have hf := List.length_filter_le (· != 10) C
  have h5 : k.toNat % 5 < 5 := Nat.mod_lt _ (by decide)
  unfold piece
  refine ⟨fun h => ?_, fun h => ?_⟩
  · rw [if_neg (by omega), if_neg (by omega), if_neg (by omega), if_neg (by omega)]
    simp
    omega
  · split
    · rfl
    · split
      · rfl
      · split
        · rfl
        · split
          · rfl
          · omega

theorem pieces_snoc (C K : List UInt8) {i : Nat} (h : i < K.length) : pieces C (K.take (i + 1)) = pieces C (K.take i) ++ piece C K[i] := by
  rw [List.take_succ_eq_append_getElem h]
  unfold pieces
  rw [List.map_append, List.flatten_append, List.map_singleton, List.flatten_singleton]

theorem pieces_le (C K : List UInt8) (k : Nat) : (pieces C (K.take k)).length ≤ (pieces C K).length := by
  have e : pieces C K = pieces C (K.take k) ++ pieces C (K.drop k) := by
    unfold pieces
    rw [← List.flatten_append, ← List.map_append, List.take_append_drop]
  rw [e, List.length_append]
  omega

theorem piece_lit (C : List UInt8) (k : UInt8) : (k.toNat % 5 = 0 → piece C k = [32]) ∧ (k.toNat % 5 = 1 → piece C k = [9]) ∧ (k.toNat % 5 = 2 → piece C k = [10]) ∧ (k.toNat % 5 = 3 → piece C k = [13]) ∧ (k.toNat % 5 = 4 → piece C k = 35 :: (C.filter (· != 10) ++ [10])) := by
  unfold piece
  refine ⟨fun h => by rw [if_pos h], fun h => by rw [if_neg (by omega), if_pos h], fun h => by rw [if_neg (by omega), if_neg (by omega), if_pos h], fun h => by rw [if_neg (by omega), if_neg (by omega), if_neg (by omega), if_pos h], fun h => by rw [if_neg (by omega), if_neg (by omega), if_neg (by omega), if_neg (by omega)]⟩

theorem below_alloc {B : Nat} {w0 w : World} (hb : Below B w0 w) (hB : B ≤ w.heap.size) (o : Obj) : Below B w0 (w.alloc o) := hb.alloc hB o

theorem Hd.alloc {B : Nat} {w : World} {v : Value} {l : List UInt8} (h : Hd B w v l) (o : Obj) : Hd B (w.alloc o) v l := h.below ((Below.refl _ _).alloc (Nat.le_refl _) _)

set_option maxHeartbeats 4000000 in
set_option maxRecDepth 100000 in
theorem cross_any (a0 a1 a2 : Option Addr) (c0 c1 c2 : Nat) (K C L : List UInt8) (h0 : K.length ≤ 9223372036854775807) (h1 : C.length ≤ 9223372036854775807) (h2 : L.length ≤ 9223372036854775807) (x : Int) (w : World) (hs : Args w a0 a1 a2 c0 c1 c2 K C L) :
    Calls Try.prog 8 #[.slice a0 K.length c0, .slice a1 C.length c1, .slice a2 L.length c2, .int .i64 x] w fun e w' => e = .returned (.bool true) ∧ Below w.heap.size w w' := by
  have HZ : Hid (Calls Try.prog 23 #[.slice a0 K.length c0, .slice a1 C.length c1, .slice a2 L.length c2, .int .i64 x] w fun e w' => SomeBool e ∧ w' = w) := zz23 _ _ _ _ _ _ _ _ _ _ h0 h1 h2 w
  have HS : Hid (Args w a0 a1 a2 c0 c1 c2 K C L) := hs
  clear hs
  go_enter Try.func8, Try.ntmps8
  go_upto_if 22 with (first | (go_at_call 23; refine HZ.out.mono ?_; rintro e w1 ⟨⟨b, rfl⟩, hw⟩; obtain rfl := hw.symm))
  clear HZ
  cases b with
  | false =>
    go_wp2
    go_ret
    exact ⟨rfl, Below.refl _ _⟩
  | true =>
    by_cases g0 : (1048576 : Int) < (K.length : Int)
    · go_wp2
      go_ret
      exact ⟨rfl, Below.refl _ _⟩
    by_cases g1 : (1048576 : Int) < (C.length : Int)
    · go_wp2
      go_ret
      exact ⟨rfl, Below.refl _ _⟩
    by_cases g2 : (1048576 : Int) < (L.length : Int)
    · go_wp2
      go_ret
      exact ⟨rfl, Below.refl _ _⟩
    by_cases g3 : (1048576 : Int) < (K.length : Int) + (C.length : Int) + (L.length : Int)
    · go_wp2
      go_ret
      exact ⟨rfl, Below.refl _ _⟩
    by_cases hneg : x < 0
    · go_wp2
      go_ret
      exact ⟨rfl, Below.refl _ _⟩
    by_cases hout : (L.length : Int) < x
    · go_wp2
      go_ret
      exact ⟨rfl, Below.refl _ _⟩
    obtain ⟨p, rfl⟩ : ∃ p : Nat, x = (p : Int) := ⟨x.toNat, by omega⟩
    have hp : p ≤ L.length := by omega
    go_wp2
    go_loopg [9, 10] (K.length) (fun g u i wr => ∃ k n : Nat, g = K.length - k ∧ k ≤ K.length ∧ u = .int .i64 (n : Int) ∧ i = .int .i64 (k : Int) ∧ wr = w ∧ n ≤ 1048576 ∧ Hid ((pieces C (K.take k)).length + L.length ≤ n))
    case atStart => exact ⟨0, L.length, rfl, Nat.zero_le _, rfl, rfl, rfl, by omega, show (pieces C (K.take 0)).length + L.length ≤ L.length by simp [pieces]⟩
    case round =>
      obtain ⟨k, n, hg, hk, rfl, rfl, hwr, hn, hun⟩ := hrel
      obtain rfl := hwr.symm
      have HG : Hid (gk = K.length - k) := hg
      clear hg
      by_cases hlt : k < K.length
      · obtain ⟨b, o, rfl, hbl, hl, _⟩ := HS.out.1.2.at hlt
        obtain ⟨d, hd⟩ : ∃ d, d = K[k] := ⟨_, rfl⟩
        have ck : w.cell? ⟨b, o + k, none⟩ = some (.int .u8 (d.toNat : Int)) := hd ▸ hl k _ (List.getElem?_eq_getElem hlt)
        have hpl := piece_len C d
        have HN : Hid ((pieces C (K.take (k + 1))).length = (pieces C (K.take k)).length + (piece C d).length) := by
          show _ = _
          rw [pieces_snoc C K hlt, List.length_append, hd]
        clear hl hd
        by_cases h4 : d.toNat % 5 = 4
        · have hb4 : ((d.toNat : Int) % 5 == 4) = true := by simp; omega
          have hpl1 := hpl.1 h4
          clear hpl h4
          by_cases hbig : (1048576 : Int) < (n : Int) + ((C.length : Int) + 2)
          · go_wp2
            go_ret
            exact ⟨rfl, Below.refl _ _⟩
          · go_wp2
            go_roundg (K.length - (k + 1))
            case rel => exact ⟨k + 1, n + (C.length + 2), rfl, by omega, by go_num, by go_num, rfl, by omega, show _ ≤ _ by have h := hun.out; have h2 := HN.out; omega⟩
            case measure => rw [HG.out]; omega
        · have hb4 : ((d.toNat : Int) % 5 == 4) = false := by simp; omega
          have hpl1 := hpl.2 h4
          clear hpl h4
          by_cases hbig : (1048576 : Int) < (n : Int) + 1
          · go_wp2
            go_ret
            exact ⟨rfl, Below.refl _ _⟩
          · go_wp2
            go_roundg (K.length - (k + 1))
            case rel => exact ⟨k + 1, n + 1, rfl, by omega, by go_num, by go_num, rfl, by omega, show _ ≤ _ by have h := hun.out; have h2 := HN.out; omega⟩
            case measure => rw [HG.out]; omega
      · obtain rfl : k = K.length := by omega
        have hfin : (pieces C K).length + L.length ≤ n := by have h := hun.out; rwa [List.take_length] at h
        have HFin : Hid ((pieces C K).length + L.length ≤ n) := hfin
        have hLn : L.length ≤ n := by omega
        have HC0 : Hid (Calls Try.prog 16 #[.slice a0 K.length c0] w (Copied w K)) := clone_any a0 c0 K (by omega) w HS.out.1.1 HS.out.1.2
        clear hfin hun
        go_wp2_with fail
        refine HC0.out.mono ?_
        rintro e w1 ⟨b0, d0, rfl, s0, q0⟩
        have HC1 : Hid (Calls Try.prog 16 #[.slice a1 C.length c1] w1 (Copied w1 C)) := clone_any a1 c1 C (by omega) w1 HS.out.2.1.1 (HS.out.2.1.2.below q0)
        have HS1 : Hid (Src w1 b0 d0 K ∧ Below w.heap.size w w1) := ⟨s0, q0⟩
        clear HC0 s0 q0
        go_wp2_with fail
        refine HC1.out.mono ?_
        rintro e w2 ⟨b1, d1, rfl, s1, q1⟩
        have HC2 : Hid (Calls Try.prog 16 #[.slice a2 L.length c2] w2 (Copied w2 L)) := clone_any a2 c2 L (by omega) w2 HS.out.2.2.1 (HS.out.2.2.2.below (below_step HS1.out.2 q1))
        have HS2 : Hid (Src w2 b0 d0 K ∧ Src w2 b1 d1 C ∧ Below w.heap.size w w2) := ⟨HS1.out.1.below q1, s1, below_step HS1.out.2 q1⟩
        clear HC1 HS1 s1 q1
        go_wp2_with fail
        refine HC2.out.mono ?_
        rintro e w3 ⟨b2, d2, rfl, s2, q2⟩
        have HS3 : Hid (Src w3 b0 d0 K ∧ Src w3 b1 d1 C ∧ Src w3 b2 d2 L ∧ Below w.heap.size w w3) := ⟨HS2.out.1.below q2, HS2.out.2.1.below q2, s2, below_step HS2.out.2.2 q2⟩
        clear HC2 HS2 s2 q2 HS
        obtain ⟨i0, hi, hz0, hz1, hz2⟩ := info_parts Try.info5
        have HCap : Hid ((n : Int) - (L.length : Int) = ((n - L.length : Nat) : Int)) := show _ = _ by omega
        go_wp2_with (first | (at_make; refine wpList_make_own _ rfl _ _ 25 rfl w3.heap.size 5 i0 (.int .u8 0) 1 Try.underlying25 hi hz0 hz1 .i64 .i64 _ (n - L.length) rfl rfl HCap.out (by rw [hz2]; omega) (by unfold maxLen; omega) (Nat.le_refl _) ?_; intro w4 hown hgrow; have HH0 : Hid (Hd w3.heap.size w4 (.slice (some ⟨w3.heap.size, 0, none⟩) 0 (n - L.length)) []) := ⟨hown, hgrow.size⟩; have HB0 : Hid (Below w3.heap.size w3 w4) := ⟨hgrow.os, hgrow.tape, hgrow.output, hgrow.size, fun k hk => hgrow.block k hk (fun e => by cases e)⟩; clear hown hgrow))
        go_loopg [11, 12] (K.length) (fun g v i wr => ∃ k : Nat, g = K.length - k ∧ k ≤ K.length ∧ i = .int .i64 (k : Int) ∧ Hid (Hd w3.heap.size wr v (pieces C (K.take k))) ∧ Hid (Below w3.heap.size w3 wr))
        case atStart => exact ⟨0, rfl, Nat.zero_le _, rfl, show Hd _ _ _ _ by rw [List.take_zero]; exact HH0.out, HB0⟩
        case round =>
          obtain ⟨k, hg, hk, rfl, hHd, hB⟩ := hrel
          have HG : Hid (gk = K.length - k) := hg
          have hple := pieces_le C K k
          have hlen : (pieces C (K.take k)).length + 1 ≤ 16777216 := by have := HFin.out; omega
          clear hg HH0 HB0 hple
          by_cases hlt : k < K.length
          · obtain ⟨b, o, rfl, hbl, hl, _⟩ := HS3.out.1.at hlt
            obtain ⟨d, hd⟩ : ∃ d, d = K[k] := ⟨_, rfl⟩
            have ck : wr.cell? ⟨b, o + k, none⟩ = some (.int .u8 (d.toNat : Int)) := (hB.out.cell (p := ⟨b, o + k, none⟩) hbl).trans (hd ▸ hl k _ (List.getElem?_eq_getElem hlt))
            have HN : Hid (pieces C (K.take (k + 1)) = pieces C (K.take k) ++ piece C d) := by
              show _ = _
              rw [pieces_snoc C K hlt, hd]
            clear hl hd
            have h5 : d.toNat % 5 = 0 ∨ d.toNat % 5 = 1 ∨ d.toNat % 5 = 2 ∨ d.toNat % 5 = 3 ∨ d.toNat % 5 = 4 := by omega
            rcases h5 with h | h | h | h | h
            · have hr : (d.toNat : Int) % 5 = 0 := by omega
              have HQ : Hid (piece C d = [32]) := (piece_lit C d).1 h
              clear h
              go_wp2_with (first | (at_builtin; refine wpList_cat _ rfl (.tmp 124) (.tmp 125) rfl w3 w3.heap.size u11 (pieces C (K.take k)) rfl (hHd.out.alloc _) (some ⟨wr.heap.size, 0, none⟩) 1 1 [32] rfl rfl (cat_one wr 32) hlen (below_alloc hB.out hHd.out.2 _) ?_; intro v' w' HH HB))
              go_roundg (K.length - (k + 1))
              case rel => exact ⟨k + 1, rfl, by omega, by go_num, show Hd _ _ _ _ by rw [HN.out, HQ.out]; exact HH.out, HB⟩
              case measure => rw [HG.out]; omega
            · have hr : (d.toNat : Int) % 5 = 1 := by omega
              have HQ : Hid (piece C d = [9]) := (piece_lit C d).2.1 h
              clear h
              go_wp2_with (first | (at_builtin; refine wpList_cat _ rfl (.tmp 129) (.tmp 130) rfl w3 w3.heap.size u11 (pieces C (K.take k)) rfl (hHd.out.alloc _) (some ⟨wr.heap.size, 0, none⟩) 1 1 [9] rfl rfl (cat_one wr 9) hlen (below_alloc hB.out hHd.out.2 _) ?_; intro v' w' HH HB))
              go_roundg (K.length - (k + 1))
              case rel => exact ⟨k + 1, rfl, by omega, by go_num, show Hd _ _ _ _ by rw [HN.out, HQ.out]; exact HH.out, HB⟩
              case measure => rw [HG.out]; omega
            · have hr : (d.toNat : Int) % 5 = 2 := by omega
              have HQ : Hid (piece C d = [10]) := (piece_lit C d).2.2.1 h
              clear h
              go_wp2_with (first | (at_builtin; refine wpList_cat _ rfl (.tmp 134) (.tmp 135) rfl w3 w3.heap.size u11 (pieces C (K.take k)) rfl (hHd.out.alloc _) (some ⟨wr.heap.size, 0, none⟩) 1 1 [10] rfl rfl (cat_one wr 10) hlen (below_alloc hB.out hHd.out.2 _) ?_; intro v' w' HH HB))
              go_roundg (K.length - (k + 1))
              case rel => exact ⟨k + 1, rfl, by omega, by go_num, show Hd _ _ _ _ by rw [HN.out, HQ.out]; exact HH.out, HB⟩
              case measure => rw [HG.out]; omega
            · have hr : (d.toNat : Int) % 5 = 3 := by omega
              have HQ : Hid (piece C d = [13]) := (piece_lit C d).2.2.2.1 h
              clear h
              go_wp2_with (first | (at_builtin; refine wpList_cat _ rfl (.tmp 139) (.tmp 140) rfl w3 w3.heap.size u11 (pieces C (K.take k)) rfl (hHd.out.alloc _) (some ⟨wr.heap.size, 0, none⟩) 1 1 [13] rfl rfl (cat_one wr 13) hlen (below_alloc hB.out hHd.out.2 _) ?_; intro v' w' HH HB))
              go_roundg (K.length - (k + 1))
              case rel => exact ⟨k + 1, rfl, by omega, by go_num, show Hd _ _ _ _ by rw [HN.out, HQ.out]; exact HH.out, HB⟩
              case measure => rw [HG.out]; omega
            · have hr : (d.toNat : Int) % 5 = 4 := by omega
              have HQ : Hid (piece C d = 35 :: (C.filter (· != 10) ++ [10])) := (piece_lit C d).2.2.2.2 h
              clear h
              go_wp2_with (first | (at_builtin; refine wpList_cat _ rfl (.tmp 98) (.tmp 99) rfl w3 w3.heap.size u11 (pieces C (K.take k)) rfl (hHd.out.alloc _) (some ⟨wr.heap.size, 0, none⟩) 1 1 [35] rfl rfl (cat_one wr 35) hlen (below_alloc hB.out hHd.out.2 _) ?_; intro v1 w5 HH1 HB1))
              clear hHd hB ck
              go_loopg [11, 13] (C.length) (fun g v j wr2 => ∃ m : Nat, g = C.length - m ∧ m ≤ C.length ∧ j = .int .i64 (m : Int) ∧ Hid (Hd w3.heap.size wr2 v (pieces C (K.take k) ++ 35 :: (C.take m).filter (· != 10))) ∧ Hid (Below w3.heap.size w3 wr2))
              case atStart => exact ⟨0, rfl, Nat.zero_le _, rfl, show Hd _ _ _ _ by simpa using HH1.out, HB1⟩
              case round =>
                obtain ⟨m, hg2, hm, rfl, hHd2, hB2⟩ := hrel
                have HG2 : Hid (gk = C.length - m) := hg2
                have hfl := List.length_filter_le (· != 10) (C.take m)
                rw [List.length_take] at hfl
                have hlen2 : (pieces C (K.take k) ++ 35 :: (C.take m).filter (· != 10)).length + 1 ≤ 16777216 := by
                  rw [List.length_append, List.length_cons]
                  have := HFin.out
                  have := pieces_le C K k
                  omega
                clear hg2 HH1 HB1 hfl
                by_cases hlt2 : m < C.length
                · obtain ⟨bb, oo, rfl, hbl2, hl2, _⟩ := HS3.out.2.1.at hlt2
                  obtain ⟨f, hf⟩ : ∃ f, f = C[m] := ⟨_, rfl⟩
                  have ck2 : wr.cell? ⟨bb, oo + m, none⟩ = some (.int .u8 (f.toNat : Int)) := (hB2.out.cell (p := ⟨bb, oo + m, none⟩) hbl2).trans (hf ▸ hl2 m _ (List.getElem?_eq_getElem hlt2))
                  have HF : Hid ((C.take (m + 1)).filter (· != 10) = (C.take m).filter (· != 10) ++ [f].filter (· != 10)) := by
                    show _ = _
                    rw [List.take_succ_eq_append_getElem hlt2, List.filter_append, hf]
                  clear hl2 hf
                  by_cases h10 : f = 10
                  · subst h10
                    simp only [UInt8.reduceToNat] at ck2
                    go_wp2
                    go_roundg (C.length - (m + 1))
                    case rel => exact ⟨m + 1, rfl, by omega, by go_num, show Hd _ _ _ _ by rw [HF.out]; simpa using hHd2.out, hB2⟩
                    case measure => rw [HG2.out]; omega
                  · have n10 : ¬ (f.toNat : Int) = 10 := fun h => h10 (UInt8.toNat_inj.1 (by show f.toNat = 10; omega))
                    have HF1 : Hid ([f].filter (· != 10) = [f]) := by
                      show _ = _
                      simp [h10]
                    go_wp2_with (first | (at_builtin; refine wpList_cat _ rfl (.tmp 112) (.tmp 117) rfl w3 w3.heap.size u11 (pieces C (K.take k) ++ 35 :: (C.take m).filter (· != 10)) rfl (hHd2.out.alloc _) (some ⟨wr.heap.size, 0, none⟩) 1 1 [f] rfl rfl (cat_one wr f) hlen2 (below_alloc hB2.out hHd2.out.2 _) ?_; intro v' w' HH HB))
                    go_roundg (C.length - (m + 1))
                    case rel => exact ⟨m + 1, rfl, by omega, by go_num, show Hd _ _ _ _ by rw [HF.out, HF1.out, ← List.cons_append, ← List.append_assoc]; exact HH.out, HB⟩
                    case measure => rw [HG2.out]; omega
                · obtain rfl : m = C.length := by omega
                  rw [List.take_length] at hHd2 hlen2
                  go_wp2_with (first | (at_builtin; refine wpList_cat _ rfl (.tmp 119) (.tmp 120) rfl w3 w3.heap.size u11 (pieces C (K.take k) ++ 35 :: C.filter (· != 10)) rfl (hHd2.out.alloc _) (some ⟨wr.heap.size, 0, none⟩) 1 1 [10] rfl rfl (cat_one wr 10) hlen2 (below_alloc hB2.out hHd2.out.2 _) ?_; intro v' w' HH HB))
                  go_roundg (K.length - (k + 1))
                  case rel => exact ⟨k + 1, rfl, by omega, by go_num, show Hd _ _ _ _ by rw [HN.out, HQ.out, ← List.cons_append, ← List.append_assoc]; exact HH.out, HB⟩
                  case measure => rw [HG.out]; omega
          · obtain rfl : k = K.length := by omega
            rw [List.take_length] at hHd hlen
            obtain ⟨sb, cb, hvb, hcat, _⟩ := hHd.out.cat
            obtain ⟨P, hP⟩ : ∃ P, P = pieces C K := ⟨_, rfl⟩
            rw [← hP] at hvb hcat hlen
            have hPl : P.length + L.length ≤ 1048576 := by have := HFin.out; rw [← hP] at this; omega
            have HP : Hid (P = pieces C K) := hP
            have hs2 : Src wr b2 d2 L := by
              rcases HS3.out.2.2.1 with h | ⟨hc, b, o, e, hlt, hl⟩
              · exact .inl h
              · exact .inr ⟨hc, b, o, e, Nat.lt_of_lt_of_le hlt hB.out.size, fun i c hc => (hB.out.cell (p := ⟨b, o + i, none⟩) hlt).trans (hl i c hc)⟩
            have hbw : Below w.heap.size w wr := by
              have h3 := HS3.out.2.2.2
              exact ⟨hB.out.os.trans h3.os, hB.out.tape.trans h3.tape, hB.out.output.trans h3.output, Nat.le_trans h3.size hB.out.size, fun j hj => (hB.out.block j (Nat.lt_of_lt_of_le hj h3.size)).trans (h3.block j hj)⟩
            have hpd : p ≤ d2 := by
              rcases hs2 with h | ⟨hc, _⟩
              · rw [h] at hp; simp at hp; omega
              · omega
            have HX : Hid (Src wr b2 d2 L ∧ Cat wr sb P ∧ Below w.heap.size w wr ∧ (∀ ad, sb = some ad → P ≠ [] → ad.block < wr.heap.size)) := by
              refine ⟨hs2, hcat, hbw, fun ad e hP0 => ?_⟩
              have h := hHd.out.1.lt ad.block (by rw [hvb, e]; rfl)
              exact h.2
            subst hvb
            clear hs2 hcat hbw hB hHd hP HS3 HFin HCap hlen
            have HK1 : Hid (∀ w', Below wr.heap.size wr w' → Cat w' b2 (L.take p)) := fun w' hb => (HX.out.1.cat_take p).below hb (fun ad e hne => by
              rcases HX.out.1 with h | ⟨_, b, o, e2, hlt, _⟩
              · rw [h] at hne; simp at hne
              · rw [e2] at e; cases e; exact hlt)
            have HK2 : Hid (∀ w', Below wr.heap.size wr w' → Cat w' sb P) := fun w' hb => HX.out.2.1.below hb HX.out.2.2.2
            have HK3 : Hid (∀ w', Below wr.heap.size wr w' → Cat w' (b2.map (·.add p)) (L.drop p)) := fun w' hb => (HX.out.1.cat_drop p).below hb (fun ad e hne => by
              rcases HX.out.1 with h | ⟨_, b, o, e2, hlt, _⟩
              · rw [h] at hne; simp at hne
              · rw [e2] at e
                cases e
                have ea : ((⟨b, o, none⟩ : Addr).add p).block = b := by unfold Addr.add; split <;> rfl
                rw [ea]
                exact hlt)
            have ZS : Hid (∀ w', Below wr.heap.size wr w' → Calls Try.prog 21 #[.slice b2 L.length d2, .int .i64 (p : Int)] w' fun e w'' => e = .returned (.int .i64 (sk L p : Int)) ∧ Below w'.heap.size w' w'') := fun w' hb => zs_any b2 d2 L (by omega) p hp w' (HX.out.1.below hb)
            obtain ⟨T, hT⟩ : ∃ T, T = L.take p ++ (P ++ L.drop p) := ⟨_, rfl⟩
            have hTl : T.length = L.length + P.length := by
              rw [hT, List.length_append, List.length_append, List.length_take, List.length_drop]
              omega
            obtain ⟨r, hr⟩ : ∃ r, r = sk L p := ⟨_, rfl⟩
            have hrL : r ≤ L.length := hr ▸ sk_le hp
            have ZT : Hid (∀ (w' : World) st ct, Src w' st ct T → Calls Try.prog 21 #[.slice st (L.length + P.length) ct, .int .i64 (p : Int)] w' fun e w'' => e = .returned (.int .i64 ((r : Int) + (P.length : Int))) ∧ Below w'.heap.size w' w'') := fun w' st ct hs => by
              have h := zs_any st ct T (by omega) p (by omega) w' hs
              have e : sk T p = r + P.length := by rw [hT, hr, HP.out]; exact sk_cross C K L hp
              rw [e, hTl] at h
              exact h
            rw [← hr] at ZS
            have HTeq : Hid (([] ++ L.take p ++ P) ++ L.drop p = T) := by
              show _ = _
              rw [hT]
              simp
            have HBW : Hid (Below w.heap.size w wr) := HX.out.2.2.1
            have HCap2 : Hid ((L.length : Int) + (P.length : Int) = ((L.length + P.length : Nat) : Int)) := show _ = _ by omega
            have hl1 : ([] : List UInt8).length + (L.take p).length ≤ 16777216 := by rw [List.length_take]; simp; omega
            have hl2 : ([] ++ L.take p).length + P.length ≤ 16777216 := by simp; omega
            have hl3 : ([] ++ L.take p ++ P).length + (L.drop p).length ≤ 16777216 := by simp; omega
            have HLs : Hid ((([] : List UInt8).length + (L.take p).length ≤ 16777216) ∧ (([] ++ L.take p).length + P.length ≤ 16777216) ∧ (([] ++ L.take p ++ P).length + (L.drop p).length ≤ 16777216) ∧ p = (L.take p).length ∧ L.length - p = (L.drop p).length) := ⟨hl1, hl2, hl3, by rw [List.length_take]; omega, by rw [List.length_drop]⟩
            have hTl2 : Hid (T.length = L.length + P.length) := hTl
            have HE3 : Hid (d2 = p → L.drop p = []) := fun e => by
              rcases HX.out.1 with h | ⟨hc, _⟩
              · rw [h]; simp
              · exact List.drop_of_length_le (by omega)
            clear hl1 hl2 hl3 hT hTl hr HX HP
            have hpd' : (p : Int) ≤ (d2 : Int) := by omega
            by_cases hE : p = d2
            · have HK3' : Hid (∀ w', Cat w' b2 (L.drop p)) := fun w' => by rw [HE3.out hE.symm]; exact cat_empty w' b2
              subst hE
              go_wp2_with (first
                | (at_make; refine wpList_make_own _ rfl _ _ 25 rfl wr.heap.size 5 i0 (.int .u8 0) 1 Try.underlying25 hi hz0 hz1 .i64 .i64 _ (L.length + P.length) rfl rfl HCap2.out (by rw [hz2]; omega) (by unfold maxLen; omega) (Nat.le_refl _) ?_; intro w4 hown hgrow; have HT0 : Hid (Hd wr.heap.size w4 (.slice (some ⟨wr.heap.size, 0, none⟩) 0 (L.length + P.length)) []) := ⟨hown, hgrow.size⟩; have HB0 : Hid (Below wr.heap.size wr w4) := ⟨hgrow.os, hgrow.tape, hgrow.output, hgrow.size, fun k hk => hgrow.block k hk (fun e => by cases e)⟩; clear hown hgrow)
                | (at_builtin; refine wpList_cat _ rfl (.tmp 148) (.tmp 151) rfl wr wr.heap.size _ [] rfl HT0.out b2 p _ (L.take p) HLs.out.2.2.2.1 rfl (HK1.out _ HB0.out) HLs.out.1 HB0.out ?_; intro v5 w5 HT5 HB5)
                | (at_builtin; refine wpList_cat _ rfl (.tmp 153) (.tmp 154) rfl wr wr.heap.size v5 ([] ++ L.take p) rfl HT5.out sb P.length cb P rfl rfl (HK2.out _ HB5.out) HLs.out.2.1 HB5.out ?_; intro v6 w6 HT6 HB6)
                | (at_builtin; refine wpList_cat _ rfl (.tmp 156) (.tmp 159) rfl wr wr.heap.size v6 ([] ++ L.take p ++ P) rfl HT6.out _ (L.length - p) _ (L.drop p) HLs.out.2.2.2.2 rfl (HK3'.out _) HLs.out.2.2.1 HB6.out ?_; intro v7 w7 HT7 HB7))
              refine (ZS.out _ HB7.out).mono ?_
              rintro e w8 ⟨rfl, hb8⟩
              have HT8 : Hd wr.heap.size w8 v7 T := by
                have h := HT7.out
                rw [HTeq.out] at h
                exact h.below hb8
              obtain ⟨st, ct, hv7, _, hsrc⟩ := HT8.cat
              rw [hTl2.out] at hv7
              have H2 : Hid (Calls Try.prog 21 #[.slice st (L.length + P.length) ct, .int .i64 (p : Int)] w8 fun e w'' => e = .returned (.int .i64 ((r : Int) + (P.length : Int))) ∧ Below w8.heap.size w8 w'') := ZT.out w8 st ct hsrc
              have HB8 : Hid (Below w.heap.size w w8) := below_step (below_step HBW.out HB7.out) hb8
              subst hv7
              clear hb8 HT8 hsrc HT7 HT6 HT5 HT0 HB0 HB5 HB6 HB7 ZS ZT
              go_wp2_with fail
              refine H2.out.mono ?_
              rintro e w9 ⟨rfl, hb9⟩
              have HB9 : Hid (Below w.heap.size w w9) := below_step HB8.out hb9
              clear hb9 H2
              go_wp2
              go_ret
              exact ⟨rfl, HB9.out⟩
            · have hE' : ¬ d2 = p := fun h => hE h.symm
              clear hE
              go_wp2_with (first
                | (at_make; refine wpList_make_own _ rfl _ _ 25 rfl wr.heap.size 5 i0 (.int .u8 0) 1 Try.underlying25 hi hz0 hz1 .i64 .i64 _ (L.length + P.length) rfl rfl HCap2.out (by rw [hz2]; omega) (by unfold maxLen; omega) (Nat.le_refl _) ?_; intro w4 hown hgrow; have HT0 : Hid (Hd wr.heap.size w4 (.slice (some ⟨wr.heap.size, 0, none⟩) 0 (L.length + P.length)) []) := ⟨hown, hgrow.size⟩; have HB0 : Hid (Below wr.heap.size wr w4) := ⟨hgrow.os, hgrow.tape, hgrow.output, hgrow.size, fun k hk => hgrow.block k hk (fun e => by cases e)⟩; clear hown hgrow)
                | (at_builtin; refine wpList_cat _ rfl (.tmp 148) (.tmp 151) rfl wr wr.heap.size _ [] rfl HT0.out b2 p _ (L.take p) HLs.out.2.2.2.1 rfl (HK1.out _ HB0.out) HLs.out.1 HB0.out ?_; intro v5 w5 HT5 HB5)
                | (at_builtin; refine wpList_cat _ rfl (.tmp 153) (.tmp 154) rfl wr wr.heap.size v5 ([] ++ L.take p) rfl HT5.out sb P.length cb P rfl rfl (HK2.out _ HB5.out) HLs.out.2.1 HB5.out ?_; intro v6 w6 HT6 HB6)
                | (at_builtin; refine wpList_cat _ rfl (.tmp 156) (.tmp 159) rfl wr wr.heap.size v6 ([] ++ L.take p ++ P) rfl HT6.out _ (L.length - p) _ (L.drop p) HLs.out.2.2.2.2 rfl (HK3.out _ HB6.out) HLs.out.2.2.1 HB6.out ?_; intro v7 w7 HT7 HB7))
              refine (ZS.out _ HB7.out).mono ?_
              rintro e w8 ⟨rfl, hb8⟩
              have HT8 : Hd wr.heap.size w8 v7 T := by
                have h := HT7.out
                rw [HTeq.out] at h
                exact h.below hb8
              obtain ⟨st, ct, hv7, _, hsrc⟩ := HT8.cat
              rw [hTl2.out] at hv7
              have H2 : Hid (Calls Try.prog 21 #[.slice st (L.length + P.length) ct, .int .i64 (p : Int)] w8 fun e w'' => e = .returned (.int .i64 ((r : Int) + (P.length : Int))) ∧ Below w8.heap.size w8 w'') := ZT.out w8 st ct hsrc
              have HB8 : Hid (Below w.heap.size w w8) := below_step (below_step HBW.out HB7.out) hb8
              subst hv7
              clear hb8 HT8 hsrc HT7 HT6 HT5 HT0 HB0 HB5 HB6 HB7 ZS ZT
              go_wp2_with fail
              refine H2.out.mono ?_
              rintro e w9 ⟨rfl, hb9⟩
              have HB9 : Hid (Below w.heap.size w w9) := below_step HB8.out hb9
              clear hb9 H2
              go_wp2
              go_ret
              exact ⟨rfl, HB9.out⟩

end Go.Proofs.Qxb6001026a
