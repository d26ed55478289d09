/-
  appendLeading (23).
-/
import Derived.Test.Qxb6000821aBx
import Derived.Deep.Cut
import Derived.Deep.CutRange
import Derived.Deep.CutBlock
import Derived.Deep.RegionWith
import Derived.Deep.RegionHeld3
namespace Go.Proofs.Qxb6000821a
open Go.RowKit

/-- What appendLeading answers: n, same, whole, and the bytes behind dst's own. -/
def nOf (r : (List UInt8 × Int) × Bool) : Int := if 0 ≤ r.1.2 then r.1.2 else (r.1.1.length : Int)
def sameOf (r : (List UInt8 × Int) × Bool) : Bool := decide (0 ≤ r.1.2)
def bodyOf (r : (List UInt8 × Int) × Bool) : List UInt8 := if 0 ≤ r.1.2 then [] else r.1.1

/-- It came back: some slice that holds dst's bytes and the body; nothing else of w has turned but dst's own row. -/
def Led (B : Nat) (pre : List Value) (w : World) (v : Value) (r : (List UInt8 × Int) × Bool) (e : Ending) (w' : World) : Prop :=
  ∃ v', e = .returned (.tuple #[v', .int .i64 (nOf r), .bool (sameOf r), .bool r.2]) ∧ Holds B w' v' pre (bodyOf r) ∧ Moves w v w' v'

/-- The loop under way at place k. -/
def ALR (B bf : Nat) (T : UInt8 → UInt8) (sep opn cls : ByteArray) (pre : List Value) (nm : ByteArray) (aw : Bool) (w : World) (v : Value) (R : (List UInt8 × Int) × Bool) (k : Nat) (a c i : Value) (wr : World) : Prop :=
  ∃ (f : Nat) (st : List UInt8 × Int) (inForm : Bool) (v' : Value), a = .int .i64 st.2 ∧ c = .bool inForm ∧ i = .int .i64 (k : Int) ∧ (k = 0 ∨ k < nm.size) ∧ nm.size + 1 ≤ k + f ∧
    al nm.data.toList T sep.data.toList opn.data.toList cls.data.toList aw f st inForm k = R ∧ Fine nm.data.toList st k ∧ Bx w.heap.size B bf T sep opn cls pre w v wr v' st.1 (nOf (st, false)) (sameOf (st, false))

/-- At the loop's head n is at, or the length of what is written. -/
theorem n_head (st : List UInt8 × Int) : sameOf (st, false) = true ∨ (sameOf (st, false) = false ∧ ∃ n : Nat, nOf (st, false) = (n : Int) ∧ n ≤ st.1.length) := by
  unfold sameOf nOf
  by_cases h0 : 0 ≤ st.2
  · left; simpa using h0
  · right
    refine ⟨by simpa using h0, st.1.length, ?_, Nat.le_refl _⟩
    rw [if_neg h0]

/-- What cut answers at the loop's head. -/
theorem body_head (st : List UInt8 × Int) (b : Bool) : (if sameOf (st, false) then [] else st.1.take (nOf (st, false)).toNat) = bodyOf (st, b) := by
  unfold sameOf nOf bodyOf
  by_cases h0 : 0 ≤ st.2
  · simp [h0]
  · simp [h0]

theorem n_pre {st : List UInt8 × Int} {acc : List UInt8} (h : st.1 <+: acc) : sameOf (st, false) = true ∨ (sameOf (st, false) = false ∧ ∃ n : Nat, nOf (st, false) = (n : Int) ∧ n ≤ acc.length) := by
  rcases n_head st with h1 | ⟨h1, n, h2, h3⟩
  · exact .inl h1
  · exact .inr ⟨h1, n, h2, Nat.le_trans h3 h.length_le⟩

theorem body_pre {st : List UInt8 × Int} {acc : List UInt8} (h : st.1 <+: acc) (b : Bool) : (if sameOf (st, false) then [] else acc.take (nOf (st, false)).toNat) = bodyOf (st, b) := by
  unfold sameOf nOf bodyOf
  by_cases h0 : 0 ≤ st.2
  · simp [h0]
  · simp only [h0, decide_false, Bool.false_eq_true, if_false, Int.toNat_natCast]
    exact take_of_pre h

/-- Between two statements of a round: the spelling's place in a slot, its bytes in dst, the element in its box. -/
def Stg (B bf : Nat) (T : UInt8 → UInt8) (sep opn cls : ByteArray) (pre : List Value) (w : World) (v : Value) (eb : Nat) (X : ByteArray) (br : Bool) (nn : Int) (sm : Bool) (st : List UInt8 × Int) (a : Value) (wx : World) : Prop :=
  ∃ v1, a = .int .i64 st.2 ∧ Bx w.heap.size B bf T sep opn cls pre w v wx v1 st.1 nn sm ∧ wx.heap[eb]? = some (.cells #[.string X, .bool br] 45 (0, 0)) ∧ w.heap.size + 4 ≤ eb

/-- What dst's box reads behind a callee that made the slice grow. -/
theorem Bx.after {H B bf : Nat} {T : UInt8 → UInt8} {sep opn cls : ByteArray} {pre : List Value} {w : World} {v : Value} {wr w2 : World} {v' v2 : Value} {acc : List UInt8} {nn : Int} {sm : Bool}
    (h : Bx H B bf T sep opn cls pre w v wr v' acc nn sm) (hv : ∀ k, some k = v.ownBlock → k < H) (hm : Moves wr v' w2 v2) : w2.cell? ⟨H, 0, none⟩ = some v' ∧ w2.frozen? ⟨H, 0, none⟩ = false := by
  have hs := h.fr.size
  have ne : some H ≠ v'.ownBlock := by
    intro e
    rcases h.fr.own with o | ⟨g, o, hg⟩
    · have := hv H (e.trans o); omega
    · rw [o] at e; cases e; omega
  have bd := (hm.block H (by omega) ne).trans h.dst
  exact ⟨cell_one bd, free_one bd⟩

theorem Holds.drew {B : Nat} {w : World} {v : Value} {pre : List Value} {l : List UInt8} (h : Holds B w v pre l) : Holds B w.drew v pre l := h

/-- The element's box behind a callee, and behind a store into dst's box. -/
theorem eb_after {B : Nat} {wr w2 : World} {v' v2 : Value} {pre : List Value} {acc : List UInt8} {eb H : Nat} {X : ByteArray} {br : Bool} (h : Holds B wr v' pre acc) (hm : Moves wr v' w2 v2) (he : wr.heap[eb]? = some (.cells #[.string X, .bool br] 45 (0, 0))) (hne : eb ≠ H) (u : Value) : (w2.setCell ⟨H, 0, none⟩ u).heap[eb]? = some (.cells #[.string X, .bool br] 45 (0, 0)) := by
  rw [Below.heap_setCell _ _ _ _ hne]
  exact (hm.block eb (Array.getElem?_eq_some_iff.1 he).1 (h.ne he (by decide))).trans he

theorem not_both {q a : Bool} (h : ¬ (q = false ∧ a = false)) : (!q && !a) = false := by revert h; cases q <;> cases a <;> decide

theorem Moves.own_eq {w w' : World} {v u v' : Value} (h : Moves w u w' v') (e : v.ownBlock = u.ownBlock) : Moves w v w' v' :=
  ⟨h.os, h.tape, h.output, h.size, fun k hk hne => h.block k hk (by rw [← e]; exact hne), by rw [e]; exact h.own⟩

set_option maxHeartbeats 2000000 in
set_option maxRecDepth 100000 in
theorem al_any (B bf : Nat) (v : Value) (pre : List Value) (nm : ByteArray) (aw : Bool) (T : UInt8 → UInt8) (sep opn cls : ByteArray) (h1 : sep.size ≤ 1) (h2 : opn.size ≤ 1) (h3 : cls.size ≤ 1) (hs : nm.size ≤ 1048576) (hpre : pre.length ≤ 1048576) (w : World) (hh : Holds B w v pre []) (hfm : Form w bf T sep opn cls) :
    Calls Try.prog 23 #[.pointer (some ⟨bf, 0, none⟩), v, .string nm, .bool aw] w (Led B pre w v (al nm.data.toList T sep.data.toList opn.data.toList cls.data.toList aw (nm.size + 1) ([], 0) true 0)) := by
  obtain ⟨ao, cap, rfl, hcap⟩ := hh.slice
  obtain ⟨R, hR⟩ : ∃ R, al nm.data.toList T sep.data.toList opn.data.toList cls.data.toList aw (nm.size + 1) ([], 0) true 0 = R := ⟨_, rfl⟩
  rw [hR]
  have HR : Hid (al nm.data.toList T sep.data.toList opn.data.toList cls.data.toList aw (nm.size + 1) ([], 0) true 0 = R) := hR
  have HB : Hid (Bx w.heap.size B bf T sep opn cls pre w (.slice ao pre.length cap) _ (.slice ao pre.length cap) [] 0 true) := bx_start hh hfm
  have HV : Hid (∀ k, some k = (Value.slice ao pre.length cap).ownBlock → k < w.heap.size) := fun k hk => hh.lt hk
  have h123 : Hid (sep.size ≤ 1 ∧ opn.size ≤ 1 ∧ cls.size ≤ 1) := ⟨h1, h2, h3⟩
  clear hR hh hfm h1 h2 h3
  simp only [List.length_nil, Nat.add_zero] at hcap ⊢
  go_enter Try.func23, Try.ntmps23
  go_wp2
  go_loopg [13, 15, 16] (nm.size + 1) (fun g a c i wr => ∃ k : Nat, g = nm.size + 1 - k ∧ ALR B bf T sep opn cls pre nm aw w (.slice ao pre.length cap) R k a c i wr)
  case atStart => exact ⟨0, rfl, nm.size + 1, ([], 0), true, _, rfl, rfl, rfl, .inl rfl, by omega, HR.out, ⟨by decide, fun _ => rfl, by simp, Nat.zero_le _⟩, HB.out⟩
  case round =>
    obtain ⟨k, hg, f, st, inForm, v', rfl, rfl, rfl, hk, hkf, hal, hfine, hbx⟩ := hrel
    have HG : Hid (gk = nm.size + 1 - k) := hg
    obtain ⟨f, rfl⟩ : ∃ f', f = f' + 1 := ⟨f - 1, by omega⟩
    have hst1 : st.1.length ≤ k := by have := hfine.2.2.1; omega
    clear hg HB HR
    cases hE : nextE nm.data.toList k with
    | none =>
      have hal2 := hal
      unfold al at hal2
      rw [hE] at hal2
      have HX : Hid ((st, false) = R) := hal2
      have HC : Hid (Calls Try.prog 28 #[.string nm, .int .i64 (k : Int)] wr (Elem nm none wr)) := by have h := ne_any nm k hs wr; rw [hE] at h; exact h
      have HBX : Hid (Bx w.heap.size B bf T sep opn cls pre w (.slice ao pre.length cap) wr v' st.1 (nOf (st, false)) (sameOf (st, false)) ∧ Fine nm.data.toList st k) := ⟨hbx, hfine⟩
      clear hal hal2 hE hbx hfine
      go_wp2_with (first | (go_at_call 28; refine HC.out.mono ?_; rintro e w1 ⟨rfl, hb⟩; have HB1 : Hid (Below wr.heap.size wr w1) := hb; clear hb; simp only [elemV]))
      have hbx2 := (HBX.out.1.below HB1.out).alloc (.cells #[.string ⟨#[]⟩, .bool false] 45)
      refine (cut_bx hbx2 false (n_head st) (by omega)).mono ?_
      rintro e w2 ⟨ao2, l2, cap2, m2, rfl, rfl, hr, ho⟩
      have cn := cell_one hbx2.n
      have fn := free_one hbx2.n
      have cs : (w1.alloc (.cells #[.string ⟨#[]⟩, .bool false] 45)).cell? ⟨w.heap.size + 1 + 1, 0, none⟩ = _ := cell_one hbx2.same
      have fs : (w1.alloc (.cells #[.string ⟨#[]⟩, .bool false] 45)).frozen? ⟨w.heap.size + 1 + 1, 0, none⟩ = _ := free_one hbx2.same
      rw [body_head st false] at hr
      have H2 : Hid (Bx w.heap.size B bf T sep opn cls pre w (.slice ao pre.length cap) (w1.alloc (.cells #[.string ⟨#[]⟩, .bool false] 45)) v' st.1 (nOf (st, false)) (sameOf (st, false)) ∧ Holds B (w1.alloc (.cells #[.string ⟨#[]⟩, .bool false] 45)) (.slice ao2 l2 cap2) pre (bodyOf (st, false)) ∧ (Value.slice ao2 l2 cap2).ownBlock = v'.ownBlock) := ⟨hbx2, hr, ho⟩
      clear hbx2 hr ho
      go_wp2
      rw [← HX.out]
      refine bodyPost_ret (v := .tuple #[.slice ao2 l2 cap2, .int .i64 (nOf (st, false)), .bool (sameOf (st, false)), .bool false]) (by simp [results, Try.results23, go_sem, cn, cs]) rfl ⟨_, rfl, ?_, ?_⟩
      · exact ((H2.out.2.1.drewN m2).set (H2.out.1.drewN m2).n (by decide) 0 _).set ((H2.out.1.drewN m2).setN _).same (by decide) 0 _
      · exact (((H2.out.1.drewN m2).setN _).setSame _).moves H2.out.2.2
    | some r =>
      obtain ⟨⟨a, b⟩, br, next⟩ := r
      obtain ⟨na, nb, nc, nd, ne, nf⟩ := nextE_fine hE
      rw [← Lib.size_eq] at nb nc
      obtain ⟨X, hX⟩ : ∃ X, X = nm.extract a b := ⟨_, rfl⟩
      have hXs : X.size = b - a := by rw [hX]; simp; omega
      have hXd : X.data.toList = cutE nm.data.toList (a, b) := by rw [hX, Lib.extract_data]; rfl
      have HC : Hid (Calls Try.prog 28 #[.string nm, .int .i64 (k : Int)] wr fun e w1 => e = .returned (.tuple #[.agg #[.string X, .bool br], .int .i64 (next : Int), .bool true]) ∧ Below wr.heap.size wr w1) := by have h := ne_any nm k hs wr; rw [hE] at h; rw [hX]; exact h
      obtain ⟨st1, hst⟩ : ∃ st1, st1 = (if br then spS nm.data.toList st opn.data.toList else if 0 < k then spS nm.data.toList st sep.data.toList else st) := ⟨_, rfl⟩
      have HST : Hid (st1 = (if br then spS nm.data.toList st opn.data.toList else if 0 < k then spS nm.data.toList st sep.data.toList else st)) := hst
      have HBX : Hid (Bx w.heap.size B bf T sep opn cls pre w (.slice ao pre.length cap) wr v' st.1 (nOf (st, false)) (sameOf (st, false)) ∧ Fine nm.data.toList st k) := ⟨hbx, hfine⟩
      have HAL : Hid (al nm.data.toList T sep.data.toList opn.data.toList cls.data.toList aw (f + 1) st inForm k = R ∧ nextE nm.data.toList k = some ((a, b), br, next)) := ⟨hal, hE⟩
      have HN : Hid ((if 0 < k then a = k + 1 else a = k) ∧ (if br then 0 < k ∧ next = b + 1 else next = b) ∧ X.size = b - a ∧ X.data.toList = cutE nm.data.toList (a, b)) := ⟨ne, nf, hXs, hXd⟩
      clear hal hE hbx hfine hX hXs hXd hst ne nf
      go_upto_block 2 with (first | (go_at_call 28; refine HC.out.mono ?_; rintro e w1 ⟨rfl, hb⟩; have HB1 : Hid (Below wr.heap.size wr w1) := hb; clear hb))
      have HZ : Hid (Bx w.heap.size B bf T sep opn cls pre w (.slice ao pre.length cap) (w1.alloc (.cells #[.string X, .bool br] 45)) v' st.1 (nOf (st, false)) (sameOf (st, false))) := (HBX.out.1.below HB1.out).alloc _
      have hw1 : w.heap.size + 4 ≤ w1.heap.size := Nat.le_trans HBX.out.1.fr.size HB1.out.size
      go_cut [13] from 25 to 134 (fun s wx => Stg B bf T sep opn cls pre w (.slice ao pre.length cap) w1.heap.size X br (nOf (st, false)) (sameOf (st, false)) st1 s wx)
      case first =>
        have cd := cell_one HZ.out.dst
        have fd := free_one HZ.out.dst
        cases br with
        | true =>
          have co := HZ.out.form.opn
          have hk0 : k + opn.size ≤ nm.size := by have h1 := h123.out.2.1; have h2 := HN.out.2.1; simp at h2; omega
          go_wp2
          go_region_with ((go_at_call 29; refine (ss_any B v' pre st nm opn k HBX.out.2 hk0 hs hpre _ (Holds.drew HZ.out.holds)).mono ?_; rintro e w2 ⟨v2, rfl, hh2, hm2⟩; obtain ⟨ao2, cap2, hv2, _⟩ := hh2.slice; rw [hv2]; obtain ⟨cd2, fd2⟩ := (Bx.drew HZ.out).after HV.out hm2; clear cd fd))
          all_goals
            go_wp2
            go_meet
            case rel =>
              have hS := (Bx.drew HZ.out).stored HV.out hm2 hh2
              have hE2 := eb_after (H := w.heap.size) HZ.out.holds.drew hm2 (Deep.blk_alloc_new w1 _) (by omega) v2
              rw [hv2] at hS hE2
              exact ⟨_, by rw [HST.out]; rfl, by rw [HST.out]; exact hS, hE2, by omega⟩
        | false =>
          by_cases h0 : 0 < k
          · have h0' : (0 : Int) < (k : Int) := by omega
            have cp := HZ.out.form.sep
            have hk0 : k + sep.size ≤ nm.size := by have h1 := h123.out.1; omega
            go_wp2
            go_region_with ((go_at_call 29; refine (ss_any B v' pre st nm sep k HBX.out.2 hk0 hs hpre _ (Holds.drew HZ.out.holds)).mono ?_; rintro e w2 ⟨v2, rfl, hh2, hm2⟩; obtain ⟨ao2, cap2, hv2, _⟩ := hh2.slice; rw [hv2]; obtain ⟨cd2, fd2⟩ := (Bx.drew HZ.out).after HV.out hm2; clear cd fd))
            all_goals
              go_wp2
              go_meet
              case rel =>
                have hS := (Bx.drew HZ.out).stored HV.out hm2 hh2
                have hE2 := eb_after (H := w.heap.size) HZ.out.holds.drew hm2 (Deep.blk_alloc_new w1 _) (by omega) v2
                rw [hv2] at hS hE2
                have e : st1 = spS nm.data.toList st sep.data.toList := by rw [HST.out, if_neg (by decide), if_pos h0]
                exact ⟨_, by rw [e], by rw [e]; exact hS, hE2, by omega⟩
          · obtain rfl : k = 0 := by omega
            go_wp2
            go_meet
            case rel =>
              have e : st1 = st := by rw [HST.out, if_neg (by decide), if_neg (by decide)]
              exact ⟨v', by rw [e], by rw [e]; exact HZ.out, Deep.blk_alloc_new w1 _, by omega⟩
      case rest =>
        obtain ⟨v1, rfl, hbx1, heb1, hebH⟩ := hcut
        obtain ⟨ao1, cap1, hv1, hc1⟩ := hbx1.holds.slice
        have hfa : Fine nm.data.toList st1 a := by
          rw [HST.out]
          have hf0 := HBX.out.2
          have h := HN.out
          have h4 := h123.out
          cases br with
          | true =>
            simp only [if_true] at h ⊢
            have h5 := h.2.1.1
            rw [if_pos h5] at h
            exact fine_mono (fine_spS hf0 (by rw [← Lib.size_eq, ← Lib.size_eq]; omega)) (by rw [← Lib.size_eq]; omega) (by rw [← Lib.size_eq]; omega)
          | false =>
            simp only [Bool.false_eq_true, if_false] at h ⊢
            by_cases h0 : 0 < k
            · rw [if_pos h0] at h ⊢
              exact fine_mono (fine_spS hf0 (by rw [← Lib.size_eq, ← Lib.size_eq]; omega)) (by rw [← Lib.size_eq]; omega) (by rw [← Lib.size_eq]; omega)
            · rw [if_neg h0] at h ⊢
              exact fine_mono hf0 (by omega) (by rw [← Lib.size_eq]; omega)
        have hXs := HN.out.2.2.1
        have hst1l : st1.1.length ≤ a := by have := hfa.2.2.1; omega
        have HT : Hid (Calls Try.prog 30 #[.pointer (some ⟨bf, 0, none⟩), v1, .int .i64 st1.2, .string nm, .agg #[.string X, .bool br]] wc (SpelledT B pre wc v1 (spT nm.data.toList T st1 X.data.toList br))) :=
          st_any B bf v1 pre st1 nm X br T sep opn cls a hfa (by omega) hs hpre wc hbx1.holds hbx1.form
        obtain ⟨t, ht⟩ : ∃ t, t = spT nm.data.toList T st1 X.data.toList br := ⟨_, rfl⟩
        rw [← ht] at HT
        have hft : Fine nm.data.toList t.1 b := by
          have h := fine_spT (T := T) (s := X.data.toList) (br := br) hfa (by rw [← Lib.size_eq, ← Lib.size_eq]; omega)
          rw [← ht] at h
          exact fine_mono h (by rw [← Lib.size_eq]; omega) (by rw [← Lib.size_eq]; omega)
        have hpt : st1.1 <+: t.1.1 := by rw [ht]; exact pre_spT
        have HTT : Hid (t = spT nm.data.toList T st1 X.data.toList br) := ht
        have H1 : Hid (Bx w.heap.size B bf T sep opn cls pre w (.slice ao pre.length cap) wc v1 st1.1 (nOf (st, false)) (sameOf (st, false)) ∧ wc.heap[w1.heap.size]? = some (.cells #[.string X, .bool br] 45 (0, 0)) ∧ Fine nm.data.toList st1 a ∧ Fine nm.data.toList t.1 b ∧ st1.1 <+: t.1.1) := ⟨hbx1, heb1, hfa, hft, hpt⟩
        have cd := cell_one hbx1.dst
        have fd := free_one hbx1.dst
        have ce0 : wc.cell? ⟨w1.heap.size, 0, none⟩ = some (.string X) := by simp [World.cell?, heb1]
        have ce1 : wc.cell? ⟨w1.heap.size, 1, none⟩ = some (.bool br) := by simp [World.cell?, heb1]
        rw [hv1] at cd HT
        have HV1 : Hid (v1 = .slice ao1 (pre.length + st1.1.length) cap1) := hv1
        clear hbx1 heb1 hfa hft hpt ht hv1 HZ HBX HB1 HC
        go_upto_if 82 with (first | (go_at_call 30; refine HT.out.mono ?_; rintro e w2 ⟨v2, rfl, hh2, hm2⟩; obtain ⟨ao2, cap2, hv2, hc2⟩ := hh2.slice; rw [hv2]; obtain ⟨cd2, fd2⟩ := H1.out.1.after HV.out (HV1.out ▸ hm2); clear cd fd))
        have hm2' : Moves wc v1 w2 v2 := by rw [HV1.out]; exact hm2
        have hY := H1.out.1.stored HV.out hm2' hh2
        have heY := eb_after (H := w.heap.size) H1.out.1.holds hm2' H1.out.2.1 (by omega) v2
        rw [hv2] at hY heY
        obtain ⟨Y, hYd⟩ : ∃ Y : World, Y = w2.setCell ⟨w.heap.size, 0, none⟩ (.slice ao2 (pre.length + t.1.1.length) cap2) := ⟨_, rfl⟩
        rw [← hYd] at hY heY ⊢
        have HY : Hid (Bx w.heap.size B bf T sep opn cls pre w (.slice ao pre.length cap) Y (.slice ao2 (pre.length + t.1.1.length) cap2) t.1.1 (nOf (st, false)) (sameOf (st, false)) ∧ Y.heap[w1.heap.size]? = some (.cells #[.string X, .bool br] 45 (0, 0))) := ⟨hY, heY⟩
        obtain ⟨st3, hst3⟩ : ∃ st3, st3 = (if t.2 then t.1 else spS nm.data.toList st1 X.data.toList) := ⟨_, rfl⟩
        have HST3 : Hid (st3 = (if t.2 then t.1 else spS nm.data.toList st1 X.data.toList)) := hst3
        have htl : t.1.1.length ≤ b := by have := H1.out.2.2.2.1.2.2.1; omega
        have HPS : Hid (st.1 <+: t.1.1) := by
          refine List.IsPrefix.trans ?_ H1.out.2.2.2.2
          rw [HST.out]
          split
          · exact pre_spS
          · split
            · exact pre_spS
            · exact List.prefix_refl _
        clear hY heY hYd hst3 hm2 hm2' hh2 hv2 HT cd2 fd2 ce0 ce1
        go_cut [13, 15, 19] from 25 to 134 (fun s c _ wx => Stg B bf T sep opn cls pre w (.slice ao pre.length cap) w1.heap.size X br (nOf (st, false)) (sameOf (st, false)) st3 s wx ∧ c = .bool (inForm && t.2) ∧ Hid (¬ (t.2 = false ∧ aw = false)))
        case first =>
          cases ht2 : t.2
          · cases aw with
            | false =>
              have HX : Hid ((st, false) = R) := by
                have h := HAL.out.1
                rw [al_step HAL.out.2 HST.out HN.out.2.2.2, ← HTT.out, ht2] at h
                exact h
              go_wp2_with fail
              refine (cut_bx HY.out.1 false (n_pre HPS.out) (by omega)).mono ?_
              rintro e w3 ⟨ao3, l3, cap3, m3, rfl, rfl, hr, ho⟩
              rw [body_pre HPS.out false] at hr
              have cn := cell_one HY.out.1.n
              have fn := free_one HY.out.1.n
              have cs : Y.cell? ⟨w.heap.size + 1 + 1, 0, none⟩ = _ := cell_one HY.out.1.same
              have fs : Y.frozen? ⟨w.heap.size + 1 + 1, 0, none⟩ = _ := free_one HY.out.1.same
              have H3 : Hid (Holds B Y (.slice ao3 l3 cap3) pre (bodyOf (st, false)) ∧ (Value.slice ao3 l3 cap3).ownBlock = (Value.slice ao2 (pre.length + t.1.1.length) cap2).ownBlock) := ⟨hr, ho⟩
              clear hr ho
              go_wp2
              rw [← HX.out]
              refine bodyPost_ret (v := .tuple #[.slice ao3 l3 cap3, .int .i64 (nOf (st, false)), .bool (sameOf (st, false)), .bool false]) (by simp [results, Try.results23, go_sem, cn, cs]) rfl ⟨_, rfl, ?_, ?_⟩
              · exact ((H3.out.1.drewN m3).set (HY.out.1.drewN m3).n (by decide) 0 _).set ((HY.out.1.drewN m3).setN _).same (by decide) 0 _
              · exact (((HY.out.1.drewN m3).setN _).setSame _).moves H3.out.2
            | true =>
              have hcut1 := HY.out.1.holds.cut (k := st1.1.length) H1.out.2.2.2.2.length_le
              rw [take_of_pre H1.out.2.2.2.2] at hcut1
              have cd := cell_one HY.out.1.dst
              have fd := free_one HY.out.1.dst
              have ce0 : Y.cell? ⟨w1.heap.size, 0, none⟩ = some (.string X) := by simp [World.cell?, HY.out.2]
              have hb1 : (pre.length : Int) + (st1.1.length : Int) ≤ (cap2 : Int) := by have := H1.out.2.2.2.2.length_le; omega
              have hb0 : (0 : Int) ≤ (pre.length : Int) + (st1.1.length : Int) := by omega
              have HC1 : Hid (Holds B Y (.slice ao2 (pre.length + st1.1.length) cap2) pre st1.1) := hcut1
              have hbX : a + X.size ≤ nm.size := by have := HN.out.2.2.1; omega
              have ho2 : (Value.slice ao2 (pre.length + t.1.1.length) cap2).ownBlock = (Value.slice ao2 (pre.length + st1.1.length) cap2).ownBlock := by cases ao2 <;> rfl
              clear hcut1
              go_wp2
              go_region_with ((go_at_call 29; refine (ss_any B (.slice ao2 (pre.length + st1.1.length) cap2) pre st1 nm X a H1.out.2.2.1 hbX hs hpre _ (Holds.drew HC1.out)).mono ?_; rintro e w3 ⟨v3, rfl, hh3, hm3⟩; have hm4 := hm3.own_eq ho2; obtain ⟨ao3, cap3, hv3, _⟩ := hh3.slice; rw [hv3]; obtain ⟨cd3, fd3⟩ := (Bx.drew HY.out.1).after HV.out hm4; clear cd fd))
              all_goals
                go_wp2
                go_meet
                case rel =>
                  have hS := (Bx.drew HY.out.1).stored HV.out hm4 hh3
                  have hE2 := eb_after (H := w.heap.size) HY.out.1.holds.drew hm4 HY.out.2 (by omega) v3
                  rw [hv3] at hS hE2
                  have e3 : st3 = spS nm.data.toList st1 X.data.toList := by rw [HST3.out, ht2]; rfl
                  exact ⟨⟨_, by rw [e3], by rw [e3]; exact hS, hE2, hebH⟩, by simp [ht2], fun h => by cases h.2⟩
          · go_wp2
            go_meet
            case rel => exact ⟨⟨_, by rw [HST3.out, ht2]; rfl, by rw [HST3.out, ht2]; exact HY.out.1, HY.out.2, hebH⟩, by simp [ht2], fun h => by rw [ht2] at h; cases h.1⟩
        case rest =>
          obtain ⟨⟨v3, rfl, hbx3, heb3, _⟩, rfl, hnr⟩ := hcut
          have hf3 : Fine nm.data.toList st3 b := by
            rw [HST3.out]
            split
            · exact H1.out.2.2.2.1
            · have h := HN.out.2.2.1
              exact fine_mono (fine_spS H1.out.2.2.1 (by rw [← Lib.size_eq, ← Lib.size_eq]; omega)) (by rw [← Lib.size_eq]; omega) (by rw [← Lib.size_eq]; omega)
          obtain ⟨ao3, cap3, hv3, hc3⟩ := hbx3.holds.slice
          have HB3 : Hid (Bx w.heap.size B bf T sep opn cls pre w (.slice ao pre.length cap) wc v3 st3.1 (nOf (st, false)) (sameOf (st, false)) ∧ wc.heap[w1.heap.size]? = some (.cells #[.string X, .bool br] 45 (0, 0)) ∧ Fine nm.data.toList st3 b) := ⟨hbx3, heb3, hf3⟩
          have HV3 : Hid (v3 = .slice ao3 (pre.length + st3.1.length) cap3) := hv3
          have ce1 : wc.cell? ⟨w1.heap.size, 1, none⟩ = some (.bool br) := by simp [World.cell?, heb3]
          obtain ⟨st4, hst4⟩ : ∃ st4, st4 = (if br then spS nm.data.toList st3 cls.data.toList else st3) := ⟨_, rfl⟩
          have HST4 : Hid (st4 = (if br then spS nm.data.toList st3 cls.data.toList else st3)) := hst4
          have hst3l : st3.1.length ≤ b := by have := hf3.2.2.1; omega
          clear hbx3 heb3 hf3 hv3 hst4
          go_upto_if 103 with fail
          clear ce1
          go_cut [13] from 25 to 134 (fun s wx => Stg B bf T sep opn cls pre w (.slice ao pre.length cap) w1.heap.size X br (nOf (st, false)) (sameOf (st, false)) st4 s wx)
          case first =>
            cases br with
            | true =>
              have cc := HB3.out.1.form.cls
              have cd := cell_one HB3.out.1.dst
              have fd := free_one HB3.out.1.dst
              have hk0 : b + cls.size ≤ nm.size := by have h1 := h123.out.2.2; have h2 := HN.out.2.1; simp at h2; omega
              go_wp2
              go_region_with ((go_at_call 29; refine (ss_any B v3 pre st3 nm cls b HB3.out.2.2 hk0 hs hpre _ (Holds.drew HB3.out.1.holds)).mono ?_; rintro e w5 ⟨v5, rfl, hh5, hm5⟩; obtain ⟨ao5, cap5, hv5, _⟩ := hh5.slice; rw [hv5]; obtain ⟨cd5, fd5⟩ := (Bx.drew HB3.out.1).after HV.out hm5; clear cd fd))
              all_goals
                go_wp2
                go_meet
                case rel =>
                  have hS := (Bx.drew HB3.out.1).stored HV.out hm5 hh5
                  have hE2 := eb_after (H := w.heap.size) HB3.out.1.holds.drew hm5 HB3.out.2.1 (by omega) v5
                  rw [hv5] at hS hE2
                  have e4 : st4 = spS nm.data.toList st3 cls.data.toList := by rw [HST4.out]; rfl
                  exact ⟨_, by rw [e4], by rw [e4]; exact hS, hE2, hebH⟩
            | false =>
              go_wp2
              go_meet
              case rel =>
                have e4 : st4 = st3 := by rw [HST4.out]; rfl
                exact ⟨v3, by rw [e4], by rw [e4]; exact HB3.out.1, HB3.out.2.1, hebH⟩
          case rest =>
            obtain ⟨v4, rfl, hbx4, heb4, _⟩ := hcut
            have hf4 : Fine nm.data.toList st4 next := by
              rw [HST4.out]
              have h := HN.out.2.1
              have h3 := h123.out.2.2
              cases br with
              | true =>
                simp only [if_true] at h ⊢
                exact fine_mono (fine_spS HB3.out.2.2 (by rw [← Lib.size_eq, ← Lib.size_eq]; omega)) (by rw [← Lib.size_eq]; omega) (by rw [← Lib.size_eq]; omega)
              | false =>
                simp only [Bool.false_eq_true, if_false] at h ⊢
                exact fine_mono HB3.out.2.2 (by omega) (by rw [← Lib.size_eq]; omega)
            have HR4 : Hid (R = if next = nm.size then (st4, inForm && t.2) else al nm.data.toList T sep.data.toList opn.data.toList cls.data.toList aw f st4 (inForm && t.2) next) := by
              have h := HAL.out.1
              rw [al_step HAL.out.2 HST.out HN.out.2.2.2, ← HTT.out, ← HST3.out, ← HST4.out, ← Lib.size_eq] at h
              rw [not_both hnr.out] at h
              exact h.symm
            obtain ⟨ao4, cap4, hv4, hc4⟩ := hbx4.holds.slice
            have hst4l : st4.1.length ≤ next := by have := hf4.2.2.1; omega
            have cd : wc.cell? ⟨w.heap.size, 0, none⟩ = some (.slice ao4 (pre.length + st4.1.length) cap4) := by rw [← hv4]; exact cell_one hbx4.dst
            have cn := cell_one hbx4.n
            have fn := free_one hbx4.n
            have cs : wc.cell? ⟨w.heap.size + 1 + 1, 0, none⟩ = _ := cell_one hbx4.same
            have fs : wc.frozen? ⟨w.heap.size + 1 + 1, 0, none⟩ = _ := free_one hbx4.same
            have ct : wc.cell? ⟨w.heap.size + 1 + 1 + 1, 0, none⟩ = _ := cell_one hbx4.start
            have hm4 : -1 ≤ st4.2 ∧ st4.2 ≤ 1048576 := ⟨hf4.1, by have := hf4.2.2.1; omega⟩
            obtain ⟨hm4a, hm4b⟩ := hm4
            have H4 : Hid (Bx w.heap.size B bf T sep opn cls pre w (.slice ao pre.length cap) wc v4 st4.1 (nOf (st, false)) (sameOf (st, false)) ∧ Fine nm.data.toList st4 next) := ⟨hbx4, hf4⟩
            have HV4 : Hid (v4 = .slice ao4 (pre.length + st4.1.length) cap4) := hv4
            clear hbx4 heb4 hf4 hv4 HB3 HV3 HV1 H1 HST HST3 HST4 HTT HAL hnr
            by_cases hsg : 0 ≤ st4.2
            · have hn4 : nOf (st4, false) = st4.2 := by unfold nOf; rw [if_pos hsg]
              have hs4 : sameOf (st4, false) = true := by unfold sameOf; simpa using hsg
              by_cases hl : next = nm.size
              · have hl' : (next : Int) = (nm.size : Int) := by omega
                go_wp2_with fail
                have hq := (H4.out.1.setSame true).setN st4.2
                rw [HV4.out] at hq
                refine (cut_bx hq (inForm && t.2) (.inl rfl) (by omega)).mono ?_
                rintro e w5 ⟨ao5, l5, cap5, m5, rfl, rfl, hr, ho⟩
                have hb5 := body_head st4 (inForm && t.2)
                rw [hn4, hs4] at hb5
                rw [hb5] at hr
                obtain ⟨Z, hZ⟩ : ∃ Z : World, Z = (wc.setCell ⟨w.heap.size + 1 + 1, 0, none⟩ (.bool true)).setCell ⟨w.heap.size + 1, 0, none⟩ (.int .i64 st4.2) := ⟨_, rfl⟩
                rw [← hZ]
                have hq' : Bx w.heap.size B bf T sep opn cls pre w (.slice ao pre.length cap) Z _ _ _ _ := hZ ▸ hq
                have hr' : Holds B Z _ _ _ := hZ ▸ hr
                clear hq hr cd cn fn cs fs ct
                have cn := cell_one hq'.n
                have fn := free_one hq'.n
                have cs : Z.cell? ⟨w.heap.size + 1 + 1, 0, none⟩ = _ := cell_one hq'.same
                have fs : Z.frozen? ⟨w.heap.size + 1 + 1, 0, none⟩ = _ := free_one hq'.same
                have H5 : Hid (Bx w.heap.size B bf T sep opn cls pre w (.slice ao pre.length cap) Z (.slice ao4 (pre.length + st4.1.length) cap4) st4.1 st4.2 true ∧ Holds B Z (.slice ao5 l5 cap5) pre (bodyOf (st4, inForm && t.2)) ∧ (Value.slice ao5 l5 cap5).ownBlock = (Value.slice ao4 (pre.length + st4.1.length) cap4).ownBlock) := ⟨hq', hr', ho⟩
                have HX : Hid (R = (st4, inForm && t.2)) := by have h := HR4.out; rw [if_pos hl] at h; exact h
                clear hq' hr' ho hb5 hZ HR4 H4
                go_wp2
                rw [HX.out]
                refine bodyPost_ret (v := .tuple #[.slice ao5 l5 cap5, .int .i64 st4.2, .bool true, .bool (inForm && t.2)]) (by simp [results, Try.results23, go_sem, cn, cs]) rfl ⟨.slice ao5 l5 cap5, ?_, ?_, ?_⟩
                · show _ = Ending.returned (.tuple #[_, .int .i64 (nOf (st4, false)), .bool (sameOf (st4, false)), _])
                  rw [hn4, hs4]
                · exact ((H5.out.2.1.drewN m5).set (H5.out.1.drewN m5).n (by decide) 0 _).set ((H5.out.1.drewN m5).setN _).same (by decide) 0 _
                · exact (((H5.out.1.drewN m5).setN _).setSame _).moves H5.out.2.2
              · have hl' : ¬ (next : Int) = (nm.size : Int) := by omega
                go_wp2
                go_roundg (nm.size + 1 - next)
                case rel => exact ⟨next, rfl, f, st4, inForm && t.2, v4, rfl, rfl, rfl, .inr (by omega), by omega, by rw [HR4.out, if_neg hl], H4.out.2, by rw [hn4, hs4]; exact (H4.out.1.setSame _).setN _⟩
                case measure => rw [HG.out]; omega
            · have hn4 : nOf (st4, false) = (st4.1.length : Int) := by unfold nOf; rw [if_neg hsg]
              have hs4 : sameOf (st4, false) = false := by unfold sameOf; simpa using hsg
              by_cases hl : next = nm.size
              · have hl' : (next : Int) = (nm.size : Int) := by omega
                have hsub : (pre.length : Int) + (st4.1.length : Int) - (pre.length : Int) = (st4.1.length : Int) := by omega
                go_wp2_with fail
                have hq := (H4.out.1.setSame false).setN (st4.1.length : Int)
                rw [HV4.out] at hq
                refine (cut_bx hq (inForm && t.2) (.inr ⟨rfl, _, rfl, Nat.le_refl _⟩) (by omega)).mono ?_
                rintro e w5 ⟨ao5, l5, cap5, m5, rfl, rfl, hr, ho⟩
                have hb5 := body_head st4 (inForm && t.2)
                rw [hn4, hs4] at hb5
                rw [hb5] at hr
                obtain ⟨Z, hZ⟩ : ∃ Z : World, Z = (wc.setCell ⟨w.heap.size + 1 + 1, 0, none⟩ (.bool false)).setCell ⟨w.heap.size + 1, 0, none⟩ (.int .i64 (st4.1.length : Int)) := ⟨_, rfl⟩
                rw [← hZ]
                have hq' : Bx w.heap.size B bf T sep opn cls pre w (.slice ao pre.length cap) Z _ _ _ _ := hZ ▸ hq
                have hr' : Holds B Z _ _ _ := hZ ▸ hr
                clear hq hr cd cn fn cs fs ct
                have cn := cell_one hq'.n
                have fn := free_one hq'.n
                have cs : Z.cell? ⟨w.heap.size + 1 + 1, 0, none⟩ = _ := cell_one hq'.same
                have fs : Z.frozen? ⟨w.heap.size + 1 + 1, 0, none⟩ = _ := free_one hq'.same
                have H5 : Hid (Bx w.heap.size B bf T sep opn cls pre w (.slice ao pre.length cap) Z (.slice ao4 (pre.length + st4.1.length) cap4) st4.1 (st4.1.length : Int) false ∧ Holds B Z (.slice ao5 l5 cap5) pre (bodyOf (st4, inForm && t.2)) ∧ (Value.slice ao5 l5 cap5).ownBlock = (Value.slice ao4 (pre.length + st4.1.length) cap4).ownBlock) := ⟨hq', hr', ho⟩
                have HX : Hid (R = (st4, inForm && t.2)) := by have h := HR4.out; rw [if_pos hl] at h; exact h
                clear hq' hr' ho hb5 hZ HR4 H4
                go_wp2
                rw [HX.out]
                refine bodyPost_ret (v := .tuple #[.slice ao5 l5 cap5, .int .i64 (st4.1.length : Int), .bool false, .bool (inForm && t.2)]) (by simp [results, Try.results23, go_sem, cn, cs]) rfl ⟨.slice ao5 l5 cap5, ?_, ?_, ?_⟩
                · show _ = Ending.returned (.tuple #[_, .int .i64 (nOf (st4, false)), .bool (sameOf (st4, false)), _])
                  rw [hn4, hs4]
                · exact ((H5.out.2.1.drewN m5).set (H5.out.1.drewN m5).n (by decide) 0 _).set ((H5.out.1.drewN m5).setN _).same (by decide) 0 _
                · exact (((H5.out.1.drewN m5).setN _).setSame _).moves H5.out.2.2
              · have hl' : ¬ (next : Int) = (nm.size : Int) := by omega
                go_wp2
                go_roundg (nm.size + 1 - next)
                case rel => exact ⟨next, rfl, f, st4, inForm && t.2, v4, rfl, rfl, rfl, .inr (by omega), by omega, by rw [HR4.out, if_neg hl], H4.out.2, by rw [hn4, hs4]; rw [show (pre.length : Int) + (st4.1.length : Int) - (pre.length : Int) = (st4.1.length : Int) by omega]; exact (H4.out.1.setSame _).setN _⟩
                case measure => rw [HG.out]; omega

end Go.Proofs.Qxb6000821a
