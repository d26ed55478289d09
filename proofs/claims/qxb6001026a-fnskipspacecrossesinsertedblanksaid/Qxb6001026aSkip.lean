/-
  bytes.IndexByte (30), skipSpace (26), ZZSkipSpace (21).
-/
import Derived.Test.Qxb6001026aPlain
import Derived.WalkKit
import Derived.WalkSpells
import Derived.WalkLawsBesides
import Derived.Lib.BytesEntry
import Derived.BigQuiet
import Derived.Deep.Cut
import Derived.Deep.CutRange
import Derived.Deep.CutBlock
import Derived.Deep.OwnRows
namespace Go.Proofs.Qxb6001026a
open Go.RowKit

/-- The text L lies from place o of block b on. -/
def Lies (w : World) (b o : Nat) (L : List UInt8) : Prop := ∀ (i : Nat) (c : UInt8), L[i]? = some c → w.cell? ⟨b, o + i, none⟩ = some (.int .u8 (c.toNat : Int))

theorem bytes_back (L : List UInt8) : Lib.bytesOf (L.map fun c => (c.toNat : Int)) = L := by
  unfold Lib.bytesOf
  rw [List.map_map]
  conv => rhs; rw [← List.map_id L]
  refine List.map_congr_left fun c _ => ?_
  simp

set_option maxHeartbeats 400000 in
theorem ib_any (b o c : Nat) (L : List UInt8) (n : Nat) (hn : n = L.length) (w : World) (h : Lies w b o L) :
    Calls Try.prog 30 #[.slice (some ⟨b, o, none⟩) n c, .int .u8 10] w fun e w' => e = .returned (.int .i64 (Lib.indexByte L 10)) ∧ w' = w := by
  have hr := Lib.run_indexByteSlice (P := Try.prog) w b o n c (L.map fun c => (c.toNat : Int)) (by simp [hn]) (fun i hi => by
    have hi' : i < L.length := by omega
    rw [h i L[i] (List.getElem?_eq_getElem hi')]
    simp [List.getD, List.getElem?_eq_getElem hi']) 10
  rw [bytes_back] at hr
  have HR : Hid ((Extern.BytealgIndexByte.indexByte #[.slice (some ⟨b, o, none⟩) n c, .int .u8 10]).run Try.prog w = .ok (.int .i64 (Lib.indexByte L 10)) w) := hr
  clear hr h hn
  go_enter Try.func30, Try.ntmps30
  go_wp2
  rw [run_callFunc_extern Try.func32 (by kernel_rfl) (by kernel_rfl) (by kernel_rfl) (e := Extern.BytealgIndexByte.indexByte) (by kernel_rfl), HR.out]
  simp only [Result.andThen]
  rw [Oper.upon_value]
  go_wp2
  go_ret
  exact ⟨rfl, rfl⟩

/-- The lexer's box: its text and its place. -/
def LxAt (w : World) (lb : Nat) (v : Value) (p : Nat) : Prop := w.heap[lb]? = some (.cells #[v, .int .i64 (p : Int)] 38 (0, 0))

theorem LxAt.c0 {w : World} {lb : Nat} {v : Value} {p : Nat} (h : LxAt w lb v p) : w.cell? ⟨lb, 0, none⟩ = some v := by
  unfold LxAt at h
  simp [World.cell?, h]
theorem LxAt.c1 {w : World} {lb : Nat} {v : Value} {p : Nat} (h : LxAt w lb v p) : w.cell? ⟨lb, 1, none⟩ = some (.int .i64 (p : Int)) := by
  unfold LxAt at h
  simp [World.cell?, h]
theorem LxAt.f1 {w : World} {lb : Nat} {v : Value} {p : Nat} (h : LxAt w lb v p) : w.frozen? ⟨lb, 1, none⟩ = false := by
  unfold LxAt at h
  simp [World.frozen?, h]
theorem LxAt.set {w : World} {lb : Nat} {v : Value} {p : Nat} (h : LxAt w lb v p) (m q : Nat) : LxAt ((w.drewN m).setCell ⟨lb, 1, none⟩ (.int .i64 (q : Int))) lb v q := by
  unfold LxAt at h ⊢
  simp [World.setCell, Array.getElem?_modify, h]

theorem below_drew {lb : Nat} {w wr : World} (hb : Below lb w wr) (m : Nat) : Below lb w (wr.drewN m) := ⟨hb.os, hb.tape, hb.output, hb.size, hb.block⟩

theorem Lies.drop {w : World} {b o : Nat} {L : List UInt8} (h : Lies w b o L) (k : Nat) : Lies w b (o + k) (L.drop k) := fun i c hc => by
  rw [List.getElem?_drop] at hc
  rw [Nat.add_assoc]
  exact h (k + i) c hc

theorem Lies.below {w w' : World} {lb b o : Nat} {L : List UInt8} (h : Lies w b o L) (hb : Below lb w w') (hlt : b < lb) : Lies w' b o L := fun i c hc =>
  (hb.cell (p := ⟨b, o + i, none⟩) hlt).trans (h i c hc)

theorem below_set {lb : Nat} {w wr : World} (hb : Below lb w wr) (m : Nat) (u : Value) : Below lb w ((wr.drewN m).setCell ⟨lb, 1, none⟩ u) :=
  Below.setCell (show Below lb w (wr.drewN m) from ⟨hb.os, hb.tape, hb.output, hb.size, hb.block⟩) (Nat.le_refl _) _

set_option maxHeartbeats 1000000 in
theorem skip_any (lb b o c : Nat) (L : List UInt8) (hc : L.length ≤ c) (hL : L.length ≤ 4194304) (p : Nat) (hp : p ≤ L.length) (hb : b < lb) (w : World) (hl : Lies w b o L) (hx : LxAt w lb (.slice (some ⟨b, o, none⟩) L.length c) p) :
    Calls Try.prog 26 #[.pointer (some ⟨lb, 0, none⟩)] w fun e w' => e = .returned (.tuple #[]) ∧ LxAt w' lb (.slice (some ⟨b, o, none⟩) L.length c) (sk L p) ∧ Below lb w w' := by
  have HL : Hid (Lies w b o L) := hl
  have HX : Hid (LxAt w lb (.slice (some ⟨b, o, none⟩) L.length c) p) := hx
  clear hl hx
  go_enter Try.func26, Try.ntmps26
  go_wp2
  go_loopg [] (L.length + 1 - p) (fun g wr => ∃ k : Nat, g = L.length + 1 - k ∧ k ≤ L.length ∧ Hid (sk L k = sk L p) ∧ Hid (LxAt wr lb (.slice (some ⟨b, o, none⟩) L.length c) k) ∧ Hid (Below lb w wr))
  case atStart => exact ⟨p, rfl, hp, rfl, HX, Below.refl _ _⟩
  case round =>
    obtain ⟨k, hg, hk, hsk, hlx, hbl⟩ := hrel
    have HG : Hid (gk = L.length + 1 - k) := hg
    clear hg HX
    have c0 := hlx.out.c0
    have c1 := hlx.out.c1
    have f1 := hlx.out.f1
    by_cases hlt : k < L.length
    · obtain ⟨ch, hch⟩ : ∃ ch, L[k]? = some ch := ⟨_, List.getElem?_eq_getElem hlt⟩
      have cb : wr.cell? ⟨b, o + k, none⟩ = some (.int .u8 (ch.toNat : Int)) := (hbl.out.cell (p := ⟨b, o + k, none⟩) hb).trans (HL.out k ch hch)
      by_cases hbk : blankC ch = true
      · have HN : Hid (sk L (k + 1) = sk L p) := (sk_blank hch hbk).trans hsk.out
        clear hch
        have h4 : ch = 32 ∨ ch = 9 ∨ ch = 10 ∨ ch = 13 := by
          unfold blankC at hbk
          simpa [or_assoc] using hbk
        rcases h4 with rfl | rfl | rfl | rfl
        all_goals
          simp only [UInt8.reduceToNat] at cb
          go_wp2
          go_quiet (fail)
          go_wp2
          go_quiet (fail)
          go_wp2
          go_roundg (L.length + 1 - (k + 1))
          case rel => exact ⟨k + 1, rfl, by omega, HN, hlx.out.set _ (k + 1), below_set hbl.out _ _⟩
          case measure => rw [HG.out]; omega
      · by_cases h35 : ch = 35
        · subst h35
          obtain ⟨g1, g2⟩ := sk_hash hch
          clear hch
          simp only [UInt8.reduceToNat] at cb
          have HIB : Hid (∀ m : Nat, Calls Try.prog 30 #[.slice (some ⟨b, o + k, none⟩) (L.length - k) (c - k), .int .u8 10] (wr.drewN m) fun e w' => e = .returned (.int .i64 (Lib.indexByte (L.drop k) 10)) ∧ w' = wr.drewN m) := fun m => ib_any b (o + k) (c - k) (L.drop k) (L.length - k) (by rw [List.length_drop]) (wr.drewN m) ((HL.out.below (below_drew hbl.out m) hb).drop k)
          have hck : ¬ c = k := by omega
          have hkc : (k : Int) ≤ (L.length : Int) := by omega
          rcases Int.lt_or_le (Lib.indexByte (L.drop k) 10) 0 with hI | hI
          · have hI1 : Lib.indexByte (L.drop k) 10 = -1 := by have := Lib.indexByte_ge (L.drop k) 10; omega
            rw [hI1] at HIB
            have HN : Hid (L.length = sk L p) := (g1 hI1).symm.trans hsk.out
            clear g1 g2 hI hI1
            go_wp2
            go_quiet (fail)
            go_wp2
            go_quiet (fail)
            go_wp2
            go_quiet ((go_at_call 30; exact (HIB.out _).mono fun e w' h => ⟨h.1, _, h.2⟩))
            go_wp2
            refine bodyPost_ret (results_none (fn := Try.f26) rfl _ _ _) rfl ⟨rfl, HN.out ▸ hlx.out.set _ _, below_set hbl.out _ _⟩
          · obtain ⟨j, hj⟩ : ∃ j : Nat, Lib.indexByte (L.drop k) 10 = (j : Int) := ⟨(Lib.indexByte (L.drop k) 10).toNat, by omega⟩
            rw [hj] at HIB
            obtain ⟨hjl, hjs⟩ := g2 j hj
            have HN : Hid (sk L (k + (j + 1)) = sk L p) := hjs.trans hsk.out
            clear g1 g2 hI hj hjs
            go_wp2
            go_quiet (fail)
            go_wp2
            go_quiet (fail)
            go_wp2
            go_quiet ((go_at_call 30; exact (HIB.out _).mono fun e w' h => ⟨h.1, _, h.2⟩))
            go_wp2
            go_roundg (L.length + 1 - (k + (j + 1)))
            case rel => exact ⟨k + (j + 1), rfl, by omega, HN, hlx.out.set _ (k + (j + 1)), below_set hbl.out _ _⟩
            case measure => rw [HG.out]; omega
        · have HN : Hid (k = sk L p) := (sk_stop hch (by simpa using hbk) h35).symm.trans hsk.out
          have n32 : ¬ (ch.toNat : Int) = 32 := fun h => hbk (by rw [show ch = 32 from UInt8.toNat_inj.1 (by show ch.toNat = 32; omega)]; rfl)
          have n9 : ¬ (ch.toNat : Int) = 9 := fun h => hbk (by rw [show ch = 9 from UInt8.toNat_inj.1 (by show ch.toNat = 9; omega)]; rfl)
          have n10 : ¬ (ch.toNat : Int) = 10 := fun h => hbk (by rw [show ch = 10 from UInt8.toNat_inj.1 (by show ch.toNat = 10; omega)]; rfl)
          have n13 : ¬ (ch.toNat : Int) = 13 := fun h => hbk (by rw [show ch = 13 from UInt8.toNat_inj.1 (by show ch.toNat = 13; omega)]; rfl)
          have n35 : ¬ (ch.toNat : Int) = 35 := fun h => h35 (UInt8.toNat_inj.1 (by show ch.toNat = 35; omega))
          clear hch
          go_wp2
          go_quiet (fail)
          go_wp2
          go_quiet (fail)
          go_wp2
          refine bodyPost_ret (results_none (fn := Try.f26) rfl _ _ _) rfl ⟨rfl, HN.out ▸ hlx.out, below_drew hbl.out _⟩
    · go_wp2
      go_quiet (fail)
      go_wp2
      go_end0
      have e : k = sk L p := (sk_end (by omega)).symm.trans hsk.out
      exact ⟨rfl, e ▸ hlx.out, below_drew hbl.out _⟩

end Go.Proofs.Qxb6001026a
