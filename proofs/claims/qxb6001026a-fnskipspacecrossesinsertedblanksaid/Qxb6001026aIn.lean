/-
  A byte slice that came in, as a list of bytes.
-/
import Derived.Test.Qxb6001026aZz
import Derived.ProofKit
import Derived.OpenShut
import Derived.ShutString
import Derived.ChangeOld
import Derived.Below
namespace Go.Proofs.Qxb6001026a
open Go.ChangeShapes Go.WideShapes Go.ChangeAt Go.RowKit

theorem own : ownKnob Try.prog.godebug = none := by kernel_rfl
theorem laidOut : laidOutB Try.prog = true := by kernel_rfl

theorem src_of {w : World} {x : Addr} {n c : Nat} {zs : List Int} (hl : n ≤ zs.length) (hc : n ≤ c) (h : ∀ i, i < zs.length → w.cell? (x.add i) = some (.int .u8 (zs.getD i 0))) (hw : ∀ n ∈ zs, (Lit.int .u8 n).wf = true) :
    ∃ L : List UInt8, L.length = n ∧ Src w (some x) c L := by
  have hlen : ((zs.take n).map fun z : Int => UInt8.ofNat z.toNat).length = n := by simp; omega
  refine ⟨(zs.take n).map fun z : Int => UInt8.ofNat z.toNat, hlen, ?_⟩
  by_cases h0 : n = 0
  · left
    rw [h0]
    simp
  right
  obtain ⟨b, off, spot⟩ := x
  have c0 := h 0 (by omega)
  have hspot : spot = none := by simpa [Addr.add] using World.cell?_spot c0
  subst hspot
  have ea : ∀ j, (⟨b, off, none⟩ : Addr).add j = ⟨b, off + j, none⟩ := fun j => by
    unfold Addr.add
    split
    · next h => rw [h]; rfl
    · rfl
  refine ⟨by rw [hlen]; exact hc, b, off, rfl, ?_, fun j d hd => ?_⟩
  · exact Decidable.byContradiction fun hlt => by
      have e : w.heap[b]? = none := Array.getElem?_eq_none (by omega)
      rw [ea] at c0
      simp [World.cell?, e] at c0
  · have hj : j < n := by have := (List.getElem?_eq_some_iff.1 hd).1; omega
    have hjz : j < zs.length := by omega
    rw [← ea, h j hjz]
    have hb := bounds_u8 (hw zs[j] (List.getElem_mem hjz))
    have e : UInt8.ofNat zs[j].toNat = d := by
      simpa [List.getElem?_take_of_lt hj, List.getElem?_eq_getElem hjz] using hd
    have e2 : zs.getD j 0 = zs[j] := by simp [List.getD, List.getElem?_eq_getElem hjz]
    rw [e2, ← e, UInt8.toNat_ofNat']
    congr 2
    omega

/-- A byte slice among the arguments. -/
theorem bytes_in {H : Type} {enc : TypeId × Value → H} {W : World} {base : Nat} {held : Bool} {a : Option Addr} {len cap : Nat} {d : DataW H} {p : List MemPlace} (h : DataW.Trod enc Try.prog W base (fun _ => true) held 25 (.slice a len cap) d p) :
    ∃ L : List UInt8, L.length = len ∧ len ≤ 9223372036854775807 ∧ (a = none → cap = 0) ∧ Src W a cap L := by
  obtain ⟨fuel, hf⟩ := h
  rcases open_ints Try.underlying25 Try.underlying5 (by kernel_rfl) hf with ⟨hcs, _⟩ | ⟨x, l, c, zs, hcs, _, hl, hm, hz, _, hcell, hwz⟩
  · simp [Value.cells] at hcs
    obtain ⟨rfl, rfl, rfl⟩ := hcs
    exact ⟨[], rfl, by omega, fun _ => rfl, .inl rfl⟩
  · simp [Value.cells] at hcs
    obtain ⟨rfl, rfl, rfl⟩ := hcs
    have hz' : zs.length = cap := by simpa using hz
    obtain ⟨L, e, hs⟩ := src_of (n := len) (c := cap) (by omega) hl hcell hwz
    exact ⟨L, e, by unfold maxLen at hm; omega, fun e => by (cases e), hs⟩

end Go.Proofs.Qxb6001026a
