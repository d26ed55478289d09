/-
  The statement: from the walks to the row.
-/
import Derived.Test.Qxb6000019aLawNil
import Derived.ProofKit
import Derived.OpenShut
import Derived.ShutString
import Derived.SliceStrings
import Derived.ChangeOld
import Derived.Below
namespace Go.Proofs.Qxb6000019a
open Go.ChangeShapes Go.WideShapes Go.ChangeAt Go.RowKit
open Go.ChangeMaps (open_string shut_string)

theorem own : ownKnob Try.prog.godebug = none := by kernel_rfl
theorem laidOut : laidOutB Try.prog = true := by kernel_rfl

theorem lies_of {w : World} {x : Addr} {n : Nat} {f : Nat → Value} (h : ∀ i, i < n → w.cell? (x.add i) = some (f i)) : Lies w (some x) n f := by
  by_cases hn : n = 0
  · exact .inl hn
  obtain ⟨b, off, spot⟩ := x
  have hspot : spot = none := by simpa [Addr.add] using World.cell?_spot (h 0 (by omega))
  subst hspot
  refine .inr ⟨b, off, rfl, ?_, fun i hi => by rw [← add_plain]; exact h i hi⟩
  have h0 := h 0 (by omega)
  rw [add_plain] at h0
  exact Decidable.byContradiction fun hlt => by
    have e : w.heap[b]? = none := Array.getElem?_eq_none (by omega)
    simp [World.cell?, e] at h0

/-- What the walk is told of the keys that came in. -/
def InS (w : World) (a : Option Addr) (n : Nat) (S : Nat → ByteArray) : Prop := n ≤ maxLen ∧ (a = none → n = 0) ∧ Lies w a n (fun i => .string (S i)) ∧ ∀ i, i < n → (S i).size ≤ maxLen
/-- .. of the numbers. -/
def InU (w : World) (a : Option Addr) (n : Nat) (V : Nat → Int) : Prop := n ≤ maxLen ∧ (a = none → n = 0) ∧ Lies w a n (fun i => .int .u64 (V i)) ∧ ∀ i, i < n → (Lit.int .u64 (V i)).wf = true

theorem walk (later : ByteArray) (hl : later.size ≤ maxLen) (a1 : Option Addr) (n1 c1 : Nat) (S : Nat → ByteArray) (a2 : Option Addr) (n2 c2 : Nat) (V : Nat → Int) (w : World) (h1 : InS w a1 n1 S) (h2 : InU w a2 n2 V) :
    Calls Try.prog 8 #[.string later, .slice a1 n1 c1, .slice a2 n2 c2] w fun e w' => e = .returned (.bool true) ∧ Below w.heap.size w w' := by
  obtain ⟨m1, z1, l1, s1⟩ := h1
  obtain ⟨m2, z2, l2, s2⟩ := h2
  cases a1 with
  | none => exact law_nil later hl none n1 c1 S s1 m1 a2 n2 c2 V m2 z1 z2 (.inl rfl) w l1 l2
  | some x1 =>
    cases a2 with
    | none => exact law_nil later hl (some x1) n1 c1 S s1 m1 none n2 c2 V m2 z1 z2 (.inr rfl) w l1 l2
    | some x2 => exact law_both later hl x1 n1 c1 S s1 m1 x2 n2 c2 V s2 m2 w l1 l2

set_option maxRecDepth 100000 in
theorem lifted (os : Os) (started : os.Started) (H : Type) (enc : TypeId × Value → H) :
    ReturnsInHanded {} Try.checked os 8 .any (Rows.fnFollowsCoveredIdempotentSpec.pre6 enc Try.prog Try.f8 Rows.fnFollowsCoveredIdempotentRow.domain false) (Rows.fnFollowsCoveredIdempotentSpec.post enc Try.prog Try.f8 false true false false) := by
  refine returnsInHanded_of_change (C := Try.checked) own started (by kernel_rfl) Try.func8
    (ChangeSpec.witness6 (enc := enc) (C := Try.checked) false ⟨#[], #[.string ByteArray.empty, .slice none 0 0, .slice none 0 0], []⟩ 8 (by kernel_rfl) (by kernel_rfl) (by kernel_rfl) (by kernel_rfl)) ?_
  intro W base args ds gs before hval0 hW hcnd _
  have hval : ∀ (j : Nat) t v, Try.f8.params[j]? = some t → args[j]? = some v → Value.okWide Try.prog W .any base t v := hval0
  have hW' := hW
  obtain ⟨p, q, hA0, hV, rfl, hfz, hnd⟩ := hW
  have hA : DataW.TrodAll enc Try.prog W 0 (fun _ => true) true Try.f8.params.toList args.toList ds p := hA0
  rw [Try.params8] at hA hval
  obtain ⟨v0, vs0, d0, ds0, p0, q0, hargs, rfl, rfl, h0, r0⟩ := trodAll_cons hA
  obtain ⟨v1, vs1, d1, ds1, p1, q1, rfl, rfl, rfl, h1, r1⟩ := trodAll_cons r0
  obtain ⟨v2, vs2, d2, ds2, p2, q2, rfl, rfl, rfl, h2, r2⟩ := trodAll_cons r1
  obtain ⟨rfl, rfl, rfl⟩ := trodAll_nil r2
  obtain rfl : args = #[v0, v1, v2] := by cases args; simp_all
  obtain ⟨rfl, rfl⟩ := trodVars_none hV
  obtain ⟨a0, rfl, rfl, rfl, w0⟩ := open_string Try.underlying9 (hval 0 9 v0 rfl rfl) h0
  obtain ⟨a1, len1, cap1, rfl⟩ := okWide_slice Try.underlying22 (hval 1 22 v1 rfl rfl)
  have k1 := h1
  have lt1 : ∀ x ∈ p1, x.block < W.heap.size := by obtain ⟨m, hm⟩ := k1; exact DataW.trod_lt m _ _ _ hm
  obtain ⟨S, w1⟩ : ∃ S, InS W a1 len1 S := by
    obtain ⟨fuel, hf⟩ := h1
    rcases open_strings Try.underlying22 Try.underlying9 (by kernel_rfl) hf with ⟨hcs, _⟩ | ⟨x, l, c, ss, hcs, _, hl, hm, hz, _, hcell, hws⟩
    · simp [Value.cells] at hcs
      obtain ⟨rfl, rfl, rfl⟩ := hcs
      exact ⟨fun _ => ByteArray.empty, Nat.zero_le _, fun _ => rfl, .inl rfl, fun i hi => by omega⟩
    · simp [Value.cells] at hcs
      obtain ⟨rfl, rfl, rfl⟩ := hcs
      have hz' : ss.length = cap1 := by simpa using hz
      refine ⟨fun i => ss.getD i ByteArray.empty, by omega, fun e => by (cases e), lies_of (fun i hi => hcell i (by omega)), fun i hi => ?_⟩
      have hi' : i < ss.length := by omega
      have e : ss.getD i ByteArray.empty = ss[i] := by simp [List.getD, List.getElem?_eq_getElem hi']
      show (ss.getD i ByteArray.empty).size ≤ maxLen
      rw [e]
      exact hws _ (List.getElem_mem hi')
  obtain ⟨a2, len2, cap2, rfl⟩ := okWide_slice Try.underlying23 (hval 2 23 v2 rfl rfl)
  have k2 := h2
  have lt2 : ∀ x ∈ p2, x.block < W.heap.size := by obtain ⟨m, hm⟩ := k2; exact DataW.trod_lt m _ _ _ hm
  obtain ⟨V, w2⟩ : ∃ V, InU W a2 len2 V := by
    obtain ⟨fuel, hf⟩ := h2
    rcases open_ints Try.underlying23 Try.underlying36 (by kernel_rfl) hf with ⟨hcs, _⟩ | ⟨x, l, c, zs, hcs, _, hl, hm, hz, _, hcell, hwz⟩
    · simp [Value.cells] at hcs
      obtain ⟨rfl, rfl, rfl⟩ := hcs
      exact ⟨fun _ => 0, Nat.zero_le _, fun _ => rfl, .inl rfl, fun i hi => by omega⟩
    · simp [Value.cells] at hcs
      obtain ⟨rfl, rfl, rfl⟩ := hcs
      have hz' : zs.length = cap2 := by simpa using hz
      refine ⟨fun i => zs.getD i 0, by omega, fun e => by (cases e), lies_of (fun i hi => hcell i (by omega)), fun i hi => ?_⟩
      have hi' : i < zs.length := by omega
      have e : zs.getD i 0 = zs[i] := by simp [List.getD, List.getElem?_eq_getElem hi']
      show (Lit.int .u64 (zs.getD i 0)).wf = true
      rw [e]
      exact hwz _ (List.getElem_mem hi')
  clear hA0 hval0
  refine (walk a0 w0 a1 len1 cap1 S a2 len2 cap2 V W w1 w2).mono fun e W' ⟨he, bel⟩ => ?_
  subst he
  exact ⟨_, rfl, _, _, _, [], _, [], hW', trodAll_mk1 (shut_bool Try.underlying4 _), (trodAll_cons_mk (shut_string Try.underlying9 w0) (trodAll_cons_mk (Below.trod laidOut (by kernel_rfl) (of_decide_eq_true (by kernel_rfl)) k1 bel lt1) (trodAll_cons_mk (Below.trod laidOut (by kernel_rfl) (of_decide_eq_true (by kernel_rfl)) k2 bel lt2) trodAll_mk0))), rfl, bel.frame _, fun h => by cases h⟩

theorem over : Rows.fnFollowsCoveredIdempotentRow.holds Try.pinned (OpenSpec.ofChange Rows.fnFollowsCoveredIdempotentSpec) :=
  OpenClaim.holds_of_wide 8 Try.f8 rfl rfl rfl rfl rfl rfl rfl ⟨rfl, rfl, rfl, rfl, rfl⟩ rfl rfl rfl rfl rfl (by kernel_rfl) Try.func8 (by kernel_rfl)
    (of_decide_eq_true (by kernel_rfl)) (by unfold Func.isWrapper; first | (rw [if_pos (by decide +kernel)]; kernel_rfl) | (rw [if_neg (by decide +kernel)]; exact ⟨rfl, rfl⟩))
    (fun os started H enc _ => lifted os started H enc)

/-- THE STATEMENT. -/
theorem proved : Rows.FnFollowsCoveredIdempotentSaid := over

end Go.Proofs.Qxb6000019a
