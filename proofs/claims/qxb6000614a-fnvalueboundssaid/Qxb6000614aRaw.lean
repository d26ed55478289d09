/-
  A pointer turned into a raw one, and back.
-/
import Derived.Test.Qxb6000614aRows
import Derived.Test.Qxb6000614aShelf
import Derived.WalkKit
import Derived.Lib.Builder
namespace Go.Proofs.Qxb6000614a
open Go.RowKit

theorem raw_to {P : Program} (w : World) {src dst t e : TypeId} {j : TypeInfo} {cells : Nat} (a : Addr) (hs : P.underlying src = some (.pointer t)) (hd0 : P.underlying dst = Try.prog.underlying 61) (ht : P.info? t = some j) (hj : j.size ≠ 0)
    (hsh : w.shape? a.block = some (e, cells)) (hoff : a.off < cells) : (convert src dst (.pointer (some a))).run P w = .ok (.pointer (some a)) w := by
  have hd := hd0.trans Try.underlying61
  simp only [convert, Sem.run_bind, run_underlying hs, run_underlying hd, Result.andThen_ok]
  conv => lhs; whnf
  have hb : ∀ {α β : Type} (x : Sem α) (f : α → Sem β), x.bind f = x >>= f := fun _ _ => rfl
  have hpu : ∀ {α : Type} (x : α), Sem.pure x = (pure x : Sem α) := fun _ => rfl
  simp only [hb, hpu, Sem.run_bind, Sem.run_pure, Result.andThen_ok, hs, run_underlying hd]
  simp [Conv.seenAt, viewAt, cellsIn, hsh, sizeOf, typeInfo, ht, hj]
  intro h
  omega

theorem raw_from {P : Program} (w : World) {src dst u e : TypeId} {j : TypeInfo} {cells : Nat} (a : Addr) (hs0 : P.underlying src = Try.prog.underlying 61) (hd : P.underlying dst = some (.pointer u)) (hu : P.info? u = some j)
    (hsh : w.shape? a.block = some (e, cells)) (hlies : liesAt P P.depth e (cells / P.cellsOf e) a.off u 1 = true) : (convert src dst (.pointer (some a))).run P w = .ok (.pointer (some a)) w := by
  have hs := hs0.trans Try.underlying61
  simp only [convert, Sem.run_bind, run_underlying hs, run_underlying hd, Result.andThen_ok]
  conv => lhs; whnf
  have hb : ∀ {α β : Type} (x : Sem α) (f : α → Sem β), x.bind f = x >>= f := fun _ _ => rfl
  have hpu : ∀ {α : Type} (x : α), Sem.pure x = (pure x : Sem α) := fun _ => rfl
  simp only [hb, hpu, Sem.run_bind, Sem.run_pure, Result.andThen_ok, hs, run_underlying hd]
  simp [Conv.seenAt, viewAt, hsh, variablesAt, hlies, sizeOf, typeInfo, hu]

end Go.Proofs.Qxb6000614a
