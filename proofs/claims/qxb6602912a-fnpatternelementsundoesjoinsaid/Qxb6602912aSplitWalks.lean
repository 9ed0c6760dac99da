/- The walk of patternElements. -/
import Derived.Test.Qxb6602912aBuilder
import Derived.Test.Qxb6602912aSplitPlain
import Derived.WalkKit
import Derived.WalkSpells
namespace Go.Proofs.Qxb6602912a.Split
open Go.RowKit

theorem hide {p : Prop} (h : p) : Hid p := h
def cellsOf (els : List (List UInt8)) : List Value := els.map fun x => Value.string ⟨x.toArray⟩
theorem cellsOf_length (els : List (List UInt8)) : (cellsOf els).length = els.length := by simp [cellsOf]
theorem cellsOf_snoc (els : List (List UInt8)) (x : List UInt8) : cellsOf (els ++ [x]) = cellsOf els ++ [.string ⟨x.toArray⟩] := by simp [cellsOf]

theorem info9 : (Try.prog.info? 9).map (fun i => (i.zero, i.size, i.bytes)) = some (some (.string ⟨#[]⟩), 1, 16) := by kernel_rfl

/-- A row of strings stands while the builder works. -/
theorem owns_others {wr w1 : World} {B : Nat} {v : Value} {n : Nat} {xs : List Value} (h : wr.ownsRow (B + 1) 9 1 v n xs) (k : Lib.OthersKept 5 (some B) wr w1) : w1.ownsRow (B + 1) 9 1 v n xs := by
  refine ⟨h.1, ?_⟩
  rcases h.2 with hn | ⟨g, cap, cur, hv, hb, hg, rest⟩
  · exact .inl hn
  · exact .inr ⟨g, cap, cur, hv, hb, k g _ hg (by simp; omega) (by intro c fz e; simp at e), rest⟩

/-- A store into the builder's own block leaves a row above it alone. -/
theorem owns_set {w : World} {B o : Nat} {u v : Value} {n : Nat} {xs : List Value} (h : w.ownsRow (B + 1) 9 1 v n xs) : (w.setCell ⟨B, o, none⟩ u).ownsRow (B + 1) 9 1 v n xs := by
  refine h.kept (row := some B) ⟨rfl, rfl, rfl, by simp [World.setCell], fun k _ hk => Below.heap_setCell _ _ _ _ (fun e => hk (by simp [e]))⟩ ?_
  cases hv : v.ownBlock with
  | none => exact .inl rfl
  | some g => right; intro e; have := (h.lt g hv).1; simp at e; omega

set_option maxHeartbeats 400000 in
/-- (*strings.Builder).Reset: the zero builder again. -/
theorem Reset_at (b : Nat) (p q : Value) (w : World) (h : w.heap[b]? = some (.cells #[p, q] 40 (0, 0))) :
    Calls Try.prog 40 #[.pointer (some ⟨b, 0, none⟩)] w fun e w' => e = .returned (.tuple #[]) ∧ w' = (w.setCell ⟨b, 0, none⟩ (.pointer none)).setCell ⟨b, 1, none⟩ (.slice none 0 0) := by
  have c0 : w.cell? ⟨b, 0, none⟩ = some p := by rw [Lib.cell_of_heap h]; rfl
  have c1 : w.cell? ⟨b, 1, none⟩ = some q := by rw [Lib.cell_of_heap h]; rfl
  have f0 : w.frozen? ⟨b, 0, none⟩ = false := Lib.frozen_of_heap h 0
  have f1 : w.frozen? ⟨b, 1, none⟩ = false := Lib.frozen_of_heap h 1
  go_enter Try.func40, Try.ntmps40
  go_wp2
  go_end0
  exact ⟨rfl, rfl⟩
end Go.Proofs.Qxb6602912a.Split
