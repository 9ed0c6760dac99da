/- b1Same on two rows that read as one list; ZZpatternElements. -/
import Derived.Test.Qxb6602912aSplitLoop
import Derived.Deep.QuietTactic
import Derived.BigQuiet
namespace Go.Proofs.Qxb6602912a.Split
open Go.RowKit

/-- The slice value v reads, in the world w, as the list l of strings. -/
def Reads (w : World) (v : Value) (l : List (List UInt8)) : Prop :=
  (v = .slice none 0 0 ∧ l = []) ∨ ∃ g cap, v = .slice (some ⟨g, 0, none⟩) l.length cap ∧ ∀ j u, (cellsOf l)[j]? = some u → w.cell? ⟨g, j, none⟩ = some u

theorem Reads.of {w : World} {B : Nat} {v : Value} {l : List (List UInt8)} (h : w.ownsRow B 9 1 v l.length (cellsOf l)) : Reads w v l := by
  rcases h.2 with ⟨hv, h0⟩ | ⟨g, cap, cur, hv, _, hg, _⟩
  · exact .inl ⟨hv, List.eq_nil_of_length_eq_zero h0⟩
  · refine .inr ⟨g, cap, hv, fun j u hu => ?_⟩
    have := h.cells (g := g) (by rw [hv]; rfl) j u hu
    rwa [Addr.add_lit, Nat.zero_add] at this

theorem Reads.at {w : World} {g : Nat} {l : List (List UInt8)} (h : ∀ j u, (cellsOf l)[j]? = some u → w.cell? ⟨g, j, none⟩ = some u) {j : Nat} (hj : j < l.length) : w.cell? ⟨g, j, none⟩ = some (.string ⟨(l[j]).toArray⟩) :=
  h j _ (by simp [cellsOf, hj])

theorem Reads.drewN {w : World} {v : Value} {l : List (List UInt8)} (h : Reads w v l) (n : Nat) : Reads (w.drewN n) v l := by
  rcases h with h | ⟨g, cap, hv, hc⟩
  · exact .inl h
  · exact .inr ⟨g, cap, hv, fun j u hu => by rw [World.cell?_drewN]; exact hc j u hu⟩

theorem Reads.form {w : World} {v : Value} {l : List (List UInt8)} (h : Reads w v l) : ∃ a c, v = .slice a l.length c := by
  rcases h with ⟨hv, rfl⟩ | ⟨g, cap, hv, _⟩
  · exact ⟨none, 0, hv⟩
  · exact ⟨_, cap, hv⟩

theorem same_empty (a b : Option Addr) (c d : Nat) (w : World) :
    Calls Try.prog 15 #[.slice a 0 c, .slice b 0 d] w fun e w' => e = .returned (.bool true) ∧ ∃ n, w' = w.drewN n := by
  go_enter Try.func15, Try.ntmps15
  go_wp2
  go_loop [5] (fun i => i = .int .i64 0) (fun _ => 0)
  case atStart => rfl
  case round =>
    subst hrel
    go_wp2
    go_ret
    exact ⟨rfl, 0, rfl⟩

set_option maxHeartbeats 400000 in
theorem same_rows (g h : Nat) (l : List (List UInt8)) (hl : l.length ≤ 1048578) (c d : Nat) (w : World) (ha : ∀ j u, (cellsOf l)[j]? = some u → w.cell? ⟨g, j, none⟩ = some u) (hb : ∀ j u, (cellsOf l)[j]? = some u → w.cell? ⟨h, j, none⟩ = some u) :
    Calls Try.prog 15 #[.slice (some ⟨g, 0, none⟩) l.length c, .slice (some ⟨h, 0, none⟩) l.length d] w fun e w' => e = .returned (.bool true) ∧ ∃ n, w' = w.drewN n := by
  have HA := hide ha
  have HB := hide hb
  clear ha hb
  go_enter Try.func15, Try.ntmps15
  go_wp2
  go_loopw [5] (fun i wr => ∃ k n : Nat, k ≤ l.length ∧ i = .int .i64 k ∧ wr = w.drewN n) (fun i _ => l.length - (intOf i).toNat)
  case atStart => exact ⟨0, 0, Nat.zero_le _, rfl, rfl⟩
  case round =>
    obtain ⟨k, n, hk, rfl, rfl⟩ := hrel
    by_cases hlt : k < l.length
    · have ca := Reads.at HA.out hlt
      have cb := Reads.at HB.out hlt
      generalize (⟨(l[k]).toArray⟩ : ByteArray) = x at ca cb
      go_wp2
      go_quiet (fail)
      go_wp2
      go_roundw
      case rel => exact ⟨k + 1, _, by omega, by go_num, rfl⟩
      case measure => simp [intOf]; omega
    · go_wp2
      go_ret
      exact ⟨rfl, n, rfl⟩

theorem same_true {w : World} {va vb : Value} {l : List (List UInt8)} (hl : l.length ≤ 1048578) (ha : Reads w va l) (hb : Reads w vb l) :
    Calls Try.prog 15 #[va, vb] w fun e w' => e = .returned (.bool true) ∧ ∃ n, w' = w.drewN n := by
  by_cases h0 : l = []
  · subst h0
    obtain ⟨a, c, rfl⟩ := ha.form
    obtain ⟨b, d, rfl⟩ := hb.form
    exact same_empty a b c d w
  · rcases ha with ⟨_, h⟩ | ⟨g, c, rfl, ca⟩
    · exact absurd h h0
    · rcases hb with ⟨_, h⟩ | ⟨h, d, rfl, cb⟩
      · exact absurd h h0
      · exact same_rows g h l hl c d w ca cb

/-- A row of the call's own, read on in a later world. -/
theorem Reads.later {w1 w2 : World} {B : Nat} {v : Value} {l : List (List UInt8)} (h : w1.ownsRow B 9 1 v l.length (cellsOf l)) (hb : Below w1.heap.size w1 w2) : Reads w2 v l := by
  rcases Reads.of h with hh | ⟨g, cap, hv, hc⟩
  · exact .inl hh
  · refine .inr ⟨g, cap, hv, fun j u hu => ?_⟩
    have h1 := hc j u hu
    rw [hb.cell (p := ⟨g, j, none⟩) (World.block_lt_of_cell? w1 _ h1)]
    exact h1

theorem ZZpe_any (s : ByteArray) (w : World) (hs : s.size ≤ 1048577) :
    Calls Try.prog 13 #[.string s] w fun e w' => ∃ v, e = .returned v ∧ w'.ownsRow (w.heap.size + 1) 9 1 v (pe s.data.toList).length (cellsOf (pe s.data.toList)) ∧ (pe s.data.toList = [] → v = .slice none 0 0) ∧ Below w.heap.size w w' := by
  go_enter Try.func13, Try.ntmps13
  go_wp2_with (go_at_call 32; refine (pe_any _ _ hs).mono ?_; rintro e w1 ⟨v, rfl, h1, h2, h3⟩)
  go_ret
  exact ⟨_, rfl, h1, h2, h3⟩
end Go.Proofs.Qxb6602912a.Split
