/- The walk of the law on the shape of patternElements' answer. -/
import Derived.Test.Qxb6602912aSame
import Derived.Test.Qxb6602912aSplitLaws
import Derived.WalkKit
import Derived.WalkSpells
import Derived.Lib.SliceRun
namespace Go.Proofs.Qxb6602912a.Split
open Go.RowKit

theorem slash_size (a : ByteArray) : ((⟨#[47]⟩ : ByteArray) ++ a).size = a.size + 1 := by
  rw [ByteArray.size_append, Nat.add_comm]; rfl
theorem below_drewN {B : Nat} {a w : World} (h : Below B a w) (n : Nat) : Below B a (w.drewN n) := h.trans ⟨rfl, rfl, rfl, Nat.le_refl _, fun _ _ => rfl⟩
theorem size_mk (y : List UInt8) : (⟨y.toArray⟩ : ByteArray).size = y.length := by simp [ByteArray.size]

theorem elems_at (a0 : ByteArray) (h0 : 0 < a0.size) (w1 : World) (v : Value) (hrd : Reads w1 v (pe a0.data.toList)) :
    ∃ m g cap : Nat, (pe a0.data.toList).length = m + 1 ∧ m ≤ a0.size ∧ v = .slice (some ⟨g, 0, none⟩) (m + 1) cap ∧
      (∀ k, k ≤ m → ∃ Y : ByteArray, w1.cell? ⟨g, k, none⟩ = some (.string Y) ∧ Y.size ≤ a0.size ∧ (∀ (j : Nat) (h : j < Y.size), Y[j].toNat ≠ 47) ∧ (Y.size = 0 → k = m)) ∧
      ∃ X : ByteArray, w1.cell? ⟨g, m, none⟩ = some (.string X) ∧ (X.size = 0 ↔ a0[a0.size - 1].toNat = 47) := by
  have hal : a0.data.toList.length = a0.size := by simp
  have hne : a0.data.toList ≠ [] := by intro h; rw [h] at hal; simp at hal; omega
  obtain ⟨els, x, hpe, hgood, hfree, hemp, hlen, hsm⟩ := pe_shape a0.data.toList hne
  have hpl : (pe a0.data.toList).length = els.length + 1 := by rw [hpe]; simp
  rcases hrd with ⟨_, h⟩ | ⟨g, cap, rfl, hc⟩
  · rw [hpe] at h; simp at h
  refine ⟨els.length, g, cap, hpl, by omega, by rw [hpl], ?_, ?_⟩
  · intro k hk
    have hkl : k < (els ++ [x]).length := by simp; omega
    have hcell : w1.cell? ⟨g, k, none⟩ = some (.string ⟨((els ++ [x])[k]).toArray⟩) := by
      refine hc k _ ?_
      rw [hpe, cellsOf, List.getElem?_map, List.getElem?_eq_getElem hkl]; rfl
    have hmem : (els ++ [x])[k] ∈ els ++ [x] := List.getElem_mem hkl
    have hfr : slashFree (els ++ [x])[k] := by
      rw [List.mem_append] at hmem
      rcases hmem with h | h
      · exact (hgood _ h).2
      · simp only [List.mem_singleton] at h; rw [h]; exact hfree
    have hem : (els ++ [x])[k] = [] → k = els.length := by
      intro h
      by_cases hlt : k < els.length
      · rw [List.getElem_append_left hlt] at h
        exact absurd h (hgood _ (List.getElem_mem hlt)).1
      · omega
    have hsz := hsm _ hmem
    generalize (els ++ [x])[k] = y at hcell hfr hem hsz
    refine ⟨⟨y.toArray⟩, hcell, by rw [size_mk]; omega, ?_, ?_⟩
    · intro j hj
      rw [size_mk] at hj
      have : (⟨y.toArray⟩ : ByteArray)[j]'(by rw [size_mk]; exact hj) = y[j] := rfl
      rw [this]
      exact hfr _ (List.getElem_mem hj)
    · intro h
      rw [size_mk] at h
      exact hem (List.eq_nil_of_length_eq_zero h)
  · refine ⟨⟨x.toArray⟩, ?_, ?_⟩
    · refine hc els.length _ ?_
      rw [hpe]; simp [cellsOf]
    · rw [size_mk]
      have e1 : x.length = 0 ↔ x = [] := List.length_eq_zero_iff
      have e2 : a0.data.toList.getLast? = some a0[a0.size - 1] := by
        rw [List.getLast?_eq_getElem?, hal, List.getElem?_eq_getElem (by omega)]; rfl
      rw [e1, hemp, e2]
      simp

set_option maxHeartbeats 1000000 in
theorem walk5_rest (a0 : ByteArray) (w : World) (hb : a0.size ≤ 1048576) (h0 : 0 < a0.size) :
    Calls Try.prog 5 #[.string a0] w fun e w' => e = .returned (.bool true) ∧ Below w.heap.size w w' := by
  have hd : ¬ (1048576 : Int) < (a0.size : Int) := by omega
  have q0 := fun (w : World) (a : Option Addr) (n c : Nat) => Lib.run_eql_slice_nil (P := Try.prog) w 23 9 a n c 0 0 Try.underlying23
  go_enter Try.func5, Try.ntmps5
  go_wp2_with (first | (go_at_call 19; go_in))
  refine (ZZpe_any _ _ (by omega)).mono ?_
  rintro e w1 ⟨v, rfl, hown, _, hbel⟩
  obtain ⟨m, g, cap, hpl, hm, rfl, elem, last⟩ := elems_at a0 h0 w1 v (Reads.of hown)
  have HL := hide hpl
  have HO := hide hown
  have elem := hide elem
  have last := hide last
  clear hpl hown
  go_wp2
  go_loop [4] (fun i => ∃ k : Nat, k ≤ m + 1 ∧ i = .int .i64 k) (fun i => m + 1 - (intOf i).toNat)
  case atStart => exact ⟨0, by omega, rfl⟩
  case round =>
    obtain ⟨k, hk, rfl⟩ := hrel
    by_cases hlt : k ≤ m
    · obtain ⟨Y, hcell, hY0, hfree, hemp⟩ := elem.out k hlt
      have hY : Y.size ≤ 1048576 := by omega
      have HF := hide hfree
      have HE := hide hemp
      clear hfree hemp
      go_wp2
      go_loop [6] (fun i => ∃ j : Nat, j ≤ Y.size ∧ i = .int .i64 j) (fun i => Y.size - (intOf i).toNat)
      case atStart => exact ⟨0, by omega, rfl⟩
      case round =>
        obtain ⟨j, hj, rfl⟩ := hrel
        by_cases hlj : j < Y.size
        · have t1 : ((Y[j].toNat : Int) == 47) = false := beq_eq_false_iff_ne.2 (by have := HF.out j hlj; omega)
          go_wp2
          go_round
          case rel => exact ⟨j + 1, by omega, by go_num⟩
          case measure => simp [intOf]; omega
        · by_cases h0 : Y.size = 0
          · have t1 : ((Y.size : Int) == 0) = true := beq_iff_eq.2 (by omega)
            have t2 : ((k : Int) != (m : Int)) = false := by rw [HE.out h0]; simp
            go_wp2
            go_round
            case rel => exact ⟨k + 1, by omega, by go_num⟩
            case measure => simp [intOf]; omega
          · have t1 : ((Y.size : Int) == 0) = false := beq_eq_false_iff_ne.2 (by omega)
            go_wp2
            go_round
            case rel => exact ⟨k + 1, by omega, by go_num⟩
            case measure => simp [intOf]; omega
    · clear elem
      obtain ⟨X, hX, hXe⟩ := last.out
      clear last
      by_cases h47 : a0[a0.size - 1].toNat = 47
      · have t1 : ((a0[a0.size - 1].toNat : Int) == 47) = true := beq_iff_eq.2 (by omega)
        have t2 : ((X.size : Int) == 0) = true := beq_iff_eq.2 (by have := hXe.2 h47; omega)
        clear h47 hXe
        go_wp2_with fail
        refine (ZZpe_any _ _ (by rw [slash_size]; omega)).mono ?_
        rintro e w2 ⟨v2, rfl, hown2, _, hbel2⟩
        have e2 : ((⟨#[47]⟩ : ByteArray) ++ a0).data.toList = 47 :: a0.data.toList := by simp
        rw [e2, pe_slash _ (by intro h; have : a0.data.toList.length = a0.size := by simp
                               rw [h] at this; simp at this; omega)] at hown2
        have r1 := hide (Reads.later HO.out hbel2)
        have r2 := hide (Reads.of hown2)
        have hbel3 : Below w.heap.size w w2 := hbel.trans (hbel2.mono hbel.size)
        obtain ⟨g2, cap2, hv2⟩ : ∃ g2 cap2, v2 = .slice (some ⟨g2, 0, none⟩) (m + 1) cap2 := by
          rcases r2.out with ⟨_, h⟩ | ⟨g2, cap2, hv, _⟩
          · have := HL.out; rw [h] at this; simp at this
          · exact ⟨g2, cap2, by rw [hv, HL.out]⟩
        clear hown2 hbel2 hbel e2
        rw [hv2] at r2 ⊢
        clear hv2 
        go_wp2_with fail
        refine (same_true (by rw [HL.out]; omega) r2.out r1.out).mono ?_
        rintro e w3 ⟨rfl, n, rfl⟩
        go_wp2
        go_ret
        exact ⟨rfl, below_drewN hbel3 n⟩
      · have t1 : ((a0[a0.size - 1].toNat : Int) == 47) = false := beq_eq_false_iff_ne.2 (by omega)
        have t2 : ((X.size : Int) == 0) = false := beq_eq_false_iff_ne.2 (by have := mt hXe.1 h47; omega)
        clear h47 hXe
        go_wp2_with fail
        refine (ZZpe_any _ _ (by rw [slash_size]; omega)).mono ?_
        rintro e w2 ⟨v2, rfl, hown2, _, hbel2⟩
        have e2 : ((⟨#[47]⟩ : ByteArray) ++ a0).data.toList = 47 :: a0.data.toList := by simp
        rw [e2, pe_slash _ (by intro h; have : a0.data.toList.length = a0.size := by simp
                               rw [h] at this; simp at this; omega)] at hown2
        have r1 := hide (Reads.later HO.out hbel2)
        have r2 := hide (Reads.of hown2)
        have hbel3 : Below w.heap.size w w2 := hbel.trans (hbel2.mono hbel.size)
        obtain ⟨g2, cap2, hv2⟩ : ∃ g2 cap2, v2 = .slice (some ⟨g2, 0, none⟩) (m + 1) cap2 := by
          rcases r2.out with ⟨_, h⟩ | ⟨g2, cap2, hv, _⟩
          · have := HL.out; rw [h] at this; simp at this
          · exact ⟨g2, cap2, by rw [hv, HL.out]⟩
        clear hown2 hbel2 hbel e2
        rw [hv2] at r2 ⊢
        clear hv2 
        go_wp2_with fail
        refine (same_true (by rw [HL.out]; omega) r2.out r1.out).mono ?_
        rintro e w3 ⟨rfl, n, rfl⟩
        go_wp2
        go_ret
        exact ⟨rfl, below_drewN hbel3 n⟩

theorem walk5_empty (a0 : ByteArray) (w : World) (h0 : a0.size = 0) :
    Calls Try.prog 5 #[.string a0] w fun e w' => e = .returned (.bool true) ∧ Below w.heap.size w w' := by
  have hd : ¬ (1048576 : Int) < (a0.size : Int) := by omega
  have q0 := fun (w : World) (a : Option Addr) (n c : Nat) => Lib.run_eql_slice_nil (P := Try.prog) w 23 9 a n c 0 0 Try.underlying23
  have hl : a0.data.toList = [] := List.eq_nil_of_length_eq_zero (by have : a0.data.toList.length = a0.size := by simp
                                                                     omega)
  have ht : ((a0.size : Int) == 0) = true := beq_iff_eq.2 (by omega)
  have hz : ¬ (0 : Int) < (a0.size : Int) := by omega
  have HL := hide hl
  have hs : a0.size ≤ 1048577 := by omega
  clear hl h0
  go_enter Try.func5, Try.ntmps5
  go_wp2_with (first | (go_at_call 19; go_in))
  refine (ZZpe_any _ _ hs).mono ?_
  rintro e w1 ⟨v, rfl, hown, hnil, hbel⟩
  have hv := hnil (by rw [HL.out]; exact pe_nil)
  rw [hv]
  clear hnil hown hv
  go_wp2
  go_loop [4] (fun i => i = .int .i64 0) (fun _ => 0)
  case atStart => rfl
  case round =>
    subst hrel
    go_wp2
    go_ret
    exact ⟨rfl, hbel⟩

theorem walk5_big (a0 : ByteArray) (w : World) (h0 : 1048576 < a0.size) (hm : a0.size ≤ 9223372036854775807) :
    Calls Try.prog 5 #[.string a0] w fun e w' => e = .returned (.bool true) ∧ Below w.heap.size w w' := by
  have hd : (1048576 : Int) < (a0.size : Int) := by omega
  go_enter Try.func5, Try.ntmps5
  go_wp2
  go_ret
  exact ⟨rfl, Below.refl _ _⟩
end Go.Proofs.Qxb6602912a.Split
