/- The walk of the law that patternElements undoes the join. -/
import Derived.Test.Qxb6602912aJoinLoop
namespace Go.Proofs.Qxb6602912a.Split
open Go.RowKit

theorem join_any (b : Bool) {v : Value} {l : List (List UInt8)} {w : World} (hr : Reads w v l) (ht : tot l ≤ 1048576) :
    Calls Try.prog 18 #[v, .bool b] w fun e w' => e = .returned (.string ⟨(join b l).toArray⟩) ∧ Below w.heap.size w w' := by
  rcases hr with ⟨rfl, rfl⟩ | ⟨g, cap, rfl, hc⟩
  · exact join_nil b w
  · cases b
    · exact join_plain g cap l w hc ht
    · exact join_esc g cap l w hc ht

theorem Reads.below {w w' : World} {v : Value} {l : List (List UInt8)} (h : Reads w v l) (hb : Below w.heap.size w w') : Reads w' v l := by
  rcases h with hh | ⟨g, cap, hv, hc⟩
  · exact .inl hh
  · refine .inr ⟨g, cap, hv, fun j u hu => ?_⟩
    have h1 := hc j u hu
    rw [hb.cell (p := ⟨g, j, none⟩) (World.block_lt_of_cell? w _ h1)]
    exact h1

def bytesOf (ss : List ByteArray) : List (List UInt8) := ss.map fun s => s.data.toList
theorem bytesOf_at (ss : List ByteArray) (k : Nat) (h : k < ss.length) : (bytesOf ss)[k]'(by simp [bytesOf]; exact h) = (ss[k]).data.toList := by simp [bytesOf]
theorem bytesOf_length (ss : List ByteArray) : (bytesOf ss).length = ss.length := by simp [bytesOf]
theorem tot_bytes (ss : List ByteArray) (k : Nat) (h : k < ss.length) : tot ((bytesOf ss).take (k + 1)) = tot ((bytesOf ss).take k) + (16 + (ss[k]).size) := by
  rw [tot_take _ k (by rw [bytesOf_length]; exact h), bytesOf_at ss k h]
  have : (ss[k]).data.toList.length = (ss[k]).size := by simp
  omega
theorem cells_bytes (ss : List ByteArray) (j : Nat) : (cellsOf (bytesOf ss))[j]? = (ss[j]?).map Value.string := by
  simp [cellsOf, bytesOf]
  cases ss[j]? <;> rfl

/-- What patternElements hands back of joined names, in one line. -/
theorem pe_of_join (b : Bool) (l : List (List UInt8)) (hl : ∀ y ∈ l, Fine y) (ht : tot l ≤ 1048576) (w : World) :
    Calls Try.prog 13 #[.string ⟨(join b l).toArray⟩] w fun e w' => ∃ v, e = .returned v ∧ Reads w' v l ∧ (l = [] → v = .slice none 0 0) ∧ Below w.heap.size w w' := by
  have hz : (⟨(join b l).toArray⟩ : ByteArray).size ≤ 1048577 := by rw [size_mk]; have := join_tot b l; omega
  refine (ZZpe_any _ w hz).mono ?_
  rintro e w1 ⟨v, rfl, h1, h2, h3⟩
  have e2 : pe (⟨(join b l).toArray⟩ : ByteArray).data.toList = l := by
    show pe (join b l).toArray.toList = l
    rw [List.toList_toArray]
    exact pe_join b l hl
  rw [e2] at h1 h2
  exact ⟨v, rfl, Reads.of h1, h2, h3⟩

set_option maxHeartbeats 1000000 in
theorem undo_nil (w : World) :
    Calls Try.prog 4 #[.slice none 0 0] w fun e w' => e = .returned (.bool true) ∧ Below w.heap.size w w' := by
  have q0 := fun (w : World) (a : Option Addr) (n c : Nat) => Lib.run_eql_slice_nil (P := Try.prog) w 23 9 a n c 0 0 Try.underlying23
  have q1 := fun (w : World) (a : Option Addr) (n c : Nat) => run_neq_slice_nil_any (P := Try.prog) w 23 9 a n c 0 0 Try.underlying23
  have fineNil : ∀ y ∈ ([] : List (List UInt8)), Fine y := by intro y hy; cases hy
  have FN := hide fineNil
  clear fineNil
  go_enter Try.func4, Try.ntmps4
  go_wp2_with (go_at_call 16; refine (zz_nil _).mono ?_; rintro e w1 ⟨rfl, rfl⟩)
  go_loop [3, 4] (fun z i => z = .int .i64 0 ∧ i = .int .i64 0) (fun _ _ => 0)
  case atStart => exact ⟨rfl, rfl⟩
  case round =>
    obtain ⟨rfl, rfl⟩ := hrel
    go_wp2
    go_loop [5] (fun i => i = .int .i64 0) (fun _ => 0)
    case atStart => rfl
    case round =>
      subst hrel
      go_wp2_with fail
      refine (join_any false (l := []) (.inl ⟨rfl, rfl⟩) (by decide)).mono ?_
      rintro e w2 ⟨rfl, hb2⟩
      go_wp2_with fail
      refine (pe_of_join false [] FN.out (by decide) _).mono ?_
      rintro e w3 ⟨v3, rfl, hr3, hn3, hb3⟩
      have hv3 := hn3 rfl
      rw [hv3]
      clear hn3 hr3 hv3
      go_wp2_with fail
      refine (join_any true (l := []) (.inl ⟨rfl, rfl⟩) (by decide)).mono ?_
      rintro e w4 ⟨rfl, hb4⟩
      go_wp2_with fail
      refine (pe_of_join true [] FN.out (by decide) _).mono ?_
      rintro e w5 ⟨v5, rfl, hr5, hn5, hb5⟩
      have hv5 := hn5 rfl
      rw [hv5]
      clear hn5 hr5 hv5
      have b3 := hb2.trans (hb3.mono hb2.size)
      have b4 := b3.trans (hb4.mono b3.size)
      have b5 := b4.trans (hb5.mono b4.size)
      clear hb2 hb3 hb4 hb5 b3 b4
      go_wp2_with fail
      refine (same_true (l := []) (by decide) (.inl ⟨rfl, rfl⟩) (.inl ⟨rfl, rfl⟩)).mono ?_
      rintro e w6 ⟨rfl, n6, rfl⟩
      go_wp2_with fail
      refine (same_true (l := []) (by decide) (.inl ⟨rfl, rfl⟩) (.inl ⟨rfl, rfl⟩)).mono ?_
      rintro e w7 ⟨rfl, n7, rfl⟩
      go_wp2
      go_ret
      exact ⟨rfl, below_drewN b5 _⟩

theorem info9z : (Try.prog.info? 9).map (fun i => (i.zero, i.size, i.bytes)) = some (some (.string ⟨#[]⟩), 1, 16) := info9

/-- One store into the copy. -/
theorem stored {w wr : World} {B k n : Nat} {cs : Array Value} {ss : List ByteArray} (hB : wr.heap[B]? = some (.cells cs 9 (0, 0))) (hn : cs.size = n) (hk : k < n) (hks : k < ss.length) (hpre : ∀ (j : Nat) (hj : j < ss.length), j < k → cs[j]? = some (.string ss[j])) (hb : Below B w wr) :
    ∃ cs' : Array Value, (wr.setCell ⟨B, k, none⟩ (.string ss[k])).heap[B]? = some (.cells cs' 9 (0, 0)) ∧ cs'.size = n ∧ (∀ (j : Nat) (hj : j < ss.length), j < k + 1 → cs'[j]? = some (.string ss[j])) ∧ Below B w (wr.setCell ⟨B, k, none⟩ (.string ss[k])) := by
  refine ⟨cs.setIfInBounds k (.string ss[k]), ?_, by simp [hn], ?_, hb.setCell (p := ⟨B, k, none⟩) (Nat.le_refl _) _⟩
  · simp [World.setCell, Array.getElem?_modify, hB]
  · intro j hj hjk
    by_cases e : j = k
    · subst e
      rw [Array.getElem?_setIfInBounds_self_of_lt (by omega)]
    · rw [Array.getElem?_setIfInBounds_ne (by omega)]
      exact hpre j hj (by omega)

theorem copied {wr : World} {B n : Nat} {cs : Array Value} {ss : List ByteArray} (hB : wr.heap[B]? = some (.cells cs 9 (0, 0))) (hn : ss.length = n) (h : ∀ (j : Nat) (hj : j < ss.length), cs[j]? = some (.string ss[j])) : Reads wr (.slice (some ⟨B, 0, none⟩) n n) (bytesOf ss) := by
  refine .inr ⟨B, n, by rw [bytesOf_length, hn], fun j u hu => ?_⟩
  rw [cells_bytes] at hu
  obtain ⟨x, hx, rfl⟩ := Option.map_eq_some_iff.1 hu
  obtain ⟨hj, rfl⟩ := List.getElem?_eq_some_iff.1 hx
  rw [Lib.cell_of_heap hB]
  exact h j hj
theorem some_form {w : World} {v : Value} {l : List (List UInt8)} {n : Nat} (h : Reads w v l) (hl : l.length = n) (h0 : n ≠ 0) : ∃ x c, v = .slice (some x) n c := by
  rcases h with ⟨_, rfl⟩ | ⟨g, c, hv, _⟩
  · exact absurd hl.symm h0
  · exact ⟨_, c, by rw [hv, hl]⟩

set_option maxHeartbeats 2000000 in
theorem undo_row (bb off n c : Nat) (ss : List ByteArray) (hn : ss.length = n) (hm : n ≤ 9223372036854775807) (w : World) (hc : ∀ j (h : j < ss.length), w.cell? ⟨bb, off + j, none⟩ = some (.string ss[j])) (hss : ∀ s ∈ ss, s.size ≤ 9223372036854775807) :
    Calls Try.prog 4 #[.slice (some ⟨bb, off, none⟩) n c] w fun e w' => e = .returned (.bool true) ∧ Below w.heap.size w w' := by
  have q0 := fun (w : World) (a : Option Addr) (n c : Nat) => Lib.run_eql_slice_nil (P := Try.prog) w 23 9 a n c 0 0 Try.underlying23
  have q1 := fun (w : World) (a : Option Addr) (n c : Nat) => run_neq_slice_nil_any (P := Try.prog) w 23 9 a n c 0 0 Try.underlying23
  have HC := hide hc
  have HS := hide hss
  have HN := hide hn
  clear hc hss hn
  obtain ⟨i0, hi, hz0, hz1, hz2⟩ := info_parts info9
  go_enter Try.func4, Try.ntmps4
  go_wp2_with fail
  refine (zz_any bb off n c ss HN.out hm _ HC.out HS.out).mono ?_
  rintro e w1 ⟨r, rfl, rfl, hr⟩
  cases r with
  | false =>
    clear hr
    go_wp2
    go_ret
    exact ⟨rfl, Below.refl _ _⟩
  | true =>
    have HZ := hide (hr rfl)
    clear hr
    by_cases hb : n ≤ 65536
    · have t0 : ¬ (65536 : Int) < (n : Int) := by omega
      go_wp2
      go_loop [3, 4] (fun z i => ∃ k y : Nat, k ≤ n ∧ y ≤ 1048576 ∧ z = .int .i64 y ∧ i = .int .i64 k ∧ Hid (y = tot ((bytesOf ss).take k))) (fun _ i => n - (intOf i).toNat)
      case atStart => exact ⟨0, 0, by omega, by omega, rfl, rfl, hide rfl⟩
      case round =>
        obtain ⟨k, y, hk, hy, rfl, rfl, R⟩ := hrel
        by_cases hlt : k < n
        · have hks : k < ss.length := by rw [HN.out]; exact hlt
          have htk := tot_bytes ss k hks
          obtain ⟨x, hx⟩ : ∃ x, x = ss[k] := ⟨_, rfl⟩
          have hcell : w1.cell? ⟨bb, off + k, none⟩ = some (.string x) := by rw [hx]; exact HC.out k hks
          have hxs : x.size ≤ 1048576 := by rw [hx]; exact HZ.out _ (List.getElem_mem hks)
          rw [← hx] at htk
          have HTK := hide htk
          clear hx htk
          by_cases h2 : y + (16 + x.size) ≤ 1048576
          · go_wp2
            go_round
            case rel => exact ⟨k + 1, y + (16 + x.size), by omega, by omega, by go_num, by go_num, hide (by rw [HTK.out, ← R.out])⟩
            case measure => simp [intOf]; omega
          · go_wp2
            go_ret
            exact ⟨rfl, Below.refl _ _⟩
        · have hT : tot (bytesOf ss) ≤ 1048576 := by
            have := R.out
            rw [List.take_of_length_le (by rw [bytesOf_length, HN.out]; omega)] at this
            omega
          have HT := hide hT
          clear R hT
          go_wp2
          go_loop [5] (fun i => ∃ k : Nat, k ≤ n ∧ i = .int .i64 k ∧ Hid (∀ (j : Nat) (hj : j < ss.length), j < k → Fine (ss[j]).data.toList)) (fun i => n - (intOf i).toNat)
          case atStart => exact ⟨0, by omega, rfl, hide fun j hj h => absurd h (by omega)⟩
          case round =>
            obtain ⟨k, hk, rfl, R⟩ := hrel
            by_cases hlt2 : k < n
            · have hks : k < ss.length := by rw [HN.out]; exact hlt2
              obtain ⟨x, hx⟩ : ∃ x, x = ss[k] := ⟨_, rfl⟩
              have hcell : w1.cell? ⟨bb, off + k, none⟩ = some (.string x) := by rw [hx]; exact HC.out k hks
              have hxs : x.size ≤ 1048576 := by rw [hx]; exact HZ.out _ (List.getElem_mem hks)
              have HX := hide hx
              clear hx
              go_wp2_with fail
              refine (joinable_any x _ hxs).mono ?_
              rintro e w2 ⟨r, rfl, rfl, hr⟩
              cases r with
              | false =>
                clear hr
                go_wp2
                go_ret
                exact ⟨rfl, Below.refl _ _⟩
              | true =>
                have HR := hide (hr rfl)
                clear hr
                go_wp2
                go_round
                case rel =>
                  refine ⟨k + 1, by omega, by go_num, hide fun j hj hjk => ?_⟩
                  by_cases e : j = k
                  · subst e; rw [← HX.out]; exact HR.out
                  · exact R.out j hj (by omega)
                case measure => simp [intOf]; omega
            · have FN : Hid (∀ y ∈ bytesOf ss, Fine y) := hide (by
                intro y hy
                obtain ⟨s, hs, rfl⟩ := List.mem_map.1 hy
                obtain ⟨j, hj, rfl⟩ := List.getElem_of_mem hs
                exact R.out j hj (by have := HN.out; omega))
              clear R
              have hmk : (Instr.makeSlice 23 (.int .i64 (n : Int)) (.int .i64 (n : Int))).run Try.prog w1 = .ok (.slice (some ⟨w1.heap.size, 0, none⟩) n n) (w1.alloc (.cells (madeCells #[Value.string ⟨#[]⟩] n) 9)) := by
                have h := run_make (P := Try.prog) w1 23 9 i0 (.string ⟨#[]⟩) Try.underlying23 hi hz0 .i64 .i64 (n : Int) (n : Int) (by omega) (by omega) (by rw [hz2]; omega) (by omega)
                rw [hz1] at h
                simpa [Value.cells] using h
              go_wp2
              go_loopw [7] (fun i wr => ∃ (k : Nat) (cs : Array Value), k ≤ n ∧ i = .int .i64 k ∧ wr.heap[w1.heap.size]? = some (.cells cs 9 (0, 0)) ∧ cs.size = n ∧ Hid (∀ (j : Nat) (hj : j < ss.length), j < k → cs[j]? = some (.string ss[j])) ∧ Below w1.heap.size w1 wr) (fun i _ => n - (intOf i).toNat)
              case atStart =>
                exact ⟨0, _, by omega, rfl, heap_alloc_new w1 _, size_madeCells _ _, hide fun j hj h => absurd h (by omega), (Below.refl _ _).alloc (Nat.le_refl _) _⟩
              case round =>
                obtain ⟨k, cs, hk3, rfl, hB, hcs, hpre, hbel⟩ := hrel
                clear hmk
                by_cases hlt3 : k < n
                · have hks : k < ss.length := by rw [HN.out]; exact hlt3
                  have S := hide (stored hB hcs hlt3 hks hpre.out hbel)
                  have hcell0 := HC.out k hks
                  have hbb : bb < w1.heap.size := World.block_lt_of_cell? w1 _ hcell0
                  have hcell : wr.cell? ⟨bb, off + k, none⟩ = some (.string ss[k]) := (hbel.cell (p := ⟨bb, off + k, none⟩) hbb).trans hcell0
                  obtain ⟨old, hdst⟩ : ∃ old, wr.cell? ⟨w1.heap.size, k, none⟩ = some old := ⟨_, by rw [Lib.cell_of_heap hB]; exact Array.getElem?_eq_getElem (by omega)⟩
                  have hfz : wr.frozen? ⟨w1.heap.size, k, none⟩ = false := Lib.frozen_of_heap hB k
                  generalize ss[k] = x at S hcell
                  clear hB hcs hpre hbel hcell0
                  go_wp2
                  obtain ⟨cs', s1, s2, s3, s4⟩ := S.out
                  go_roundw
                  case rel => exact ⟨k + 1, cs', by omega, by go_num, s1, s2, hide s3, s4⟩
                  case measure => simp [intOf]; omega
                · have hrd : Reads wr (.slice (some ⟨w1.heap.size, 0, none⟩) n n) (bytesOf ss) := copied hB HN.out fun j hj => hpre.out j hj (by have := HN.out; omega)
                  have RD := hide hrd
                  have hl : (bytesOf ss).length ≤ 1048578 := by rw [bytesOf_length, HN.out]; omega
                  have HL := hide hl
                  have HE := hide (show (bytesOf ss).length = n by rw [bytesOf_length, HN.out])
                  clear hB hcs hpre hrd hl
                  go_wp2_with fail
                  refine (join_any false RD.out HT.out).mono ?_
                  rintro e w2 ⟨rfl, hb2⟩
                  have RD2 := hide (RD.out.below hb2)
                  go_wp2_with fail
                  refine (pe_of_join false (bytesOf ss) FN.out HT.out _).mono ?_
                  rintro e w3 ⟨v3, rfl, hr3, hn3, hb3⟩
                  have RD3 := hide (RD2.out.below hb3)
                  have R3 := hide hr3
                  have N3 := hide hn3
                  clear hr3 hn3
                  go_wp2_with fail
                  refine (join_any true RD3.out HT.out).mono ?_
                  rintro e w4 ⟨rfl, hb4⟩
                  have RD4 := hide (RD3.out.below hb4)
                  go_wp2_with fail
                  refine (pe_of_join true (bytesOf ss) FN.out HT.out _).mono ?_
                  rintro e w5 ⟨v5, rfl, hr5, hn5, hb5⟩
                  have RD5 := hide (RD4.out.below hb5)
                  have R5 := hide hr5
                  have R35 := hide ((R3.out.below hb4).below hb5)
                  have N5 := hide hn5
                  have b2 := hbel.trans (hb2.mono hbel.size)
                  have b3 := b2.trans (hb3.mono b2.size)
                  have b4 := b3.trans (hb4.mono b3.size)
                  have b5 := b4.trans (hb5.mono b4.size)
                  clear hr5 hn5 hbel hb2 hb3 hb4 hb5 b2 b3 b4
                  by_cases h0 : n = 0
                  · have he : bytesOf ss = [] := List.eq_nil_of_length_eq_zero (by rw [HE.out]; exact h0)
                    have hv3 := N3.out he
                    have hv5 := N5.out he
                    have t1 : ((n : Int) == 0) = true := beq_iff_eq.2 (by omega)
                    rw [hv3] at R35 ⊢
                    rw [hv5] at R5 ⊢
                    clear hv3 hv5 he h0 N3 N5 R3
                    go_wp2_with fail
                    refine (same_true HL.out R35.out RD5.out).mono ?_
                    rintro e w6 ⟨rfl, n6, rfl⟩
                    go_wp2_with fail
                    refine (same_true HL.out (R5.out.drewN n6) (RD5.out.drewN n6)).mono ?_
                    rintro e w7 ⟨rfl, n7, rfl⟩
                    go_wp2
                    go_ret
                    exact ⟨rfl, below_drewN b5 _⟩
                  · have hv3 : ∃ x c, v3 = .slice (some x) n c := some_form R35.out HE.out h0
                    have hv5 : ∃ x c, v5 = .slice (some x) n c := some_form R5.out HE.out h0
                    obtain ⟨x3, c3, hv3⟩ := hv3
                    obtain ⟨x5, c5, hv5⟩ := hv5
                    have t1 : ((n : Int) == 0) = false := beq_eq_false_iff_ne.2 (by omega)
                    rw [hv3] at R35 ⊢
                    rw [hv5] at R5 ⊢
                    clear hv3 hv5 h0 N3 N5 R3
                    go_wp2_with fail
                    refine (same_true HL.out R35.out RD5.out).mono ?_
                    rintro e w6 ⟨rfl, n6, rfl⟩
                    go_wp2_with fail
                    refine (same_true HL.out (R5.out.drewN n6) (RD5.out.drewN n6)).mono ?_
                    rintro e w7 ⟨rfl, n7, rfl⟩
                    go_wp2
                    go_ret
                    exact ⟨rfl, below_drewN b5 _⟩
    · have t0 : (65536 : Int) < (n : Int) := by omega
      go_wp2
      go_ret
      exact ⟨rfl, Below.refl _ _⟩

theorem zz_zero (x : Addr) (c : Nat) (w : World) : Calls Try.prog 16 #[.slice (some x) 0 c] w fun e w' => e = .returned (.bool true) ∧ w' = w := by
  go_enter Try.func16, Try.ntmps16
  go_wp2
  go_loop [3, 4] (fun z i => z = .int .i64 0 ∧ i = .int .i64 0) (fun _ _ => 0)
  case atStart => exact ⟨rfl, rfl⟩
  case round =>
    obtain ⟨rfl, rfl⟩ := hrel
    go_wp2
    go_ret
    exact ⟨rfl, rfl⟩

set_option maxHeartbeats 1000000 in
/-- A slice that is not nil and holds no element, wherever it points. -/
theorem undo_zero (x : Addr) (c : Nat) (w : World) :
    Calls Try.prog 4 #[.slice (some x) 0 c] w fun e w' => e = .returned (.bool true) ∧ Below w.heap.size w w' := by
  have q0 := fun (w : World) (a : Option Addr) (n c : Nat) => Lib.run_eql_slice_nil (P := Try.prog) w 23 9 a n c 0 0 Try.underlying23
  have q1 := fun (w : World) (a : Option Addr) (n c : Nat) => run_neq_slice_nil_any (P := Try.prog) w 23 9 a n c 0 0 Try.underlying23
  have fineNil : ∀ y ∈ ([] : List (List UInt8)), Fine y := by intro y hy; cases hy
  have FN := hide fineNil
  clear fineNil
  obtain ⟨i0, hi, hz0, hz1, hz2⟩ := info_parts info9
  have hmk : (Instr.makeSlice 23 (.int .i64 0) (.int .i64 0)).run Try.prog w = .ok (.slice (some ⟨w.heap.size, 0, none⟩) 0 0) (w.alloc (.cells (madeCells #[Value.string ⟨#[]⟩] 0) 9)) := by
    have h := run_make (P := Try.prog) w 23 9 i0 (.string ⟨#[]⟩) Try.underlying23 hi hz0 .i64 .i64 0 0 (by omega) (by omega) (by rw [hz2]; omega) (by omega)
    rw [hz1] at h
    simpa [Value.cells] using h
  have RD : ∀ W : World, Reads W (.slice (some ⟨w.heap.size, 0, none⟩) 0 0) [] := fun W => .inr ⟨w.heap.size, 0, rfl, fun j u hu => by simp [cellsOf] at hu⟩
  have RD := hide RD
  go_enter Try.func4, Try.ntmps4
  go_wp2_with fail
  refine (zz_zero x c _).mono ?_
  rintro e w1 ⟨rfl, rfl⟩
  go_wp2
  go_loop [3, 4] (fun z i => z = .int .i64 0 ∧ i = .int .i64 0) (fun _ _ => 0)
  case atStart => exact ⟨rfl, rfl⟩
  case round =>
    obtain ⟨rfl, rfl⟩ := hrel
    go_wp2
    go_loop [5] (fun i => i = .int .i64 0) (fun _ => 0)
    case atStart => rfl
    case round =>
      subst hrel
      go_wp2
      go_loop [7] (fun i => i = .int .i64 0) (fun _ => 0)
      case atStart => rfl
      case round =>
        subst hrel
        clear hmk
        have hb1 : Below w1.heap.size w1 (w1.alloc (.cells (madeCells #[Value.string ⟨#[]⟩] 0) 9)) := (Below.refl _ _).alloc (Nat.le_refl _) _
        go_wp2_with fail
        refine (join_any false (RD.out _) (by decide)).mono ?_
        rintro e w2 ⟨rfl, hb2⟩
        go_wp2_with fail
        refine (pe_of_join false [] FN.out (by decide) _).mono ?_
        rintro e w3 ⟨v3, rfl, hr3, hn3, hb3⟩
        have hv3 := hn3 rfl
        rw [hv3]
        clear hn3 hr3 hv3
        go_wp2_with fail
        refine (join_any true (RD.out _) (by decide)).mono ?_
        rintro e w4 ⟨rfl, hb4⟩
        go_wp2_with fail
        refine (pe_of_join true [] FN.out (by decide) _).mono ?_
        rintro e w5 ⟨v5, rfl, hr5, hn5, hb5⟩
        have hv5 := hn5 rfl
        rw [hv5]
        clear hn5 hr5 hv5
        have b2 := hb1.trans (hb2.mono hb1.size)
        have b3 := b2.trans (hb3.mono b2.size)
        have b4 := b3.trans (hb4.mono b3.size)
        have b5 := b4.trans (hb5.mono b4.size)
        clear hb1 hb2 hb3 hb4 hb5 b2 b3 b4
        go_wp2_with fail
        refine (same_true (l := []) (by decide) (.inl ⟨rfl, rfl⟩) (RD.out _)).mono ?_
        rintro e w6 ⟨rfl, n6, rfl⟩
        go_wp2_with fail
        refine (same_true (l := []) (by decide) (.inl ⟨rfl, rfl⟩) (RD.out _)).mono ?_
        rintro e w7 ⟨rfl, n7, rfl⟩
        go_wp2
        go_ret
        exact ⟨rfl, below_drewN b5 _⟩
end Go.Proofs.Qxb6602912a.Split
