/- The walk of b1Join. -/
import Derived.Test.Qxb6602912aJoinWalks
import Derived.Lib.BufferRead
namespace Go.Proofs.Qxb6602912a.Split
open Go.RowKit

theorem str_mk (l : List UInt8) : Lib.strCells ⟨l.toArray⟩ = Lib.byteCells l := rfl
theorem cast_row {w : World} {B : Nat} {v : Value} {n m : Nat} {xs ys : List Value} (hn : n = m) (hx : xs = ys) (h : w.ownsRow B 5 1 v n xs) : w.ownsRow B 5 1 v m ys := by rw [← hn, ← hx]; exact h

/-- 'string(buf)' of a row of bytes that the call owns. -/
theorem conv_own {w : World} {B : Nat} {v : Value} {l : List UInt8} (h : w.ownsRow B 5 1 v l.length (Lib.byteCells l)) : (convert 36 9 v).run Try.prog w = .ok (.string ⟨l.toArray⟩) w := by
  rcases h.2 with ⟨hv, h0⟩ | ⟨g, cap, cur, hv, _⟩
  · have hl : l = [] := List.eq_nil_of_length_eq_zero h0
    rw [hv, hl]
    exact Lib.run_convert_nil_bytes w 36 9 5 0 Try.underlying36 Try.underlying5 Try.underlying9
  · rw [hv]
    refine run_convert_bytes_back w 36 9 5 ⟨g, 0, none⟩ cap l Try.underlying36 Try.underlying5 Try.underlying9 ?_
    intro j hj
    refine h.cells (g := g) (by rw [hv]; rfl) j _ ?_
    simp [Lib.byteCells, hj]

set_option maxHeartbeats 2000000 in
theorem join_plain (g cap : Nat) (l : List (List UInt8)) (w : World) (hc : ∀ j u, (cellsOf l)[j]? = some u → w.cell? ⟨g, j, none⟩ = some u) (ht : tot l ≤ 1048576) :
    Calls Try.prog 18 #[.slice (some ⟨g, 0, none⟩) l.length cap, .bool false] w fun e w' => e = .returned (.string ⟨(join false l).toArray⟩) ∧ Below w.heap.size w w' := by
  have HC := hide hc
  have hlen : l.length ≤ 1048576 := Nat.le_trans (len_tot l) ht
  have HT := hide ht
  clear hc ht
  obtain ⟨i0, hi, hz0, hz1, hz2⟩ := info_parts Bld.infoByte
  go_enter Try.func18, Try.ntmps18
  go_wp2
  go_loop [6, 7] (fun z i => ∃ k y : Nat, k ≤ l.length ∧ z = .int .i64 y ∧ i = .int .i64 k ∧ y + tot (l.drop k) ≤ 1048576) (fun _ i => l.length - (intOf i).toNat)
  case atStart => exact ⟨0, 0, by omega, rfl, rfl, by rw [List.drop_zero]; have := HT.out; omega⟩
  case round =>
    obtain ⟨k, y, hk, rfl, rfl, hy⟩ := hrel
    by_cases hlt : k < l.length
    · have hcell := Reads.at HC.out hlt
      have hxs := size_mk l[k]
      have htk := tot_at l k hlt
      generalize (⟨(l[k]).toArray⟩ : ByteArray) = X at hcell hxs
      have hy2 : y + (X.size + 1) + tot (l.drop (k + 1)) ≤ 1048576 := by omega
      have H2 := hide hy2
      have hb : y + X.size ≤ 1048576 := by omega
      clear hxs htk hy2 hy
      go_wp2
      go_round
      case rel => exact ⟨k + 1, y + (X.size + 1), by omega, by go_num, by go_num, H2.out⟩
      case measure => simp [intOf]; omega
    · have hy2 : y ≤ 1048576 := by omega
      clear hy
      have hmk : (Instr.makeSlice 36 (.int .i64 0) (.int .i64 (y : Int))).run Try.prog w = .ok (.slice (some ⟨w.heap.size, 0, none⟩) 0 y) (w.alloc (.cells (madeCells #[Value.int .u8 0] y) 5)) := by
        have h := run_make (P := Try.prog) w 36 5 i0 (.int .u8 0) Try.underlying36 hi hz0 .i64 .i64 0 (y : Int) (by omega) (by omega) (by rw [hz2]; omega) (by omega)
        rw [hz1] at h
        simpa [Value.cells] using h
      have hW : (w.alloc (.cells (madeCells #[Value.int .u8 0] y) 5)).ownsRow w.heap.size 5 1 (.slice (some ⟨w.heap.size, 0, none⟩) 0 y) 0 [] :=
        World.ownsRow_made w _ y (Nat.le_refl _) (by unfold maxLen; omega) (by rw [size_madeCells, Nat.mul_one])
      have HW := hide hW
      clear hW
      go_wp2
      go_loopw [8, 9] (fun v i wr => ∃ k : Nat, k ≤ l.length ∧ i = .int .i64 k ∧ wr.ownsRow w.heap.size 5 1 v (join false (l.take k)).length (Lib.byteCells (join false (l.take k))) ∧ Below w.heap.size w wr) (fun _ i _ => l.length - (intOf i).toNat)
      case atStart => exact ⟨0, by omega, rfl, HW.out, (Below.refl _ _).alloc (Nat.le_refl _) _⟩
      case round =>
        obtain ⟨k, hk, rfl, hown, hbel⟩ := hrel
        clear hmk HW
        have hsz := hbel.size
        have hjl : (join false (l.take k)).length ≤ 1048576 := by
          have h1 := join_tot false (l.take k)
          have h2 := tot_split l k
          have h3 := HT.out
          omega
        by_cases hlt : k < l.length
        · have hcell0 := Reads.at HC.out hlt
          have hgB : g < w.heap.size := World.block_lt_of_cell? w _ hcell0
          have hxs := size_mk l[k]
          have hxb : (l[k]).length ≤ 1048576 := by have h1 := tot_at l k hlt; have h2 := tot_split l k; have h3 := HT.out; omega
          obtain ⟨X, hX⟩ : ∃ X : ByteArray, X = ⟨(l[k]).toArray⟩ := ⟨_, rfl⟩
          have hXs : X.size ≤ 1048576 := by rw [hX, hxs]; exact hxb
          have hcell : ∀ W : World, Below w.heap.size w W → W.cell? ⟨g, k, none⟩ = some (.string X) := fun W hW => by rw [hX]; exact (hW.cell (p := ⟨g, k, none⟩) hgB).trans hcell0
          have HCELL := hide hcell
          have HX := hide hX
          clear hX hcell hxs hxb hcell0
          by_cases hk0 : 0 < k
          · have cc0 := HCELL.out _ hbel
            have cc1 := HCELL.out _ hbel
            go_wp2_with (at_builtin; refine wpList_append_own _ rfl (.tmp 40) (.tmp 41) 36 rfl w.heap.size 5 i0 (.int .u8 0) 1 1 Try.underlying36 hi hz0 hz1 hz2 rfl (by decide) _ _ _ rfl (hown.alloc _) ⟨wr.heap.size, 0, none⟩ 1 1 [.int .u8 47] rfl rfl ?d1 ?d2 ?d3 ?d4 ?d5 ?_)
            case d1 => exact (cell_one_new _ _ _)
            case d2 => intro u hu; simp at hu; subst hu; rfl
            case d3 => unfold maxLen; omega
            case d4 => omega
            case d5 => simp; omega
            intro vb wb hownb hgb _
            have hbelb := (hbel.alloc hsz _).grown hgb (by simp; omega) (fun k hk => (hown.lt k hk).1)
            have hsb := hbelb.size
            have cc2 := HCELL.out _ hbelb
            clear hgb hbel hown cc1 cc0
            go_wp2_with (at_builtin; refine Lib.wpList_append_own_string _ rfl (.tmp 43) (.tmp 47) 36 9 rfl w.heap.size 5 i0 Try.underlying36 Try.underlying9 hi hz0 hz1 hz2 _ _ _ rfl hownb X rfl ?e1 ?e2 ?e3 ?_)
            case e1 => unfold maxLen; omega
            case e2 => omega
            case e3 => omega
            intro vc wc hownc hgc _
            have hbelc := hbelb.grown hgc hsb (fun k hk => (hownb.lt k hk).1)
            have hfin : Hid (wc.ownsRow w.heap.size 5 1 vc (join false (l.take (k + 1))).length (Lib.byteCells (join false (l.take (k + 1))))) := hide (by
              rw [HX.out] at hownc
              rw [join_take false l k hlt hk0]
              refine cast_row ?_ ?_ hownc
              · simp only [List.length_append, size_mk]; show _ = (join false (l.take k)).length + (1 + (l[k]).length); omega
              · rw [bytes_app, bytes_app, str_mk]; simp [sep, Lib.byteCells])
            clear hownc hgc hbelb hownb cc2
            go_wp2
            go_roundw
            case rel => exact ⟨k + 1, by omega, by go_num, hfin.out, hbelc⟩
            case measure => simp [intOf]; omega
          · have cc0 := HCELL.out _ hbel
            have hk00 : Hid (k = 0) := hide (by omega)
            go_wp2_with (at_builtin; refine Lib.wpList_append_own_string _ rfl (.tmp 43) (.tmp 47) 36 9 rfl w.heap.size 5 i0 Try.underlying36 Try.underlying9 hi hz0 hz1 hz2 _ _ _ rfl hown X rfl ?e1 ?e2 ?e3 ?_)
            case e1 => unfold maxLen; omega
            case e2 => omega
            case e3 => omega
            intro vc wc hownc hgc _
            have hbelc := hbel.grown hgc hsz (fun k hk => (hown.lt k hk).1)
            have hfin : Hid (wc.ownsRow w.heap.size 5 1 vc (join false (l.take (k + 1))).length (Lib.byteCells (join false (l.take (k + 1))))) := hide (by
              rw [HX.out] at hownc
              obtain rfl := hk00.out
              rw [join_take0 false l hlt]
              refine cast_row ?_ ?_ hownc
              · rw [size_mk]; simp [join]
              · rw [str_mk]; simp [join, Lib.byteCells])
            clear hownc hgc hbel hown cc0 hk00
            go_wp2
            go_roundw
            case rel => exact ⟨k + 1, by omega, by go_num, hfin.out, hbelc⟩
            case measure => simp [intOf]; omega
        · have e : l.take k = l := List.take_of_length_le (by omega)
          rw [e] at hown
          have hconv := conv_own hown
          clear hown e hjl
          go_wp2
          go_ret
          exact ⟨rfl, hbel⟩

set_option maxHeartbeats 2000000 in
theorem join_esc (g cap : Nat) (l : List (List UInt8)) (w : World) (hc : ∀ j u, (cellsOf l)[j]? = some u → w.cell? ⟨g, j, none⟩ = some u) (ht : tot l ≤ 1048576) :
    Calls Try.prog 18 #[.slice (some ⟨g, 0, none⟩) l.length cap, .bool true] w fun e w' => e = .returned (.string ⟨(join true l).toArray⟩) ∧ Below w.heap.size w w' := by
  have HC := hide hc
  have hlen : l.length ≤ 1048576 := Nat.le_trans (len_tot l) ht
  have HT := hide ht
  clear hc ht
  obtain ⟨i0, hi, hz0, hz1, hz2⟩ := info_parts Bld.infoByte
  go_enter Try.func18, Try.ntmps18
  go_wp2
  go_loop [6, 7] (fun z i => ∃ k y : Nat, k ≤ l.length ∧ z = .int .i64 y ∧ i = .int .i64 k ∧ y + tot (l.drop k) ≤ 1048576) (fun _ i => l.length - (intOf i).toNat)
  case atStart => exact ⟨0, 0, by omega, rfl, rfl, by rw [List.drop_zero]; have := HT.out; omega⟩
  case round =>
    obtain ⟨k, y, hk, rfl, rfl, hy⟩ := hrel
    by_cases hlt : k < l.length
    · have hcell := Reads.at HC.out hlt
      have hxs := size_mk l[k]
      have htk := tot_at l k hlt
      generalize (⟨(l[k]).toArray⟩ : ByteArray) = X at hcell hxs
      have hy2 : y + (X.size + 2) + tot (l.drop (k + 1)) ≤ 1048576 := by omega
      have H2 := hide hy2
      have hb : y + X.size ≤ 1048576 := by omega
      clear hxs htk hy2 hy
      go_wp2
      go_round
      case rel => exact ⟨k + 1, y + (X.size + 2), by omega, by go_num, by go_num, H2.out⟩
      case measure => simp [intOf]; omega
    · have hy2 : y ≤ 1048576 := by omega
      clear hy
      have hmk : (Instr.makeSlice 36 (.int .i64 0) (.int .i64 (y : Int))).run Try.prog w = .ok (.slice (some ⟨w.heap.size, 0, none⟩) 0 y) (w.alloc (.cells (madeCells #[Value.int .u8 0] y) 5)) := by
        have h := run_make (P := Try.prog) w 36 5 i0 (.int .u8 0) Try.underlying36 hi hz0 .i64 .i64 0 (y : Int) (by omega) (by omega) (by rw [hz2]; omega) (by omega)
        rw [hz1] at h
        simpa [Value.cells] using h
      have hW : (w.alloc (.cells (madeCells #[Value.int .u8 0] y) 5)).ownsRow w.heap.size 5 1 (.slice (some ⟨w.heap.size, 0, none⟩) 0 y) 0 [] :=
        World.ownsRow_made w _ y (Nat.le_refl _) (by unfold maxLen; omega) (by rw [size_madeCells, Nat.mul_one])
      have HW := hide hW
      clear hW
      go_wp2
      go_loopw [8, 9] (fun v i wr => ∃ k : Nat, k ≤ l.length ∧ i = .int .i64 k ∧ wr.ownsRow w.heap.size 5 1 v (join true (l.take k)).length (Lib.byteCells (join true (l.take k))) ∧ Below w.heap.size w wr) (fun _ i _ => l.length - (intOf i).toNat)
      case atStart => exact ⟨0, by omega, rfl, HW.out, (Below.refl _ _).alloc (Nat.le_refl _) _⟩
      case round =>
        obtain ⟨k, hk, rfl, hown, hbel⟩ := hrel
        clear hmk HW
        have hsz := hbel.size
        have hjl : (join true (l.take k)).length ≤ 1048576 := by
          have h1 := join_tot true (l.take k)
          have h2 := tot_split l k
          have h3 := HT.out
          omega
        by_cases hlt : k < l.length
        · have hcell0 := Reads.at HC.out hlt
          have hgB : g < w.heap.size := World.block_lt_of_cell? w _ hcell0
          have hxs := size_mk l[k]
          have hxb : (l[k]).length ≤ 1048576 := by have h1 := tot_at l k hlt; have h2 := tot_split l k; have h3 := HT.out; omega
          obtain ⟨X, hX⟩ : ∃ X : ByteArray, X = ⟨(l[k]).toArray⟩ := ⟨_, rfl⟩
          have hXs : X.size ≤ 1048576 := by rw [hX, hxs]; exact hxb
          have hcell : ∀ W : World, Below w.heap.size w W → W.cell? ⟨g, k, none⟩ = some (.string X) := fun W hW => by rw [hX]; exact (hW.cell (p := ⟨g, k, none⟩) hgB).trans hcell0
          have HCELL := hide hcell
          have HX := hide hX
          clear hX hcell hxs hxb hcell0
          by_cases hk0 : 0 < k
          · have cc0 := HCELL.out _ hbel
            go_wp2_with (at_builtin; refine wpList_append_own _ rfl (.tmp 37) (.tmp 38) 36 rfl w.heap.size 5 i0 (.int .u8 0) 1 1 Try.underlying36 hi hz0 hz1 hz2 rfl (by decide) _ _ _ rfl (hown.alloc _) ⟨wr.heap.size, 0, none⟩ 1 1 [.int .u8 92] rfl rfl ?c1 ?c2 ?c3 ?c4 ?c5 ?_)
            case c1 => exact (cell_one_new _ _ _)
            case c2 => intro u hu; simp at hu; subst hu; rfl
            case c3 => unfold maxLen; omega
            case c4 => omega
            case c5 => simp; omega
            intro va wa howna hga _
            have hbela := (hbel.alloc hsz _).grown hga (by simp; omega) (fun k hk => (hown.lt k hk).1)
            have hsa := hbela.size
            clear hga hbel hown
            have cc1 := HCELL.out _ hbela
            go_wp2_with (at_builtin; refine wpList_append_own _ rfl (.tmp 40) (.tmp 41) 36 rfl w.heap.size 5 i0 (.int .u8 0) 1 1 Try.underlying36 hi hz0 hz1 hz2 rfl (by decide) _ _ _ rfl (howna.alloc _) ⟨wa.heap.size, 0, none⟩ 1 1 [.int .u8 47] rfl rfl ?d1 ?d2 ?d3 ?d4 ?d5 ?_)
            case d1 => exact (cell_one_new _ _ _)
            case d2 => intro u hu; simp at hu; subst hu; rfl
            case d3 => unfold maxLen; omega
            case d4 => omega
            case d5 => simp; omega
            intro vb wb hownb hgb _
            have hbelb := (hbela.alloc hsa _).grown hgb (by simp; omega) (fun k hk => (howna.lt k hk).1)
            have hsb := hbelb.size
            have cc2 := HCELL.out _ hbelb
            clear hgb hbela howna cc1 cc0
            go_wp2_with (at_builtin; refine Lib.wpList_append_own_string _ rfl (.tmp 43) (.tmp 47) 36 9 rfl w.heap.size 5 i0 Try.underlying36 Try.underlying9 hi hz0 hz1 hz2 _ _ _ rfl hownb X rfl ?e1 ?e2 ?e3 ?_)
            case e1 => unfold maxLen; omega
            case e2 => omega
            case e3 => omega
            intro vc wc hownc hgc _
            have hbelc := hbelb.grown hgc hsb (fun k hk => (hownb.lt k hk).1)
            have hfin : Hid (wc.ownsRow w.heap.size 5 1 vc (join true (l.take (k + 1))).length (Lib.byteCells (join true (l.take (k + 1))))) := hide (by
              rw [HX.out] at hownc
              rw [join_take true l k hlt hk0]
              refine cast_row ?_ ?_ hownc
              · simp only [List.length_append, size_mk]; show _ = (join true (l.take k)).length + (2 + (l[k]).length); omega
              · rw [bytes_app, bytes_app, str_mk]; simp [sep, Lib.byteCells])
            clear hownc hgc hbelb hownb cc2
            go_wp2
            go_roundw
            case rel => exact ⟨k + 1, by omega, by go_num, hfin.out, hbelc⟩
            case measure => simp [intOf]; omega
          · have cc0 := HCELL.out _ hbel
            have hk00 : Hid (k = 0) := hide (by omega)
            go_wp2_with (at_builtin; refine Lib.wpList_append_own_string _ rfl (.tmp 43) (.tmp 47) 36 9 rfl w.heap.size 5 i0 Try.underlying36 Try.underlying9 hi hz0 hz1 hz2 _ _ _ rfl hown X rfl ?e1 ?e2 ?e3 ?_)
            case e1 => unfold maxLen; omega
            case e2 => omega
            case e3 => omega
            intro vc wc hownc hgc _
            have hbelc := hbel.grown hgc hsz (fun k hk => (hown.lt k hk).1)
            have hfin : Hid (wc.ownsRow w.heap.size 5 1 vc (join true (l.take (k + 1))).length (Lib.byteCells (join true (l.take (k + 1))))) := hide (by
              rw [HX.out] at hownc
              obtain rfl := hk00.out
              rw [join_take0 true l hlt]
              refine cast_row ?_ ?_ hownc
              · rw [size_mk]; simp [join]
              · rw [str_mk]; simp [join, Lib.byteCells])
            clear hownc hgc hbel hown cc0 hk00
            go_wp2
            go_roundw
            case rel => exact ⟨k + 1, by omega, by go_num, hfin.out, hbelc⟩
            case measure => simp [intOf]; omega
        · have e : l.take k = l := List.take_of_length_le (by omega)
          rw [e] at hown
          have hconv := conv_own hown
          clear hown e hjl
          go_wp2
          go_ret
          exact ⟨rfl, hbel⟩

theorem join_nil (b : Bool) (w : World) :
    Calls Try.prog 18 #[.slice none 0 0, .bool b] w fun e w' => e = .returned (.string ⟨#[]⟩) ∧ Below w.heap.size w w' := by
  obtain ⟨i0, hi, hz0, hz1, hz2⟩ := info_parts Bld.infoByte
  have hmk : (Instr.makeSlice 36 (.int .i64 0) (.int .i64 0)).run Try.prog w = .ok (.slice (some ⟨w.heap.size, 0, none⟩) 0 0) (w.alloc (.cells (madeCells #[Value.int .u8 0] 0) 5)) := by
    have h := run_make (P := Try.prog) w 36 5 i0 (.int .u8 0) Try.underlying36 hi hz0 .i64 .i64 0 0 (by omega) (by omega) (by rw [hz2]; omega) (by omega)
    rw [hz1] at h
    simpa [Value.cells] using h
  have hW : (w.alloc (.cells (madeCells #[Value.int .u8 0] 0) 5)).ownsRow w.heap.size 5 1 (.slice (some ⟨w.heap.size, 0, none⟩) 0 0) ([] : List UInt8).length (Lib.byteCells []) :=
    World.ownsRow_made w _ 0 (Nat.le_refl _) (by unfold maxLen; omega) (by rw [size_madeCells, Nat.mul_one])
  have hconv := conv_own hW
  clear hW
  cases b
  all_goals
    go_enter Try.func18, Try.ntmps18
    go_wp2
    go_loop [6, 7] (fun z i => z = .int .i64 0 ∧ i = .int .i64 0) (fun _ _ => 0)
    case atStart => exact ⟨rfl, rfl⟩
    case round =>
      obtain ⟨rfl, rfl⟩ := hrel
      go_wp2
      go_loop [8, 9] (fun v i => v = .slice (some ⟨w.heap.size, 0, none⟩) 0 0 ∧ i = .int .i64 0) (fun _ _ => 0)
      case atStart => exact ⟨rfl, rfl⟩
      case round =>
        obtain ⟨rfl, rfl⟩ := hrel
        go_wp2
        go_ret
        exact ⟨rfl, (Below.refl _ _).alloc (Nat.le_refl _) _⟩
end Go.Proofs.Qxb6602912a.Split
