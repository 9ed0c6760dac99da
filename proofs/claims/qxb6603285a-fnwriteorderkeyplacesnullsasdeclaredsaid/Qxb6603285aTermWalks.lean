/- The walks of ZZWriteOrderKey and of the law's own table, orderKeyTerm. -/
import Derived.Test.Qxb6603285aKeyWalks
namespace Go.Proofs.Qxb6603285a.Ord
open Go.RowKit
set_option linter.unusedSimpArgs false

theorem term_len (d dir nulls : Int) (x : List UInt8) : (term d dir nulls x).length ≤ 2 * x.length + 64 := by
  unfold term lead clause
  simp only [List.length_append]
  split <;> (try split) <;> (try split) <;> (try split) <;> (try split) <;> simp [tAsc, tDesc, tFirst, tLast, tNotNull, tNull] <;> omega

set_option maxHeartbeats 1000000 in
theorem ZZ_any (d dir nulls : Int) (hd0 : 0 ≤ d) (hd1 : d ≤ 1) (hr0 : 0 ≤ dir) (hr1 : dir ≤ 1) (hn0 : 0 ≤ nulls) (hn1 : nulls ≤ 3) (p x kx : ByteArray) (ty : Int) (u : Bool) (hp : p.size ≤ 1048576) (hx : x.size ≤ 1048576) (w : World) :
    Calls Try.prog 9 #[.int .i64 d, .string p, .string x, .string kx, .int .i64 dir, .int .i64 nulls, .int .i64 ty, .bool u] w fun e w' => e = .returned (.string ⟨(p.data.toList ++ term d dir nulls x.data.toList).toArray⟩) ∧ Below w.heap.size w w' := by
  have hpl : p.data.toList.length = p.size := by simp
  have HP := hide hpl
  clear hpl
  go_enter Try.func9, Try.ntmps9
  go_wp2_with fail
  refine (Bld.WriteString_k w.heap.size w.heap.size [] p _ (Lib.IsBuilderF.of (Lib.fresh_isBuilder 41 5 w)) (by simp; omega) (by simp)).mono ?_
  rintro e w1 ⟨rfl, h1, hb1, _⟩
  have g1 : Lib.IsBuilderF 41 5 w.heap.size w.heap.size (Lib.byteCells p.data.toList) w1 := .inr h1
  have hbel1 : Below w.heap.size w w1 := ((Below.refl _ _).alloc (Nat.le_refl _) _).trans hb1
  have hlt : w.heap.size < w1.heap.size := by have := hb1.size; simp at this; omega
  clear h1 hb1
  go_wp2_with fail
  refine (order_any d dir nulls hd0 hd1 hr0 hr1 hn0 hn1 w.heap.size w w1 x kx ty u p.data.toList g1 hlt hbel1 (by rw [HP.out]; exact hp) hx).mono ?_
  rintro e w2 ⟨rfl, g2, hbel2⟩
  clear g1 hbel1
  go_wp2_with fail
  refine (Try.Builder_String_any_k w.heap.size w.heap.size _ w2 g2 hbel2.size).mono ?_
  rintro e w3 ⟨rfl, _, hb3, _⟩
  go_wp2
  go_ret
  exact ⟨rfl, hbel2.trans hb3⟩

/-- Strings by their bytes. -/
theorem str_eq {a b : ByteArray} (h : a.data.toList = b.data.toList) : a = b := by
  cases a with | mk a => cases b with | mk b =>
  congr 1
  exact Array.toList_inj.1 h

theorem tm_000 (x : ByteArray) (hx : x.size ≤ 1048576) (w : World) :
    Calls Try.prog 10 #[.int .i64 0, .string x, .int .i64 0, .int .i64 0] w fun e w' => (∃ s : ByteArray, e = .returned (.string s) ∧ s.data.toList = term 0 0 0 x.data.toList) ∧ w' = w := by
  go_enter Try.func10, Try.ntmps10
  go_wp2
  go_ret
  exact ⟨⟨_, rfl, by simp [term, lead, clause, tAsc, tDesc, tFirst, tLast, tNotNull, tNull]⟩, rfl⟩

theorem tm_001 (x : ByteArray) (hx : x.size ≤ 1048576) (w : World) :
    Calls Try.prog 10 #[.int .i64 0, .string x, .int .i64 0, .int .i64 1] w fun e w' => (∃ s : ByteArray, e = .returned (.string s) ∧ s.data.toList = term 0 0 1 x.data.toList) ∧ w' = w := by
  go_enter Try.func10, Try.ntmps10
  go_wp2
  go_ret
  exact ⟨⟨_, rfl, by simp [term, lead, clause, tAsc, tDesc, tFirst, tLast, tNotNull, tNull]⟩, rfl⟩

theorem tm_002 (x : ByteArray) (hx : x.size ≤ 1048576) (w : World) :
    Calls Try.prog 10 #[.int .i64 0, .string x, .int .i64 0, .int .i64 2] w fun e w' => (∃ s : ByteArray, e = .returned (.string s) ∧ s.data.toList = term 0 0 2 x.data.toList) ∧ w' = w := by
  go_enter Try.func10, Try.ntmps10
  go_wp2
  go_ret
  exact ⟨⟨_, rfl, by simp [term, lead, clause, tAsc, tDesc, tFirst, tLast, tNotNull, tNull]⟩, rfl⟩

theorem tm_003 (x : ByteArray) (hx : x.size ≤ 1048576) (w : World) :
    Calls Try.prog 10 #[.int .i64 0, .string x, .int .i64 0, .int .i64 3] w fun e w' => (∃ s : ByteArray, e = .returned (.string s) ∧ s.data.toList = term 0 0 3 x.data.toList) ∧ w' = w := by
  go_enter Try.func10, Try.ntmps10
  go_wp2
  go_ret
  exact ⟨⟨_, rfl, by simp [term, lead, clause, tAsc, tDesc, tFirst, tLast, tNotNull, tNull]⟩, rfl⟩

theorem tm_010 (x : ByteArray) (hx : x.size ≤ 1048576) (w : World) :
    Calls Try.prog 10 #[.int .i64 0, .string x, .int .i64 1, .int .i64 0] w fun e w' => (∃ s : ByteArray, e = .returned (.string s) ∧ s.data.toList = term 0 1 0 x.data.toList) ∧ w' = w := by
  go_enter Try.func10, Try.ntmps10
  go_wp2
  go_ret
  exact ⟨⟨_, rfl, by simp [term, lead, clause, tAsc, tDesc, tFirst, tLast, tNotNull, tNull]⟩, rfl⟩

theorem tm_011 (x : ByteArray) (hx : x.size ≤ 1048576) (w : World) :
    Calls Try.prog 10 #[.int .i64 0, .string x, .int .i64 1, .int .i64 1] w fun e w' => (∃ s : ByteArray, e = .returned (.string s) ∧ s.data.toList = term 0 1 1 x.data.toList) ∧ w' = w := by
  go_enter Try.func10, Try.ntmps10
  go_wp2
  go_ret
  exact ⟨⟨_, rfl, by simp [term, lead, clause, tAsc, tDesc, tFirst, tLast, tNotNull, tNull]⟩, rfl⟩

theorem tm_012 (x : ByteArray) (hx : x.size ≤ 1048576) (w : World) :
    Calls Try.prog 10 #[.int .i64 0, .string x, .int .i64 1, .int .i64 2] w fun e w' => (∃ s : ByteArray, e = .returned (.string s) ∧ s.data.toList = term 0 1 2 x.data.toList) ∧ w' = w := by
  go_enter Try.func10, Try.ntmps10
  go_wp2
  go_ret
  exact ⟨⟨_, rfl, by simp [term, lead, clause, tAsc, tDesc, tFirst, tLast, tNotNull, tNull]⟩, rfl⟩

theorem tm_013 (x : ByteArray) (hx : x.size ≤ 1048576) (w : World) :
    Calls Try.prog 10 #[.int .i64 0, .string x, .int .i64 1, .int .i64 3] w fun e w' => (∃ s : ByteArray, e = .returned (.string s) ∧ s.data.toList = term 0 1 3 x.data.toList) ∧ w' = w := by
  go_enter Try.func10, Try.ntmps10
  go_wp2
  go_ret
  exact ⟨⟨_, rfl, by simp [term, lead, clause, tAsc, tDesc, tFirst, tLast, tNotNull, tNull]⟩, rfl⟩

theorem tm_100 (x : ByteArray) (hx : x.size ≤ 1048576) (w : World) :
    Calls Try.prog 10 #[.int .i64 1, .string x, .int .i64 0, .int .i64 0] w fun e w' => (∃ s : ByteArray, e = .returned (.string s) ∧ s.data.toList = term 1 0 0 x.data.toList) ∧ w' = w := by
  go_enter Try.func10, Try.ntmps10
  go_wp2
  go_ret
  exact ⟨⟨_, rfl, by simp [term, lead, clause, tAsc, tDesc, tFirst, tLast, tNotNull, tNull]⟩, rfl⟩

theorem tm_101 (x : ByteArray) (hx : x.size ≤ 1048576) (w : World) :
    Calls Try.prog 10 #[.int .i64 1, .string x, .int .i64 0, .int .i64 1] w fun e w' => (∃ s : ByteArray, e = .returned (.string s) ∧ s.data.toList = term 1 0 1 x.data.toList) ∧ w' = w := by
  go_enter Try.func10, Try.ntmps10
  go_wp2
  go_ret
  exact ⟨⟨_, rfl, by simp [term, lead, clause, tAsc, tDesc, tFirst, tLast, tNotNull, tNull]⟩, rfl⟩

theorem tm_102 (x : ByteArray) (hx : x.size ≤ 1048576) (w : World) :
    Calls Try.prog 10 #[.int .i64 1, .string x, .int .i64 0, .int .i64 2] w fun e w' => (∃ s : ByteArray, e = .returned (.string s) ∧ s.data.toList = term 1 0 2 x.data.toList) ∧ w' = w := by
  go_enter Try.func10, Try.ntmps10
  go_wp2
  go_ret
  exact ⟨⟨_, rfl, by simp [term, lead, clause, tAsc, tDesc, tFirst, tLast, tNotNull, tNull]⟩, rfl⟩

theorem tm_103 (x : ByteArray) (hx : x.size ≤ 1048576) (w : World) :
    Calls Try.prog 10 #[.int .i64 1, .string x, .int .i64 0, .int .i64 3] w fun e w' => (∃ s : ByteArray, e = .returned (.string s) ∧ s.data.toList = term 1 0 3 x.data.toList) ∧ w' = w := by
  go_enter Try.func10, Try.ntmps10
  go_wp2
  go_ret
  exact ⟨⟨_, rfl, by simp [term, lead, clause, tAsc, tDesc, tFirst, tLast, tNotNull, tNull]⟩, rfl⟩

theorem tm_110 (x : ByteArray) (hx : x.size ≤ 1048576) (w : World) :
    Calls Try.prog 10 #[.int .i64 1, .string x, .int .i64 1, .int .i64 0] w fun e w' => (∃ s : ByteArray, e = .returned (.string s) ∧ s.data.toList = term 1 1 0 x.data.toList) ∧ w' = w := by
  go_enter Try.func10, Try.ntmps10
  go_wp2
  go_ret
  exact ⟨⟨_, rfl, by simp [term, lead, clause, tAsc, tDesc, tFirst, tLast, tNotNull, tNull]⟩, rfl⟩

theorem tm_111 (x : ByteArray) (hx : x.size ≤ 1048576) (w : World) :
    Calls Try.prog 10 #[.int .i64 1, .string x, .int .i64 1, .int .i64 1] w fun e w' => (∃ s : ByteArray, e = .returned (.string s) ∧ s.data.toList = term 1 1 1 x.data.toList) ∧ w' = w := by
  go_enter Try.func10, Try.ntmps10
  go_wp2
  go_ret
  exact ⟨⟨_, rfl, by simp [term, lead, clause, tAsc, tDesc, tFirst, tLast, tNotNull, tNull]⟩, rfl⟩

theorem tm_112 (x : ByteArray) (hx : x.size ≤ 1048576) (w : World) :
    Calls Try.prog 10 #[.int .i64 1, .string x, .int .i64 1, .int .i64 2] w fun e w' => (∃ s : ByteArray, e = .returned (.string s) ∧ s.data.toList = term 1 1 2 x.data.toList) ∧ w' = w := by
  go_enter Try.func10, Try.ntmps10
  go_wp2
  go_ret
  exact ⟨⟨_, rfl, by simp [term, lead, clause, tAsc, tDesc, tFirst, tLast, tNotNull, tNull]⟩, rfl⟩

theorem tm_113 (x : ByteArray) (hx : x.size ≤ 1048576) (w : World) :
    Calls Try.prog 10 #[.int .i64 1, .string x, .int .i64 1, .int .i64 3] w fun e w' => (∃ s : ByteArray, e = .returned (.string s) ∧ s.data.toList = term 1 1 3 x.data.toList) ∧ w' = w := by
  go_enter Try.func10, Try.ntmps10
  go_wp2
  go_ret
  exact ⟨⟨_, rfl, by simp [term, lead, clause, tAsc, tDesc, tFirst, tLast, tNotNull, tNull]⟩, rfl⟩

theorem term_any (d dir nulls : Int) (hd0 : 0 ≤ d) (hd1 : d ≤ 1) (hr0 : 0 ≤ dir) (hr1 : dir ≤ 1) (hn0 : 0 ≤ nulls) (hn1 : nulls ≤ 3) (x : ByteArray) (hx : x.size ≤ 1048576) (w : World) :
    Calls Try.prog 10 #[.int .i64 d, .string x, .int .i64 dir, .int .i64 nulls] w fun e w' => e = .returned (.string ⟨(term d dir nulls x.data.toList).toArray⟩) ∧ w' = w := by
  have fin : ∀ (e : Ending) (w' : World), ((∃ s : ByteArray, e = .returned (.string s) ∧ s.data.toList = term d dir nulls x.data.toList) ∧ w' = w) → e = .returned (.string ⟨(term d dir nulls x.data.toList).toArray⟩) ∧ w' = w := by
    rintro e w' ⟨⟨s, rfl, hs⟩, rfl⟩
    refine ⟨?_, rfl⟩
    rw [str_eq (a := s) (b := ⟨(term d dir nulls x.data.toList).toArray⟩) (by rw [hs])]
  have e0 : d = 0 ∨ d = 1 := by omega
  have e1 : dir = 0 ∨ dir = 1 := by omega
  have e2 : nulls = 0 ∨ nulls = 1 ∨ nulls = 2 ∨ nulls = 3 := by omega
  rcases e0 with rfl | rfl <;> rcases e1 with rfl | rfl <;> rcases e2 with rfl | rfl | rfl | rfl
  · exact (tm_000 x hx w).mono fin
  · exact (tm_001 x hx w).mono fin
  · exact (tm_002 x hx w).mono fin
  · exact (tm_003 x hx w).mono fin
  · exact (tm_010 x hx w).mono fin
  · exact (tm_011 x hx w).mono fin
  · exact (tm_012 x hx w).mono fin
  · exact (tm_013 x hx w).mono fin
  · exact (tm_100 x hx w).mono fin
  · exact (tm_101 x hx w).mono fin
  · exact (tm_102 x hx w).mono fin
  · exact (tm_103 x hx w).mono fin
  · exact (tm_110 x hx w).mono fin
  · exact (tm_111 x hx w).mono fin
  · exact (tm_112 x hx w).mono fin
  · exact (tm_113 x hx w).mono fin
end Go.Proofs.Qxb6603285a.Ord
