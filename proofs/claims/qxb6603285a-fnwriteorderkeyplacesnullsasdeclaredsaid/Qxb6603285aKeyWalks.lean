/- The walks of writeOrderKey and its helpers. -/
import Derived.Test.Qxb6603285aBuilder
import Derived.Test.Qxb6603285aKeyPlain
import Derived.WalkKit
import Derived.WalkSpells
import Derived.Deep.RegionWith
import Derived.Deep.DeepCutAuto
import Derived.Deep.QuietTactic
import Derived.BigQuiet
namespace Go.Proofs.Qxb6603285a.Ord
open Go.RowKit
set_option linter.unusedSimpArgs false

theorem hide {p : Prop} (h : p) : Hid p := h

/-- The key as a value, and its box. -/
def keyAgg (kx : ByteArray) (dir nulls ty : Int) (u : Bool) : Value := .agg #[.string kx, .int .i64 dir, .int .i64 nulls, .int .i64 ty, .bool u]

/-- The state of the walk: the builder (block B) holds bs; the key's box (block kb) stands; what lay below B stands. -/
def St (w0 : World) (B kb : Nat) (cs : Array Value) (bs : List UInt8) (W : World) : Prop :=
  Lib.IsBuilderF 41 5 B B (Lib.byteCells bs) W ∧ W.heap[kb]? = some (.cells cs 52 (0, 0)) ∧ Below B w0 W ∧ B ≤ W.heap.size

theorem St.alloc {w0 W : World} {B kb : Nat} {cs : Array Value} {bs : List UInt8} (h : St w0 B kb cs bs W) (o : Obj) : St w0 B kb cs bs (W.alloc o) := by
  obtain ⟨h1, h2, h3, h4⟩ := h
  have hlt : kb < W.heap.size := (Array.getElem?_eq_some_iff.1 h2).1
  exact ⟨h1.alloc o, (Lib.alloc_old W o kb hlt).trans h2, h3.alloc h4 o, by simp; omega⟩
theorem St.drewN {w0 W : World} {B kb : Nat} {cs : Array Value} {bs : List UInt8} (h : St w0 B kb cs bs W) (n : Nat) : St w0 B kb cs bs (W.drewN n) := by
  obtain ⟨h1, h2, h3, h4⟩ := h
  refine ⟨?_, h2, h3.trans ⟨rfl, rfl, rfl, Nat.le_refl _, fun _ _ => rfl⟩, h4⟩
  rcases h1 with h | h
  · exact .inl h
  · exact .inr h

theorem St.cells {w0 W : World} {B kb : Nat} {a b c d e : Value} {bs : List UInt8} (h : St w0 B kb #[a, b, c, d, e] bs W) :
    W.cell? ⟨kb, 0, none⟩ = some a ∧ W.cell? ⟨kb, 1, none⟩ = some b ∧ W.cell? ⟨kb, 2, none⟩ = some c ∧ W.cell? ⟨kb, 3, none⟩ = some d ∧ W.cell? ⟨kb, 4, none⟩ = some e := by
  have h2 := h.2.1
  refine ⟨?_, ?_, ?_, ?_, ?_⟩ <;> rw [Lib.cell_of_heap h2] <;> rfl

theorem bytes_app (a b : List UInt8) : Lib.byteCells (a ++ b) = Lib.byteCells a ++ Lib.byteCells b := by simp [Lib.byteCells]

/-- One WriteString. -/
theorem ws_step {w0 W : World} {B kb : Nat} {cs : Array Value} {bs : List UInt8} (s : ByteArray) (hkb : kb ≠ B) (h : St w0 B kb cs bs W) (hl : bs.length + s.size ≤ 140737488355328) :
    Calls Try.prog 22 #[.pointer (some ⟨B, 0, none⟩), .string s] W fun e w' => e = .returned (.tuple #[.int .i64 s.size, .nilIface]) ∧ St w0 B kb cs (bs ++ s.data.toList) w' := by
  obtain ⟨h1, h2, h3, h4⟩ := h
  refine (Bld.WriteString_k B B (Lib.byteCells bs) s W h1 (by rw [Lib.byteCells_length]; exact hl) h4).mono ?_
  rintro e w' ⟨rfl, g1, g2, g3⟩
  refine ⟨rfl, .inr ?_, g3 kb _ h2 (by intro e; exact hkb (Option.some.inj e)) (by intro c fz e; simp at e), h3.trans g2, Nat.le_trans h4 g2.size⟩
  rw [bytes_app]
  exact g1

/-- One write of a known text. -/
theorem ws_lit {w0 W : World} {B kb : Nat} {cs : Array Value} {bs : List UInt8} (l : List UInt8) (hkb : kb ≠ B) (h : St w0 B kb cs bs W) (hl : bs.length + l.length ≤ 140737488355328) :
    Calls Try.prog 22 #[.pointer (some ⟨B, 0, none⟩), .string ⟨l.toArray⟩] W fun e w' => e = .returned (.tuple #[.int .i64 (⟨l.toArray⟩ : ByteArray).size, .nilIface]) ∧ St w0 B kb cs (bs ++ l) w' := by
  have e : (⟨l.toArray⟩ : ByteArray).data.toList = l := by show l.toArray.toList = l; simp
  refine (ws_step ⟨l.toArray⟩ hkb h (by simpa [ByteArray.size] using hl)).mono ?_
  rintro e' w' ⟨rfl, h1⟩
  rw [e] at h1
  exact ⟨rfl, h1⟩

/-- A world in that state, under one name (so that the walk's simp does not part it). -/
structure Wld (w0 : World) (B kb : Nat) (cs : Array Value) (bs : List UInt8) where
  W : World
  ok : St w0 B kb cs bs W
theorem region_in {P : Program} {C : World → Prop} {id : Nat} {Q : Exit → Act → World → Prop} {a : Act} {w : World} {l : List Oper} (hm : P.follows .mixedOrders = true) (hB : Region.lexB .any l.toArray = true) (hC : C w.drew)
    (h : wpQuiet P l.toArray C (fun a' => ∀ w', C w' → Q .normal a' w') l a) : (Code.region id l.toArray true).wp P Q a w :=
  wp_region_quiet (C := C) hm hB hC (by simpa using h)
theorem dn_0 (w : World) : Calls Try.prog 29 #[.int .i64 1, .int .i64 0] w fun e w' => e = .returned (.bool true) ∧ w' = w := by
  go_enter Try.func29, Try.ntmps29
  go_wp2
  go_ret
  exact ⟨rfl, rfl⟩
theorem kn_01 (kx : ByteArray) (ty : Int) (u : Bool) (w : World) : Calls Try.prog 28 #[.agg #[.string kx, .int .i64 0, .int .i64 1, .int .i64 ty, .bool u], .int .i64 1] w fun e w' => e = .returned (.bool true) ∧ w' = w.alloc (.cells #[.string kx, .int .i64 0, .int .i64 1, .int .i64 ty, .bool u] 52) := by
  go_enter Try.func28, Try.ntmps28
  go_wp2
  go_ret
  exact ⟨rfl, rfl⟩
theorem kn_02 (kx : ByteArray) (ty : Int) (u : Bool) (w : World) : Calls Try.prog 28 #[.agg #[.string kx, .int .i64 0, .int .i64 2, .int .i64 ty, .bool u], .int .i64 1] w fun e w' => e = .returned (.bool true) ∧ w' = w.alloc (.cells #[.string kx, .int .i64 0, .int .i64 2, .int .i64 ty, .bool u] 52) := by
  go_enter Try.func28, Try.ntmps28
  go_wp2
  go_ret
  exact ⟨rfl, rfl⟩
theorem kn_03 (kx : ByteArray) (ty : Int) (u : Bool) (w : World) : Calls Try.prog 28 #[.agg #[.string kx, .int .i64 0, .int .i64 3, .int .i64 ty, .bool u], .int .i64 1] w fun e w' => e = .returned (.bool false) ∧ w' = w.alloc (.cells #[.string kx, .int .i64 0, .int .i64 3, .int .i64 ty, .bool u] 52) := by
  go_enter Try.func28, Try.ntmps28
  go_wp2
  go_ret
  exact ⟨rfl, rfl⟩
theorem dn_1 (w : World) : Calls Try.prog 29 #[.int .i64 1, .int .i64 1] w fun e w' => e = .returned (.bool false) ∧ w' = w := by
  go_enter Try.func29, Try.ntmps29
  go_wp2
  go_ret
  exact ⟨rfl, rfl⟩
theorem kn_11 (kx : ByteArray) (ty : Int) (u : Bool) (w : World) : Calls Try.prog 28 #[.agg #[.string kx, .int .i64 1, .int .i64 1, .int .i64 ty, .bool u], .int .i64 1] w fun e w' => e = .returned (.bool false) ∧ w' = w.alloc (.cells #[.string kx, .int .i64 1, .int .i64 1, .int .i64 ty, .bool u] 52) := by
  go_enter Try.func28, Try.ntmps28
  go_wp2
  go_ret
  exact ⟨rfl, rfl⟩
theorem kn_12 (kx : ByteArray) (ty : Int) (u : Bool) (w : World) : Calls Try.prog 28 #[.agg #[.string kx, .int .i64 1, .int .i64 2, .int .i64 ty, .bool u], .int .i64 1] w fun e w' => e = .returned (.bool true) ∧ w' = w.alloc (.cells #[.string kx, .int .i64 1, .int .i64 2, .int .i64 ty, .bool u] 52) := by
  go_enter Try.func28, Try.ntmps28
  go_wp2
  go_ret
  exact ⟨rfl, rfl⟩
theorem kn_13 (kx : ByteArray) (ty : Int) (u : Bool) (w : World) : Calls Try.prog 28 #[.agg #[.string kx, .int .i64 1, .int .i64 3, .int .i64 ty, .bool u], .int .i64 1] w fun e w' => e = .returned (.bool false) ∧ w' = w.alloc (.cells #[.string kx, .int .i64 1, .int .i64 3, .int .i64 ty, .bool u] 52) := by
  go_enter Try.func28, Try.ntmps28
  go_wp2
  go_ret
  exact ⟨rfl, rfl⟩

set_option maxHeartbeats 1000000 in
theorem order_000 (B : Nat) (w0 w : World) (x kx : ByteArray) (ty : Int) (u : Bool) (bs : List UInt8) (hb : Lib.IsBuilderF 41 5 B B (Lib.byteCells bs) w) (hB : B < w.heap.size) (hbel : Below B w0 w) (hl : bs.length ≤ 1048576) (hx : x.size ≤ 1048576) :
    Calls Try.prog 23 #[.int .i64 0, .pointer (some ⟨B, 0, none⟩), .string x, keyAgg kx 0 0 ty u] w fun e w' => e = .returned (.tuple #[]) ∧ Lib.IsBuilderF 41 5 B B (Lib.byteCells (bs ++ term 0 0 0 x.data.toList)) w' ∧ Below B w0 w' := by
  unfold keyAgg
  have hne : w.heap.size ≠ B := by omega
  have hxl : x.data.toList.length = x.size := by simp
  have HX := hide hxl
  clear hxl
  go_enter Try.func23, Try.ntmps23
  go_wp2
  have S0 : St w0 B w.heap.size #[.string kx, .int .i64 0, .int .i64 0, .int .i64 ty, .bool u] bs (w.alloc (.cells #[.string kx, .int .i64 0, .int .i64 0, .int .i64 ty, .bool u] 52)) :=
    ⟨hb.alloc _, heap_alloc_new w _, hbel.alloc (by omega) _, by simp; omega⟩
  go_quiet (fail)
  go_wp2_with fail
  refine (ws_step x hne (S0.drewN _) (by first | omega | (simp [HX.out, tAsc, tDesc, tFirst, tLast, tNotNull, tNull]; omega))).mono ?_
  rintro e w1 ⟨rfl, S1⟩
  have hs1 := hide S1
  obtain ⟨c0, c1, c2, c3, c4⟩ := S1.cells
  clear S1 S0
  go_wp2_with fail
  refine (ws_lit [32] hne hs1.out (by first | omega | (simp [HX.out, tAsc, tDesc, tFirst, tLast, tNotNull, tNull]; omega))).mono ?_
  rintro e w2 ⟨rfl, S1⟩
  have hs2 := hide S1
  obtain ⟨c0, c1, c2, c3, c4⟩ := S1.cells
  clear S1 hs1
  go_wp2_with (first | (go_at_call 30; go_in))
  refine (ws_lit tAsc hne hs2.out (by first | omega | (simp [HX.out, tAsc, tDesc, tFirst, tLast, tNotNull, tNull]; omega))).mono ?_
  rintro e w3 ⟨rfl, S1⟩
  have hs3 := hide S1
  obtain ⟨c0, c1, c2, c3, c4⟩ := S1.cells
  clear S1 hs2
  go_wp2
  go_end0
  refine ⟨rfl, ?_, hs3.out.2.2.1⟩
  have := hs3.out.1
  simpa [term, lead, clause, List.append_assoc] using this

set_option maxHeartbeats 1000000 in
theorem order_001 (B : Nat) (w0 w : World) (x kx : ByteArray) (ty : Int) (u : Bool) (bs : List UInt8) (hb : Lib.IsBuilderF 41 5 B B (Lib.byteCells bs) w) (hB : B < w.heap.size) (hbel : Below B w0 w) (hl : bs.length ≤ 1048576) (hx : x.size ≤ 1048576) :
    Calls Try.prog 23 #[.int .i64 0, .pointer (some ⟨B, 0, none⟩), .string x, keyAgg kx 0 1 ty u] w fun e w' => e = .returned (.tuple #[]) ∧ Lib.IsBuilderF 41 5 B B (Lib.byteCells (bs ++ term 0 0 1 x.data.toList)) w' ∧ Below B w0 w' := by
  unfold keyAgg
  have hne : w.heap.size ≠ B := by omega
  have hxl : x.data.toList.length = x.size := by simp
  have HX := hide hxl
  clear hxl
  go_enter Try.func23, Try.ntmps23
  go_wp2
  have S0 : St w0 B w.heap.size #[.string kx, .int .i64 0, .int .i64 1, .int .i64 ty, .bool u] bs (w.alloc (.cells #[.string kx, .int .i64 0, .int .i64 1, .int .i64 ty, .bool u] 52)) :=
    ⟨hb.alloc _, heap_alloc_new w _, hbel.alloc (by omega) _, by simp; omega⟩
  go_quiet (fail)
  go_wp2_with fail
  refine (ws_step x hne (S0.drewN _) (by first | omega | (simp [HX.out, tAsc, tDesc, tFirst, tLast, tNotNull, tNull]; omega))).mono ?_
  rintro e w1 ⟨rfl, S1⟩
  have hs1 := hide S1
  obtain ⟨c0, c1, c2, c3, c4⟩ := S1.cells
  clear S1 S0
  go_wp2_with fail
  refine (ws_lit [32] hne hs1.out (by first | omega | (simp [HX.out, tAsc, tDesc, tFirst, tLast, tNotNull, tNull]; omega))).mono ?_
  rintro e w2 ⟨rfl, S1⟩
  have hs2 := hide S1
  obtain ⟨c0, c1, c2, c3, c4⟩ := S1.cells
  clear S1 hs1
  go_wp2_with (first | (go_at_call 30; go_in))
  refine (ws_lit tAsc hne hs2.out (by first | omega | (simp [HX.out, tAsc, tDesc, tFirst, tLast, tNotNull, tNull]; omega))).mono ?_
  rintro e w3 ⟨rfl, S1⟩
  have hs3 := hide S1
  obtain ⟨c0, c1, c2, c3, c4⟩ := S1.cells
  clear S1 hs2
  go_wp2_with (first | (go_at_call 28; go_in) | (go_at_call 29; go_in))
  refine (ws_lit tLast hne (hs3.out.alloc _) (by first | omega | (simp [HX.out, tAsc, tDesc, tFirst, tLast, tNotNull, tNull]; omega))).mono ?_
  rintro e w4 ⟨rfl, S1⟩
  have hs4 := hide S1
  obtain ⟨c0, c1, c2, c3, c4⟩ := S1.cells
  clear S1 hs3
  go_wp2
  go_end0
  refine ⟨rfl, ?_, hs4.out.2.2.1⟩
  have := hs4.out.1
  simpa [term, lead, clause, List.append_assoc] using this

set_option maxHeartbeats 1000000 in
theorem order_002 (B : Nat) (w0 w : World) (x kx : ByteArray) (ty : Int) (u : Bool) (bs : List UInt8) (hb : Lib.IsBuilderF 41 5 B B (Lib.byteCells bs) w) (hB : B < w.heap.size) (hbel : Below B w0 w) (hl : bs.length ≤ 1048576) (hx : x.size ≤ 1048576) :
    Calls Try.prog 23 #[.int .i64 0, .pointer (some ⟨B, 0, none⟩), .string x, keyAgg kx 0 2 ty u] w fun e w' => e = .returned (.tuple #[]) ∧ Lib.IsBuilderF 41 5 B B (Lib.byteCells (bs ++ term 0 0 2 x.data.toList)) w' ∧ Below B w0 w' := by
  unfold keyAgg
  have hne : w.heap.size ≠ B := by omega
  have hxl : x.data.toList.length = x.size := by simp
  have HX := hide hxl
  clear hxl
  go_enter Try.func23, Try.ntmps23
  go_wp2
  have S0 : St w0 B w.heap.size #[.string kx, .int .i64 0, .int .i64 2, .int .i64 ty, .bool u] bs (w.alloc (.cells #[.string kx, .int .i64 0, .int .i64 2, .int .i64 ty, .bool u] 52)) :=
    ⟨hb.alloc _, heap_alloc_new w _, hbel.alloc (by omega) _, by simp; omega⟩
  go_quiet (fail)
  go_wp2_with fail
  refine (ws_step x hne (S0.drewN _) (by first | omega | (simp [HX.out, tAsc, tDesc, tFirst, tLast, tNotNull, tNull]; omega))).mono ?_
  rintro e w1 ⟨rfl, S1⟩
  have hs1 := hide S1
  obtain ⟨c0, c1, c2, c3, c4⟩ := S1.cells
  clear S1 S0
  go_wp2_with fail
  refine (ws_lit [32] hne hs1.out (by first | omega | (simp [HX.out, tAsc, tDesc, tFirst, tLast, tNotNull, tNull]; omega))).mono ?_
  rintro e w2 ⟨rfl, S1⟩
  have hs2 := hide S1
  obtain ⟨c0, c1, c2, c3, c4⟩ := S1.cells
  clear S1 hs1
  go_wp2_with (first | (go_at_call 30; go_in))
  refine (ws_lit tAsc hne hs2.out (by first | omega | (simp [HX.out, tAsc, tDesc, tFirst, tLast, tNotNull, tNull]; omega))).mono ?_
  rintro e w3 ⟨rfl, S1⟩
  have hs3 := hide S1
  obtain ⟨c0, c1, c2, c3, c4⟩ := S1.cells
  clear S1 hs2
  go_wp2_with (first | (go_at_call 28; go_in) | (go_at_call 29; go_in))
  refine (ws_lit tFirst hne (hs3.out.alloc _) (by first | omega | (simp [HX.out, tAsc, tDesc, tFirst, tLast, tNotNull, tNull]; omega))).mono ?_
  rintro e w4 ⟨rfl, S1⟩
  have hs4 := hide S1
  obtain ⟨c0, c1, c2, c3, c4⟩ := S1.cells
  clear S1 hs3
  go_wp2
  go_end0
  refine ⟨rfl, ?_, hs4.out.2.2.1⟩
  have := hs4.out.1
  simpa [term, lead, clause, List.append_assoc] using this

set_option maxHeartbeats 1000000 in
theorem order_003 (B : Nat) (w0 w : World) (x kx : ByteArray) (ty : Int) (u : Bool) (bs : List UInt8) (hb : Lib.IsBuilderF 41 5 B B (Lib.byteCells bs) w) (hB : B < w.heap.size) (hbel : Below B w0 w) (hl : bs.length ≤ 1048576) (hx : x.size ≤ 1048576) :
    Calls Try.prog 23 #[.int .i64 0, .pointer (some ⟨B, 0, none⟩), .string x, keyAgg kx 0 3 ty u] w fun e w' => e = .returned (.tuple #[]) ∧ Lib.IsBuilderF 41 5 B B (Lib.byteCells (bs ++ term 0 0 3 x.data.toList)) w' ∧ Below B w0 w' := by
  unfold keyAgg
  have hne : w.heap.size ≠ B := by omega
  have hxl : x.data.toList.length = x.size := by simp
  have HX := hide hxl
  clear hxl
  go_enter Try.func23, Try.ntmps23
  go_wp2
  have S0 : St w0 B w.heap.size #[.string kx, .int .i64 0, .int .i64 3, .int .i64 ty, .bool u] bs (w.alloc (.cells #[.string kx, .int .i64 0, .int .i64 3, .int .i64 ty, .bool u] 52)) :=
    ⟨hb.alloc _, heap_alloc_new w _, hbel.alloc (by omega) _, by simp; omega⟩
  go_quiet (fail)
  go_wp2_with fail
  refine (ws_step x hne (S0.drewN _) (by first | omega | (simp [HX.out, tAsc, tDesc, tFirst, tLast, tNotNull, tNull]; omega))).mono ?_
  rintro e w1 ⟨rfl, S1⟩
  have hs1 := hide S1
  obtain ⟨c0, c1, c2, c3, c4⟩ := S1.cells
  clear S1 S0
  go_wp2_with fail
  refine (ws_lit [32] hne hs1.out (by first | omega | (simp [HX.out, tAsc, tDesc, tFirst, tLast, tNotNull, tNull]; omega))).mono ?_
  rintro e w2 ⟨rfl, S1⟩
  have hs2 := hide S1
  obtain ⟨c0, c1, c2, c3, c4⟩ := S1.cells
  clear S1 hs1
  go_wp2_with (first | (go_at_call 30; go_in))
  refine (ws_lit tAsc hne hs2.out (by first | omega | (simp [HX.out, tAsc, tDesc, tFirst, tLast, tNotNull, tNull]; omega))).mono ?_
  rintro e w3 ⟨rfl, S1⟩
  have hs3 := hide S1
  obtain ⟨c0, c1, c2, c3, c4⟩ := S1.cells
  clear S1 hs2
  go_wp2_with (first | (go_at_call 28; go_in) | (go_at_call 29; go_in))
  refine (ws_lit tLast hne (hs3.out.alloc _) (by first | omega | (simp [HX.out, tAsc, tDesc, tFirst, tLast, tNotNull, tNull]; omega))).mono ?_
  rintro e w4 ⟨rfl, S1⟩
  have hs4 := hide S1
  obtain ⟨c0, c1, c2, c3, c4⟩ := S1.cells
  clear S1 hs3
  go_wp2
  go_end0
  refine ⟨rfl, ?_, hs4.out.2.2.1⟩
  have := hs4.out.1
  simpa [term, lead, clause, List.append_assoc] using this

set_option maxHeartbeats 1000000 in
theorem order_010 (B : Nat) (w0 w : World) (x kx : ByteArray) (ty : Int) (u : Bool) (bs : List UInt8) (hb : Lib.IsBuilderF 41 5 B B (Lib.byteCells bs) w) (hB : B < w.heap.size) (hbel : Below B w0 w) (hl : bs.length ≤ 1048576) (hx : x.size ≤ 1048576) :
    Calls Try.prog 23 #[.int .i64 0, .pointer (some ⟨B, 0, none⟩), .string x, keyAgg kx 1 0 ty u] w fun e w' => e = .returned (.tuple #[]) ∧ Lib.IsBuilderF 41 5 B B (Lib.byteCells (bs ++ term 0 1 0 x.data.toList)) w' ∧ Below B w0 w' := by
  unfold keyAgg
  have hne : w.heap.size ≠ B := by omega
  have hxl : x.data.toList.length = x.size := by simp
  have HX := hide hxl
  clear hxl
  go_enter Try.func23, Try.ntmps23
  go_wp2
  have S0 : St w0 B w.heap.size #[.string kx, .int .i64 1, .int .i64 0, .int .i64 ty, .bool u] bs (w.alloc (.cells #[.string kx, .int .i64 1, .int .i64 0, .int .i64 ty, .bool u] 52)) :=
    ⟨hb.alloc _, heap_alloc_new w _, hbel.alloc (by omega) _, by simp; omega⟩
  go_quiet (fail)
  go_wp2_with fail
  refine (ws_step x hne (S0.drewN _) (by first | omega | (simp [HX.out, tAsc, tDesc, tFirst, tLast, tNotNull, tNull]; omega))).mono ?_
  rintro e w1 ⟨rfl, S1⟩
  have hs1 := hide S1
  obtain ⟨c0, c1, c2, c3, c4⟩ := S1.cells
  clear S1 S0
  go_wp2_with fail
  refine (ws_lit [32] hne hs1.out (by first | omega | (simp [HX.out, tAsc, tDesc, tFirst, tLast, tNotNull, tNull]; omega))).mono ?_
  rintro e w2 ⟨rfl, S1⟩
  have hs2 := hide S1
  obtain ⟨c0, c1, c2, c3, c4⟩ := S1.cells
  clear S1 hs1
  go_wp2_with (first | (go_at_call 30; go_in))
  refine (ws_lit tDesc hne hs2.out (by first | omega | (simp [HX.out, tAsc, tDesc, tFirst, tLast, tNotNull, tNull]; omega))).mono ?_
  rintro e w3 ⟨rfl, S1⟩
  have hs3 := hide S1
  obtain ⟨c0, c1, c2, c3, c4⟩ := S1.cells
  clear S1 hs2
  go_wp2
  go_end0
  refine ⟨rfl, ?_, hs3.out.2.2.1⟩
  have := hs3.out.1
  simpa [term, lead, clause, List.append_assoc] using this

set_option maxHeartbeats 1000000 in
theorem order_011 (B : Nat) (w0 w : World) (x kx : ByteArray) (ty : Int) (u : Bool) (bs : List UInt8) (hb : Lib.IsBuilderF 41 5 B B (Lib.byteCells bs) w) (hB : B < w.heap.size) (hbel : Below B w0 w) (hl : bs.length ≤ 1048576) (hx : x.size ≤ 1048576) :
    Calls Try.prog 23 #[.int .i64 0, .pointer (some ⟨B, 0, none⟩), .string x, keyAgg kx 1 1 ty u] w fun e w' => e = .returned (.tuple #[]) ∧ Lib.IsBuilderF 41 5 B B (Lib.byteCells (bs ++ term 0 1 1 x.data.toList)) w' ∧ Below B w0 w' := by
  unfold keyAgg
  have hne : w.heap.size ≠ B := by omega
  have hxl : x.data.toList.length = x.size := by simp
  have HX := hide hxl
  clear hxl
  go_enter Try.func23, Try.ntmps23
  go_wp2
  have S0 : St w0 B w.heap.size #[.string kx, .int .i64 1, .int .i64 1, .int .i64 ty, .bool u] bs (w.alloc (.cells #[.string kx, .int .i64 1, .int .i64 1, .int .i64 ty, .bool u] 52)) :=
    ⟨hb.alloc _, heap_alloc_new w _, hbel.alloc (by omega) _, by simp; omega⟩
  go_quiet (fail)
  go_wp2_with fail
  refine (ws_step x hne (S0.drewN _) (by first | omega | (simp [HX.out, tAsc, tDesc, tFirst, tLast, tNotNull, tNull]; omega))).mono ?_
  rintro e w1 ⟨rfl, S1⟩
  have hs1 := hide S1
  obtain ⟨c0, c1, c2, c3, c4⟩ := S1.cells
  clear S1 S0
  go_wp2_with fail
  refine (ws_lit [32] hne hs1.out (by first | omega | (simp [HX.out, tAsc, tDesc, tFirst, tLast, tNotNull, tNull]; omega))).mono ?_
  rintro e w2 ⟨rfl, S1⟩
  have hs2 := hide S1
  obtain ⟨c0, c1, c2, c3, c4⟩ := S1.cells
  clear S1 hs1
  go_wp2_with (first | (go_at_call 30; go_in))
  refine (ws_lit tDesc hne hs2.out (by first | omega | (simp [HX.out, tAsc, tDesc, tFirst, tLast, tNotNull, tNull]; omega))).mono ?_
  rintro e w3 ⟨rfl, S1⟩
  have hs3 := hide S1
  obtain ⟨c0, c1, c2, c3, c4⟩ := S1.cells
  clear S1 hs2
  go_wp2_with (first | (go_at_call 28; go_in) | (go_at_call 29; go_in))
  refine (ws_lit tFirst hne (hs3.out.alloc _) (by first | omega | (simp [HX.out, tAsc, tDesc, tFirst, tLast, tNotNull, tNull]; omega))).mono ?_
  rintro e w4 ⟨rfl, S1⟩
  have hs4 := hide S1
  obtain ⟨c0, c1, c2, c3, c4⟩ := S1.cells
  clear S1 hs3
  go_wp2
  go_end0
  refine ⟨rfl, ?_, hs4.out.2.2.1⟩
  have := hs4.out.1
  simpa [term, lead, clause, List.append_assoc] using this

set_option maxHeartbeats 1000000 in
theorem order_012 (B : Nat) (w0 w : World) (x kx : ByteArray) (ty : Int) (u : Bool) (bs : List UInt8) (hb : Lib.IsBuilderF 41 5 B B (Lib.byteCells bs) w) (hB : B < w.heap.size) (hbel : Below B w0 w) (hl : bs.length ≤ 1048576) (hx : x.size ≤ 1048576) :
    Calls Try.prog 23 #[.int .i64 0, .pointer (some ⟨B, 0, none⟩), .string x, keyAgg kx 1 2 ty u] w fun e w' => e = .returned (.tuple #[]) ∧ Lib.IsBuilderF 41 5 B B (Lib.byteCells (bs ++ term 0 1 2 x.data.toList)) w' ∧ Below B w0 w' := by
  unfold keyAgg
  have hne : w.heap.size ≠ B := by omega
  have hxl : x.data.toList.length = x.size := by simp
  have HX := hide hxl
  clear hxl
  go_enter Try.func23, Try.ntmps23
  go_wp2
  have S0 : St w0 B w.heap.size #[.string kx, .int .i64 1, .int .i64 2, .int .i64 ty, .bool u] bs (w.alloc (.cells #[.string kx, .int .i64 1, .int .i64 2, .int .i64 ty, .bool u] 52)) :=
    ⟨hb.alloc _, heap_alloc_new w _, hbel.alloc (by omega) _, by simp; omega⟩
  go_quiet (fail)
  go_wp2_with fail
  refine (ws_step x hne (S0.drewN _) (by first | omega | (simp [HX.out, tAsc, tDesc, tFirst, tLast, tNotNull, tNull]; omega))).mono ?_
  rintro e w1 ⟨rfl, S1⟩
  have hs1 := hide S1
  obtain ⟨c0, c1, c2, c3, c4⟩ := S1.cells
  clear S1 S0
  go_wp2_with fail
  refine (ws_lit [32] hne hs1.out (by first | omega | (simp [HX.out, tAsc, tDesc, tFirst, tLast, tNotNull, tNull]; omega))).mono ?_
  rintro e w2 ⟨rfl, S1⟩
  have hs2 := hide S1
  obtain ⟨c0, c1, c2, c3, c4⟩ := S1.cells
  clear S1 hs1
  go_wp2_with (first | (go_at_call 30; go_in))
  refine (ws_lit tDesc hne hs2.out (by first | omega | (simp [HX.out, tAsc, tDesc, tFirst, tLast, tNotNull, tNull]; omega))).mono ?_
  rintro e w3 ⟨rfl, S1⟩
  have hs3 := hide S1
  obtain ⟨c0, c1, c2, c3, c4⟩ := S1.cells
  clear S1 hs2
  go_wp2_with (first | (go_at_call 28; go_in) | (go_at_call 29; go_in))
  refine (ws_lit tFirst hne (hs3.out.alloc _) (by first | omega | (simp [HX.out, tAsc, tDesc, tFirst, tLast, tNotNull, tNull]; omega))).mono ?_
  rintro e w4 ⟨rfl, S1⟩
  have hs4 := hide S1
  obtain ⟨c0, c1, c2, c3, c4⟩ := S1.cells
  clear S1 hs3
  go_wp2
  go_end0
  refine ⟨rfl, ?_, hs4.out.2.2.1⟩
  have := hs4.out.1
  simpa [term, lead, clause, List.append_assoc] using this

set_option maxHeartbeats 1000000 in
theorem order_013 (B : Nat) (w0 w : World) (x kx : ByteArray) (ty : Int) (u : Bool) (bs : List UInt8) (hb : Lib.IsBuilderF 41 5 B B (Lib.byteCells bs) w) (hB : B < w.heap.size) (hbel : Below B w0 w) (hl : bs.length ≤ 1048576) (hx : x.size ≤ 1048576) :
    Calls Try.prog 23 #[.int .i64 0, .pointer (some ⟨B, 0, none⟩), .string x, keyAgg kx 1 3 ty u] w fun e w' => e = .returned (.tuple #[]) ∧ Lib.IsBuilderF 41 5 B B (Lib.byteCells (bs ++ term 0 1 3 x.data.toList)) w' ∧ Below B w0 w' := by
  unfold keyAgg
  have hne : w.heap.size ≠ B := by omega
  have hxl : x.data.toList.length = x.size := by simp
  have HX := hide hxl
  clear hxl
  go_enter Try.func23, Try.ntmps23
  go_wp2
  have S0 : St w0 B w.heap.size #[.string kx, .int .i64 1, .int .i64 3, .int .i64 ty, .bool u] bs (w.alloc (.cells #[.string kx, .int .i64 1, .int .i64 3, .int .i64 ty, .bool u] 52)) :=
    ⟨hb.alloc _, heap_alloc_new w _, hbel.alloc (by omega) _, by simp; omega⟩
  go_quiet (fail)
  go_wp2_with fail
  refine (ws_step x hne (S0.drewN _) (by first | omega | (simp [HX.out, tAsc, tDesc, tFirst, tLast, tNotNull, tNull]; omega))).mono ?_
  rintro e w1 ⟨rfl, S1⟩
  have hs1 := hide S1
  obtain ⟨c0, c1, c2, c3, c4⟩ := S1.cells
  clear S1 S0
  go_wp2_with fail
  refine (ws_lit [32] hne hs1.out (by first | omega | (simp [HX.out, tAsc, tDesc, tFirst, tLast, tNotNull, tNull]; omega))).mono ?_
  rintro e w2 ⟨rfl, S1⟩
  have hs2 := hide S1
  obtain ⟨c0, c1, c2, c3, c4⟩ := S1.cells
  clear S1 hs1
  go_wp2_with (first | (go_at_call 30; go_in))
  refine (ws_lit tDesc hne hs2.out (by first | omega | (simp [HX.out, tAsc, tDesc, tFirst, tLast, tNotNull, tNull]; omega))).mono ?_
  rintro e w3 ⟨rfl, S1⟩
  have hs3 := hide S1
  obtain ⟨c0, c1, c2, c3, c4⟩ := S1.cells
  clear S1 hs2
  go_wp2_with (first | (go_at_call 28; go_in) | (go_at_call 29; go_in))
  refine (ws_lit tLast hne (hs3.out.alloc _) (by first | omega | (simp [HX.out, tAsc, tDesc, tFirst, tLast, tNotNull, tNull]; omega))).mono ?_
  rintro e w4 ⟨rfl, S1⟩
  have hs4 := hide S1
  obtain ⟨c0, c1, c2, c3, c4⟩ := S1.cells
  clear S1 hs3
  go_wp2
  go_end0
  refine ⟨rfl, ?_, hs4.out.2.2.1⟩
  have := hs4.out.1
  simpa [term, lead, clause, List.append_assoc] using this

set_option maxHeartbeats 1000000 in
theorem order_100 (B : Nat) (w0 w : World) (x kx : ByteArray) (ty : Int) (u : Bool) (bs : List UInt8) (hb : Lib.IsBuilderF 41 5 B B (Lib.byteCells bs) w) (hB : B < w.heap.size) (hbel : Below B w0 w) (hl : bs.length ≤ 1048576) (hx : x.size ≤ 1048576) :
    Calls Try.prog 23 #[.int .i64 1, .pointer (some ⟨B, 0, none⟩), .string x, keyAgg kx 0 0 ty u] w fun e w' => e = .returned (.tuple #[]) ∧ Lib.IsBuilderF 41 5 B B (Lib.byteCells (bs ++ term 1 0 0 x.data.toList)) w' ∧ Below B w0 w' := by
  unfold keyAgg
  have hne : w.heap.size ≠ B := by omega
  have hxl : x.data.toList.length = x.size := by simp
  have HX := hide hxl
  clear hxl
  go_enter Try.func23, Try.ntmps23
  go_wp2
  have S0 : St w0 B w.heap.size #[.string kx, .int .i64 0, .int .i64 0, .int .i64 ty, .bool u] bs (w.alloc (.cells #[.string kx, .int .i64 0, .int .i64 0, .int .i64 ty, .bool u] 52)) :=
    ⟨hb.alloc _, heap_alloc_new w _, hbel.alloc (by omega) _, by simp; omega⟩
  go_quiet (fail)
  go_wp2_with fail
  refine (ws_step x hne (S0.drewN _) (by first | omega | (simp [HX.out, tAsc, tDesc, tFirst, tLast, tNotNull, tNull]; omega))).mono ?_
  rintro e w1 ⟨rfl, S1⟩
  have hs1 := hide S1
  obtain ⟨c0, c1, c2, c3, c4⟩ := S1.cells
  clear S1 S0
  go_wp2_with fail
  refine (ws_lit [32] hne hs1.out (by first | omega | (simp [HX.out, tAsc, tDesc, tFirst, tLast, tNotNull, tNull]; omega))).mono ?_
  rintro e w2 ⟨rfl, S1⟩
  have hs2 := hide S1
  obtain ⟨c0, c1, c2, c3, c4⟩ := S1.cells
  clear S1 hs1
  go_wp2_with (first | (go_at_call 30; go_in))
  refine (ws_lit tAsc hne hs2.out (by first | omega | (simp [HX.out, tAsc, tDesc, tFirst, tLast, tNotNull, tNull]; omega))).mono ?_
  rintro e w3 ⟨rfl, S1⟩
  have hs3 := hide S1
  obtain ⟨c0, c1, c2, c3, c4⟩ := S1.cells
  clear S1 hs2
  go_wp2
  go_end0
  refine ⟨rfl, ?_, hs3.out.2.2.1⟩
  have := hs3.out.1
  simpa [term, lead, clause, List.append_assoc] using this

set_option maxHeartbeats 1000000 in
theorem order_101 (B : Nat) (w0 w : World) (x kx : ByteArray) (ty : Int) (u : Bool) (bs : List UInt8) (hb : Lib.IsBuilderF 41 5 B B (Lib.byteCells bs) w) (hB : B < w.heap.size) (hbel : Below B w0 w) (hl : bs.length ≤ 1048576) (hx : x.size ≤ 1048576) :
    Calls Try.prog 23 #[.int .i64 1, .pointer (some ⟨B, 0, none⟩), .string x, keyAgg kx 0 1 ty u] w fun e w' => e = .returned (.tuple #[]) ∧ Lib.IsBuilderF 41 5 B B (Lib.byteCells (bs ++ term 1 0 1 x.data.toList)) w' ∧ Below B w0 w' := by
  unfold keyAgg
  have hne : w.heap.size ≠ B := by omega
  have hxl : x.data.toList.length = x.size := by simp
  have HX := hide hxl
  clear hxl
  go_enter Try.func23, Try.ntmps23
  go_wp2
  have S0 : St w0 B w.heap.size #[.string kx, .int .i64 0, .int .i64 1, .int .i64 ty, .bool u] bs (w.alloc (.cells #[.string kx, .int .i64 0, .int .i64 1, .int .i64 ty, .bool u] 52)) :=
    ⟨hb.alloc _, heap_alloc_new w _, hbel.alloc (by omega) _, by simp; omega⟩
  refine region_in (C := fun W => ∃ v : Wld w0 B w.heap.size #[.string kx, .int .i64 0, .int .i64 1, .int .i64 ty, .bool u] bs, W = v.W) (by kernel_rfl) (by kernel_rfl) ⟨⟨_, S0.drewN 1⟩, rfl⟩ ?_
  have kne : Nonempty (Wld w0 B w.heap.size #[.string kx, .int .i64 0, .int .i64 1, .int .i64 ty, .bool u] bs) := ⟨⟨_, S0⟩⟩
  have k0 : ∀ v : Wld w0 B w.heap.size #[.string kx, .int .i64 0, .int .i64 1, .int .i64 ty, .bool u] bs, v.W.cell? ⟨w.heap.size, 0, none⟩ = some (.string kx) := fun v => v.ok.cells.1
  have k1 : ∀ v : Wld w0 B w.heap.size #[.string kx, .int .i64 0, .int .i64 1, .int .i64 ty, .bool u] bs, v.W.cell? ⟨w.heap.size, 1, none⟩ = some (.int .i64 0) := fun v => v.ok.cells.2.1
  have k2 : ∀ v : Wld w0 B w.heap.size #[.string kx, .int .i64 0, .int .i64 1, .int .i64 ty, .bool u] bs, v.W.cell? ⟨w.heap.size, 2, none⟩ = some (.int .i64 1) := fun v => v.ok.cells.2.2.1
  have k3 : ∀ v : Wld w0 B w.heap.size #[.string kx, .int .i64 0, .int .i64 1, .int .i64 ty, .bool u] bs, v.W.cell? ⟨w.heap.size, 3, none⟩ = some (.int .i64 ty) := fun v => v.ok.cells.2.2.2.1
  have k4 : ∀ v : Wld w0 B w.heap.size #[.string kx, .int .i64 0, .int .i64 1, .int .i64 ty, .bool u] bs, v.W.cell? ⟨w.heap.size, 4, none⟩ = some (.bool u) := fun v => v.ok.cells.2.2.2.2
  repeat (first | go_big_quiet_step (first | (go_at_call 28; refine (kn_01 kx ty u _).mono ?_; rintro e w' ⟨rfl, rfl⟩; exact ⟨rfl, ⟨_, St.alloc (Wld.ok _) _⟩, rfl⟩) | (go_at_call 29; refine (dn_0 _).mono ?_; rintro e w' ⟨rfl, rfl⟩; exact ⟨rfl, _, rfl⟩)) | quiet_step (first | (go_at_call 28; refine (kn_01 kx ty u _).mono ?_; rintro e w' ⟨rfl, rfl⟩; exact ⟨rfl, ⟨_, St.alloc (Wld.ok _) _⟩, rfl⟩) | (go_at_call 29; refine (dn_0 _).mono ?_; rintro e w' ⟨rfl, rfl⟩; exact ⟨rfl, _, rfl⟩)))
  refine wpQuiet_nil ?_
  intro wv hwv
  obtain ⟨⟨wq, hS⟩, rfl⟩ := hwv
  clear k0 k1 k2 k3 k4 kne S0 hb hbel
  have S0 := hide hS
  obtain ⟨c0, c1, c2, c3, c4⟩ := hS.cells
  clear hS
  go_wp2_with fail
  refine (ws_step x hne S0.out (by first | omega | (simp [HX.out, tAsc, tDesc, tFirst, tLast, tNotNull, tNull]; omega))).mono ?_
  rintro e w1 ⟨rfl, S1⟩
  have hs1 := hide S1
  obtain ⟨c0, c1, c2, c3, c4⟩ := S1.cells
  clear S1 S0
  go_wp2_with fail
  refine (ws_lit [32] hne hs1.out (by first | omega | (simp [HX.out, tAsc, tDesc, tFirst, tLast, tNotNull, tNull]; omega))).mono ?_
  rintro e w2 ⟨rfl, S1⟩
  have hs2 := hide S1
  obtain ⟨c0, c1, c2, c3, c4⟩ := S1.cells
  clear S1 hs1
  go_wp2_with (first | (go_at_call 30; go_in))
  refine (ws_lit tAsc hne hs2.out (by first | omega | (simp [HX.out, tAsc, tDesc, tFirst, tLast, tNotNull, tNull]; omega))).mono ?_
  rintro e w3 ⟨rfl, S1⟩
  have hs3 := hide S1
  obtain ⟨c0, c1, c2, c3, c4⟩ := S1.cells
  clear S1 hs2
  go_wp2
  go_end0
  refine ⟨rfl, ?_, hs3.out.2.2.1⟩
  have := hs3.out.1
  simpa [term, lead, clause, List.append_assoc] using this

set_option maxHeartbeats 1000000 in
theorem order_102 (B : Nat) (w0 w : World) (x kx : ByteArray) (ty : Int) (u : Bool) (bs : List UInt8) (hb : Lib.IsBuilderF 41 5 B B (Lib.byteCells bs) w) (hB : B < w.heap.size) (hbel : Below B w0 w) (hl : bs.length ≤ 1048576) (hx : x.size ≤ 1048576) :
    Calls Try.prog 23 #[.int .i64 1, .pointer (some ⟨B, 0, none⟩), .string x, keyAgg kx 0 2 ty u] w fun e w' => e = .returned (.tuple #[]) ∧ Lib.IsBuilderF 41 5 B B (Lib.byteCells (bs ++ term 1 0 2 x.data.toList)) w' ∧ Below B w0 w' := by
  unfold keyAgg
  have hne : w.heap.size ≠ B := by omega
  have hxl : x.data.toList.length = x.size := by simp
  have HX := hide hxl
  clear hxl
  go_enter Try.func23, Try.ntmps23
  go_wp2
  have S0 : St w0 B w.heap.size #[.string kx, .int .i64 0, .int .i64 2, .int .i64 ty, .bool u] bs (w.alloc (.cells #[.string kx, .int .i64 0, .int .i64 2, .int .i64 ty, .bool u] 52)) :=
    ⟨hb.alloc _, heap_alloc_new w _, hbel.alloc (by omega) _, by simp; omega⟩
  refine region_in (C := fun W => ∃ v : Wld w0 B w.heap.size #[.string kx, .int .i64 0, .int .i64 2, .int .i64 ty, .bool u] bs, W = v.W) (by kernel_rfl) (by kernel_rfl) ⟨⟨_, S0.drewN 1⟩, rfl⟩ ?_
  have kne : Nonempty (Wld w0 B w.heap.size #[.string kx, .int .i64 0, .int .i64 2, .int .i64 ty, .bool u] bs) := ⟨⟨_, S0⟩⟩
  have k0 : ∀ v : Wld w0 B w.heap.size #[.string kx, .int .i64 0, .int .i64 2, .int .i64 ty, .bool u] bs, v.W.cell? ⟨w.heap.size, 0, none⟩ = some (.string kx) := fun v => v.ok.cells.1
  have k1 : ∀ v : Wld w0 B w.heap.size #[.string kx, .int .i64 0, .int .i64 2, .int .i64 ty, .bool u] bs, v.W.cell? ⟨w.heap.size, 1, none⟩ = some (.int .i64 0) := fun v => v.ok.cells.2.1
  have k2 : ∀ v : Wld w0 B w.heap.size #[.string kx, .int .i64 0, .int .i64 2, .int .i64 ty, .bool u] bs, v.W.cell? ⟨w.heap.size, 2, none⟩ = some (.int .i64 2) := fun v => v.ok.cells.2.2.1
  have k3 : ∀ v : Wld w0 B w.heap.size #[.string kx, .int .i64 0, .int .i64 2, .int .i64 ty, .bool u] bs, v.W.cell? ⟨w.heap.size, 3, none⟩ = some (.int .i64 ty) := fun v => v.ok.cells.2.2.2.1
  have k4 : ∀ v : Wld w0 B w.heap.size #[.string kx, .int .i64 0, .int .i64 2, .int .i64 ty, .bool u] bs, v.W.cell? ⟨w.heap.size, 4, none⟩ = some (.bool u) := fun v => v.ok.cells.2.2.2.2
  repeat (first | go_big_quiet_step (first | (go_at_call 28; refine (kn_02 kx ty u _).mono ?_; rintro e w' ⟨rfl, rfl⟩; exact ⟨rfl, ⟨_, St.alloc (Wld.ok _) _⟩, rfl⟩) | (go_at_call 29; refine (dn_0 _).mono ?_; rintro e w' ⟨rfl, rfl⟩; exact ⟨rfl, _, rfl⟩)) | quiet_step (first | (go_at_call 28; refine (kn_02 kx ty u _).mono ?_; rintro e w' ⟨rfl, rfl⟩; exact ⟨rfl, ⟨_, St.alloc (Wld.ok _) _⟩, rfl⟩) | (go_at_call 29; refine (dn_0 _).mono ?_; rintro e w' ⟨rfl, rfl⟩; exact ⟨rfl, _, rfl⟩)))
  refine wpQuiet_nil ?_
  intro wv hwv
  obtain ⟨⟨wq, hS⟩, rfl⟩ := hwv
  clear k0 k1 k2 k3 k4 kne S0 hb hbel
  have S0 := hide hS
  obtain ⟨c0, c1, c2, c3, c4⟩ := hS.cells
  clear hS
  go_wp2_with fail
  refine (ws_step x hne S0.out (by first | omega | (simp [HX.out, tAsc, tDesc, tFirst, tLast, tNotNull, tNull]; omega))).mono ?_
  rintro e w1 ⟨rfl, S1⟩
  have hs1 := hide S1
  obtain ⟨c0, c1, c2, c3, c4⟩ := S1.cells
  clear S1 S0
  go_wp2_with fail
  refine (ws_lit [32] hne hs1.out (by first | omega | (simp [HX.out, tAsc, tDesc, tFirst, tLast, tNotNull, tNull]; omega))).mono ?_
  rintro e w2 ⟨rfl, S1⟩
  have hs2 := hide S1
  obtain ⟨c0, c1, c2, c3, c4⟩ := S1.cells
  clear S1 hs1
  go_wp2_with (first | (go_at_call 30; go_in))
  refine (ws_lit tAsc hne hs2.out (by first | omega | (simp [HX.out, tAsc, tDesc, tFirst, tLast, tNotNull, tNull]; omega))).mono ?_
  rintro e w3 ⟨rfl, S1⟩
  have hs3 := hide S1
  obtain ⟨c0, c1, c2, c3, c4⟩ := S1.cells
  clear S1 hs2
  go_wp2
  go_end0
  refine ⟨rfl, ?_, hs3.out.2.2.1⟩
  have := hs3.out.1
  simpa [term, lead, clause, List.append_assoc] using this

set_option maxHeartbeats 1000000 in
theorem order_103 (B : Nat) (w0 w : World) (x kx : ByteArray) (ty : Int) (u : Bool) (bs : List UInt8) (hb : Lib.IsBuilderF 41 5 B B (Lib.byteCells bs) w) (hB : B < w.heap.size) (hbel : Below B w0 w) (hl : bs.length ≤ 1048576) (hx : x.size ≤ 1048576) :
    Calls Try.prog 23 #[.int .i64 1, .pointer (some ⟨B, 0, none⟩), .string x, keyAgg kx 0 3 ty u] w fun e w' => e = .returned (.tuple #[]) ∧ Lib.IsBuilderF 41 5 B B (Lib.byteCells (bs ++ term 1 0 3 x.data.toList)) w' ∧ Below B w0 w' := by
  unfold keyAgg
  have hne : w.heap.size ≠ B := by omega
  have hxl : x.data.toList.length = x.size := by simp
  have HX := hide hxl
  clear hxl
  go_enter Try.func23, Try.ntmps23
  go_wp2
  have S0 : St w0 B w.heap.size #[.string kx, .int .i64 0, .int .i64 3, .int .i64 ty, .bool u] bs (w.alloc (.cells #[.string kx, .int .i64 0, .int .i64 3, .int .i64 ty, .bool u] 52)) :=
    ⟨hb.alloc _, heap_alloc_new w _, hbel.alloc (by omega) _, by simp; omega⟩
  refine region_in (C := fun W => ∃ v : Wld w0 B w.heap.size #[.string kx, .int .i64 0, .int .i64 3, .int .i64 ty, .bool u] bs, W = v.W) (by kernel_rfl) (by kernel_rfl) ⟨⟨_, S0.drewN 1⟩, rfl⟩ ?_
  have kne : Nonempty (Wld w0 B w.heap.size #[.string kx, .int .i64 0, .int .i64 3, .int .i64 ty, .bool u] bs) := ⟨⟨_, S0⟩⟩
  have k0 : ∀ v : Wld w0 B w.heap.size #[.string kx, .int .i64 0, .int .i64 3, .int .i64 ty, .bool u] bs, v.W.cell? ⟨w.heap.size, 0, none⟩ = some (.string kx) := fun v => v.ok.cells.1
  have k1 : ∀ v : Wld w0 B w.heap.size #[.string kx, .int .i64 0, .int .i64 3, .int .i64 ty, .bool u] bs, v.W.cell? ⟨w.heap.size, 1, none⟩ = some (.int .i64 0) := fun v => v.ok.cells.2.1
  have k2 : ∀ v : Wld w0 B w.heap.size #[.string kx, .int .i64 0, .int .i64 3, .int .i64 ty, .bool u] bs, v.W.cell? ⟨w.heap.size, 2, none⟩ = some (.int .i64 3) := fun v => v.ok.cells.2.2.1
  have k3 : ∀ v : Wld w0 B w.heap.size #[.string kx, .int .i64 0, .int .i64 3, .int .i64 ty, .bool u] bs, v.W.cell? ⟨w.heap.size, 3, none⟩ = some (.int .i64 ty) := fun v => v.ok.cells.2.2.2.1
  have k4 : ∀ v : Wld w0 B w.heap.size #[.string kx, .int .i64 0, .int .i64 3, .int .i64 ty, .bool u] bs, v.W.cell? ⟨w.heap.size, 4, none⟩ = some (.bool u) := fun v => v.ok.cells.2.2.2.2
  repeat (first | go_big_quiet_step (first | (go_at_call 28; refine (kn_03 kx ty u _).mono ?_; rintro e w' ⟨rfl, rfl⟩; exact ⟨rfl, ⟨_, St.alloc (Wld.ok _) _⟩, rfl⟩) | (go_at_call 29; refine (dn_0 _).mono ?_; rintro e w' ⟨rfl, rfl⟩; exact ⟨rfl, _, rfl⟩)) | quiet_step (first | (go_at_call 28; refine (kn_03 kx ty u _).mono ?_; rintro e w' ⟨rfl, rfl⟩; exact ⟨rfl, ⟨_, St.alloc (Wld.ok _) _⟩, rfl⟩) | (go_at_call 29; refine (dn_0 _).mono ?_; rintro e w' ⟨rfl, rfl⟩; exact ⟨rfl, _, rfl⟩)))
  refine wpQuiet_nil ?_
  intro wv hwv
  obtain ⟨⟨wq, hS⟩, rfl⟩ := hwv
  clear k0 k1 k2 k3 k4 kne S0 hb hbel
  have S0 := hide hS
  obtain ⟨c0, c1, c2, c3, c4⟩ := hS.cells
  clear hS
  go_wp2_with fail
  refine (ws_lit [40] hne S0.out (by first | omega | (simp [HX.out, tAsc, tDesc, tFirst, tLast, tNotNull, tNull]; omega))).mono ?_
  rintro e w1 ⟨rfl, S1⟩
  have hs1 := hide S1
  obtain ⟨c0, c1, c2, c3, c4⟩ := S1.cells
  clear S1 S0
  go_wp2_with fail
  refine (ws_step x hne hs1.out (by first | omega | (simp [HX.out, tAsc, tDesc, tFirst, tLast, tNotNull, tNull]; omega))).mono ?_
  rintro e w2 ⟨rfl, S1⟩
  have hs2 := hide S1
  obtain ⟨c0, c1, c2, c3, c4⟩ := S1.cells
  clear S1 hs1
  go_wp2_with (first | (go_at_call 28; go_in) | (go_at_call 29; go_in))
  refine (ws_lit tNull hne (hs2.out.alloc _) (by first | omega | (simp [HX.out, tAsc, tDesc, tFirst, tLast, tNotNull, tNull]; omega))).mono ?_
  rintro e w3 ⟨rfl, S1⟩
  have hs3 := hide S1
  obtain ⟨c0, c1, c2, c3, c4⟩ := S1.cells
  clear S1 hs2
  go_wp2_with fail
  refine (ws_step x hne hs3.out (by first | omega | (simp [HX.out, tAsc, tDesc, tFirst, tLast, tNotNull, tNull]; omega))).mono ?_
  rintro e w4 ⟨rfl, S1⟩
  have hs4 := hide S1
  obtain ⟨c0, c1, c2, c3, c4⟩ := S1.cells
  clear S1 hs3
  go_wp2_with fail
  refine (ws_lit [32] hne hs4.out (by first | omega | (simp [HX.out, tAsc, tDesc, tFirst, tLast, tNotNull, tNull]; omega))).mono ?_
  rintro e w5 ⟨rfl, S1⟩
  have hs5 := hide S1
  obtain ⟨c0, c1, c2, c3, c4⟩ := S1.cells
  clear S1 hs4
  go_wp2_with (first | (go_at_call 30; go_in))
  refine (ws_lit tAsc hne hs5.out (by first | omega | (simp [HX.out, tAsc, tDesc, tFirst, tLast, tNotNull, tNull]; omega))).mono ?_
  rintro e w6 ⟨rfl, S1⟩
  have hs6 := hide S1
  obtain ⟨c0, c1, c2, c3, c4⟩ := S1.cells
  clear S1 hs5
  go_wp2
  go_end0
  refine ⟨rfl, ?_, hs6.out.2.2.1⟩
  have := hs6.out.1
  simpa [term, lead, clause, List.append_assoc] using this

set_option maxHeartbeats 1000000 in
theorem order_110 (B : Nat) (w0 w : World) (x kx : ByteArray) (ty : Int) (u : Bool) (bs : List UInt8) (hb : Lib.IsBuilderF 41 5 B B (Lib.byteCells bs) w) (hB : B < w.heap.size) (hbel : Below B w0 w) (hl : bs.length ≤ 1048576) (hx : x.size ≤ 1048576) :
    Calls Try.prog 23 #[.int .i64 1, .pointer (some ⟨B, 0, none⟩), .string x, keyAgg kx 1 0 ty u] w fun e w' => e = .returned (.tuple #[]) ∧ Lib.IsBuilderF 41 5 B B (Lib.byteCells (bs ++ term 1 1 0 x.data.toList)) w' ∧ Below B w0 w' := by
  unfold keyAgg
  have hne : w.heap.size ≠ B := by omega
  have hxl : x.data.toList.length = x.size := by simp
  have HX := hide hxl
  clear hxl
  go_enter Try.func23, Try.ntmps23
  go_wp2
  have S0 : St w0 B w.heap.size #[.string kx, .int .i64 1, .int .i64 0, .int .i64 ty, .bool u] bs (w.alloc (.cells #[.string kx, .int .i64 1, .int .i64 0, .int .i64 ty, .bool u] 52)) :=
    ⟨hb.alloc _, heap_alloc_new w _, hbel.alloc (by omega) _, by simp; omega⟩
  go_quiet (fail)
  go_wp2_with fail
  refine (ws_step x hne (S0.drewN _) (by first | omega | (simp [HX.out, tAsc, tDesc, tFirst, tLast, tNotNull, tNull]; omega))).mono ?_
  rintro e w1 ⟨rfl, S1⟩
  have hs1 := hide S1
  obtain ⟨c0, c1, c2, c3, c4⟩ := S1.cells
  clear S1 S0
  go_wp2_with fail
  refine (ws_lit [32] hne hs1.out (by first | omega | (simp [HX.out, tAsc, tDesc, tFirst, tLast, tNotNull, tNull]; omega))).mono ?_
  rintro e w2 ⟨rfl, S1⟩
  have hs2 := hide S1
  obtain ⟨c0, c1, c2, c3, c4⟩ := S1.cells
  clear S1 hs1
  go_wp2_with (first | (go_at_call 30; go_in))
  refine (ws_lit tDesc hne hs2.out (by first | omega | (simp [HX.out, tAsc, tDesc, tFirst, tLast, tNotNull, tNull]; omega))).mono ?_
  rintro e w3 ⟨rfl, S1⟩
  have hs3 := hide S1
  obtain ⟨c0, c1, c2, c3, c4⟩ := S1.cells
  clear S1 hs2
  go_wp2
  go_end0
  refine ⟨rfl, ?_, hs3.out.2.2.1⟩
  have := hs3.out.1
  simpa [term, lead, clause, List.append_assoc] using this

set_option maxHeartbeats 1000000 in
theorem order_111 (B : Nat) (w0 w : World) (x kx : ByteArray) (ty : Int) (u : Bool) (bs : List UInt8) (hb : Lib.IsBuilderF 41 5 B B (Lib.byteCells bs) w) (hB : B < w.heap.size) (hbel : Below B w0 w) (hl : bs.length ≤ 1048576) (hx : x.size ≤ 1048576) :
    Calls Try.prog 23 #[.int .i64 1, .pointer (some ⟨B, 0, none⟩), .string x, keyAgg kx 1 1 ty u] w fun e w' => e = .returned (.tuple #[]) ∧ Lib.IsBuilderF 41 5 B B (Lib.byteCells (bs ++ term 1 1 1 x.data.toList)) w' ∧ Below B w0 w' := by
  unfold keyAgg
  have hne : w.heap.size ≠ B := by omega
  have hxl : x.data.toList.length = x.size := by simp
  have HX := hide hxl
  clear hxl
  go_enter Try.func23, Try.ntmps23
  go_wp2
  have S0 : St w0 B w.heap.size #[.string kx, .int .i64 1, .int .i64 1, .int .i64 ty, .bool u] bs (w.alloc (.cells #[.string kx, .int .i64 1, .int .i64 1, .int .i64 ty, .bool u] 52)) :=
    ⟨hb.alloc _, heap_alloc_new w _, hbel.alloc (by omega) _, by simp; omega⟩
  refine region_in (C := fun W => ∃ v : Wld w0 B w.heap.size #[.string kx, .int .i64 1, .int .i64 1, .int .i64 ty, .bool u] bs, W = v.W) (by kernel_rfl) (by kernel_rfl) ⟨⟨_, S0.drewN 1⟩, rfl⟩ ?_
  have kne : Nonempty (Wld w0 B w.heap.size #[.string kx, .int .i64 1, .int .i64 1, .int .i64 ty, .bool u] bs) := ⟨⟨_, S0⟩⟩
  have k0 : ∀ v : Wld w0 B w.heap.size #[.string kx, .int .i64 1, .int .i64 1, .int .i64 ty, .bool u] bs, v.W.cell? ⟨w.heap.size, 0, none⟩ = some (.string kx) := fun v => v.ok.cells.1
  have k1 : ∀ v : Wld w0 B w.heap.size #[.string kx, .int .i64 1, .int .i64 1, .int .i64 ty, .bool u] bs, v.W.cell? ⟨w.heap.size, 1, none⟩ = some (.int .i64 1) := fun v => v.ok.cells.2.1
  have k2 : ∀ v : Wld w0 B w.heap.size #[.string kx, .int .i64 1, .int .i64 1, .int .i64 ty, .bool u] bs, v.W.cell? ⟨w.heap.size, 2, none⟩ = some (.int .i64 1) := fun v => v.ok.cells.2.2.1
  have k3 : ∀ v : Wld w0 B w.heap.size #[.string kx, .int .i64 1, .int .i64 1, .int .i64 ty, .bool u] bs, v.W.cell? ⟨w.heap.size, 3, none⟩ = some (.int .i64 ty) := fun v => v.ok.cells.2.2.2.1
  have k4 : ∀ v : Wld w0 B w.heap.size #[.string kx, .int .i64 1, .int .i64 1, .int .i64 ty, .bool u] bs, v.W.cell? ⟨w.heap.size, 4, none⟩ = some (.bool u) := fun v => v.ok.cells.2.2.2.2
  repeat (first | go_big_quiet_step (first | (go_at_call 28; refine (kn_11 kx ty u _).mono ?_; rintro e w' ⟨rfl, rfl⟩; exact ⟨rfl, ⟨_, St.alloc (Wld.ok _) _⟩, rfl⟩) | (go_at_call 29; refine (dn_1 _).mono ?_; rintro e w' ⟨rfl, rfl⟩; exact ⟨rfl, _, rfl⟩)) | quiet_step (first | (go_at_call 28; refine (kn_11 kx ty u _).mono ?_; rintro e w' ⟨rfl, rfl⟩; exact ⟨rfl, ⟨_, St.alloc (Wld.ok _) _⟩, rfl⟩) | (go_at_call 29; refine (dn_1 _).mono ?_; rintro e w' ⟨rfl, rfl⟩; exact ⟨rfl, _, rfl⟩)))
  refine wpQuiet_nil ?_
  intro wv hwv
  obtain ⟨⟨wq, hS⟩, rfl⟩ := hwv
  clear k0 k1 k2 k3 k4 kne S0 hb hbel
  have S0 := hide hS
  obtain ⟨c0, c1, c2, c3, c4⟩ := hS.cells
  clear hS
  go_wp2_with fail
  refine (ws_step x hne S0.out (by first | omega | (simp [HX.out, tAsc, tDesc, tFirst, tLast, tNotNull, tNull]; omega))).mono ?_
  rintro e w1 ⟨rfl, S1⟩
  have hs1 := hide S1
  obtain ⟨c0, c1, c2, c3, c4⟩ := S1.cells
  clear S1 S0
  go_wp2_with fail
  refine (ws_lit [32] hne hs1.out (by first | omega | (simp [HX.out, tAsc, tDesc, tFirst, tLast, tNotNull, tNull]; omega))).mono ?_
  rintro e w2 ⟨rfl, S1⟩
  have hs2 := hide S1
  obtain ⟨c0, c1, c2, c3, c4⟩ := S1.cells
  clear S1 hs1
  go_wp2_with (first | (go_at_call 30; go_in))
  refine (ws_lit tDesc hne hs2.out (by first | omega | (simp [HX.out, tAsc, tDesc, tFirst, tLast, tNotNull, tNull]; omega))).mono ?_
  rintro e w3 ⟨rfl, S1⟩
  have hs3 := hide S1
  obtain ⟨c0, c1, c2, c3, c4⟩ := S1.cells
  clear S1 hs2
  go_wp2
  go_end0
  refine ⟨rfl, ?_, hs3.out.2.2.1⟩
  have := hs3.out.1
  simpa [term, lead, clause, List.append_assoc] using this

set_option maxHeartbeats 1000000 in
theorem order_112 (B : Nat) (w0 w : World) (x kx : ByteArray) (ty : Int) (u : Bool) (bs : List UInt8) (hb : Lib.IsBuilderF 41 5 B B (Lib.byteCells bs) w) (hB : B < w.heap.size) (hbel : Below B w0 w) (hl : bs.length ≤ 1048576) (hx : x.size ≤ 1048576) :
    Calls Try.prog 23 #[.int .i64 1, .pointer (some ⟨B, 0, none⟩), .string x, keyAgg kx 1 2 ty u] w fun e w' => e = .returned (.tuple #[]) ∧ Lib.IsBuilderF 41 5 B B (Lib.byteCells (bs ++ term 1 1 2 x.data.toList)) w' ∧ Below B w0 w' := by
  unfold keyAgg
  have hne : w.heap.size ≠ B := by omega
  have hxl : x.data.toList.length = x.size := by simp
  have HX := hide hxl
  clear hxl
  go_enter Try.func23, Try.ntmps23
  go_wp2
  have S0 : St w0 B w.heap.size #[.string kx, .int .i64 1, .int .i64 2, .int .i64 ty, .bool u] bs (w.alloc (.cells #[.string kx, .int .i64 1, .int .i64 2, .int .i64 ty, .bool u] 52)) :=
    ⟨hb.alloc _, heap_alloc_new w _, hbel.alloc (by omega) _, by simp; omega⟩
  refine region_in (C := fun W => ∃ v : Wld w0 B w.heap.size #[.string kx, .int .i64 1, .int .i64 2, .int .i64 ty, .bool u] bs, W = v.W) (by kernel_rfl) (by kernel_rfl) ⟨⟨_, S0.drewN 1⟩, rfl⟩ ?_
  have kne : Nonempty (Wld w0 B w.heap.size #[.string kx, .int .i64 1, .int .i64 2, .int .i64 ty, .bool u] bs) := ⟨⟨_, S0⟩⟩
  have k0 : ∀ v : Wld w0 B w.heap.size #[.string kx, .int .i64 1, .int .i64 2, .int .i64 ty, .bool u] bs, v.W.cell? ⟨w.heap.size, 0, none⟩ = some (.string kx) := fun v => v.ok.cells.1
  have k1 : ∀ v : Wld w0 B w.heap.size #[.string kx, .int .i64 1, .int .i64 2, .int .i64 ty, .bool u] bs, v.W.cell? ⟨w.heap.size, 1, none⟩ = some (.int .i64 1) := fun v => v.ok.cells.2.1
  have k2 : ∀ v : Wld w0 B w.heap.size #[.string kx, .int .i64 1, .int .i64 2, .int .i64 ty, .bool u] bs, v.W.cell? ⟨w.heap.size, 2, none⟩ = some (.int .i64 2) := fun v => v.ok.cells.2.2.1
  have k3 : ∀ v : Wld w0 B w.heap.size #[.string kx, .int .i64 1, .int .i64 2, .int .i64 ty, .bool u] bs, v.W.cell? ⟨w.heap.size, 3, none⟩ = some (.int .i64 ty) := fun v => v.ok.cells.2.2.2.1
  have k4 : ∀ v : Wld w0 B w.heap.size #[.string kx, .int .i64 1, .int .i64 2, .int .i64 ty, .bool u] bs, v.W.cell? ⟨w.heap.size, 4, none⟩ = some (.bool u) := fun v => v.ok.cells.2.2.2.2
  repeat (first | go_big_quiet_step (first | (go_at_call 28; refine (kn_12 kx ty u _).mono ?_; rintro e w' ⟨rfl, rfl⟩; exact ⟨rfl, ⟨_, St.alloc (Wld.ok _) _⟩, rfl⟩) | (go_at_call 29; refine (dn_1 _).mono ?_; rintro e w' ⟨rfl, rfl⟩; exact ⟨rfl, _, rfl⟩)) | quiet_step (first | (go_at_call 28; refine (kn_12 kx ty u _).mono ?_; rintro e w' ⟨rfl, rfl⟩; exact ⟨rfl, ⟨_, St.alloc (Wld.ok _) _⟩, rfl⟩) | (go_at_call 29; refine (dn_1 _).mono ?_; rintro e w' ⟨rfl, rfl⟩; exact ⟨rfl, _, rfl⟩)))
  refine wpQuiet_nil ?_
  intro wv hwv
  obtain ⟨⟨wq, hS⟩, rfl⟩ := hwv
  clear k0 k1 k2 k3 k4 kne S0 hb hbel
  have S0 := hide hS
  obtain ⟨c0, c1, c2, c3, c4⟩ := hS.cells
  clear hS
  go_wp2_with fail
  refine (ws_lit [40] hne S0.out (by first | omega | (simp [HX.out, tAsc, tDesc, tFirst, tLast, tNotNull, tNull]; omega))).mono ?_
  rintro e w1 ⟨rfl, S1⟩
  have hs1 := hide S1
  obtain ⟨c0, c1, c2, c3, c4⟩ := S1.cells
  clear S1 S0
  go_wp2_with fail
  refine (ws_step x hne hs1.out (by first | omega | (simp [HX.out, tAsc, tDesc, tFirst, tLast, tNotNull, tNull]; omega))).mono ?_
  rintro e w2 ⟨rfl, S1⟩
  have hs2 := hide S1
  obtain ⟨c0, c1, c2, c3, c4⟩ := S1.cells
  clear S1 hs1
  go_wp2_with (first | (go_at_call 28; go_in) | (go_at_call 29; go_in))
  refine (ws_lit tNotNull hne (hs2.out.alloc _) (by first | omega | (simp [HX.out, tAsc, tDesc, tFirst, tLast, tNotNull, tNull]; omega))).mono ?_
  rintro e w3 ⟨rfl, S1⟩
  have hs3 := hide S1
  obtain ⟨c0, c1, c2, c3, c4⟩ := S1.cells
  clear S1 hs2
  go_wp2_with fail
  refine (ws_step x hne hs3.out (by first | omega | (simp [HX.out, tAsc, tDesc, tFirst, tLast, tNotNull, tNull]; omega))).mono ?_
  rintro e w4 ⟨rfl, S1⟩
  have hs4 := hide S1
  obtain ⟨c0, c1, c2, c3, c4⟩ := S1.cells
  clear S1 hs3
  go_wp2_with fail
  refine (ws_lit [32] hne hs4.out (by first | omega | (simp [HX.out, tAsc, tDesc, tFirst, tLast, tNotNull, tNull]; omega))).mono ?_
  rintro e w5 ⟨rfl, S1⟩
  have hs5 := hide S1
  obtain ⟨c0, c1, c2, c3, c4⟩ := S1.cells
  clear S1 hs4
  go_wp2_with (first | (go_at_call 30; go_in))
  refine (ws_lit tDesc hne hs5.out (by first | omega | (simp [HX.out, tAsc, tDesc, tFirst, tLast, tNotNull, tNull]; omega))).mono ?_
  rintro e w6 ⟨rfl, S1⟩
  have hs6 := hide S1
  obtain ⟨c0, c1, c2, c3, c4⟩ := S1.cells
  clear S1 hs5
  go_wp2
  go_end0
  refine ⟨rfl, ?_, hs6.out.2.2.1⟩
  have := hs6.out.1
  simpa [term, lead, clause, List.append_assoc] using this

set_option maxHeartbeats 1000000 in
theorem order_113 (B : Nat) (w0 w : World) (x kx : ByteArray) (ty : Int) (u : Bool) (bs : List UInt8) (hb : Lib.IsBuilderF 41 5 B B (Lib.byteCells bs) w) (hB : B < w.heap.size) (hbel : Below B w0 w) (hl : bs.length ≤ 1048576) (hx : x.size ≤ 1048576) :
    Calls Try.prog 23 #[.int .i64 1, .pointer (some ⟨B, 0, none⟩), .string x, keyAgg kx 1 3 ty u] w fun e w' => e = .returned (.tuple #[]) ∧ Lib.IsBuilderF 41 5 B B (Lib.byteCells (bs ++ term 1 1 3 x.data.toList)) w' ∧ Below B w0 w' := by
  unfold keyAgg
  have hne : w.heap.size ≠ B := by omega
  have hxl : x.data.toList.length = x.size := by simp
  have HX := hide hxl
  clear hxl
  go_enter Try.func23, Try.ntmps23
  go_wp2
  have S0 : St w0 B w.heap.size #[.string kx, .int .i64 1, .int .i64 3, .int .i64 ty, .bool u] bs (w.alloc (.cells #[.string kx, .int .i64 1, .int .i64 3, .int .i64 ty, .bool u] 52)) :=
    ⟨hb.alloc _, heap_alloc_new w _, hbel.alloc (by omega) _, by simp; omega⟩
  refine region_in (C := fun W => ∃ v : Wld w0 B w.heap.size #[.string kx, .int .i64 1, .int .i64 3, .int .i64 ty, .bool u] bs, W = v.W) (by kernel_rfl) (by kernel_rfl) ⟨⟨_, S0.drewN 1⟩, rfl⟩ ?_
  have kne : Nonempty (Wld w0 B w.heap.size #[.string kx, .int .i64 1, .int .i64 3, .int .i64 ty, .bool u] bs) := ⟨⟨_, S0⟩⟩
  have k0 : ∀ v : Wld w0 B w.heap.size #[.string kx, .int .i64 1, .int .i64 3, .int .i64 ty, .bool u] bs, v.W.cell? ⟨w.heap.size, 0, none⟩ = some (.string kx) := fun v => v.ok.cells.1
  have k1 : ∀ v : Wld w0 B w.heap.size #[.string kx, .int .i64 1, .int .i64 3, .int .i64 ty, .bool u] bs, v.W.cell? ⟨w.heap.size, 1, none⟩ = some (.int .i64 1) := fun v => v.ok.cells.2.1
  have k2 : ∀ v : Wld w0 B w.heap.size #[.string kx, .int .i64 1, .int .i64 3, .int .i64 ty, .bool u] bs, v.W.cell? ⟨w.heap.size, 2, none⟩ = some (.int .i64 3) := fun v => v.ok.cells.2.2.1
  have k3 : ∀ v : Wld w0 B w.heap.size #[.string kx, .int .i64 1, .int .i64 3, .int .i64 ty, .bool u] bs, v.W.cell? ⟨w.heap.size, 3, none⟩ = some (.int .i64 ty) := fun v => v.ok.cells.2.2.2.1
  have k4 : ∀ v : Wld w0 B w.heap.size #[.string kx, .int .i64 1, .int .i64 3, .int .i64 ty, .bool u] bs, v.W.cell? ⟨w.heap.size, 4, none⟩ = some (.bool u) := fun v => v.ok.cells.2.2.2.2
  repeat (first | go_big_quiet_step (first | (go_at_call 28; refine (kn_13 kx ty u _).mono ?_; rintro e w' ⟨rfl, rfl⟩; exact ⟨rfl, ⟨_, St.alloc (Wld.ok _) _⟩, rfl⟩) | (go_at_call 29; refine (dn_1 _).mono ?_; rintro e w' ⟨rfl, rfl⟩; exact ⟨rfl, _, rfl⟩)) | quiet_step (first | (go_at_call 28; refine (kn_13 kx ty u _).mono ?_; rintro e w' ⟨rfl, rfl⟩; exact ⟨rfl, ⟨_, St.alloc (Wld.ok _) _⟩, rfl⟩) | (go_at_call 29; refine (dn_1 _).mono ?_; rintro e w' ⟨rfl, rfl⟩; exact ⟨rfl, _, rfl⟩)))
  refine wpQuiet_nil ?_
  intro wv hwv
  obtain ⟨⟨wq, hS⟩, rfl⟩ := hwv
  clear k0 k1 k2 k3 k4 kne S0 hb hbel
  have S0 := hide hS
  obtain ⟨c0, c1, c2, c3, c4⟩ := hS.cells
  clear hS
  go_wp2_with fail
  refine (ws_step x hne S0.out (by first | omega | (simp [HX.out, tAsc, tDesc, tFirst, tLast, tNotNull, tNull]; omega))).mono ?_
  rintro e w1 ⟨rfl, S1⟩
  have hs1 := hide S1
  obtain ⟨c0, c1, c2, c3, c4⟩ := S1.cells
  clear S1 S0
  go_wp2_with fail
  refine (ws_lit [32] hne hs1.out (by first | omega | (simp [HX.out, tAsc, tDesc, tFirst, tLast, tNotNull, tNull]; omega))).mono ?_
  rintro e w2 ⟨rfl, S1⟩
  have hs2 := hide S1
  obtain ⟨c0, c1, c2, c3, c4⟩ := S1.cells
  clear S1 hs1
  go_wp2_with (first | (go_at_call 30; go_in))
  refine (ws_lit tDesc hne hs2.out (by first | omega | (simp [HX.out, tAsc, tDesc, tFirst, tLast, tNotNull, tNull]; omega))).mono ?_
  rintro e w3 ⟨rfl, S1⟩
  have hs3 := hide S1
  obtain ⟨c0, c1, c2, c3, c4⟩ := S1.cells
  clear S1 hs2
  go_wp2
  go_end0
  refine ⟨rfl, ?_, hs3.out.2.2.1⟩
  have := hs3.out.1
  simpa [term, lead, clause, List.append_assoc] using this

theorem order_any (d dir nulls : Int) (hd0 : 0 ≤ d) (hd1 : d ≤ 1) (hr0 : 0 ≤ dir) (hr1 : dir ≤ 1) (hn0 : 0 ≤ nulls) (hn1 : nulls ≤ 3) (B : Nat) (w0 w : World) (x kx : ByteArray) (ty : Int) (u : Bool) (bs : List UInt8) (hb : Lib.IsBuilderF 41 5 B B (Lib.byteCells bs) w) (hB : B < w.heap.size) (hbel : Below B w0 w) (hl : bs.length ≤ 1048576) (hx : x.size ≤ 1048576) :
    Calls Try.prog 23 #[.int .i64 d, .pointer (some ⟨B, 0, none⟩), .string x, .agg #[.string kx, .int .i64 dir, .int .i64 nulls, .int .i64 ty, .bool u]] w fun e w' => e = .returned (.tuple #[]) ∧ Lib.IsBuilderF 41 5 B B (Lib.byteCells (bs ++ term d dir nulls x.data.toList)) w' ∧ Below B w0 w' := by
  have e0 : d = 0 ∨ d = 1 := by omega
  have e1 : dir = 0 ∨ dir = 1 := by omega
  have e2 : nulls = 0 ∨ nulls = 1 ∨ nulls = 2 ∨ nulls = 3 := by omega
  rcases e0 with rfl | rfl <;> rcases e1 with rfl | rfl <;> rcases e2 with rfl | rfl | rfl | rfl
  · exact order_000 B w0 w x kx ty u bs hb hB hbel hl hx
  · exact order_001 B w0 w x kx ty u bs hb hB hbel hl hx
  · exact order_002 B w0 w x kx ty u bs hb hB hbel hl hx
  · exact order_003 B w0 w x kx ty u bs hb hB hbel hl hx
  · exact order_010 B w0 w x kx ty u bs hb hB hbel hl hx
  · exact order_011 B w0 w x kx ty u bs hb hB hbel hl hx
  · exact order_012 B w0 w x kx ty u bs hb hB hbel hl hx
  · exact order_013 B w0 w x kx ty u bs hb hB hbel hl hx
  · exact order_100 B w0 w x kx ty u bs hb hB hbel hl hx
  · exact order_101 B w0 w x kx ty u bs hb hB hbel hl hx
  · exact order_102 B w0 w x kx ty u bs hb hB hbel hl hx
  · exact order_103 B w0 w x kx ty u bs hb hB hbel hl hx
  · exact order_110 B w0 w x kx ty u bs hb hB hbel hl hx
  · exact order_111 B w0 w x kx ty u bs hb hB hbel hl hx
  · exact order_112 B w0 w x kx ty u bs hb hB hbel hl hx
  · exact order_113 B w0 w x kx ty u bs hb hB hbel hl hx
end Go.Proofs.Qxb6603285a.Ord
