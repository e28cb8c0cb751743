/-
  THE WALK OF FnRecordRoundTrip, its arguments as lists of bytes.
-/
import Derived.Test.Qxb6604381aRecord
namespace Go.Proofs.Qxb6604381a
open Go.ChangeShapes Go.WideShapes Go.ChangeAt Go.RowKit Go.Shelf
set_option linter.unusedVariables false

theorem bytes_ok (a0 a2 a3 : Option Addr) (l0 c0 l2 c2 l3 c3 : Nat) (x h : Int) (w : World) (hl : l0 + l2 + l3 ≤ 1048576) :
    Calls Try.prog 7 #[.slice a0 l0 c0, .int .u64 x, .slice a2 l2 c2, .slice a3 l3 c3, .int .u64 h] w fun e w' => e = .returned (.bool true) ∧ w = w' := by
  go_enter Try.func7, Try.ntmps7
  go_wp2
  go_ret
  exact ⟨rfl, rfl⟩

set_option maxHeartbeats 400000 in
theorem bytes_no (a0 a2 a3 : Option Addr) (l0 c0 l2 c2 l3 c3 : Nat) (x h : Int) (w : World) (h0 : l0 ≤ 9223372036854775807) (h2 : l2 ≤ 9223372036854775807) (h3 : l3 ≤ 9223372036854775807) (hl : 1048576 < l0 + l2 + l3) :
    Calls Try.prog 7 #[.slice a0 l0 c0, .int .u64 x, .slice a2 l2 c2, .slice a3 l3 c3, .int .u64 h] w fun e w' => e = .returned (.bool false) ∧ w = w' := by
  by_cases k0 : 1048576 < l0
  · go_enter Try.func7, Try.ntmps7
    go_wp2
    go_ret
    exact ⟨rfl, rfl⟩
  by_cases k2 : 1048576 < l2
  · go_enter Try.func7, Try.ntmps7
    go_wp2
    go_ret
    exact ⟨rfl, rfl⟩
  by_cases k02 : 1048576 < l0 + l2
  · go_enter Try.func7, Try.ntmps7
    go_wp2
    go_ret
    exact ⟨rfl, rfl⟩
  by_cases k3 : 1048576 < l3
  · go_enter Try.func7, Try.ntmps7
    go_wp2
    go_ret
    exact ⟨rfl, rfl⟩
  · go_enter Try.func7, Try.ntmps7
    go_wp2
    go_ret
    exact ⟨rfl, rfl⟩

/-- The cells of an argument, in a later world. -/
theorem keepc {w w1 : World} (hb : Below w.heap.size w w1) {a : Option Addr} {cs : List Value} (hc : ∀ x, a = some x → ∀ j u, cs[j]? = some u → w.cell? (x.add j) = some u) :
    ∀ x, a = some x → ∀ j u, cs[j]? = some u → w1.cell? (x.add j) = some u := by
  intro x hx j u hu
  have h := hc x hx j u hu
  rw [hb.cell (World.block_lt_of_cell? _ _ h)]
  exact h

theorem bytes_one (l : List UInt8) : ∀ v ∈ Lib.byteCells l, v.oneCell' = true := by
  intro v hv
  simp only [Lib.byteCells, List.mem_map] at hv
  obtain ⟨b, _, rfl⟩ := hv
  rfl

theorem row_of_owns {w : World} {B g n N : Nat} {l : List UInt8} (h : w.ownsRow B 5 1 (.slice (some ⟨g, 0, none⟩) n N) n (Lib.byteCells l)) : Row w g 0 l := by
  intro j hj
  have hn : l.length = n := by have := h.1; rw [Lib.byteCells_length] at this; omega
  have := h.cellAt j (by omega)
  rw [Nat.zero_add, this]
  simp [Lib.byteCells, hj]

theorem Row.left {w : World} {g o : Nat} {a b : List UInt8} (h : Row w g o (a ++ b)) : Row w g o a := by
  intro j hj
  have := h j (by rw [List.length_append]; omega)
  rw [List.getElem_append_left hj] at this
  exact this

theorem key_wrap (h p : Nat) (hp : p < 33554432) : bits .and .u64 (bits .or .u64 (IntKind.u64.wrap ((h : Int) * 33554432)) (p : Int)) 33554431 = (p : Int) := by
  have e : IntKind.u64.wrap ((h : Int) * 33554432) = ((h * 33554432 % 18446744073709551616 : Nat) : Int) := by rw [IntKind.wrap_u64]; omega
  rw [e]; exact key_low h p hp

/-- The bytes of an argument that is not empty, by its address. -/
theorem open_bytes {w : World} {a : Option Addr} {l c : Nat} {ib : List UInt8} (e : ib.length = l) (hn : a = none → l = 0 ∧ c = 0) (hk : ∀ x, a = some x → ∀ j u, (Lib.byteCells ib)[j]? = some u → w.cell? (x.add j) = some u) (h0 : 0 < l) :
    ∃ blk off, a = some ⟨blk, off, none⟩ ∧ Row w blk off ib := by
  cases a with
  | none => have := (hn rfl).1; omega
  | some x =>
    obtain ⟨blk, off, spot⟩ := x
    have hc : ∀ j (hj : j < ib.length), w.cell? ((⟨blk, off, spot⟩ : Addr).add j) = some (.int .u8 (ib[j]).toNat) := fun j hj => hk _ rfl j _ (by simp [Lib.byteCells, hj])
    have hspot : spot = none := by simpa [Addr.add] using World.cell?_spot (hc 0 (by omega))
    subst hspot
    exact ⟨blk, off, rfl, fun j hj => by rw [← add_plain]; exact hc j hj⟩

/-- zzUvarint, its count by name. -/
theorem zzu_named (g o n c x n1 : Nat) (r : List UInt8) (w : World) (hx : x < 18446744073709551616) (hn1 : (Lib.uvarint x).length = n1) (hl : (Lib.uvarint x ++ r).length = n) (hn : n ≤ 2000000) (hrow : Row w g o (Lib.uvarint x ++ r)) :
    Calls Try.prog 10 #[.slice (some ⟨g, o, none⟩) n c] w fun e w' => e = .returned (.tuple #[.int .u64 (x : Int), .int .i64 (n1 : Int), .int .i64 1]) ∧ w = w' := by
  rw [← hn1]
  exact zzu_any g o n c x r w hx hl hn hrow

set_option maxHeartbeats 2000000 in
set_option maxRecDepth 100000 in
theorem law4 (pb ib sb : List UInt8) (a0 a2 a3 : Option Addr) (l0 c0 l2 c2 l3 c3 line high : Nat) (w : World)
    (hline : line < 18446744073709551616) (hhigh : high < 18446744073709551616) (hl : l0 + l2 + l3 ≤ 1048576)
    (e0 : pb.length = l0) (e2 : ib.length = l2) (e3 : sb.length = l3)
    (n0 : a0 = none → l0 = 0 ∧ c0 = 0) (n2 : a2 = none → l2 = 0 ∧ c2 = 0) (n3 : a3 = none → l3 = 0 ∧ c3 = 0)
    (k0 : ∀ x, a0 = some x → ∀ j u, (Lib.byteCells pb)[j]? = some u → w.cell? (x.add j) = some u)
    (k2 : ∀ x, a2 = some x → ∀ j u, (Lib.byteCells ib)[j]? = some u → w.cell? (x.add j) = some u)
    (k3 : ∀ x, a3 = some x → ∀ j u, (Lib.byteCells sb)[j]? = some u → w.cell? (x.add j) = some u) :
    Calls Try.prog 4 #[.slice a0 l0 c0, .int .u64 line, .slice a2 l2 c2, .slice a3 l3 c3, .int .u64 high] w fun e w' => e = .returned (.bool true) ∧ Below w.heap.size w w' := by
  obtain ⟨i0, hi, hz0, hz1, hz2⟩ := info_parts Try.info5
  obtain ⟨N, hN⟩ : ∃ N, N = l0 + 20 + l2 + l3 := ⟨_, rfl⟩
  obtain ⟨m1, hm1⟩ : ∃ m, (Lib.uvarint line).length = m := ⟨_, rfl⟩
  obtain ⟨m2, hm2⟩ : ∃ m, (Lib.uvarint l2).length = m := ⟨_, rfl⟩
  have hb1 : m1 ≤ 10 := by rw [← hm1]; exact Lib.uvarint_length64 hline
  have hb2 : m2 ≤ 10 := by rw [← hm2]; exact Lib.uvarint_length64 (by omega)
  have hmk : (l0 : Int) + 20 + l2 + l3 = (N : Int) := by omega
  have HN : Hid (N = l0 + 20 + l2 + l3) := hN
  have hNle : l0 + 20 + l2 + l3 ≤ N := by omega
  have hNle2 : N ≤ 1048596 := by omega
  have f0 : (Lib.byteCells pb).length = l0 * 1 := by rw [Lib.byteCells_length]; omega
  clear hN
  have hbytes : i0.bytes * N ≤ 281474976710656 := by rw [hz2]; omega
  have hmax : N ≤ maxLen := by unfold maxLen; omega
  have Hmk : Hid ((l0 : Int) + 20 + l2 + l3 = (N : Int)) := hmk
  clear hmk
  go_enter Try.func4, Try.ntmps4
  go_wp2_with (first
    | (go_at_call 7; refine (bytes_ok a0 a2 a3 l0 c0 l2 c2 l3 c3 _ _ _ hl).mono ?_; rintro e w' ⟨rfl, rfl⟩)
    | (at_make; refine wpList_make_own _ rfl _ _ 25 rfl w.heap.size 5 i0 (.int .u8 0) 1 Try.underlying25 hi hz0 hz1 _ _ _ N rfl rfl Hmk.out hbytes hmax (Nat.le_refl _) ?_; intro w1 hown1 hgrow1; have hbel1 : Below w.heap.size w w1 := (Below.refl _ _).grown hgrow1 (Nat.le_refl _) (by simp); clear hgrow1)
    | (at_builtin; refine wpList_append_fits_any _ rfl (.tmp 63) (.tmp 64) 25 rfl w.heap.size 5 i0 1 Try.underlying25 hi hz1 w.heap.size 0 N [] rfl hown1 a0 l0 c0 (Lib.byteCells pb) rfl f0 n0 (keepc hbel1 k0) (bytes_one _) (by omega) ?_; intro w2 hown2 hgrow2))
  have hown2' : w2.ownsRow w.heap.size 5 1 (.slice (some ⟨w.heap.size, 0, none⟩) l0 N) l0 (Lib.byteCells pb) := by simpa using hown2
  have hbel2 : Below w.heap.size w w2 := hbel1.grown hgrow2 hbel1.size (fun k hk => by cases hk; exact Nat.le_refl _)
  clear hown1 hown2 hgrow2 hbel1
  refine (put_any w.heap.size w.heap.size l0 N line hline (by omega) _ _ hown2' hbel2.size (by omega)).mono ?_
  rw [hm1]
  rintro e w3 ⟨rfl, hown3, hbel3'⟩
  have hbel3 := hbel2.trans hbel3'
  clear hown2' hbel2 hbel3'
  go_wp2_with fail
  refine (put_any w.heap.size w.heap.size (l0 + m1) N l2 (by omega) (by omega) _ _ hown3 hbel3.size (by omega)).mono ?_
  rw [hm2]
  rintro e w4 ⟨rfl, hown4, hbel4'⟩
  have hbel4 := hbel3.trans hbel4'
  clear hown3 hbel3 hbel4'
  have f2 : (Lib.byteCells ib).length = l2 * 1 := by rw [Lib.byteCells_length]; omega
  have f3 : (Lib.byteCells sb).length = l3 * 1 := by rw [Lib.byteCells_length]; omega
  go_wp2_with (first
    | (at_builtin; refine wpList_append_fits_any _ rfl (.tmp 74) (.tmp 75) 25 rfl w.heap.size 5 i0 1 Try.underlying25 hi hz1 w.heap.size (l0 + m1 + m2) N _ rfl hown4 a2 l2 c2 (Lib.byteCells ib) rfl f2 n2 (keepc hbel4 k2) (bytes_one _) (by omega) ?_; intro w5 hown5 hgrow5; have hbel5 : Below w.heap.size w w5 := hbel4.grown hgrow5 hbel4.size (fun k hk => by cases hk; exact Nat.le_refl _); clear hown4 hbel4 hgrow5)
    | (at_builtin; refine wpList_append_fits_any _ rfl (.tmp 82) (.tmp 83) 25 rfl w.heap.size 5 i0 1 Try.underlying25 hi hz1 w.heap.size (l0 + m1 + m2 + l2) N _ rfl hown5 a3 l3 c3 (Lib.byteCells sb) rfl f3 n3 (keepc hbel5 k3) (bytes_one _) (by omega) ?_; intro w6 hown6 hgrow6; have hbel6 : Below w.heap.size w w6 := hbel5.grown hgrow6 hbel5.size (fun k hk => by cases hk; exact Nat.le_refl _); clear hown5 hbel5 hgrow6))
  have hrow6 : Row w6 w.heap.size l0 (Lib.uvarint line ++ (Lib.uvarint l2 ++ (ib ++ sb))) := by
    rw [← Lib.byteCells_append, ← Lib.byteCells_append, ← Lib.byteCells_append, ← Lib.byteCells_append] at hown6
    have h := row_of_owns hown6
    simp only [List.append_assoc] at h
    have h2 := h.right
    rw [e0, Nat.zero_add] at h2
    exact h2
  have hg6 : w.heap.size < w6.heap.size := (hown6.lt w.heap.size rfl).2
  have hsum : (ib ++ sb).length = l2 + l3 := by rw [List.length_append]; omega
  clear hown6
  refine (zzrecord_any w.heap.size (l0 + m1 + m2 + l2 + l3) N l0 line l2 m1 m2 _ (ib ++ sb) w6 (key_wrap high l0 (by omega)) hline (by omega) hm1 hm2 (by omega) (by omega) (by omega) (by omega) hg6 hrow6).mono ?_
  obtain ⟨w7, hw7⟩ : ∃ w7, w7 = w6.alloc (.cells (runCells (.slice (some ⟨w.heap.size, 0, none⟩) (l0 + m1 + m2 + l2 + l3) N)) 43) := ⟨_, rfl⟩
  have hbel7 : Below w.heap.size w w7 := by rw [hw7]; exact hbel6.alloc hbel6.size _
  have hrow7 : Row w7 w.heap.size l0 (Lib.uvarint line ++ (Lib.uvarint l2 ++ (ib ++ sb))) := by rw [hw7]; exact hrow6.alloc _ hg6
  rw [← hw7]
  clear hw7 hrow6 hbel6
  rintro e w' ⟨rfl, rfl⟩
  have hrowA : Row w' w.heap.size l0 (Lib.uvarint line ++ (Lib.uvarint l2 ++ ib)) := by
    rw [← List.append_assoc, ← List.append_assoc] at hrow7
    have := hrow7.left
    rw [List.append_assoc] at this
    exact this
  have hrowB := hrowA.right
  rw [hm1] at hrowB
  have hrowC := hrowB.right
  rw [hm2] at hrowC
  clear hrow7
  have hlA : (Lib.uvarint line ++ (Lib.uvarint l2 ++ ib)).length = m1 + m2 + l2 := by simp only [List.length_append, hm1, hm2, e2]; omega
  have hlB : (Lib.uvarint l2 ++ ib).length = m2 + l2 := by simp only [List.length_append, hm2, e2]
  have hp1 : 1 ≤ m1 := by rw [← hm1]; exact Lib.uvarint_pos line
  have hp2 : 1 ≤ m2 := by rw [← hm2]; exact Lib.uvarint_pos l2
  go_wp2_with fail
  refine (zzu_named w.heap.size l0 (m1 + m2 + l2) (N - l0) line m1 (Lib.uvarint l2 ++ ib) w' hline hm1 hlA (by omega) hrowA).mono ?_
  rintro e w8 ⟨rfl, rfl⟩
  go_wp2_with fail
  refine (zzu_named w.heap.size (l0 + m1) (m1 + m2 + l2 - m1) (N - l0 - m1) l2 m2 ib w' (by omega) hm2 (by omega) (by omega) hrowB).mono ?_
  rintro e w9 ⟨rfl, rfl⟩
  have K2 : Hid (0 < l2 → ∃ blk off, a2 = some ⟨blk, off, none⟩ ∧ Row w' blk off ib) := fun h0 => open_bytes e2 n2 (keepc hbel7 k2) h0
  have HC : Hid (Row w' w.heap.size (l0 + m1 + m2) ib) := hrowC
  clear hrowA hrowB hrowC hlA hlB k0 k2 k3 n0 n2 n3 f0 f2 f3 hsum hm1 hm2 hbytes hmax hi hz0 hz1 hz2
  go_wp2
  go_loopw [21] (fun i wr => ∃ k q : Nat, k ≤ l2 ∧ i = .int .i64 k ∧ wr = w'.drewN q) (fun i _ => l2 - (intOf i).toNat)
  case atStart => exact ⟨0, 0, Nat.zero_le _, rfl, rfl⟩
  case round =>
    obtain ⟨k, q, hk, rfl, rfl⟩ := hrel
    by_cases hlt : k < l2
    · obtain ⟨blk, off, rfl, hrk⟩ := K2.out (by omega)
      have hx1 := hrk k (by omega)
      have hx2 := HC.out k (by omega)
      obtain ⟨b, hb⟩ : ∃ b : Int, (ib[k].toNat : Int) = b := ⟨_, rfl⟩
      rw [hb] at hx1 hx2
      rw [show l0 + m1 + m2 + k = l0 + (m1 + m2 + k) by omega] at hx2
      have hi1 : (m1 : Int) + m2 + k < (m1 : Int) + m2 + l2 := by omega
      have hi2 : (k : Int) < (l2 : Int) := by omega
      clear hrk hb K2 HC
      go_wp2
      go_quiet (fail)
      go_wp2
      go_roundw
      case rel => exact ⟨k + 1, _, by omega, by go_num, rfl⟩
      case measure => simp [intOf]; omega
    · go_wp2
      go_ret
      exact ⟨rfl, ⟨hbel7.os, hbel7.tape, hbel7.output, hbel7.size, hbel7.block⟩⟩

/-- More than 1<<20 bytes in all: the law answers true at once. -/
theorem law4_big (a0 a2 a3 : Option Addr) (l0 c0 l2 c2 l3 c3 : Nat) (x h : Int) (w : World) (h0 : l0 ≤ 9223372036854775807) (h2 : l2 ≤ 9223372036854775807) (h3 : l3 ≤ 9223372036854775807) (hl : 1048576 < l0 + l2 + l3) :
    Calls Try.prog 4 #[.slice a0 l0 c0, .int .u64 x, .slice a2 l2 c2, .slice a3 l3 c3, .int .u64 h] w fun e w' => e = .returned (.bool true) ∧ Below w.heap.size w w' := by
  go_enter Try.func4, Try.ntmps4
  go_wp2_with (go_at_call 7; refine (bytes_no a0 a2 a3 l0 c0 l2 c2 l3 c3 _ _ _ h0 h2 h3 hl).mono ?_; rintro e w' ⟨rfl, rfl⟩)
  go_ret
  exact ⟨rfl, Below.refl _ _⟩
end Go.Proofs.Qxb6604381a
