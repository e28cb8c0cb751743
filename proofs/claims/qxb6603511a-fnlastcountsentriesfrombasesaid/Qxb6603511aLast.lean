/-
  THE CONTRACTS that the two laws on (*state).last share: endsOrdered, cloneEnds, ZZNewState, ZZStateLast.
-/
import Derived.Test.Qxb6603511aRows
import Derived.WalkKit
import Derived.ProofKit
import Derived.OpenShut
import Derived.ShutString
import Derived.ChangeOld
import Derived.Below
import Derived.Deep.QuietTactic
import Derived.BigQuiet
import Derived.Laws.CopyOwn
import Derived.Lib.SliceRun
namespace Go.Proofs.Qxb6603511a
open Go.ChangeShapes Go.WideShapes Go.ChangeAt Go.RowKit
set_option linter.unusedVariables false

/-- The cells of a state whose base names index b and whose entries end at the slice s. -/
def stCells (b : Int) (a : Option Addr) (len cap : Nat) : Array Value :=
  #[Value.int IntKind.u64 b, Value.int IntKind.u64 0, Value.int IntKind.u64 0, Value.int IntKind.i64 0,
    Value.int IntKind.i64 0, Value.slice a len cap, Value.slice none 0 0, Value.int IntKind.u64 0,
    Value.int IntKind.u64 0, Value.slice none 0 0, Value.int IntKind.u64 0, Value.map none, Value.map none,
    Value.map none, Value.map none, Value.map none, Value.pointer none, Value.int IntKind.i64 0,
    Value.int IntKind.i64 0, Value.int IntKind.i64 0, Value.map none, Value.int IntKind.u64 0]

/-- What a log of base index b and n entries reports as its last index. -/
def lastOf (b : Int) (n : Nat) : Int := IntKind.u64.wrap (b + n)

/-- store.ZZNewState. -/
theorem new_any (b : Int) (a : Option Addr) (len cap : Nat) (w : World) :
    Calls Try.prog 12 #[.int .u64 b, .slice a len cap] w fun e w' => e = .returned (.pointer (some ⟨w.heap.size, 0, none⟩)) ∧ w' = w.alloc (.cells (stCells b a len cap) 52) := by
  go_enter Try.func12, Try.ntmps12
  go_wp2
  go_ret
  exact ⟨rfl, rfl⟩

/-- (*state).last, through store.ZZStateLast. -/
theorem last_any (b : Int) (p : Nat) (a : Option Addr) (len cap : Nat) (w : World) (h1 : w.cell? ⟨p, 0, none⟩ = some (.int .u64 b)) (h2 : w.cell? ⟨p, 5, none⟩ = some (.slice a len cap)) (hl : len ≤ 131072) :
    Calls Try.prog 11 #[.pointer (some ⟨p, 0, none⟩)] w fun e w' => e = .returned (.int .u64 (lastOf b len)) ∧ ∃ n, w' = w.drewN n := by
  unfold lastOf
  go_enter Try.func11, Try.ntmps11
  go_wp2
  go_quiet (fail)
  go_wp2
  go_ret
  exact ⟨rfl, nq, rfl⟩
theorem ends_empty (a : Option Addr) (cap : Nat) (w : World) :
    Calls Try.prog 9 #[.slice a 0 cap] w fun e w' => ∃ b n, e = .returned (.bool b) ∧ w' = w.drewN n := by
  go_enter Try.func9, Try.ntmps9
  go_wp2
  refine wp_loop_rounds 1 ?_
  rw [rounds_succ]
  go_wp2
  go_ret
  exact ⟨_, 0, rfl, rfl⟩

set_option maxHeartbeats 1000000 in
theorem ends_some (blk off len cap : Nat) (zs : List Int) (w : World) (hm : len ≤ 131072)
    (hcell : ∀ i, i < len → w.cell? ⟨blk, off + i, none⟩ = some (.int .i64 (zs.getD i 0))) :
    Calls Try.prog 9 #[.slice (some ⟨blk, off, none⟩) len cap] w fun e w' => ∃ b n, e = .returned (.bool b) ∧ w' = w.drewN n := by
  go_enter Try.func9, Try.ntmps9
  go_wp2
  go_loopw [3] (fun i wr => ∃ k n : Nat, k ≤ len ∧ i = .int .i64 k ∧ wr = w.drewN n) (fun i _ => len - (intOf i).toNat)
  case atStart => exact ⟨0, 0, Nat.zero_le _, rfl, rfl⟩
  case round =>
    obtain ⟨k, n, hk, rfl, rfl⟩ := hrel
    by_cases hlt : k < len
    · have hcx : w.cell? ⟨blk, off + k, none⟩ = some (.int .i64 (zs.getD k 0)) := hcell k hlt
      rcases k with _ | m
      · replace hcx : w.cell? ⟨blk, off, none⟩ = some (.int .i64 (zs.getD 0 0)) := hcx
        have hd : decide ((0 : Int) < ((0 : Nat) : Int)) = false := rfl
        clear hcell
        go_wp2
        · go_ret
          exact ⟨_, n, rfl, rfl⟩
        · go_quiet (fail)
          go_wp2
          go_roundw
          case rel => exact ⟨1, _, by omega, by go_num, rfl⟩
          case measure => simp [intOf]; omega
      · have hcy : w.cell? ⟨blk, off + m, none⟩ = some (.int .i64 (zs.getD m 0)) := hcell m (by omega)
        clear hcell
        go_wp2
        · go_ret
          exact ⟨_, n, rfl, rfl⟩
        · go_quiet (fail)
          go_wp2
          · go_ret
            exact ⟨_, n + nq, rfl, World.drewN_drewN ..⟩
          · go_roundw
            case rel => exact ⟨m + 1 + 1, _, by omega, by go_num, rfl⟩
            case measure => simp [intOf]; omega
    · go_wp2
      go_ret
      exact ⟨_, n, rfl, rfl⟩
theorem Try.info2 : (Try.prog.info? 2).map (fun i => (i.zero, i.size, i.bytes)) = some (some (.int .i64 0), 1, 8) := by kernel_rfl
theorem Try.size2 : (Try.prog.info? 2).map (·.size) = some 1 := by kernel_rfl

/-- cloneEnds of nil. -/
theorem clone_nil (cap : Nat) (w : World) :
    Calls Try.prog 10 #[.slice none 0 cap] w fun e w' => e = .returned (.slice none 0 0) ∧ w' = w := by
  have hq : ∀ (w : World) (a : Option Addr) (n c n' c' : Nat), (binOp .eql 26 (.slice a n c) (.slice none n' c')).run Try.prog w = .ok (.bool a.isNone) w := fun w a n c n' c' => Lib.run_eql_slice_nil w _ _ a n c n' c' Try.underlying26
  go_enter Try.func10, Try.ntmps10
  go_wp2
  go_ret
  exact ⟨rfl, rfl⟩

/-- The row that a make has laid, as the heap has it. -/
theorem made_heap {w1 : World} {base g n : Nat} {e : TypeId} {xs : List Value} (h : w1.ownsRow base e 1 (.slice (some ⟨g, 0, none⟩) n n) n xs) : w1.heap[g]? = some (.cells xs.toArray e (0, 0)) := by
  obtain ⟨h1, h2 | ⟨g', cap, cur, hv, _, hh, _, _, hs, ht⟩⟩ := h
  · simp at h2
  · simp only [Value.slice.injEq, Option.some.injEq, Addr.mk.injEq, and_true, true_and] at hv
    obtain ⟨rfl, rfl⟩ := hv
    rw [hh]
    have : cur.toList = xs := by rw [← ht, List.take_of_length_le (by simp; omega)]
    subst this
    simp

theorem cells_of_row {w w1 : World} {x : Addr} {zs : List Int} {len : Nat} (hc : ∀ i, i < len → w.cell? (x.add i) = some (.int .i64 (zs.getD i 0))) (hg : w.grownBy w1 none) (hl : len ≤ zs.length) :
    ∀ j v, ((zs.take len).map (Value.int .i64))[j]? = some v → w1.cell? (x.add j) = some v := by
  intro j v hj
  have hjl : j < len := by
    have := (List.getElem?_eq_some_iff.1 hj).1
    simp at this; omega
  have e : v = .int .i64 (zs.getD j 0) := by
    rw [List.getElem?_map, List.getElem?_take_of_lt hjl] at hj
    rw [List.getD_eq_getElem?_getD]
    cases h : zs[j]? with
    | none => rw [h] at hj; simp at hj
    | some z => rw [h] at hj; simp at hj; simp [← hj]
  rw [e]
  exact hg.cell (hc j hjl) (by simp)

/-- The copy into the row that the make has laid: nothing below it turns. -/
theorem copy_made {w w1 : World} {x : Addr} {zs : List Int} {len cap : Nat} (hlz : len ≤ zs.length) (hc : ∀ i, i < len → w.cell? (x.add i) = some (.int .i64 (zs.getD i 0)))
    (hown : w1.ownsRow w.heap.size 2 1 (.slice (some ⟨w.heap.size, 0, none⟩) len len) len (madeCells (Value.int .i64 0).cells (len * 1)).toList) (hg : w.grownBy w1 none) :
    ∃ w2, (Builtin.copy_ #[26, 26] 3 #[.slice (some ⟨w.heap.size, 0, none⟩) len len, .slice (some x) len cap]).run Try.prog w1 = .ok (goInt len) w2 ∧ Below w.heap.size w w2 := by
  have hb1 : Below w.heap.size w w1 := (Below.refl _ _).grown hg (Nat.le_refl _) (by simp)
  have hlen : ((zs.take len).map (Value.int .i64)).length = len := by simp; omega
  have hr := run_copy_row (P := Try.prog) w1 26 26 3 2 w.heap.size 0 len len x len cap _ 2 ((zs.take len).map (Value.int .i64)) Try.underlying26 Try.size2 (made_heap hown) (by rw [hlen]; simp) (cells_of_row hc hg hlz) (by rw [hlen]; simp [size_madeCells]) (ints_oneCell _ _)
  rw [hlen] at hr
  exact ⟨_, hr, below_setRow hb1 (Nat.le_refl _) _⟩

set_option maxHeartbeats 1000000 in
/-- cloneEnds of a slice that is not nil. -/
theorem clone_some (x : Addr) (len cap : Nat) (zs : List Int) (w : World) (hm : len ≤ 131072) (hlz : len ≤ zs.length)
    (hcell : ∀ i, i < len → w.cell? (x.add i) = some (.int .i64 (zs.getD i 0))) :
    Calls Try.prog 10 #[.slice (some x) len cap] w fun e w' => e = .returned (.slice (some ⟨w.heap.size, 0, none⟩) len len) ∧ Below w.heap.size w w' := by
  have hq : ∀ (w : World) (a : Option Addr) (n c n' c' : Nat), (binOp .eql 26 (.slice a n c) (.slice none n' c')).run Try.prog w = .ok (.bool a.isNone) w := fun w a n c n' c' => Lib.run_eql_slice_nil w _ _ a n c n' c' Try.underlying26
  obtain ⟨i0, hi, hz0, hz1, hz2⟩ := info_parts Try.info2
  have hbytes : i0.bytes * len ≤ 281474976710656 := by rw [hz2]; omega
  have hmax : len ≤ maxLen := by unfold maxLen; omega
  have hcp := fun w1 => copy_made (w := w) (w1 := w1) (x := x) (zs := zs) (len := len) (cap := cap) hlz hcell
  clear hcell
  go_enter Try.func10, Try.ntmps10
  go_wp2_with (at_make; refine wpList_make_full _ rfl (.tmp 7) (.tmp 7) 26 rfl w.heap.size 2 i0 (.int .i64 0) 1 Try.underlying26 hi hz0 hz1 _ _ _ _ len rfl rfl rfl rfl hbytes hmax (Nat.le_refl _) ?_; intro w1 hown1 hgrow1; obtain ⟨w2, hrun, hb2⟩ := hcp w1 hown1 hgrow1; clear hown1 hgrow1 hcp)
  go_ret
  exact ⟨rfl, hb2⟩

/-- endsOrdered of any slice of int64 that can be read: it returns, and only draws. -/
theorem ends_any (a : Option Addr) (len cap : Nat) (zs : List Int) (w : World) (hm : len ≤ 131072) (hn : a = none → len = 0)
    (hcell : ∀ x, a = some x → ∀ i, i < len → w.cell? (x.add i) = some (.int .i64 (zs.getD i 0))) :
    Calls Try.prog 9 #[.slice a len cap] w fun e w' => ∃ b n, e = .returned (.bool b) ∧ w' = w.drewN n := by
  by_cases h0 : len = 0
  · subst h0; exact ends_empty a cap w
  · cases a with
    | none => exact absurd (hn rfl) h0
    | some x =>
      have hc := hcell x rfl
      obtain ⟨blk, off, spot⟩ := x
      have hspot : spot = none := by simpa [Addr.add] using World.cell?_spot (hc 0 (by omega))
      subst hspot
      exact ends_some blk off len cap zs w hm (fun i hi => by rw [← add_plain]; exact hc i hi)

/-- cloneEnds of any slice of int64 that can be read. -/
theorem clone_any (a : Option Addr) (len cap : Nat) (zs : List Int) (w : World) (hm : len ≤ 131072) (hlz : len ≤ zs.length) (hn : a = none → len = 0)
    (hcell : ∀ x, a = some x → ∀ i, i < len → w.cell? (x.add i) = some (.int .i64 (zs.getD i 0))) :
    Calls Try.prog 10 #[.slice a len cap] w fun e w' => ∃ a', e = .returned (.slice a' len len) ∧ (0 < len → ∃ g, a' = some ⟨g, 0, none⟩) ∧ Below w.heap.size w w' := by
  cases a with
  | none =>
    obtain rfl : len = 0 := hn rfl
    exact (clone_nil cap w).mono fun e w' ⟨he, hw⟩ => ⟨none, he, fun h => absurd h (by omega), hw ▸ Below.refl _ _⟩
  | some x => exact (clone_some x len cap zs w hm hlz (hcell x rfl)).mono fun e w' ⟨he, hw⟩ => ⟨_, he, fun _ => ⟨_, rfl⟩, hw⟩

theorem st_cell0 (w : World) (b : Int) (a : Option Addr) (len cap : Nat) : (w.alloc (.cells (stCells b a len cap) 52)).cell? ⟨w.heap.size, 0, none⟩ = some (.int .u64 b) := by
  simp [stCells]
theorem st_cell5 (w : World) (b : Int) (a : Option Addr) (len cap : Nat) : (w.alloc (.cells (stCells b a len cap) 52)).cell? ⟨w.heap.size, 5, none⟩ = some (.slice a len cap) := by
  simp [stCells]
theorem lastOf_zero (b : Int) (h0 : 0 ≤ b) (h1 : b ≤ 18446744073709551615) : lastOf b 0 = b := by
  simp only [lastOf, IntKind.wrap_u64]; omega
theorem lastOf_succ (b : Int) (k : Nat) : lastOf b (k + 1) = IntKind.u64.wrap (lastOf b k + 1) := by
  simp only [lastOf, IntKind.wrap_u64]; omega
end Go.Proofs.Qxb6603511a
