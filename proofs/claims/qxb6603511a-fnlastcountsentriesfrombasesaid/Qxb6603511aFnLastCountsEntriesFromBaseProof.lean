/-
  'Rows.FnLastCountsEntriesFromBaseSaid' PROVED: the shell's frame (proof-skeleton.mjs), its walk filled. The contracts: Qxb6603511aLast.lean.
-/
import Derived.Test.Qxb6603511aRows
import Derived.WalkKit
import Derived.ProofKit
import Derived.OpenShut
import Derived.ShutString
import Derived.ChangeOld
import Derived.Below
import Derived.Test.Qxb6603511aLast
namespace Go.Proofs.Qxb6603511a.fnLastCountsEntriesFromBase
open Go.ChangeShapes Go.WideShapes Go.ChangeAt Go.RowKit
open Go.ChangeMaps (open_string shut_string)
set_option linter.unusedVariables false

theorem own : ownKnob Try.prog.godebug = none := by kernel_rfl
theorem laidOut : laidOutB Try.prog = true := by kernel_rfl

/-- WHAT THE WALK IS TOLD OF A SLICE OF INTEGERS THAT CAME IN: it is nil; or it leads to a row of 'cap' cells, the numbers 'zs' (the first 'len' are its elements, the rest its spare room), each fitting its kind. -/
def IsRow (k : IntKind) (w : World) (a : Option Addr) (len cap : Nat) (zs : List Int) : Prop :=
  (a = none ∧ len = 0 ∧ cap = 0 ∧ zs = []) ∨
  ∃ x, a = some x ∧ len ≤ cap ∧ cap ≤ maxLen ∧ zs.length = cap ∧ (∀ i, i < zs.length → w.cell? (x.add i) = some (.int k (zs.getD i 0))) ∧ ∀ n ∈ zs, (Lit.int k n).wf = true

theorem bytes8 (b : Int) (a : Option Addr) (len cap : Nat) (w : World) (hm : len ≤ 131072) :
    Calls Try.prog 8 #[.int .u64 b, .slice a len cap] w fun e w' => e = .returned (.bool true) ∧ w = w' := by
  go_enter Try.func8, Try.ntmps8
  go_wp2
  go_ret
  exact ⟨rfl, rfl⟩

theorem below_new {B : Nat} {w w1 : World} (h : Below B w w1) (hB : B ≤ w1.heap.size) (o : Obj) (n : Nat) : Below B w ((w1.alloc o).drewN n) := by
  have := h.alloc hB o
  exact ⟨this.os, this.tape, this.output, this.size, this.block⟩

set_option maxHeartbeats 1000000 in
theorem law5 (b : Int) (a : Option Addr) (len cap : Nat) (zs : List Int) (w : World) (hb0 : 0 ≤ b) (hb1 : b ≤ 18446744073709551615) (hm : len ≤ 131072) (hlz : len ≤ zs.length) (hn : a = none → len = 0)
    (hcell : ∀ x, a = some x → ∀ i, i < len → w.cell? (x.add i) = some (.int .i64 (zs.getD i 0))) :
    Calls Try.prog 5 #[.int .u64 b, .slice a len cap] w fun e w' => e = .returned (.bool true) ∧ Below w.heap.size w w' := by
  have hl0 : (lastOf b 0 == b) = true := by simpa using lastOf_zero b hb0 hb1
  go_enter Try.func5, Try.ntmps5
  go_wp2_with (first
    | (go_at_call 8; refine (bytes8 b a len cap _ hm).mono ?_; rintro e w' ⟨rfl, rfl⟩)
    | (go_at_call 9; refine (ends_any a len cap zs _ hm hn (by exact hcell)).mono ?_; rintro e w' ⟨b9, n9, rfl, rfl⟩)
    | (go_at_call 10; refine (clone_any a len cap zs _ hm hlz hn (by exact hcell)).mono ?_; rintro e w1 ⟨a', rfl, hg, hbel⟩)
    | (go_at_call 12; refine (new_any b none 0 0 _).mono ?_; rintro e w' ⟨rfl, rfl⟩)
    | (go_at_call 11; refine (last_any b _ none 0 0 _ (by exact st_cell0 _ _ _ _ _) (by exact st_cell5 _ _ _ _ _) (by omega)).mono ?_; rintro e w' ⟨rfl, n11, rfl⟩))
  · go_ret
    exact ⟨rfl, ⟨rfl, rfl, rfl, Nat.le_refl _, fun _ _ => rfl⟩⟩
  · replace hbel : Below w.heap.size w w1 := ⟨hbel.os, hbel.tape, hbel.output, hbel.size, hbel.block⟩
    have hst : Below w.heap.size w ((w1.alloc (.cells (stCells b none 0 0) 52)).drewN n11) := below_new hbel hbel.size _ _
    clear hcell hn hlz hbel
    go_loopw [5, 6, 7] (fun prev ok i wr => ∃ k : Nat, k ≤ len ∧ i = .int .i64 (k + 1) ∧ prev = .int .u64 (lastOf b k) ∧ ok = .bool true ∧ Below w.heap.size w wr) (fun _ _ i _ => len + 1 - (intOf i).toNat)
    case atStart => exact ⟨0, Nat.zero_le _, rfl, rfl, by simp, hst⟩
    case round =>
      obtain ⟨k, hk, rfl, rfl, rfl, hb⟩ := hrel
      by_cases hlt : k < len
      · obtain ⟨g, rfl⟩ := hg (by omega)
        have hs : (lastOf b (k + 1) != IntKind.u64.wrap (lastOf b k + 1)) = false := by simp [lastOf_succ]
        clear hst
        have hle : (k : Int) + 1 ≤ (len : Int) := by omega
        have hbz := hb.size
        go_wp2_with (first
          | (go_at_call 12; refine (new_any b _ _ _ _).mono ?_; rintro e w' ⟨rfl, rfl⟩)
          | (go_at_call 11; refine (last_any b _ _ _ _ _ (by exact st_cell0 _ _ _ _ _) (by exact st_cell5 _ _ _ _ _) (by omega)).mono ?_; rintro e w' ⟨rfl, n12, rfl⟩))
        go_roundw
        case rel => exact ⟨k + 1, by omega, by go_num, rfl, rfl, below_new hb hbz _ _⟩
        case measure => simp [intOf]; omega
      · go_wp2
        go_ret
        exact ⟨rfl, hb⟩

/-! ### STEP 1: THE WALK: the Go text returns true, AND WRITES NOTHING THAT WAS THERE: 'Below w.heap.size w w'' (Derived/Below.lean: '.refl', '.alloc', '.drew', '.setCell' at a new block, '.trans'). Open each 'IsRow' by 'rcases' AHEAD of 'go_enter'; part every test ahead of the walk. -/
theorem walk (a0 : Int) (a1 : Option Addr) (len1 cap1 : Nat) (z1 : List Int) (w : World) (w0 : (Lit.int .u64 a0).wf = true) (w1 : IsRow .i64 w a1 len1 cap1 z1) :
    Calls Try.prog 5 #[.int .u64 a0, .slice a1 len1 cap1] w fun e w' => e = .returned (.bool true) ∧ Below w.heap.size w w' := by
  obtain ⟨h0, h1⟩ := bounds_u64 w0
  have hview : (a1 = none → len1 = 0) ∧ len1 ≤ z1.length ∧ ∀ x, a1 = some x → ∀ i, i < len1 → w.cell? (x.add i) = some (.int .i64 (z1.getD i 0)) := by
    rcases w1 with ⟨rfl, rfl, rfl, rfl⟩ | ⟨x, rfl, hlc, hcm, hzl, hc, hwf⟩
    · exact ⟨fun _ => rfl, by simp, fun x hx => (by cases hx)⟩
    · exact ⟨fun h => (by cases h), by omega, fun y hy i hi => (by cases hy; exact hc i (by omega))⟩
  obtain ⟨hn, hlz, hcell⟩ := hview
  clear w1
  by_cases hbig : 1048576 < len1
  · clear hcell hn hlz w0
    go_enter Try.func5, Try.ntmps5
    go_wp2
    go_ret
    exact ⟨rfl, Below.refl _ _⟩
  by_cases hmid : 131072 < len1
  · clear hcell hn hlz w0
    go_enter Try.func5, Try.ntmps5
    go_wp2
    go_ret
    exact ⟨rfl, Below.refl _ _⟩
  exact law5 a0 a1 len1 cap1 z1 w h0 h1 (by omega) hlz hn hcell

/-! ### THE ROW's STEP: WRITTEN OUT: LEAVE IT -/
set_option maxRecDepth 100000 in
theorem lifted (os : Os) (started : os.Started) (H : Type) (enc : TypeId × Value → H) :
    ReturnsInHanded {} Try.checked os 5 .any (Rows.fnLastCountsEntriesFromBaseSpec.pre6 enc Try.prog Try.f5 Rows.fnLastCountsEntriesFromBaseRow.domain false) (Rows.fnLastCountsEntriesFromBaseSpec.post enc Try.prog Try.f5 false true false false) := by
  refine returnsInHanded_of_change (C := Try.checked) own started (by kernel_rfl) Try.func5
    (ChangeSpec.witness6 (enc := enc) (C := Try.checked) false ⟨#[], #[.int .u64 0, .slice none 0 0], []⟩ 8 (by kernel_rfl) (by kernel_rfl) (by kernel_rfl) (by kernel_rfl)) ?_
  intro W base args ds gs before hval0 hW hcnd _
  have hval : ∀ (j : Nat) t v, Try.f5.params[j]? = some t → args[j]? = some v → Value.okWide Try.prog W .any base t v := hval0
  have hW' := hW
  obtain ⟨p, q, hA0, hV, rfl, hfz, hnd⟩ := hW
  have hA : DataW.TrodAll enc Try.prog W 0 (fun _ => true) true Try.f5.params.toList args.toList ds p := hA0
  rw [Try.params5] at hA hval
  obtain ⟨v0, vs0, d0, ds0, p0, q0, hargs, rfl, rfl, h0, r0⟩ := trodAll_cons hA
  obtain ⟨v1, vs1, d1, ds1, p1, q1, rfl, rfl, rfl, h1, r1⟩ := trodAll_cons r0
  obtain ⟨rfl, rfl, rfl⟩ := trodAll_nil r1
  obtain rfl : args = #[v0, v1] := by cases args; simp_all
  obtain ⟨rfl, rfl⟩ := trodVars_none hV
  obtain ⟨a0, rfl, rfl, rfl, w0⟩ := open_int Try.underlying22 (hval 0 22 v0 rfl rfl) h0
  obtain ⟨a1, len1, cap1, rfl⟩ := okWide_slice Try.underlying26 (hval 1 26 v1 rfl rfl)
  have k1 := h1
  have lt1 : ∀ x ∈ p1, x.block < W.heap.size := by obtain ⟨m, hm⟩ := k1; exact DataW.trod_lt m _ _ _ hm
  obtain ⟨z1, w1⟩ : ∃ zs, IsRow .i64 W a1 len1 cap1 zs := by
    obtain ⟨fuel, hf⟩ := h1
    rcases open_ints Try.underlying26 Try.underlying2 (by kernel_rfl) hf with ⟨hcs, _⟩ | ⟨x, l, c, zs, hcs, _, hl, hm, hz, _, hcell, hwz⟩
    · simp [Value.cells] at hcs
      obtain ⟨rfl, rfl, rfl⟩ := hcs
      exact ⟨[], .inl ⟨rfl, rfl, rfl, rfl⟩⟩
    · simp [Value.cells] at hcs
      obtain ⟨rfl, rfl, rfl⟩ := hcs
      exact ⟨zs, .inr ⟨_, rfl, hl, hm, by simpa using hz, hcell, hwz⟩⟩
  clear hA0 hval0
  refine (walk a0 a1 len1 cap1 z1 W w0 w1).mono fun e W' ⟨he, bel⟩ => ?_
  subst he
  exact ⟨_, rfl, _, _, _, [], _, [], hW', trodAll_mk1 (shut_bool Try.underlying4 _), (trodAll_cons_mk (shut_int Try.underlying22 w0) (trodAll_cons_mk (Below.trod laidOut (by kernel_rfl) (of_decide_eq_true (by kernel_rfl)) k1 bel lt1) trodAll_mk0)), rfl, bel.frame _, fun h => by cases h⟩

theorem over : Rows.fnLastCountsEntriesFromBaseRow.holds Try.pinned (OpenSpec.ofChange Rows.fnLastCountsEntriesFromBaseSpec) :=
  OpenClaim.holds_of_wide 5 Try.f5 rfl rfl rfl rfl rfl rfl rfl ⟨rfl, rfl, rfl, rfl, rfl⟩ rfl rfl rfl rfl rfl (by kernel_rfl) Try.func5 (by kernel_rfl)
    (of_decide_eq_true (by kernel_rfl)) (by unfold Func.isWrapper; first | (rw [if_pos (by decide +kernel)]; kernel_rfl) | (rw [if_neg (by decide +kernel)]; exact ⟨rfl, rfl⟩))
    (fun os started H enc _ => lifted os started H enc)

/-- ████ THE STATEMENT ████ -/
theorem proved : Rows.FnLastCountsEntriesFromBaseSaid := over
end Go.Proofs.Qxb6603511a.fnLastCountsEntriesFromBase
