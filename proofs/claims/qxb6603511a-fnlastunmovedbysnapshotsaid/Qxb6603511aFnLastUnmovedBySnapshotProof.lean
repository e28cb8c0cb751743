/-
  'Rows.FnLastUnmovedBySnapshotSaid' PROVED: the shell's frame (proof-skeleton.mjs), its walk filled. The contracts: Qxb6603511aLast.lean.
-/
import Derived.Test.Qxb6603511aRows
import Derived.WalkKit
import Derived.ProofKit
import Derived.OpenShut
import Derived.ShutString
import Derived.ChangeOld
import Derived.Below
import Derived.Test.Qxb6603511aLast
namespace Go.Proofs.Qxb6603511a.fnLastUnmovedBySnapshot
open Go.ChangeShapes Go.WideShapes Go.ChangeAt Go.RowKit
open Go.ChangeMaps (open_string shut_string)
set_option linter.unusedVariables false

theorem own : ownKnob Try.prog.godebug = none := by kernel_rfl
theorem laidOut : laidOutB Try.prog = true := by kernel_rfl

/-- WHAT THE WALK IS TOLD OF A SLICE OF INTEGERS THAT CAME IN: it is nil; or it leads to a row of 'cap' cells, the numbers 'zs' (the first 'len' are its elements, the rest its spare room), each fitting its kind. -/
def IsRow (k : IntKind) (w : World) (a : Option Addr) (len cap : Nat) (zs : List Int) : Prop :=
  (a = none ∧ len = 0 ∧ cap = 0 ∧ zs = []) ∨
  ∃ x, a = some x ∧ len ≤ cap ∧ cap ≤ maxLen ∧ zs.length = cap ∧ (∀ i, i < zs.length → w.cell? (x.add i) = some (.int k (zs.getD i 0))) ∧ ∀ n ∈ zs, (Lit.int k n).wf = true

theorem bytes13 (b : Int) (a : Option Addr) (len cap : Nat) (k : Int) (w : World) (hm : len ≤ 131072) :
    Calls Try.prog 13 #[.int .u64 b, .slice a len cap, .int .i64 k] w fun e w' => e = .returned (.bool true) ∧ w = w' := by
  go_enter Try.func13, Try.ntmps13
  go_wp2
  go_ret
  exact ⟨rfl, rfl⟩

theorem below_new {B : Nat} {w w1 : World} (h : Below B w w1) (hB : B ≤ w1.heap.size) (o : Obj) (n : Nat) : Below B w ((w1.alloc o).drewN n) := by
  have := h.alloc hB o
  exact ⟨this.os, this.tape, this.output, this.size, this.block⟩

theorem st_at0 {w : World} {p : Nat} {b : Int} {a : Option Addr} {len cap : Nat} (hp : p = w.heap.size) : (w.alloc (.cells (stCells b a len cap) 52)).cell? ⟨p, 0, none⟩ = some (.int .u64 b) := by
  subst hp; exact st_cell0 _ _ _ _ _
theorem st_at5 {w : World} {p : Nat} {b : Int} {a : Option Addr} {len cap : Nat} (hp : p = w.heap.size) : (w.alloc (.cells (stCells b a len cap) 52)).cell? ⟨p, 5, none⟩ = some (.slice a len cap) := by
  subst hp; exact st_cell5 _ _ _ _ _
theorem last_q1 (b : Int) (n : Nat) : (lastOf (IntKind.u64.wrap (b + n)) 0 == IntKind.u64.wrap (b + n)) = true := by
  simp only [lastOf, IntKind.wrap_u64, beq_iff_eq]; omega
theorem last_q2 (b : Int) (n : Nat) : (lastOf b n == lastOf (IntKind.u64.wrap (b + n)) 0) = true := by
  simp only [lastOf, IntKind.wrap_u64, beq_iff_eq]; omega
theorem last_q3 (b : Int) (n k : Nat) (h : k ≤ n) : (lastOf (IntKind.u64.wrap (b + k)) (n - k) == lastOf b n) = true := by
  simp only [lastOf, IntKind.wrap_u64, beq_iff_eq]; omega
theorem last_q4 (b : Int) (n : Nat) : (lastOf (IntKind.u64.wrap (b + n)) 0 == lastOf b n) = true := by
  simp only [lastOf, IntKind.wrap_u64, beq_iff_eq]; omega

set_option maxHeartbeats 1000000 in
theorem law6_all (b : Int) (a : Option Addr) (len cap : Nat) (zs : List Int) (h0 : 0 < len) (w : World) (hb0 : 0 ≤ b) (hb1 : b ≤ 18446744073709551615) (hm : len ≤ 131072) (hlz : len ≤ zs.length) (hn : a = none → len = 0)
    (hcell : ∀ x, a = some x → ∀ i, i < len → w.cell? (x.add i) = some (.int .i64 (zs.getD i 0))) :
    Calls Try.prog 6 #[.int .u64 b, .slice a len cap, .int .i64 len] w fun e w' => e = .returned (.bool true) ∧ Below w.heap.size w w' := by
  have hk2 : decide ((len : Int) < (len : Int)) = false := decide_eq_false (by omega)
  go_enter Try.func6, Try.ntmps6
  go_wp2_with (first
    | (go_at_call 13; refine (bytes13 b a len cap _ _ hm).mono ?_; rintro e w' ⟨rfl, rfl⟩)
    | (go_at_call 9; refine (ends_any a len cap zs _ hm hn (by exact hcell)).mono ?_; rintro e w' ⟨b9, n9, rfl, rfl⟩)
    | (go_at_call 10; refine (clone_any a len cap zs _ hm hlz hn (by exact hcell)).mono ?_; rintro e w1 ⟨a', rfl, hg, hbel⟩))
  · go_ret
    exact ⟨rfl, ⟨rfl, rfl, rfl, Nat.le_refl _, fun _ _ => rfl⟩⟩
  · replace hbel : Below w.heap.size w w1 := ⟨hbel.os, hbel.tape, hbel.output, hbel.size, hbel.block⟩
    have hbz : w.heap.size ≤ w1.heap.size := hbel.size
    clear hcell hn hlz
    have q1 := last_q1 b len
    have q2 := last_q2 b len
    have q4 := last_q4 b len
    obtain ⟨g, rfl⟩ := hg h0
    clear hg
    go_wp2_with (first
      | (go_at_call 12; refine (new_any _ _ _ _ _).mono ?_; rintro e w' ⟨rfl, rfl⟩)
      | (go_at_call 11; refine (last_any _ _ _ _ _ _ (by exact st_at0 (by simp)) (by exact st_at5 (by simp)) (by omega)).mono ?_; rintro e w' ⟨rfl, n12, rfl⟩))
    go_ret
    exact ⟨rfl, below_new (below_new (below_new hbel hbz _ _) (by simp; omega) _ _) (by simp; omega) _ _⟩

set_option maxHeartbeats 1000000 in
theorem law6_some (b : Int) (a : Option Addr) (len cap : Nat) (zs : List Int) (k : Nat) (hk : k < len) (w : World) (hb0 : 0 ≤ b) (hb1 : b ≤ 18446744073709551615) (hm : len ≤ 131072) (hlz : len ≤ zs.length) (hn : a = none → len = 0)
    (hcell : ∀ x, a = some x → ∀ i, i < len → w.cell? (x.add i) = some (.int .i64 (zs.getD i 0))) :
    Calls Try.prog 6 #[.int .u64 b, .slice a len cap, .int .i64 k] w fun e w' => e = .returned (.bool true) ∧ Below w.heap.size w w' := by
  have hk1 : decide ((k : Int) < 0) = false := decide_eq_false (by omega)
  have hk2 : decide ((len : Int) < (k : Int)) = false := decide_eq_false (by omega)
  go_enter Try.func6, Try.ntmps6
  go_wp2_with (first
    | (go_at_call 13; refine (bytes13 b a len cap _ _ hm).mono ?_; rintro e w' ⟨rfl, rfl⟩)
    | (go_at_call 9; refine (ends_any a len cap zs _ hm hn (by exact hcell)).mono ?_; rintro e w' ⟨b9, n9, rfl, rfl⟩)
    | (go_at_call 10; refine (clone_any a len cap zs _ hm hlz hn (by exact hcell)).mono ?_; rintro e w1 ⟨a', rfl, hg, hbel⟩))
  · go_ret
    exact ⟨rfl, ⟨rfl, rfl, rfl, Nat.le_refl _, fun _ _ => rfl⟩⟩
  · replace hbel : Below w.heap.size w w1 := ⟨hbel.os, hbel.tape, hbel.output, hbel.size, hbel.block⟩
    have hbz : w.heap.size ≤ w1.heap.size := hbel.size
    clear hcell hn hlz
    have q1 := last_q1 b len
    have q2 := last_q2 b len
    have q3 := last_q3 b len k (by omega)
    obtain ⟨g, rfl⟩ := hg (by omega)
    clear hg
    go_wp2_with (first
      | (go_at_call 12; refine (new_any _ _ _ _ _).mono ?_; rintro e w' ⟨rfl, rfl⟩)
      | (go_at_call 11; refine (last_any _ _ _ _ _ _ (by exact st_at0 (by simp)) (by exact st_at5 (by simp)) (by omega)).mono ?_; rintro e w' ⟨rfl, n12, rfl⟩))
    go_ret
    exact ⟨rfl, below_new (below_new (below_new hbel hbz _ _) (by simp; omega) _ _) (by simp; omega) _ _⟩

set_option maxHeartbeats 1000000 in
theorem law6_zero (b : Int) (a : Option Addr) (cap : Nat) (w : World) (hb0 : 0 ≤ b) (hb1 : b ≤ 18446744073709551615) :
    Calls Try.prog 6 #[.int .u64 b, .slice a 0 cap, .int .i64 0] w fun e w' => e = .returned (.bool true) ∧ Below w.heap.size w w' := by
  have q0 : (lastOf b 0 == b) = true := by simpa using lastOf_zero b hb0 hb1
  have hw : IntKind.u64.wrap b = b := by simp only [IntKind.wrap_u64]; omega
  go_enter Try.func6, Try.ntmps6
  go_wp2_with (first
    | (go_at_call 13; refine (bytes13 b a 0 cap _ _ (by omega)).mono ?_; rintro e w' ⟨rfl, rfl⟩)
    | (go_at_call 9; refine (ends_any a 0 cap [] _ (by omega) (fun _ => rfl) (fun x hx i hi => absurd hi (by omega))).mono ?_; rintro e w' ⟨b9, n9, rfl, rfl⟩)
    | (go_at_call 10; refine (clone_any a 0 cap [] _ (by omega) (by simp) (fun _ => rfl) (fun x hx i hi => absurd hi (by omega))).mono ?_; rintro e w1 ⟨a', rfl, hg, hbel⟩))
  · go_ret
    exact ⟨rfl, ⟨rfl, rfl, rfl, Nat.le_refl _, fun _ _ => rfl⟩⟩
  · replace hbel : Below w.heap.size w w1 := ⟨hbel.os, hbel.tape, hbel.output, hbel.size, hbel.block⟩
    have hbz : w.heap.size ≤ w1.heap.size := hbel.size
    clear hg
    cases a' with
    | none =>
      go_wp2_with (first
        | (go_at_call 12; refine (new_any _ _ _ _ _).mono ?_; rintro e w' ⟨rfl, rfl⟩)
        | (go_at_call 11; refine (last_any _ _ _ _ _ _ (by exact st_at0 (by simp)) (by exact st_at5 (by simp)) (by omega)).mono ?_; rintro e w' ⟨rfl, n12, rfl⟩))
      go_ret
      exact ⟨rfl, below_new (below_new (below_new hbel hbz _ _) (by simp; omega) _ _) (by simp; omega) _ _⟩
    | some x =>
      go_wp2_with (first
        | (go_at_call 12; refine (new_any _ _ _ _ _).mono ?_; rintro e w' ⟨rfl, rfl⟩)
        | (go_at_call 11; refine (last_any _ _ _ _ _ _ (by exact st_at0 (by simp)) (by exact st_at5 (by simp)) (by omega)).mono ?_; rintro e w' ⟨rfl, n12, rfl⟩))
      go_ret
      exact ⟨rfl, below_new (below_new (below_new hbel hbz _ _) (by simp; omega) _ _) (by simp; omega) _ _⟩


/-! ### STEP 1: THE WALK: the Go text returns true, AND WRITES NOTHING THAT WAS THERE: 'Below w.heap.size w w'' (Derived/Below.lean: '.refl', '.alloc', '.drew', '.setCell' at a new block, '.trans'). Open each 'IsRow' by 'rcases' AHEAD of 'go_enter'; part every test ahead of the walk. -/
theorem walk (a0 : Int) (a1 : Option Addr) (len1 cap1 : Nat) (z1 : List Int) (a2 : Int) (w : World) (w0 : (Lit.int .u64 a0).wf = true) (w1 : IsRow .i64 w a1 len1 cap1 z1) (w2 : (Lit.int .i64 a2).wf = true) :
    Calls Try.prog 6 #[.int .u64 a0, .slice a1 len1 cap1, .int .i64 a2] w fun e w' => e = .returned (.bool true) ∧ Below w.heap.size w w' := by
  obtain ⟨h0, h1⟩ := bounds_u64 w0
  obtain ⟨k0, k1⟩ := bounds_i64 w2
  have hview : (a1 = none → len1 = 0) ∧ len1 ≤ z1.length ∧ ∀ x, a1 = some x → ∀ i, i < len1 → w.cell? (x.add i) = some (.int .i64 (z1.getD i 0)) := by
    rcases w1 with ⟨rfl, rfl, rfl, rfl⟩ | ⟨x, rfl, hlc, hcm, hzl, hc, hwf⟩
    · exact ⟨fun _ => rfl, by simp, fun x hx => (by cases hx)⟩
    · exact ⟨fun h => (by cases h), by omega, fun y hy i hi => (by cases hy; exact hc i (by omega))⟩
  obtain ⟨hn, hlz, hcell⟩ := hview
  clear w1
  by_cases hbig : 1048576 < len1
  · clear hcell hn hlz w0 w2
    go_enter Try.func6, Try.ntmps6
    go_wp2
    go_ret
    exact ⟨rfl, Below.refl _ _⟩
  by_cases hmid : 131072 < len1
  · clear hcell hn hlz w0 w2
    go_enter Try.func6, Try.ntmps6
    go_wp2
    go_ret
    exact ⟨rfl, Below.refl _ _⟩
  by_cases hneg : a2 < 0
  · have hd : decide (a2 < 0) = true := decide_eq_true hneg
    clear hcell hn hlz w0 w2
    go_enter Try.func6, Try.ntmps6
    go_wp2
    go_ret
    exact ⟨rfl, Below.refl _ _⟩
  by_cases hgt : (len1 : Int) < a2
  · have hd : decide (a2 < 0) = false := decide_eq_false hneg
    clear hcell hn hlz w0 w2
    go_enter Try.func6, Try.ntmps6
    go_wp2
    go_ret
    exact ⟨rfl, Below.refl _ _⟩
  obtain ⟨k, rfl⟩ : ∃ k : Nat, a2 = (k : Int) := ⟨a2.toNat, by omega⟩
  by_cases hz : len1 = 0
  · subst hz
    obtain rfl : k = 0 := by omega
    exact law6_zero a0 a1 cap1 w h0 h1
  by_cases hk : k = len1
  · subst hk
    exact law6_all a0 a1 k cap1 z1 (by omega) w h0 h1 (by omega) hlz hn hcell
  exact law6_some a0 a1 len1 cap1 z1 k (by omega) w h0 h1 (by omega) hlz hn hcell

/-! ### THE ROW's STEP: WRITTEN OUT: LEAVE IT -/
set_option maxRecDepth 100000 in
theorem lifted (os : Os) (started : os.Started) (H : Type) (enc : TypeId × Value → H) :
    ReturnsInHanded {} Try.checked os 6 .any (Rows.fnLastUnmovedBySnapshotSpec.pre6 enc Try.prog Try.f6 Rows.fnLastUnmovedBySnapshotRow.domain false) (Rows.fnLastUnmovedBySnapshotSpec.post enc Try.prog Try.f6 false true false false) := by
  refine returnsInHanded_of_change (C := Try.checked) own started (by kernel_rfl) Try.func6
    (ChangeSpec.witness6 (enc := enc) (C := Try.checked) false ⟨#[], #[.int .u64 0, .slice none 0 0, .int .i64 0], []⟩ 8 (by kernel_rfl) (by kernel_rfl) (by kernel_rfl) (by kernel_rfl)) ?_
  intro W base args ds gs before hval0 hW hcnd _
  have hval : ∀ (j : Nat) t v, Try.f6.params[j]? = some t → args[j]? = some v → Value.okWide Try.prog W .any base t v := hval0
  have hW' := hW
  obtain ⟨p, q, hA0, hV, rfl, hfz, hnd⟩ := hW
  have hA : DataW.TrodAll enc Try.prog W 0 (fun _ => true) true Try.f6.params.toList args.toList ds p := hA0
  rw [Try.params6] at hA hval
  obtain ⟨v0, vs0, d0, ds0, p0, q0, hargs, rfl, rfl, h0, r0⟩ := trodAll_cons hA
  obtain ⟨v1, vs1, d1, ds1, p1, q1, rfl, rfl, rfl, h1, r1⟩ := trodAll_cons r0
  obtain ⟨v2, vs2, d2, ds2, p2, q2, rfl, rfl, rfl, h2, r2⟩ := trodAll_cons r1
  obtain ⟨rfl, rfl, rfl⟩ := trodAll_nil r2
  obtain rfl : args = #[v0, v1, v2] := by cases args; simp_all
  obtain ⟨rfl, rfl⟩ := trodVars_none hV
  obtain ⟨a0, rfl, rfl, rfl, w0⟩ := open_int Try.underlying22 (hval 0 22 v0 rfl rfl) h0
  obtain ⟨a1, len1, cap1, rfl⟩ := okWide_slice Try.underlying26 (hval 1 26 v1 rfl rfl)
  have k1 := h1
  have lt1 : ∀ x ∈ p1, x.block < W.heap.size := by obtain ⟨m, hm⟩ := k1; exact DataW.trod_lt m _ _ _ hm
  obtain ⟨z1, w1⟩ : ∃ zs, IsRow .i64 W a1 len1 cap1 zs := by
    obtain ⟨fuel, hf⟩ := h1
    rcases open_ints Try.underlying26 Try.underlying2 (by kernel_rfl) hf with ⟨hcs, _⟩ | ⟨x, l, c, zs, hcs, _, hl, hm, hz, _, hcell, hwz⟩
    · simp [Value.cells] at hcs
      obtain ⟨rfl, rfl, rfl⟩ := hcs
      exact ⟨[], .inl ⟨rfl, rfl, rfl, rfl⟩⟩
    · simp [Value.cells] at hcs
      obtain ⟨rfl, rfl, rfl⟩ := hcs
      exact ⟨zs, .inr ⟨_, rfl, hl, hm, by simpa using hz, hcell, hwz⟩⟩
  obtain ⟨a2, rfl, rfl, rfl, w2⟩ := open_int Try.underlying3 (hval 2 3 v2 rfl rfl) h2
  clear hA0 hval0
  refine (walk a0 a1 len1 cap1 z1 a2 W w0 w1 w2).mono fun e W' ⟨he, bel⟩ => ?_
  subst he
  exact ⟨_, rfl, _, _, _, [], _, [], hW', trodAll_mk1 (shut_bool Try.underlying4 _), (trodAll_cons_mk (shut_int Try.underlying22 w0) (trodAll_cons_mk (Below.trod laidOut (by kernel_rfl) (of_decide_eq_true (by kernel_rfl)) k1 bel lt1) (trodAll_cons_mk (shut_int Try.underlying3 w2) trodAll_mk0))), rfl, bel.frame _, fun h => by cases h⟩

theorem over : Rows.fnLastUnmovedBySnapshotRow.holds Try.pinned (OpenSpec.ofChange Rows.fnLastUnmovedBySnapshotSpec) :=
  OpenClaim.holds_of_wide 6 Try.f6 rfl rfl rfl rfl rfl rfl rfl ⟨rfl, rfl, rfl, rfl, rfl⟩ rfl rfl rfl rfl rfl (by kernel_rfl) Try.func6 (by kernel_rfl)
    (of_decide_eq_true (by kernel_rfl)) (by unfold Func.isWrapper; first | (rw [if_pos (by decide +kernel)]; kernel_rfl) | (rw [if_neg (by decide +kernel)]; exact ⟨rfl, rfl⟩))
    (fun os started H enc _ => lifted os started H enc)

/-- ████ THE STATEMENT ████ -/
theorem proved : Rows.FnLastUnmovedBySnapshotSaid := over
end Go.Proofs.Qxb6603511a.fnLastUnmovedBySnapshot
