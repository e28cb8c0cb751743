/-
  'Rows.FnRecordRoundTripSaid' PROVED: the shell's frame (proof-skeleton.mjs), its walk filled. The contracts: Qxb6604381aRecord.lean; the walk over lists of bytes: Qxb6604381aRecordLaw.lean.
-/
import Derived.Test.Qxb6604381aRows
import Derived.WalkKit
import Derived.ProofKit
import Derived.OpenShut
import Derived.ShutString
import Derived.ChangeOld
import Derived.Below
import Derived.Test.Qxb6604381aRecordLaw
namespace Go.Proofs.Qxb6604381a.fnRecordRoundTrip
open Go.ChangeShapes Go.WideShapes Go.ChangeAt Go.RowKit
open Go.ChangeMaps (open_string shut_string)
set_option linter.unusedVariables false

theorem own : ownKnob Try.prog.godebug = none := by kernel_rfl
theorem laidOut : laidOutB Try.prog = true := by kernel_rfl

/-- WHAT THE WALK IS TOLD OF A SLICE OF INTEGERS THAT CAME IN: it is nil; or it leads to a row of 'cap' cells, the numbers 'zs' (the first 'len' are its elements, the rest its spare room), each fitting its kind. -/
def IsRow (k : IntKind) (w : World) (a : Option Addr) (len cap : Nat) (zs : List Int) : Prop :=
  (a = none ∧ len = 0 ∧ cap = 0 ∧ zs = []) ∨
  ∃ x, a = some x ∧ len ≤ cap ∧ cap ≤ maxLen ∧ zs.length = cap ∧ (∀ i, i < zs.length → w.cell? (x.add i) = some (.int k (zs.getD i 0))) ∧ ∀ n ∈ zs, (Lit.int k n).wf = true

/-- A row of bytes that came in, as a list of bytes. -/
theorem bytes_of_row {w : World} {a : Option Addr} {len cap : Nat} {zs : List Int} (h : IsRow .u8 w a len cap zs) :
    ∃ l : List UInt8, l.length = len ∧ len ≤ 9223372036854775807 ∧ (a = none → len = 0 ∧ cap = 0) ∧ ∀ x, a = some x → ∀ j u, (Lib.byteCells l)[j]? = some u → w.cell? (x.add j) = some u := by
  rcases h with ⟨rfl, rfl, rfl, rfl⟩ | ⟨x, rfl, hlc, hcm, hzl, hc, hwf⟩
  · exact ⟨[], rfl, by omega, fun _ => ⟨rfl, rfl⟩, fun x hx => (by cases hx)⟩
  · unfold maxLen at hcm
    refine ⟨(zs.take len).map (fun z => UInt8.ofNat z.toNat), by simp; omega, by omega, fun h => (by cases h), ?_⟩
    intro y hy j u hu
    cases hy
    have hj : j < len := by
      have := (List.getElem?_eq_some_iff.1 hu).1
      simp [Lib.byteCells] at this; omega
    have hz : zs[j]? = some (zs[j]'(by omega)) := List.getElem?_eq_getElem (by omega)
    have hb := bounds_u8 (hwf (zs[j]'(by omega)) (List.getElem_mem _))
    rw [hc j (by omega), List.getD_eq_getElem?_getD, hz]
    simp only [Lib.byteCells, List.map_map, List.getElem?_map, List.getElem?_take_of_lt hj, hz, Option.map_some, Option.some.injEq, Function.comp] at hu
    rw [← hu, UInt8.toNat_ofNat']
    simp only [Option.getD_some, Option.some.injEq, Value.int.injEq, true_and]
    omega

/-! ### STEP 1: THE WALK: the Go text returns true, AND WRITES NOTHING THAT WAS THERE: 'Below w.heap.size w w'' (Derived/Below.lean: '.refl', '.alloc', '.drew', '.setCell' at a new block, '.trans'). Open each 'IsRow' by 'rcases' AHEAD of 'go_enter'; part every test ahead of the walk. -/
theorem walk (a0 : Option Addr) (len0 cap0 : Nat) (z0 : List Int) (a1 : Int) (a2 : Option Addr) (len2 cap2 : Nat) (z2 : List Int) (a3 : Option Addr) (len3 cap3 : Nat) (z3 : List Int) (a4 : Int) (w : World) (w0 : IsRow .u8 w a0 len0 cap0 z0) (w1 : (Lit.int .u64 a1).wf = true) (w2 : IsRow .u8 w a2 len2 cap2 z2) (w3 : IsRow .u8 w a3 len3 cap3 z3) (w4 : (Lit.int .u64 a4).wf = true) :
    Calls Try.prog 4 #[.slice a0 len0 cap0, .int .u64 a1, .slice a2 len2 cap2, .slice a3 len3 cap3, .int .u64 a4] w fun e w' => e = .returned (.bool true) ∧ Below w.heap.size w w' := by
  obtain ⟨h1a, h1b⟩ := bounds_u64 w1
  obtain ⟨h4a, h4b⟩ := bounds_u64 w4
  obtain ⟨pb, e0, m0, n0, k0⟩ := bytes_of_row w0
  obtain ⟨ib, e2, m2, n2, k2⟩ := bytes_of_row w2
  obtain ⟨sb, e3, m3, n3, k3⟩ := bytes_of_row w3
  by_cases hl : len0 + len2 + len3 ≤ 1048576
  · obtain ⟨line, rfl⟩ : ∃ n : Nat, a1 = (n : Int) := ⟨a1.toNat, by omega⟩
    obtain ⟨high, rfl⟩ : ∃ n : Nat, a4 = (n : Int) := ⟨a4.toNat, by omega⟩
    exact law4 pb ib sb a0 a2 a3 len0 cap0 len2 cap2 len3 cap3 line high w (by omega) (by omega) hl e0 e2 e3 n0 n2 n3 k0 k2 k3
  · exact law4_big a0 a2 a3 len0 cap0 len2 cap2 len3 cap3 a1 a4 w m0 m2 m3 (by omega)

/-! ### THE ROW's STEP: WRITTEN OUT: LEAVE IT -/
set_option maxRecDepth 100000 in
theorem lifted (os : Os) (started : os.Started) (H : Type) (enc : TypeId × Value → H) :
    ReturnsInHanded {} Try.checked os 4 .any (Rows.fnRecordRoundTripSpec.pre6 enc Try.prog Try.f4 Rows.fnRecordRoundTripRow.domain false) (Rows.fnRecordRoundTripSpec.post enc Try.prog Try.f4 false true false false) := by
  refine returnsInHanded_of_change (C := Try.checked) own started (by kernel_rfl) Try.func4
    (ChangeSpec.witness6 (enc := enc) (C := Try.checked) false ⟨#[], #[.slice none 0 0, .int .u64 0, .slice none 0 0, .slice none 0 0, .int .u64 0], []⟩ 8 (by kernel_rfl) (by kernel_rfl) (by kernel_rfl) (by kernel_rfl)) ?_
  intro W base args ds gs before hval0 hW hcnd _
  have hval : ∀ (j : Nat) t v, Try.f4.params[j]? = some t → args[j]? = some v → Value.okWide Try.prog W .any base t v := hval0
  have hW' := hW
  obtain ⟨p, q, hA0, hV, rfl, hfz, hnd⟩ := hW
  have hA : DataW.TrodAll enc Try.prog W 0 (fun _ => true) true Try.f4.params.toList args.toList ds p := hA0
  rw [Try.params4] at hA hval
  obtain ⟨v0, vs0, d0, ds0, p0, q0, hargs, rfl, rfl, h0, r0⟩ := trodAll_cons hA
  obtain ⟨v1, vs1, d1, ds1, p1, q1, rfl, rfl, rfl, h1, r1⟩ := trodAll_cons r0
  obtain ⟨v2, vs2, d2, ds2, p2, q2, rfl, rfl, rfl, h2, r2⟩ := trodAll_cons r1
  obtain ⟨v3, vs3, d3, ds3, p3, q3, rfl, rfl, rfl, h3, r3⟩ := trodAll_cons r2
  obtain ⟨v4, vs4, d4, ds4, p4, q4, rfl, rfl, rfl, h4, r4⟩ := trodAll_cons r3
  obtain ⟨rfl, rfl, rfl⟩ := trodAll_nil r4
  obtain rfl : args = #[v0, v1, v2, v3, v4] := by cases args; simp_all
  obtain ⟨rfl, rfl⟩ := trodVars_none hV
  obtain ⟨a0, len0, cap0, rfl⟩ := okWide_slice Try.underlying25 (hval 0 25 v0 rfl rfl)
  have k0 := h0
  have lt0 : ∀ x ∈ p0, x.block < W.heap.size := by obtain ⟨m, hm⟩ := k0; exact DataW.trod_lt m _ _ _ hm
  obtain ⟨z0, w0⟩ : ∃ zs, IsRow .u8 W a0 len0 cap0 zs := by
    obtain ⟨fuel, hf⟩ := h0
    rcases open_ints Try.underlying25 Try.underlying5 (by kernel_rfl) hf with ⟨hcs, _⟩ | ⟨x, l, c, zs, hcs, _, hl, hm, hz, _, hcell, hwz⟩
    · simp [Value.cells] at hcs
      obtain ⟨rfl, rfl, rfl⟩ := hcs
      exact ⟨[], .inl ⟨rfl, rfl, rfl, rfl⟩⟩
    · simp [Value.cells] at hcs
      obtain ⟨rfl, rfl, rfl⟩ := hcs
      exact ⟨zs, .inr ⟨_, rfl, hl, hm, by simpa using hz, hcell, hwz⟩⟩
  obtain ⟨a1, rfl, rfl, rfl, w1⟩ := open_int Try.underlying26 (hval 1 26 v1 rfl rfl) h1
  obtain ⟨a2, len2, cap2, rfl⟩ := okWide_slice Try.underlying25 (hval 2 25 v2 rfl rfl)
  have k2 := h2
  have lt2 : ∀ x ∈ p2, x.block < W.heap.size := by obtain ⟨m, hm⟩ := k2; exact DataW.trod_lt m _ _ _ hm
  obtain ⟨z2, w2⟩ : ∃ zs, IsRow .u8 W a2 len2 cap2 zs := by
    obtain ⟨fuel, hf⟩ := h2
    rcases open_ints Try.underlying25 Try.underlying5 (by kernel_rfl) hf with ⟨hcs, _⟩ | ⟨x, l, c, zs, hcs, _, hl, hm, hz, _, hcell, hwz⟩
    · simp [Value.cells] at hcs
      obtain ⟨rfl, rfl, rfl⟩ := hcs
      exact ⟨[], .inl ⟨rfl, rfl, rfl, rfl⟩⟩
    · simp [Value.cells] at hcs
      obtain ⟨rfl, rfl, rfl⟩ := hcs
      exact ⟨zs, .inr ⟨_, rfl, hl, hm, by simpa using hz, hcell, hwz⟩⟩
  obtain ⟨a3, len3, cap3, rfl⟩ := okWide_slice Try.underlying25 (hval 3 25 v3 rfl rfl)
  have k3 := h3
  have lt3 : ∀ x ∈ p3, x.block < W.heap.size := by obtain ⟨m, hm⟩ := k3; exact DataW.trod_lt m _ _ _ hm
  obtain ⟨z3, w3⟩ : ∃ zs, IsRow .u8 W a3 len3 cap3 zs := by
    obtain ⟨fuel, hf⟩ := h3
    rcases open_ints Try.underlying25 Try.underlying5 (by kernel_rfl) hf with ⟨hcs, _⟩ | ⟨x, l, c, zs, hcs, _, hl, hm, hz, _, hcell, hwz⟩
    · simp [Value.cells] at hcs
      obtain ⟨rfl, rfl, rfl⟩ := hcs
      exact ⟨[], .inl ⟨rfl, rfl, rfl, rfl⟩⟩
    · simp [Value.cells] at hcs
      obtain ⟨rfl, rfl, rfl⟩ := hcs
      exact ⟨zs, .inr ⟨_, rfl, hl, hm, by simpa using hz, hcell, hwz⟩⟩
  obtain ⟨a4, rfl, rfl, rfl, w4⟩ := open_int Try.underlying26 (hval 4 26 v4 rfl rfl) h4
  clear hA0 hval0
  refine (walk a0 len0 cap0 z0 a1 a2 len2 cap2 z2 a3 len3 cap3 z3 a4 W w0 w1 w2 w3 w4).mono fun e W' ⟨he, bel⟩ => ?_
  subst he
  exact ⟨_, rfl, _, _, _, [], _, [], hW', trodAll_mk1 (shut_bool Try.underlying4 _), (trodAll_cons_mk (Below.trod laidOut (by kernel_rfl) (of_decide_eq_true (by kernel_rfl)) k0 bel lt0) (trodAll_cons_mk (shut_int Try.underlying26 w1) (trodAll_cons_mk (Below.trod laidOut (by kernel_rfl) (of_decide_eq_true (by kernel_rfl)) k2 bel lt2) (trodAll_cons_mk (Below.trod laidOut (by kernel_rfl) (of_decide_eq_true (by kernel_rfl)) k3 bel lt3) (trodAll_cons_mk (shut_int Try.underlying26 w4) trodAll_mk0))))), rfl, bel.frame _, fun h => by cases h⟩

theorem over : Rows.fnRecordRoundTripRow.holds Try.pinned (OpenSpec.ofChange Rows.fnRecordRoundTripSpec) :=
  OpenClaim.holds_of_wide 4 Try.f4 rfl rfl rfl rfl rfl rfl rfl ⟨rfl, rfl, rfl, rfl, rfl⟩ rfl rfl rfl rfl rfl (by kernel_rfl) Try.func4 (by kernel_rfl)
    (of_decide_eq_true (by kernel_rfl)) (by unfold Func.isWrapper; first | (rw [if_pos (by decide +kernel)]; kernel_rfl) | (rw [if_neg (by decide +kernel)]; exact ⟨rfl, rfl⟩))
    (fun os started H enc _ => lifted os started H enc)

/-- ████ THE STATEMENT ████ -/
theorem proved : Rows.FnRecordRoundTripSaid := over
end Go.Proofs.Qxb6604381a.fnRecordRoundTrip
