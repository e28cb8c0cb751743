/-
  'Rows.FnQuotedReadsBackQuotingSaid' PROVED: the shell's frame (proof-skeleton.mjs), its walk filled, its last step by 'Below' (as the shells over slices have it). Plain: Qxb6601006aScan.lean; the contracts: Qxb6601006aQuoted.lean; the walk: Qxb6601006aReads.lean.
-/
import Derived.Test.Qxb6601006aRows
import Derived.WalkKit
import Derived.ProofKit
import Derived.OpenShut
import Derived.ShutString
import Derived.ChangeOld
import Derived.Below
import Derived.Test.Qxb6601006aReads
namespace Go.Proofs.Qxb6601006a.fnQuotedReadsBackQuoting
open Go.ChangeShapes Go.WideShapes Go.ChangeAt Go.RowKit
open Go.ChangeMaps (open_string shut_string)
set_option linter.unusedVariables false      -- a walk need not use every 'w<i>' (that an integer argument fits its kind)

theorem own : ownKnob Try.prog.godebug = none := by kernel_rfl

/-! ### STEP 1: THE WALK: the Go text returns true, and writes nothing that was there: 'Below'. -/
theorem walk (a0 : ByteArray) (a1 : ByteArray) (a2 : Int) (a3 : Bool) (a4 : Bool) (w0 : a0.size ≤ maxLen) (w1 : a1.size ≤ maxLen) (w2 : (Lit.int .u8 a2).wf = true) (w : World) :
    Calls Try.prog 3 #[.string a0, .string a1, .int .u8 a2, .bool a3, .bool a4] w fun e w' => e = .returned (.bool true) ∧ Below w.heap.size w w' := by
  obtain ⟨h0, h1⟩ := bounds_u8 w2
  by_cases hs : a0.size ≤ 524288 ∧ a1.size ≤ 524288
  · obtain ⟨qb, rfl⟩ : ∃ q : UInt8, a2 = (q.toNat : Int) := ⟨UInt8.ofNat a2.toNat, by rw [UInt8.toNat_ofNat']; omega⟩
    by_cases h92 : qb = 92
    · exact reads_slash a0 a1 _ a3 a4 w hs.1 hs.2 (by rw [h92]; rfl)
    have hq : ((qb.toNat : Int) == 92) = false := by
      rw [beq_eq_false_iff_ne]
      intro h
      exact h92 (UInt8.toNat_inj.1 (by simpa using (by omega : qb.toNat = 92)))
    by_cases hm : a1.size = 0
    · have hl : a1.data.toList = [] := List.eq_nil_of_length_eq_zero (by simpa using hm)
      exact reads_main a0 a1 qb a3 a4 w hs.1 hs.2 hq h92 (by rw [hl]; simp) (Or.inl hm)
    have hx := idx_at a1 0 (by omega)
    have hl : 0 < a1.data.toList.length := by simp; omega
    by_cases hd : a1.data.toList[0]'hl = qb
    · rw [hd] at hx
      exact reads_open a0 a1 qb a3 a4 w hs.1 hs.2 hq (by omega) hx
    · refine reads_main a0 a1 qb a3 a4 w hs.1 hs.2 hq h92 ?_ (Or.inr ⟨_, ?_, by omega, hx⟩)
      · rw [List.head?_eq_getElem?, List.getElem?_eq_getElem hl]
        intro h
        exact hd (Option.some.inj h)
      · rw [beq_eq_false_iff_ne]
        intro h
        exact hd (UInt8.toNat_inj.1 (by omega))
  · exact reads_big a0 a1 a2 a3 a4 w w0 w1 (by omega)

/-! ### THE ROW's STEP: WRITTEN OUT: LEAVE IT -/
set_option maxRecDepth 100000 in
theorem lifted (os : Os) (started : os.Started) (H : Type) (enc : TypeId × Value → H) :
    ReturnsInHanded {} Try.checked os 3 .any (Rows.fnQuotedReadsBackQuotingSpec.pre6 enc Try.prog Try.f3 Rows.fnQuotedReadsBackQuotingRow.domain false) (Rows.fnQuotedReadsBackQuotingSpec.post enc Try.prog Try.f3 false true false false) := by
  refine returnsInHanded_of_change (C := Try.checked) own started (by kernel_rfl) Try.func3
    (ChangeSpec.witness6 (enc := enc) (C := Try.checked) false ⟨#[], #[.string ByteArray.empty, .string ByteArray.empty, .int .u8 0, .bool false, .bool false], []⟩ 8 (by kernel_rfl) (by kernel_rfl) (by kernel_rfl) (by kernel_rfl)) ?_
  intro W base args ds gs before hval0 hW hcnd _
  have hval : ∀ (j : Nat) t v, Try.f3.params[j]? = some t → args[j]? = some v → Value.okWide Try.prog W .any base t v := hval0
  have hW' := hW
  obtain ⟨p, q, hA0, hV, rfl, hfz, hnd⟩ := hW
  have hA : DataW.TrodAll enc Try.prog W 0 (fun _ => true) true Try.f3.params.toList args.toList ds p := hA0
  rw [Try.params3] at hA hval
  obtain ⟨v0, vs0, d0, ds0, p0, q0, hargs, rfl, rfl, h0, r0⟩ := trodAll_cons hA
  obtain ⟨v1, vs1, d1, ds1, p1, q1, rfl, rfl, rfl, h1, r1⟩ := trodAll_cons r0
  obtain ⟨v2, vs2, d2, ds2, p2, q2, rfl, rfl, rfl, h2, r2⟩ := trodAll_cons r1
  obtain ⟨v3, vs3, d3, ds3, p3, q3, rfl, rfl, rfl, h3, r3⟩ := trodAll_cons r2
  obtain ⟨v4, vs4, d4, ds4, p4, q4, rfl, rfl, rfl, h4, r4⟩ := trodAll_cons r3
  obtain ⟨rfl, rfl, rfl⟩ := trodAll_nil r4
  obtain rfl : args = #[v0, v1, v2, v3, v4] := by cases args; simp_all
  obtain ⟨rfl, rfl⟩ := trodVars_none hV
  obtain ⟨a0, rfl, rfl, rfl, w0⟩ := open_string Try.underlying9 (hval 0 9 v0 rfl rfl) h0
  obtain ⟨a1, rfl, rfl, rfl, w1⟩ := open_string Try.underlying9 (hval 1 9 v1 rfl rfl) h1
  obtain ⟨a2, rfl, rfl, rfl, w2⟩ := open_int Try.underlying5 (hval 2 5 v2 rfl rfl) h2
  obtain ⟨a3, rfl, rfl, rfl⟩ := open_bool Try.underlying4 (hval 3 4 v3 rfl rfl) h3
  obtain ⟨a4, rfl, rfl, rfl⟩ := open_bool Try.underlying4 (hval 4 4 v4 rfl rfl) h4
  clear hA0 hval0
  refine (walk a0 a1 a2 a3 a4 w0 w1 w2 W).mono fun e W' ⟨he, bel⟩ => ?_
  subst he
  exact ⟨_, rfl, _, _, _, [], _, [], hW', trodAll_mk1 (shut_bool Try.underlying4 _), (trodAll_cons_mk (shut_string Try.underlying9 w0) (trodAll_cons_mk (shut_string Try.underlying9 w1) (trodAll_cons_mk (shut_int Try.underlying5 w2) (trodAll_cons_mk (shut_bool Try.underlying4 _) (trodAll_cons_mk (shut_bool Try.underlying4 _) trodAll_mk0))))), rfl, bel.frame _, fun h => by cases h⟩

theorem over : Rows.fnQuotedReadsBackQuotingRow.holds Try.pinned (OpenSpec.ofChange Rows.fnQuotedReadsBackQuotingSpec) :=
  OpenClaim.holds_of_wide 3 Try.f3 rfl rfl rfl rfl rfl rfl rfl ⟨rfl, rfl, rfl, rfl, rfl⟩ rfl rfl rfl rfl rfl (by kernel_rfl) Try.func3 (by kernel_rfl)
    (of_decide_eq_true (by kernel_rfl)) (by unfold Func.isWrapper; first | (rw [if_pos (by decide +kernel)]; kernel_rfl) | (rw [if_neg (by decide +kernel)]; exact ⟨rfl, rfl⟩))
    (fun os started H enc _ => lifted os started H enc)

/-- ████ THE STATEMENT ████ -/
theorem proved : Rows.FnQuotedReadsBackQuotingSaid :=
  over
end Go.Proofs.Qxb6601006a.fnQuotedReadsBackQuoting
