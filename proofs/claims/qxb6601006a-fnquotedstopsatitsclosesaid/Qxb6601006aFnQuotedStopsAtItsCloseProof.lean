/-
  'Rows.FnQuotedStopsAtItsCloseSaid' PROVED: the shell's frame (proof-skeleton.mjs), its walk filled. Plain: Qxb6601006aScan.lean; the contracts: Qxb6601006aQuoted.lean.
-/
import Derived.Test.Qxb6601006aRows
import Derived.WalkKit
import Derived.ProofKit
import Derived.OpenShut
import Derived.ShutString
import Derived.Test.Qxb6601006aQuoted
import Derived.Lib.Strings
namespace Go.Proofs.Qxb6601006a.fnQuotedStopsAtItsClose
open Go.ChangeShapes Go.WideShapes Go.ChangeAt Go.RowKit
open Go.ChangeMaps (open_string shut_string)
set_option linter.unusedVariables false      -- a walk need not use every 'w<i>' (that an integer argument fits its kind)

theorem own : ownKnob Try.prog.godebug = none := by kernel_rfl


theorem bytes9_ok (s m : ByteArray) (q : Int) (esc : Bool) (w : World) (h1 : s.size ≤ 524288) (h2 : m.size ≤ 524288) :
    Calls Try.prog 9 #[.string s, .string m, .int .u8 q, .bool esc] w fun e w' => e = .returned (.bool true) ∧ w = w' := by
  go_enter Try.func9, Try.ntmps9
  go_wp2
  go_ret
  exact ⟨rfl, rfl⟩

theorem stops_big (s m : ByteArray) (q : Int) (esc : Bool) (w : World) (k1 : s.size ≤ maxLen) (k2 : m.size ≤ maxLen) (h : 524288 < s.size ∨ 524288 < m.size) :
    Calls Try.prog 4 #[.string s, .string m, .int .u8 q, .bool esc] w fun e w' => e = .returned (.bool true) ∧ Grown w w' := by
  unfold maxLen at k1 k2
  rcases h with h | h
  · go_enter Try.func4, Try.ntmps4
    go_wp2
    all_goals (go_ret; exact ⟨rfl, Grown.refl _⟩)
  · go_enter Try.func4, Try.ntmps4
    go_wp2
    all_goals (go_ret; exact ⟨rfl, Grown.refl _⟩)

set_option maxHeartbeats 1000000 in
theorem stops_small (s m : ByteArray) (qb : UInt8) (esc : Bool) (w : World) (h1 : s.size ≤ 524288) (h2 : m.size ≤ 524288) :
    Calls Try.prog 4 #[.string s, .string m, .int .u8 qb.toNat, .bool esc] w fun e w' => e = .returned (.bool true) ∧ Grown w w' := by
  obtain ⟨n, F, hR⟩ : ∃ n F, rem qb esc s.data.toList 1 false = (n, F) := ⟨_, _, rfl⟩
  have hn : n ≤ s.size := by
    have := rem_le qb esc s.data.toList 1 false
    rw [hR] at this
    simpa using this
  obtain ⟨t1, ht1⟩ : ∃ t, s.extract 0 n = t := ⟨_, rfl⟩
  obtain ⟨l1, hl1⟩ : ∃ l, s.extract n s.size = l := ⟨_, rfl⟩
  have C1 := zz_named s t1 l1 qb esc false n F hR ht1 hl1 (by omega)
  have hts : t1.size = n := by rw [← ht1]; simp; omega
  by_cases hcl : n = s.size
  · have hq : ((t1.size : Int) == (s.size : Int)) = true := by rw [beq_iff_eq]; omega
    clear ht1 hl1 hts hR hn hcl
    go_enter Try.func4, Try.ntmps4
    go_wp2_with (first
      | (go_at_call 9; refine (bytes9_ok s m _ _ _ h1 h2).mono ?_; rintro e w' ⟨rfl, rfl⟩)
      | (go_at_call 8; refine (C1 _).mono ?_; rintro e w1 ⟨rfl, hg1⟩))
    go_ret
    exact ⟨rfl, hg1⟩
  · have hq : ((t1.size : Int) == (s.size : Int)) = false := by rw [beq_eq_false_iff_ne]; omega
    have hsm : (s ++ m).size = s.size + m.size := by simp
    have hdat : (s ++ m).data.toList = s.data.toList ++ m.data.toList := by simp
    have hR2 : rem qb esc (s ++ m).data.toList 1 false = (n, F) := by
      rw [hdat, rem_append, hR]
      rw [hR]
      simpa using hcl
    obtain ⟨t2, ht2⟩ : ∃ t, (s ++ m).extract 0 n = t := ⟨_, rfl⟩
    obtain ⟨l2, hl2⟩ : ∃ l, (s ++ m).extract n (s ++ m).size = l := ⟨_, rfl⟩
    have C2 := zz_named (s ++ m) t2 l2 qb esc false n F hR2 ht2 hl2 (by omega)
    have g1 : (t2.toList == t1.toList) = true := by
      rw [beq_iff_eq, ← ht2, ← ht1, Lib.extract_toList, Lib.extract_toList, hdat]
      simp only [List.drop_zero, Nat.sub_zero]
      rw [List.take_append_of_le_length (by simpa using hn)]
    have g2 : (l2.toList == (l1 ++ m).toList) = true := by
      rw [beq_iff_eq, ← hl2, ← hl1, Lib.extract_toList, hdat, ByteArray.toList_eq, ByteArray.data_append, Array.toList_append, Lib.extract_data, hsm]
      rw [List.drop_append_of_le_length (by simpa using hn)]
      rw [List.take_of_length_le (by simp; omega), List.take_of_length_le (by simp)]
    have hl1m : l1.size + m.size ≤ 9223372036854775807 := by
      have : l1.size ≤ s.size := by rw [← hl1]; simp
      omega
    clear ht1 hl1 hts hR hn hcl ht2 hl2 hR2 hdat
    have HS : Hid ((s ++ m).size = s.size + m.size) := hsm
    clear hsm
    go_enter Try.func4, Try.ntmps4
    go_wp2_with (go_at_call 9; refine (bytes9_ok s m _ _ _ h1 h2).mono ?_; rintro e w' ⟨rfl, rfl⟩)
    refine (C1 _).mono ?_
    rintro e w1 ⟨rfl, hg1⟩
    go_wp2_with fail

    refine (C2 _).mono ?_
    rintro e w2 ⟨rfl, hg2⟩
    go_wp2
    go_ret
    exact ⟨rfl, grown_trans hg1 hg2⟩

/-! ### STEP 1: THE WALK: the Go text returns true. 'Grown w w'': the world has at most new blocks (Derived/RowKit3.lean). Part the cases AHEAD of 'go_enter' where a test parts the walk; take each callee by a contract of your own. -/
theorem walk (a0 : ByteArray) (a1 : ByteArray) (a2 : Int) (a3 : Bool) (w0 : a0.size ≤ maxLen) (w1 : a1.size ≤ maxLen) (w2 : (Lit.int .u8 a2).wf = true) (w : World) :
    Calls Try.prog 4 #[.string a0, .string a1, .int .u8 a2, .bool a3] w fun e w' => e = .returned (.bool true) ∧ Grown w w' := by
  obtain ⟨h0, h1⟩ := bounds_u8 w2
  by_cases hs : a0.size ≤ 524288 ∧ a1.size ≤ 524288
  · obtain ⟨qb, rfl⟩ : ∃ q : UInt8, a2 = (q.toNat : Int) := ⟨UInt8.ofNat a2.toNat, by rw [UInt8.toNat_ofNat']; omega⟩
    exact stops_small a0 a1 qb a3 w hs.1 hs.2
  · exact stops_big a0 a1 a2 a3 w w0 w1 (by omega)

/-! ### THE ROW's STEP: WRITTEN OUT: LEAVE IT -/
set_option maxRecDepth 100000 in
theorem lifted (os : Os) (started : os.Started) (H : Type) (enc : TypeId × Value → H) :
    ReturnsInHanded {} Try.checked os 4 .any (Rows.fnQuotedStopsAtItsCloseSpec.pre6 enc Try.prog Try.f4 Rows.fnQuotedStopsAtItsCloseRow.domain false) (Rows.fnQuotedStopsAtItsCloseSpec.post enc Try.prog Try.f4 false true false false) := by
  refine returnsInHanded_of_change (C := Try.checked) own started (by kernel_rfl) Try.func4
    (ChangeSpec.witness6 (enc := enc) (C := Try.checked) false ⟨#[], #[.string ByteArray.empty, .string ByteArray.empty, .int .u8 0, .bool false], []⟩ 8 (by kernel_rfl) (by kernel_rfl) (by kernel_rfl) (by kernel_rfl)) ?_
  intro W base args ds gs before hval0 hW hcnd _
  have hval : ∀ (j : Nat) t v, Try.f4.params[j]? = some t → args[j]? = some v → Value.okWide Try.prog W .any base t v := hval0
  have hW' := hW
  obtain ⟨p, q, hA0, hV, rfl, hfz, hnd⟩ := hW
  have hA : DataW.TrodAll enc Try.prog W 0 (fun _ => true) true Try.f4.params.toList args.toList ds p := hA0
  rw [Try.params4] at hA hval
  obtain ⟨v0, vs0, d0, ds0, p0, q0, hargs, rfl, rfl, h0, r0⟩ := trodAll_cons hA
  obtain ⟨v1, vs1, d1, ds1, p1, q1, rfl, rfl, rfl, h1, r1⟩ := trodAll_cons r0
  obtain ⟨v2, vs2, d2, ds2, p2, q2, rfl, rfl, rfl, h2, r2⟩ := trodAll_cons r1
  obtain ⟨v3, vs3, d3, ds3, p3, q3, rfl, rfl, rfl, h3, r3⟩ := trodAll_cons r2
  obtain ⟨rfl, rfl, rfl⟩ := trodAll_nil r3
  obtain rfl : args = #[v0, v1, v2, v3] := by cases args; simp_all
  obtain ⟨rfl, rfl⟩ := trodVars_none hV
  obtain ⟨a0, rfl, rfl, rfl, w0⟩ := open_string Try.underlying9 (hval 0 9 v0 rfl rfl) h0
  obtain ⟨a1, rfl, rfl, rfl, w1⟩ := open_string Try.underlying9 (hval 1 9 v1 rfl rfl) h1
  obtain ⟨a2, rfl, rfl, rfl, w2⟩ := open_int Try.underlying5 (hval 2 5 v2 rfl rfl) h2
  obtain ⟨a3, rfl, rfl, rfl⟩ := open_bool Try.underlying4 (hval 3 4 v3 rfl rfl) h3
  clear hA0 hval0
  simp only [List.append_nil] at hW'
  refine (walk a0 a1 a2 a3 w0 w1 w2 W).mono fun e W' ⟨he, hg⟩ => ?_
  subst he
  exact ⟨_, rfl, post_of_same (pa := []) (pv := []) hW' (fun _ _ _ => (trodAll_cons_mk (shut_bool Try.underlying4 _) trodAll_mk0)) (fun sp _ => (trodAll_cons_mk (shut_string Try.underlying9 w0) (trodAll_cons_mk (shut_string Try.underlying9 w1) (trodAll_cons_mk (shut_int Try.underlying5 w2) (trodAll_cons_mk (shut_bool Try.underlying4 _) trodAll_mk0))))) (fun _ _ => rfl) rfl
    (hg.frame _) hg.2.1 (ok_one (by kernel_rfl) rfl (okWide_bool_mk Try.underlying4 _))⟩

theorem over : Rows.fnQuotedStopsAtItsCloseRow.holds Try.pinned (OpenSpec.ofChange Rows.fnQuotedStopsAtItsCloseSpec) :=
  OpenClaim.holds_of_wide 4 Try.f4 rfl rfl rfl rfl rfl rfl rfl ⟨rfl, rfl, rfl, rfl, rfl⟩ rfl rfl rfl rfl rfl (by kernel_rfl) Try.func4 (by kernel_rfl)
    (of_decide_eq_true (by kernel_rfl)) (by unfold Func.isWrapper; first | (rw [if_pos (by decide +kernel)]; kernel_rfl) | (rw [if_neg (by decide +kernel)]; exact ⟨rfl, rfl⟩))
    (fun os started H enc _ => lifted os started H enc)

/-- ████ THE STATEMENT ████ -/
theorem proved : Rows.FnQuotedStopsAtItsCloseSaid :=
  over
end Go.Proofs.Qxb6601006a.fnQuotedStopsAtItsClose
