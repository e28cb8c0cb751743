/-
  THE CONTRACTS of the two laws on (*pgLexer).quoted: take, quoted, ZZQuoted.
-/
import Derived.Test.Qxb6601006aRows
import Derived.Test.Qxb6601006aScan
import Derived.WalkKit
import Derived.ProofKit
import Derived.OpenShut
import Derived.ShutString
import Derived.Below
import Derived.WalkSpells
import Derived.Deep.QuietTactic
import Derived.BigQuiet
namespace Go.Proofs.Qxb6601006a
open Go.ChangeShapes Go.WideShapes Go.ChangeAt Go.RowKit
set_option linter.unusedVariables false

/-- The lexer's cells. -/
def lexO (s : ByteArray) (b : Bool) : Obj := .cells #[.string s, .bool false, .bool false, .bool b] 36
/-- A token's cells. -/
def tokO (k : Int) (t : ByteArray) : Obj := .cells #[.int .u8 k, .string t] 39

theorem take_any (s : ByteArray) (n : Nat) (hn : n ≤ s.size) (hs : s.size ≤ 2000000) (p : Nat) (w : World) (h0 : w.cell? ⟨p, 0, none⟩ = some (.string s)) (hf : w.frozen? ⟨p, 0, none⟩ = false) :
    Calls Try.prog 19 #[.pointer (some ⟨p, 0, none⟩), .int .i64 n] w fun e w' => e = .returned (.string (s.extract 0 n)) ∧ w' = w.setCell ⟨p, 0, none⟩ (.string (s.extract n s.size)) := by
  go_enter Try.func19, Try.ntmps19
  go_wp2
  go_ret
  exact ⟨rfl, rfl⟩

theorem take_at (s : ByteArray) (n : Nat) (ni : Int) (hni : ((n : Nat) : Int) = ni) (hn : n ≤ s.size) (hs : s.size ≤ 2000000) (p : Nat) (w : World) (h0 : w.cell? ⟨p, 0, none⟩ = some (.string s)) (hf : w.frozen? ⟨p, 0, none⟩ = false) :
    Calls Try.prog 19 #[.pointer (some ⟨p, 0, none⟩), .int .i64 ni] w fun e w' => e = .returned (.string (s.extract 0 n)) ∧ w' = w.setCell ⟨p, 0, none⟩ (.string (s.extract n s.size)) := by
  subst hni
  exact take_any s n hn hs p w h0 hf

/-- An index into a string. -/
theorem idx_at (s : ByteArray) (i : Nat) (hi : i < s.size) : ∀ w, (Instr.index 9 (.string s) (.int .i64 (i : Int))).run Try.prog w = .ok (.int .u8 ((s.data.toList[i]'(by simpa using hi)).toNat : Int)) w := by
  intro w
  rw [run_index_string w 9 s .i64 (i : Int) Try.underlying9, dif_pos (by omega)]
  simp only [Int.toNat_natCast, Array.getElem_toList]
  rfl

set_option maxHeartbeats 1000000 in
theorem quoted_any (s : ByteArray) (qb : UInt8) (esc b0 : Bool) (hs : s.size ≤ 2000000) (w : World) :
    Calls Try.prog 17 #[.pointer (some ⟨w.heap.size, 0, none⟩), .int .u8 qb.toNat, .bool esc] (w.alloc (lexO s b0)) fun e w' => ∃ n F, rem qb esc s.data.toList 1 b0 = (n, F) ∧ e = .returned (.agg #[.int .u8 2, .string (s.extract 0 n)]) ∧
      w' = (w.alloc (lexO (s.extract n s.size) F)).alloc (tokO 2 (s.extract 0 n)) := by
  obtain ⟨R, hR⟩ : ∃ R, R = rem qb esc s.data.toList 1 b0 := ⟨_, rfl⟩
  have HR : Hid (R = rem qb esc s.data.toList 1 b0) := hR
  rw [← hR]
  clear hR
  unfold lexO tokO
  have hsz : s.data.toList.length = s.size := by simp
  go_enter Try.func17, Try.ntmps17
  go_wp2
  go_loopw [7] (fun i wr => ∃ (j : Nat) (b : Bool), 1 ≤ j ∧ j ≤ s.size + 1 ∧ i = .int .i64 j ∧ Hid (R = rem qb esc s.data.toList j b) ∧ wr = (w.alloc (.cells #[.string s, .bool false, .bool false, .bool b] 36)).alloc (.cells #[.int .u8 0, .string { data := #[] }] 39)) (fun i _ => s.size + 2 - (intOf i).toNat)
  case atStart => exact ⟨1, b0, by omega, by omega, rfl, HR, rfl⟩
  case round =>
    obtain ⟨j, b, hj1, hj2, rfl, HJ, rfl⟩ := hrel
    clear HR
    by_cases hlt : j < s.size
    · have hx := idx_at s j hlt
      obtain ⟨c, hc⟩ : ∃ c, c = s.data.toList[j]'(by simpa using hlt) := ⟨_, rfl⟩
      rw [← hc] at hx
      have HC : Hid (c = s.data.toList[j]'(by simpa using hlt)) := hc
      clear hc
      obtain ⟨ci, hci⟩ : ∃ ci : Int, ci = (c.toNat : Int) := ⟨_, rfl⟩
      rw [← hci] at hx
      have HCI : Hid (ci = (c.toNat : Int)) := hci
      clear hci
      have hltL : j < s.data.toList.length := by simpa using hlt
      by_cases h92 : c = 92
      · have h92i : (ci == 92) = true := by rw [HCI.out, h92]; rfl
        have hL : s.data.toList[j]'hltL = 92 := by rw [← h92]; exact HC.out.symm
        have HL : Hid (s.data.toList[j]'hltL = 92) := hL
        clear hL
        cases esc with
        | true =>
          go_wp2
          go_roundw
          case rel => exact ⟨j + 2, b, by omega, by omega, by go_num, HJ.out.trans (rem_esc hltL HL.out), rfl⟩
          case measure => simp [intOf]; omega
        | false =>
          have H2 : Hid (R = rem qb false s.data.toList (j + 1) (b || (qb == 39))) := HJ.out.trans (rem_bare hltL HL.out)
          by_cases hq39 : qb = 39
          · have h39i : ((qb.toNat : Int) == 39) = true := by rw [hq39]; rfl
            have H3 : Hid (R = rem qb false s.data.toList (j + 1) true) := by
              have h := H2.out
              rw [show (qb == 39) = true by rw [hq39]; rfl, Bool.or_true] at h
              exact h
            clear H2 hq39
            go_wp2
            go_roundw
            case rel => exact ⟨j + 1, true, by omega, by omega, by go_num, H3, rfl⟩
            case measure => simp [intOf]; omega
          · have h39i : ((qb.toNat : Int) == 39) = false := by
              rw [beq_eq_false_iff_ne]
              intro h
              exact hq39 (UInt8.toNat_inj.1 (by simpa using (by omega : qb.toNat = 39)))
            have H3 : Hid (R = rem qb false s.data.toList (j + 1) b) := by
              have h := H2.out
              rw [show (qb == 39) = false by rw [beq_eq_false_iff_ne]; exact hq39, Bool.or_false] at h
              exact h
            clear H2 hq39
            go_wp2
            go_roundw
            case rel => exact ⟨j + 1, b, by omega, by omega, by go_num, H3, rfl⟩
            case measure => simp [intOf]; omega
      · have h92i : (ci == 92) = false := by
          rw [beq_eq_false_iff_ne, HCI.out]
          intro h
          exact h92 (UInt8.toNat_inj.1 (by simpa using (by omega : c.toNat = 92)))
        have HN : Hid (s.data.toList[j]'hltL ≠ 92) := by intro h; exact h92 (HC.out.trans h)
        clear h92
        by_cases hcq : c = qb
        · have hqi : (ci == (qb.toNat : Int)) = true := by rw [HCI.out, hcq]; simp
          have HQ : Hid (s.data.toList[j]'hltL = qb) := HC.out.symm.trans hcq
          clear hcq
          by_cases hl2 : j + 1 < s.size
          · have hx2 := idx_at s (j + 1) hl2
            have hl2L : j + 1 < s.data.toList.length := by simpa using hl2
            have hl2i : (j : Int) + 1 < (s.size : Int) := by omega
            obtain ⟨d, hd⟩ : ∃ d, d = s.data.toList[j + 1]'hl2L := ⟨_, rfl⟩
            rw [← hd] at hx2
            have HD : Hid (d = s.data.toList[j + 1]'hl2L) := hd
            clear hd
            obtain ⟨di, hdi⟩ : ∃ di : Int, di = (d.toNat : Int) := ⟨_, rfl⟩
            rw [← hdi, show ((j + 1 : Nat) : Int) = (j : Int) + 1 by omega] at hx2
            by_cases hdq : d = qb
            · have hqd : (di == (qb.toNat : Int)) = true := by rw [hdi, hdq]; simp
              have H3 : Hid (R = rem qb esc s.data.toList (j + 2) b) := HJ.out.trans (rem_dbl hl2L HN.out HQ.out (HD.out.symm.trans hdq))
              clear hdi hdq
              go_wp2
              go_roundw
              case rel => exact ⟨j + 2, b, by omega, by omega, by go_num, H3, rfl⟩
              case measure => simp [intOf]; omega
            · have hqd : (di == (qb.toNat : Int)) = false := by
                rw [beq_eq_false_iff_ne, hdi]
                intro h
                exact hdq (UInt8.toNat_inj.1 (by omega))
              have H3 : Hid (R = (j + 1, b)) := HJ.out.trans (rem_close hltL HN.out HQ.out (fun _ h => hdq (HD.out.trans h)))
              clear hdi hdq
              go_wp2_with fail
              refine (take_at s (j + 1) _ (by omega) (by omega) hs w.heap.size _ (by simp) (by simp)).mono ?_
              rintro e w' ⟨rfl, rfl⟩
              go_wp2
              exact bodyPost_ret (v := .agg #[.int .u8 2, .string (s.extract 0 (j + 1))]) (by simp [results, Try.results17, go_sem]) rfl ⟨j + 1, b, H3.out, rfl, rfl⟩
          · have hd2 : decide ((j : Int) + 1 < (s.size : Int)) = false := decide_eq_false (by omega)
            have H3 : Hid (R = (j + 1, b)) := HJ.out.trans (rem_close hltL HN.out HQ.out (fun h1 _ => hl2 (by simpa using h1)))
            go_wp2_with fail
            refine (take_at s (j + 1) _ (by omega) (by omega) hs w.heap.size _ (by simp) (by simp)).mono ?_
            rintro e w' ⟨rfl, rfl⟩
            go_wp2
            exact bodyPost_ret (v := .agg #[.int .u8 2, .string (s.extract 0 (j + 1))]) (by simp [results, Try.results17, go_sem]) rfl ⟨j + 1, b, H3.out, rfl, rfl⟩
        · have hqi : (ci == (qb.toNat : Int)) = false := by
            rw [beq_eq_false_iff_ne, HCI.out]
            intro h
            exact hcq (UInt8.toNat_inj.1 (by omega))
          have H3 : Hid (R = rem qb esc s.data.toList (j + 1) b) := HJ.out.trans (rem_plain hltL HN.out (fun h => hcq (HC.out.trans h)))
          clear hcq
          go_wp2
          go_roundw
          case rel => exact ⟨j + 1, b, by omega, by omega, by go_num, H3, rfl⟩
          case measure => simp [intOf]; omega
    · have H3 : Hid (R = (s.size, b)) := by
        have h := HJ.out
        rw [rem_end (by rw [hsz]; omega), hsz] at h
        exact h
      go_wp2_with fail
      refine (take_at s s.size _ rfl (by omega) hs w.heap.size _ (by simp) (by simp)).mono ?_
      rintro e w' ⟨rfl, rfl⟩
      go_wp2
      exact bodyPost_ret (v := .agg #[.int .u8 2, .string (s.extract 0 s.size)]) (by simp [results, Try.results17, go_sem]) rfl ⟨s.size, b, H3.out, rfl, by simp⟩

theorem grown_drewN {a b : World} (h : Grown a b) (n : Nat) : Grown a (b.drewN n) := h
theorem grown_trans {a b c : World} (h : Grown a b) (k : Grown b c) : Grown a c :=
  ⟨World.keptBut_trans h.1 k.1, fun x => (k.2.1 x).trans (h.2.1 x), Nat.le_trans h.2.2 k.2.2⟩

set_option maxHeartbeats 1000000 in
/-- ZZQuoted. -/
theorem zz_any (s : ByteArray) (qb : UInt8) (esc b0 : Bool) (hs : s.size ≤ 2000000) (w : World) :
    Calls Try.prog 8 #[.string s, .int .u8 qb.toNat, .bool esc, .bool b0] w fun e w' => ∃ n F, rem qb esc s.data.toList 1 b0 = (n, F) ∧ e = .returned (.tuple #[.int .u8 2, .string (s.extract 0 n), .string (s.extract n s.size), .bool F]) ∧ Grown w w' := by
  have C := quoted_any s qb esc b0 hs w
  unfold lexO tokO at C
  obtain ⟨R, hR⟩ : ∃ R, R = rem qb esc s.data.toList 1 b0 := ⟨_, rfl⟩
  rw [← hR] at C ⊢
  clear hR
  go_enter Try.func8, Try.ntmps8
  go_wp2_with fail
  refine C.mono ?_
  rintro e w' ⟨n, F, hR, rfl, rfl⟩
  have HR : Hid (R = (n, F)) := hR
  clear hR C
  go_wp2
  go_quiet (fail)
  go_wp2
  exact bodyPost_ret (v := .tuple #[.int .u8 2, .string (s.extract 0 n), .string (s.extract n s.size), .bool F]) (by simp [results, Try.results8, go_sem]) rfl ⟨n, F, HR.out, rfl, grown_drewN ((((Grown.refl _).alloc _ _).alloc _ _).alloc _ _) _⟩

/-- ZZQuoted, its strings by name. -/
theorem zz_named (s t l : ByteArray) (qb : UInt8) (esc b0 : Bool) (n : Nat) (F : Bool) (hR : rem qb esc s.data.toList 1 b0 = (n, F)) (ht : s.extract 0 n = t) (hl : s.extract n s.size = l) (hs : s.size ≤ 2000000) (w : World) :
    Calls Try.prog 8 #[.string s, .int .u8 qb.toNat, .bool esc, .bool b0] w fun e w' => e = .returned (.tuple #[.int .u8 2, .string t, .string l, .bool F]) ∧ Grown w w' := by
  refine (zz_any s qb esc b0 hs w).mono ?_
  rintro e w' ⟨n', F', hR', rfl, hg⟩
  rw [hR] at hR'
  cases hR'
  rw [ht, hl]
  exact ⟨rfl, hg⟩
end Go.Proofs.Qxb6601006a
