/-
  THE WALK OF FnQuotedReadsBackQuoting.
-/
import Derived.Test.Qxb6601006aQuoted
import Derived.Lib.Strings
import Derived.Lib.UnsafeStr
import Derived.Laws.IdiomStrings
namespace Go.Proofs.Qxb6601006a
open Go.ChangeShapes Go.WideShapes Go.ChangeAt Go.RowKit
set_option linter.unusedVariables false

/-! ### Plain -/
theorem body_append (q : UInt8) (esc : Bool) (b : List UInt8) : ∀ a : List UInt8, body q esc (a ++ b) = body q esc a ++ body q esc b
  | [] => rfl
  | c :: r => by simp only [List.cons_append, body, body_append q esc b r, List.append_assoc]
theorem body_two (q : UInt8) (l : List UInt8) (c : UInt8) (h : c = q ∨ c = 92) : body q true (l ++ [c]) = body q true l ++ [92, c] := by
  rw [body_append]; simp [body, h]
theorem body_dbl (q : UInt8) (l : List UInt8) (c : UInt8) (h : c = q) : body q false (l ++ [c]) = body q false l ++ [q, c] := by
  rw [body_append]; simp [body, h]
theorem body_one (q : UInt8) (esc : Bool) (l : List UInt8) (c : UInt8) (h1 : c ≠ q) (h2 : esc = true → c ≠ 92) : body q esc (l ++ [c]) = body q esc l ++ [c] := by
  rw [body_append]
  cases esc with
  | true => simp [body, h1, h2]
  | false => simp [body, h1]
theorem body_len (q : UInt8) (esc : Bool) : ∀ l : List UInt8, (body q esc l).length ≤ 2 * l.length
  | [] => by simp [body]
  | c :: r => by
    have ih := body_len q esc r
    simp only [body, List.length_append, List.length_cons]
    split
    · simp only [List.length_cons, List.length_nil]; omega
    · split
      · simp only [List.length_cons, List.length_nil]; omega
      · simp only [List.length_cons, List.length_nil]; omega
theorem hasBs_snoc (l : List UInt8) (c : UInt8) : hasBs (l ++ [c]) = (hasBs l || (c == 92)) := by
  simp [hasBs, List.any_append]
theorem take_snoc (L : List UInt8) (k : Nat) (h : k < L.length) : L.take (k + 1) = L.take k ++ [L[k]] := by
  rw [List.take_succ_eq_append_getElem h]

/-! ### The row that is built -/
theorem Try.info5 : (Try.prog.info? 5).map (fun i => (i.zero, i.size, i.bytes)) = some (some (.int .u8 0), 1, 1) := by kernel_rfl

theorem one_cell {w : World} {p : Nat} {v : Value} (hp : w.cell? ⟨p, 0, none⟩ = some v) : ∀ j u, [v][j]? = some u → w.cell? ((⟨p, 0, none⟩ : Addr).add j) = some u := by
  intro j u hj
  match j, hj with
  | 0, hj => simp at hj; subst hj; simpa [Addr.add] using hp
theorem one_int (k : IntKind) (a : Int) : ∀ u ∈ [Value.int k a], u.oneCell' = true := by
  intro u hu; simp at hu; subst hu; rfl

theorem cells_one (X : List UInt8) (a : UInt8) (ai : Int) (ha : ai = (a.toNat : Int)) : Lib.byteCells (X ++ [a]) = Lib.byteCells X ++ [Value.int .u8 ai] := by
  subst ha; simp [Lib.byteCells]
theorem cells_two (X : List UInt8) (a c : UInt8) (ai ci : Int) (ha : ai = (a.toNat : Int)) (hc : ci = (c.toNat : Int)) : Lib.byteCells (X ++ [a, c]) = Lib.byteCells X ++ ([Value.int .u8 ai] ++ [Value.int .u8 ci]) := by
  subst ha hc; simp [Lib.byteCells]

theorem conv_of {w : World} {B g n N : Nat} {X : List UInt8} {qb : UInt8} {want : ByteArray} (h : w.ownsRow B 5 1 (.slice (some ⟨g, 0, none⟩) (n + 1) N) (n + 1) (Lib.byteCells X ++ [Value.int .u8 (qb.toNat : Int)])) (hw : want.data.toList = X ++ [qb]) :
    (convert 23 9 (.slice (some ⟨g, 0, none⟩) (n + 1) N)).run Try.prog w = .ok (.string want) w := by
  rw [← cells_one X qb _ rfl] at h
  have hl : (X ++ [qb]).length = n + 1 := by have := h.1; rw [Lib.byteCells_length] at this; omega
  have hr := run_convert_bytes_back (P := Try.prog) w 23 9 5 ⟨g, 0, none⟩ N (X ++ [qb]) Try.underlying23 Try.underlying5 Try.underlying9 (fun j hj => by
    rw [add_plain, Nat.zero_add, h.cellAt j (by omega)]
    simp only [Lib.byteCells, List.getElem?_map, List.getElem?_eq_getElem hj, Option.map_some])
  rw [hl] at hr
  rw [hr]
  have : want = ⟨(X ++ [qb]).toArray⟩ := by
    cases want; simp only [ByteArray.mk.injEq] at *; rw [← hw]
  rw [this]

/-! ### The early ways out -/
theorem bytes7_ok (s m : ByteArray) (q : Int) (esc b : Bool) (w : World) (h1 : s.size ≤ 524288) (h2 : m.size ≤ 524288) :
    Calls Try.prog 7 #[.string s, .string m, .int .u8 q, .bool esc, .bool b] w fun e w' => e = .returned (.bool true) ∧ w = w' := by
  go_enter Try.func7, Try.ntmps7
  go_wp2
  go_ret
  exact ⟨rfl, rfl⟩

theorem reads_big (s m : ByteArray) (q : Int) (esc b : Bool) (w : World) (k1 : s.size ≤ maxLen) (k2 : m.size ≤ maxLen) (h : 524288 < s.size ∨ 524288 < m.size) :
    Calls Try.prog 3 #[.string s, .string m, .int .u8 q, .bool esc, .bool b] w fun e w' => e = .returned (.bool true) ∧ Below w.heap.size w w' := by
  unfold maxLen at k1 k2
  rcases h with h | h
  · go_enter Try.func3, Try.ntmps3
    go_wp2
    all_goals (go_ret; exact ⟨rfl, Below.refl _ _⟩)
  · go_enter Try.func3, Try.ntmps3
    go_wp2
    all_goals (go_ret; exact ⟨rfl, Below.refl _ _⟩)

/-- The quote is a backslash. -/
theorem reads_slash (s m : ByteArray) (q : Int) (esc b : Bool) (w : World) (h1 : s.size ≤ 524288) (h2 : m.size ≤ 524288) (hq : (q == 92) = true) :
    Calls Try.prog 3 #[.string s, .string m, .int .u8 q, .bool esc, .bool b] w fun e w' => e = .returned (.bool true) ∧ Below w.heap.size w w' := by
  go_enter Try.func3, Try.ntmps3
  go_wp2_with (go_at_call 7; refine (bytes7_ok s m _ _ _ _ h1 h2).mono ?_; rintro e w' ⟨rfl, rfl⟩)
  go_ret
  exact ⟨rfl, Below.refl _ _⟩

/-- What follows opens with the quote. -/
theorem reads_open (s m : ByteArray) (qb : UInt8) (esc b : Bool) (w : World) (h1 : s.size ≤ 524288) (h2 : m.size ≤ 524288) (hq : ((qb.toNat : Int) == 92) = false) (hm : 0 < m.size) (hx : ∀ w, (Instr.index 9 (.string m) (.int .i64 0)).run Try.prog w = .ok (.int .u8 (qb.toNat : Int)) w) :
    Calls Try.prog 3 #[.string s, .string m, .int .u8 qb.toNat, .bool esc, .bool b] w fun e w' => e = .returned (.bool true) ∧ Below w.heap.size w w' := by
  have hd : decide ((0 : Int) < (m.size : Int)) = true := decide_eq_true (by omega)
  go_enter Try.func3, Try.ntmps3
  go_wp2_with (go_at_call 7; refine (bytes7_ok s m _ _ _ _ h1 h2).mono ?_; rintro e w' ⟨rfl, rfl⟩)
  go_ret
  exact ⟨rfl, Below.refl _ _⟩

theorem below_app {B : Nat} {w w1 w2 : World} {o : Obj} (hb : Below B w w1) (hB : B ≤ w1.heap.size) (hg : (w1.alloc o).grownBy w2 (some B)) : Below B w w2 :=
  (hb.alloc hB o).grown hg (by simp; omega) (fun k hk => by cases hk; exact Nat.le_refl _)

/-- The closing append's facts. -/
theorem last_fact (s m want : ByteArray) (qb : UInt8) (esc bs : Bool) (n : Nat) (hq : qb ≠ 92) (hh : m.data.toList.head? ≠ some qb) (hn : (body qb esc s.data.toList).length + 1 = n) (hw : want.data.toList = qb :: body qb esc s.data.toList ++ [qb]) :
    rem qb esc (want ++ m).data.toList 1 bs = (n + 1, bs || (!esc && (qb == 39) && hasBs s.data.toList)) ∧ (((want ++ m).extract 0 (n + 1)).toList == want.toList) = true ∧ (((want ++ m).extract (n + 1) (want ++ m).size).toList == m.toList) = true := by
  have hd : (want ++ m).data.toList = want.data.toList ++ m.data.toList := by simp
  have hwl : want.data.toList.length = n + 1 := by rw [hw, ← hn]; simp
  refine ⟨?_, ?_, ?_⟩
  · rw [hd, hw]
    have := rem_body qb esc m.data.toList s.data.toList bs hq hh
    simp only [List.cons_append, List.append_assoc, List.nil_append]
    rw [this, ← hn]
  · rw [beq_iff_eq, Lib.extract_toList, hd, ByteArray.toList_eq, List.drop_zero, Nat.sub_zero]
    rw [List.take_append_of_le_length (by omega), List.take_of_length_le (by omega)]
  · rw [beq_iff_eq, Lib.extract_toList, hd, ByteArray.toList_eq, List.drop_append_of_le_length (by omega), List.drop_eq_nil_of_le (by omega), List.nil_append]
    rw [List.take_of_length_le]
    have hs : (want ++ m).size = want.size + m.size := by simp
    have hs2 : want.size = n + 1 := by simpa using hwl
    rw [hs, hs2]
    simp

theorem below_drewN' {B : Nat} {a b : World} (h : Below B a b) (n : Nat) : Below B a (b.drewN n) := ⟨h.os, h.tape, h.output, h.size, h.block⟩

set_option maxHeartbeats 1000000 in
/-- ZZQuoted, its strings by name, the world by 'Below'. -/
theorem zz_below (s t l : ByteArray) (qb : UInt8) (esc b0 : Bool) (n : Nat) (F : Bool) (hR : rem qb esc s.data.toList 1 b0 = (n, F)) (ht : s.extract 0 n = t) (hl : s.extract n s.size = l) (hs : s.size ≤ 2000000) (w : World) :
    Calls Try.prog 8 #[.string s, .int .u8 qb.toNat, .bool esc, .bool b0] w fun e w' => e = .returned (.tuple #[.int .u8 2, .string t, .string l, .bool F]) ∧ Below w.heap.size w w' := by
  have C := quoted_any s qb esc b0 hs w
  rw [hR] at C
  unfold lexO tokO at C
  clear hR
  go_enter Try.func8, Try.ntmps8
  go_wp2_with fail
  refine C.mono ?_
  rintro e w' ⟨n', F', hR', rfl, rfl⟩
  cases hR'
  rw [ht, hl]
  clear C ht hl
  go_wp2
  go_quiet (fail)
  go_wp2
  exact bodyPost_ret (v := .tuple #[.int .u8 2, .string t, .string l, .bool F]) (by simp [results, Try.results8, go_sem]) rfl ⟨rfl, below_drewN' ((((Below.refl _ _).alloc (Nat.le_refl _) _).alloc (by simp) _).alloc (by simp; omega) _) _⟩

set_option maxHeartbeats 4000000 in
set_option maxRecDepth 100000 in
/-- The law, past its early ways out. -/
theorem reads_main (s m : ByteArray) (qb : UInt8) (esc bs : Bool) (w : World) (h1 : s.size ≤ 524288) (h2 : m.size ≤ 524288) (hq : ((qb.toNat : Int) == 92) = false) (hq92 : qb ≠ 92) (hhead : m.data.toList.head? ≠ some qb)
    (hm : m.size = 0 ∨ ∃ d : Int, (d == (qb.toNat : Int)) = false ∧ 0 < m.size ∧ ∀ w, (Instr.index 9 (.string m) (.int .i64 0)).run Try.prog w = .ok (.int .u8 d) w) :
    Calls Try.prog 3 #[.string s, .string m, .int .u8 qb.toNat, .bool esc, .bool bs] w fun e w' => e = .returned (.bool true) ∧ Below w.heap.size w w' := by
  obtain ⟨i0, hi, hz0, hz1, hz2⟩ := info_parts Try.info5
  obtain ⟨N, hN⟩ : ∃ N, N = 2 * s.size + 2 := ⟨_, rfl⟩
  have Hmk : Hid (2 * (s.size : Int) + 2 = (N : Int)) := by show _ = _; omega
  have hN1 : 2 * s.size + 2 ≤ N := by omega
  have hN2 : N ≤ 1048578 := by omega
  have hbytes : i0.bytes * N ≤ 281474976710656 := by rw [hz2]; omega
  have hmax : N ≤ maxLen := by unfold maxLen; omega
  have hsz : s.data.toList.length = s.size := by simp
  have HH : Hid (m.data.toList.head? ≠ some qb) := hhead
  have HQ : Hid (qb ≠ 92) := hq92
  clear hN hhead hq92
  rcases hm with hm | ⟨d, hd, hm0, hx0⟩
  all_goals
    go_enter Try.func3, Try.ntmps3
    go_wp2_with (first
      | (go_at_call 7; refine (bytes7_ok s m _ _ _ _ h1 h2).mono ?_; rintro e w' ⟨rfl, rfl⟩)
      | (at_make; refine wpList_make_own _ rfl _ _ 23 rfl w.heap.size 5 i0 (.int .u8 0) 1 Try.underlying23 hi hz0 hz1 _ _ _ N rfl rfl Hmk.out hbytes hmax (Nat.le_refl _) ?_; intro w1 hown1 hgrow1; have hbel1 : Below w.heap.size w w1 := (Below.refl _ _).grown hgrow1 (Nat.le_refl _) (by simp); clear hgrow1)
      | (at_builtin; refine wpList_append_fits _ rfl (.tmp 50) (.tmp 52) 23 rfl w.heap.size 5 i0 1 Try.underlying23 hi hz1 w.heap.size 0 N _ rfl (hown1.alloc _) ⟨w1.heap.size, 0, none⟩ 1 1 [Value.int .u8 (qb.toNat : Int)] rfl rfl (one_cell (by simp)) (one_int _ _) (by omega) ?_; intro w2 hown2 hgrow2))
    have hst : w2.ownsRow w.heap.size 5 1 (.slice (some ⟨w.heap.size, 0, none⟩) 1 N) 1 (Lib.byteCells (qb :: body qb esc (s.data.toList.take 0))) := by simpa [body, Lib.byteCells] using hown2
    have hbel2 : Below w.heap.size w w2 := below_app hbel1 hbel1.size hgrow2
    clear hown1 hown2 hbel1 hgrow2 hbytes hmax
    go_loopw [11, 12, 13] (fun v hb i wr => ∃ (k n : Nat) (h0 : Bool), k ≤ s.size ∧ i = .int .i64 k ∧ n ≤ 2 * k + 1 ∧ v = .slice (some ⟨w.heap.size, 0, none⟩) n N ∧ hb = .bool h0 ∧ Hid (h0 = hasBs (s.data.toList.take k)) ∧ wr.ownsRow w.heap.size 5 1 (.slice (some ⟨w.heap.size, 0, none⟩) n N) n (Lib.byteCells (qb :: body qb esc (s.data.toList.take k))) ∧ Below w.heap.size w wr) (fun _ _ i _ => s.size - (intOf i).toNat)
    case atStart => exact ⟨0, 1, false, Nat.zero_le _, rfl, by omega, rfl, rfl, rfl, hst, hbel2⟩
    case round =>
      obtain ⟨k, n, h0, hk, rfl, hn, rfl, rfl, HB0, hown, hbel⟩ := hrel
      have hBr : w.heap.size ≤ wr.heap.size := hbel.size
      clear hst hbel2
      by_cases hlt : k < s.size
      · have hltL : k < s.data.toList.length := by omega
        have hx := idx_at s k hlt
        obtain ⟨c, hc⟩ : ∃ c, c = s.data.toList[k]'hltL := ⟨_, rfl⟩
        rw [← hc] at hx
        have HT : Hid (s.data.toList.take (k + 1) = s.data.toList.take k ++ [c]) := by show _ = _; rw [hc]; exact take_snoc _ k hltL
        clear hc
        obtain ⟨ci, hci⟩ : ∃ ci : Int, ci = (c.toNat : Int) := ⟨_, rfl⟩
        rw [← hci] at hx
        have HCI : Hid (ci = (c.toNat : Int)) := hci
        clear hci hltL
        cases esc with
        | true =>
          by_cases hcq : c = qb
          · have hc92 : (c == 92) = false := by rw [beq_eq_false_iff_ne, hcq]; exact HQ.out
            have g1 : (ci == (qb.toNat : Int)) = true := by rw [HCI.out, hcq]; simp
            have g2 : (ci == 92) = false := by rw [HCI.out, hcq]; exact hq
            have HX : Hid (Lib.byteCells (qb :: body qb true (s.data.toList.take (k + 1))) = Lib.byteCells (qb :: body qb true (s.data.toList.take k)) ++ ([Value.int .u8 92] ++ [Value.int .u8 ci])) := by
              show _ = _
              rw [HT.out, body_two qb _ c (Or.inl hcq), ← List.cons_append, cells_two _ 92 c 92 ci rfl HCI.out]
            have HB : Hid (h0 = hasBs (s.data.toList.take (k + 1))) := by
              show _ = _
              rw [HT.out, hasBs_snoc, ← HB0.out, hc92]
              simp
            clear HB0 HT
            clear hcq hc92
            go_wp2_with (first
              | (at_builtin; refine wpList_append_fits _ rfl (.tmp 75) (.tmp 76) 23 rfl w.heap.size 5 i0 1 Try.underlying23 hi hz1 w.heap.size n N _ rfl (hown.alloc _) ⟨wr.heap.size, 0, none⟩ 1 1 [Value.int .u8 92] rfl rfl (one_cell (by simp)) (one_int _ _) (by omega) ?_; intro w3 hown3 hgrow3)
              | (at_builtin; refine wpList_append_fits _ rfl (.tmp 89) (.tmp 91) 23 rfl w.heap.size 5 i0 1 Try.underlying23 hi hz1 w.heap.size (n + 1) N _ rfl (hown3.alloc _) ⟨w3.heap.size, 0, none⟩ 1 1 [Value.int .u8 ci] rfl rfl (one_cell (by simp)) (one_int _ _) (by omega) ?_; intro w4 hown4 hgrow4))
            have hb3 : Below w.heap.size w w3 := below_app hbel hBr hgrow3
            have hb4 : Below w.heap.size w w4 := below_app hb3 hb3.size hgrow4
            clear hgrow3 hgrow4 hown hown3
            go_roundw
            case rel => exact ⟨k + 1, n + 1 + 1, h0, by omega, by go_num, by omega, rfl, rfl, HB.out, by rw [HX.out]; simpa using hown4, hb4⟩
            case measure => simp [intOf]; omega
          · have g1 : (ci == (qb.toNat : Int)) = false := by
              rw [beq_eq_false_iff_ne, HCI.out]
              intro h
              exact hcq (UInt8.toNat_inj.1 (by omega))
            by_cases h92 : c = 92
            · have hc92 : (c == 92) = true := by rw [beq_iff_eq]; exact h92
              have g2 : (ci == 92) = true := by rw [HCI.out, h92]; rfl
              have HX : Hid (Lib.byteCells (qb :: body qb true (s.data.toList.take (k + 1))) = Lib.byteCells (qb :: body qb true (s.data.toList.take k)) ++ ([Value.int .u8 92] ++ [Value.int .u8 ci])) := by
                show _ = _
                rw [HT.out, body_two qb _ c (Or.inr h92), ← List.cons_append, cells_two _ 92 c 92 ci rfl HCI.out]
              have HB : Hid (true = hasBs (s.data.toList.take (k + 1))) := by
                show _ = _
                rw [HT.out, hasBs_snoc, ← HB0.out, hc92]
                simp
              clear HB0 HT
              clear hcq h92 hc92
              go_wp2_with (first
                | (at_builtin; refine wpList_append_fits _ rfl (.tmp 75) (.tmp 76) 23 rfl w.heap.size 5 i0 1 Try.underlying23 hi hz1 w.heap.size n N _ rfl (hown.alloc _) ⟨wr.heap.size, 0, none⟩ 1 1 [Value.int .u8 92] rfl rfl (one_cell (by simp)) (one_int _ _) (by omega) ?_; intro w3 hown3 hgrow3)
                | (at_builtin; refine wpList_append_fits _ rfl (.tmp 89) (.tmp 91) 23 rfl w.heap.size 5 i0 1 Try.underlying23 hi hz1 w.heap.size (n + 1) N _ rfl (hown3.alloc _) ⟨w3.heap.size, 0, none⟩ 1 1 [Value.int .u8 ci] rfl rfl (one_cell (by simp)) (one_int _ _) (by omega) ?_; intro w4 hown4 hgrow4))
              have hb3 : Below w.heap.size w w3 := below_app hbel hBr hgrow3
              have hb4 : Below w.heap.size w w4 := below_app hb3 hb3.size hgrow4
              clear hgrow3 hgrow4 hown hown3
              go_roundw
              case rel => exact ⟨k + 1, n + 1 + 1, true, by omega, by go_num, by omega, rfl, rfl, HB.out, by rw [HX.out]; simpa using hown4, hb4⟩
              case measure => simp [intOf]; omega
            · have hc92 : (c == 92) = false := by rw [beq_eq_false_iff_ne]; exact h92
              have g2 : (ci == 92) = false := by
                rw [beq_eq_false_iff_ne, HCI.out]
                intro h
                exact h92 (UInt8.toNat_inj.1 (by simpa using (by omega : c.toNat = 92)))
              have HX : Hid (Lib.byteCells (qb :: body qb true (s.data.toList.take (k + 1))) = Lib.byteCells (qb :: body qb true (s.data.toList.take k)) ++ [Value.int .u8 ci]) := by
                show _ = _
                rw [HT.out, body_one qb true _ c hcq (fun _ => h92), ← List.cons_append, cells_one _ c ci HCI.out]
              have HB : Hid (h0 = hasBs (s.data.toList.take (k + 1))) := by
                show _ = _
                rw [HT.out, hasBs_snoc, ← HB0.out, hc92]
                simp
              clear HB0 HT
              clear hcq h92 hc92
              go_wp2_with ((at_builtin; refine wpList_append_fits _ rfl (.tmp 89) (.tmp 91) 23 rfl w.heap.size 5 i0 1 Try.underlying23 hi hz1 w.heap.size n N _ rfl (hown.alloc _) ⟨wr.heap.size, 0, none⟩ 1 1 [Value.int .u8 ci] rfl rfl (one_cell (by simp)) (one_int _ _) (by omega) ?_; intro w4 hown4 hgrow4))
              have hb4 : Below w.heap.size w w4 := below_app hbel hBr hgrow4
              clear hgrow4 hown
              go_roundw
              case rel => exact ⟨k + 1, n + 1, h0, by omega, by go_num, by omega, rfl, rfl, HB.out, by rw [HX.out]; simpa using hown4, hb4⟩
              case measure => simp [intOf]; omega
        | false =>
          by_cases hcq : c = qb
          · have hc92 : (c == 92) = false := by rw [beq_eq_false_iff_ne, hcq]; exact HQ.out
            have g1 : (ci == (qb.toNat : Int)) = true := by rw [HCI.out, hcq]; simp
            have g2 : (ci == 92) = false := by rw [HCI.out, hcq]; exact hq
            have HX : Hid (Lib.byteCells (qb :: body qb false (s.data.toList.take (k + 1))) = Lib.byteCells (qb :: body qb false (s.data.toList.take k)) ++ ([Value.int .u8 (qb.toNat : Int)] ++ [Value.int .u8 ci])) := by
              show _ = _
              rw [HT.out, body_dbl qb _ c hcq, ← List.cons_append, cells_two _ qb c _ ci rfl HCI.out]
            have HB : Hid (h0 = hasBs (s.data.toList.take (k + 1))) := by
              show _ = _
              rw [HT.out, hasBs_snoc, ← HB0.out, hc92]
              simp
            clear HB0 HT
            clear hcq hc92
            go_wp2_with (first
              | (at_builtin; refine wpList_append_fits _ rfl (.tmp 85) (.tmp 87) 23 rfl w.heap.size 5 i0 1 Try.underlying23 hi hz1 w.heap.size n N _ rfl (hown.alloc _) ⟨wr.heap.size, 0, none⟩ 1 1 [Value.int .u8 (qb.toNat : Int)] rfl rfl (one_cell (by simp)) (one_int _ _) (by omega) ?_; intro w3 hown3 hgrow3)
              | (at_builtin; refine wpList_append_fits _ rfl (.tmp 89) (.tmp 91) 23 rfl w.heap.size 5 i0 1 Try.underlying23 hi hz1 w.heap.size (n + 1) N _ rfl (hown3.alloc _) ⟨w3.heap.size, 0, none⟩ 1 1 [Value.int .u8 ci] rfl rfl (one_cell (by simp)) (one_int _ _) (by omega) ?_; intro w4 hown4 hgrow4))
            have hb3 : Below w.heap.size w w3 := below_app hbel hBr hgrow3
            have hb4 : Below w.heap.size w w4 := below_app hb3 hb3.size hgrow4
            clear hgrow3 hgrow4 hown hown3
            go_roundw
            case rel => exact ⟨k + 1, n + 1 + 1, h0, by omega, by go_num, by omega, rfl, rfl, HB.out, by rw [HX.out]; simpa using hown4, hb4⟩
            case measure => simp [intOf]; omega
          · have g1 : (ci == (qb.toNat : Int)) = false := by
              rw [beq_eq_false_iff_ne, HCI.out]
              intro h
              exact hcq (UInt8.toNat_inj.1 (by omega))
            have HX : Hid (Lib.byteCells (qb :: body qb false (s.data.toList.take (k + 1))) = Lib.byteCells (qb :: body qb false (s.data.toList.take k)) ++ [Value.int .u8 ci]) := by
              show _ = _
              rw [HT.out, body_one qb false _ c hcq (fun h => absurd h (by decide)), ← List.cons_append, cells_one _ c ci HCI.out]
            by_cases h92 : c = 92
            · have hc92 : (c == 92) = true := by rw [beq_iff_eq]; exact h92
              have g2 : (ci == 92) = true := by rw [HCI.out, h92]; rfl
              have HB : Hid (true = hasBs (s.data.toList.take (k + 1))) := by
                show _ = _
                rw [HT.out, hasBs_snoc, ← HB0.out, hc92]
                simp
              clear HB0 HT
              clear hcq h92 hc92
              go_wp2_with ((at_builtin; refine wpList_append_fits _ rfl (.tmp 89) (.tmp 91) 23 rfl w.heap.size 5 i0 1 Try.underlying23 hi hz1 w.heap.size n N _ rfl (hown.alloc _) ⟨wr.heap.size, 0, none⟩ 1 1 [Value.int .u8 ci] rfl rfl (one_cell (by simp)) (one_int _ _) (by omega) ?_; intro w4 hown4 hgrow4))
              have hb4 : Below w.heap.size w w4 := below_app hbel hBr hgrow4
              clear hgrow4 hown
              go_roundw
              case rel => exact ⟨k + 1, n + 1, true, by omega, by go_num, by omega, rfl, rfl, HB.out, by rw [HX.out]; simpa using hown4, hb4⟩
              case measure => simp [intOf]; omega
            · have hc92 : (c == 92) = false := by rw [beq_eq_false_iff_ne]; exact h92
              have g2 : (ci == 92) = false := by
                rw [beq_eq_false_iff_ne, HCI.out]
                intro h
                exact h92 (UInt8.toNat_inj.1 (by simpa using (by omega : c.toNat = 92)))
              have HB : Hid (h0 = hasBs (s.data.toList.take (k + 1))) := by
                show _ = _
                rw [HT.out, hasBs_snoc, ← HB0.out, hc92]
                simp
              clear HB0 HT
              clear hcq h92 hc92
              go_wp2_with ((at_builtin; refine wpList_append_fits _ rfl (.tmp 89) (.tmp 91) 23 rfl w.heap.size 5 i0 1 Try.underlying23 hi hz1 w.heap.size n N _ rfl (hown.alloc _) ⟨wr.heap.size, 0, none⟩ 1 1 [Value.int .u8 ci] rfl rfl (one_cell (by simp)) (one_int _ _) (by omega) ?_; intro w4 hown4 hgrow4))
              have hb4 : Below w.heap.size w w4 := below_app hbel hBr hgrow4
              clear hgrow4 hown
              go_roundw
              case rel => exact ⟨k + 1, n + 1, h0, by omega, by go_num, by omega, rfl, rfl, HB.out, by rw [HX.out]; simpa using hown4, hb4⟩
              case measure => simp [intOf]; omega
      · obtain rfl : k = s.size := by omega
        have hLk : s.data.toList.take s.size = s.data.toList := List.take_of_length_le (by omega)
        rw [hLk] at hown HB0
        have hnl : (body qb esc s.data.toList).length + 1 = n := by
          have := hown.1
          rw [Lib.byteCells_length] at this
          simp only [List.length_cons] at this
          omega
        obtain ⟨want, hwant⟩ : ∃ want : ByteArray, want.data.toList = qb :: body qb esc s.data.toList ++ [qb] := ⟨⟨(qb :: body qb esc s.data.toList ++ [qb]).toArray⟩, by simp⟩
        have hws : want.size = n + 1 := by
          have : want.data.toList.length = n + 1 := by rw [hwant, ← hnl]; simp
          simpa using this
        obtain ⟨hR, ht, hl⟩ := last_fact s m want qb esc bs n HQ.out HH.out hnl hwant
        obtain ⟨F, hF⟩ : ∃ F, F = (bs || (!esc && (qb == 39) && hasBs s.data.toList)) := ⟨_, rfl⟩
        rw [← hF] at hR
        rw [← HB0.out] at hF
        obtain ⟨t, hte⟩ : ∃ t, (want ++ m).extract 0 (n + 1) = t := ⟨_, rfl⟩
        obtain ⟨l, hle⟩ : ∃ l, (want ++ m).extract (n + 1) (want ++ m).size = l := ⟨_, rfl⟩
        rw [hte] at ht
        rw [hle] at hl
        have C : Hid (∀ w, Calls Try.prog 8 #[.string (want ++ m), .int .u8 qb.toNat, .bool esc, .bool bs] w fun e w' => e = .returned (.tuple #[.int .u8 2, .string t, .string l, .bool F]) ∧ Below w.heap.size w w') :=
          zz_below (want ++ m) t l qb esc bs (n + 1) F hR hte hle (by rw [ByteArray.size_append]; omega)
        have HW : Hid (want.data.toList = qb :: body qb esc s.data.toList ++ [qb]) := hwant
        have hwm : want.size + m.size ≤ 9223372036854775807 := by omega
        clear hR hte hle hwant hnl hLk hws HB0
        cases bs with
        | true =>
          obtain rfl : F = true := by simpa using hF
          clear hF
          go_wp2_with (first
            | (at_builtin; refine wpList_append_fits _ rfl (.tmp 93) (.tmp 95) 23 rfl w.heap.size 5 i0 1 Try.underlying23 hi hz1 w.heap.size n N _ rfl (hown.alloc _) ⟨wr.heap.size, 0, none⟩ 1 1 [Value.int .u8 (qb.toNat : Int)] rfl rfl (one_cell (by simp)) (one_int _ _) (by omega) ?_; intro w6 hown6 hgrow6; have hconv := conv_of hown6 HW.out)
            | (go_at_call 8; refine (C.out _).mono ?_; rintro e w7 ⟨rfl, hb7⟩))
          go_ret
          exact ⟨rfl, (below_app hbel hBr hgrow6).trans (hb7.mono (below_app hbel hBr hgrow6).size)⟩
        | false =>
          cases esc with
          | true =>
            obtain rfl : F = false := by simpa using hF
            clear hF
            go_wp2_with (first
              | (at_builtin; refine wpList_append_fits _ rfl (.tmp 93) (.tmp 95) 23 rfl w.heap.size 5 i0 1 Try.underlying23 hi hz1 w.heap.size n N _ rfl (hown.alloc _) ⟨wr.heap.size, 0, none⟩ 1 1 [Value.int .u8 (qb.toNat : Int)] rfl rfl (one_cell (by simp)) (one_int _ _) (by omega) ?_; intro w6 hown6 hgrow6; have hconv := conv_of hown6 HW.out)
              | (go_at_call 8; refine (C.out _).mono ?_; rintro e w7 ⟨rfl, hb7⟩))
            go_ret
            exact ⟨rfl, (below_app hbel hBr hgrow6).trans (hb7.mono (below_app hbel hBr hgrow6).size)⟩
          | false =>
            by_cases h39 : qb = 39
            · have g39 : ((qb.toNat : Int) == 39) = true := by rw [h39]; rfl
              obtain rfl : F = h0 := by rw [hF, h39]; simp
              clear hF h39
              go_wp2_with (first
                | (at_builtin; refine wpList_append_fits _ rfl (.tmp 93) (.tmp 95) 23 rfl w.heap.size 5 i0 1 Try.underlying23 hi hz1 w.heap.size n N _ rfl (hown.alloc _) ⟨wr.heap.size, 0, none⟩ 1 1 [Value.int .u8 (qb.toNat : Int)] rfl rfl (one_cell (by simp)) (one_int _ _) (by omega) ?_; intro w6 hown6 hgrow6; have hconv := conv_of hown6 HW.out)
                | (go_at_call 8; refine (C.out _).mono ?_; rintro e w7 ⟨rfl, hb7⟩))
              go_ret
              exact ⟨rfl, (below_app hbel hBr hgrow6).trans (hb7.mono (below_app hbel hBr hgrow6).size)⟩
            · have g39 : ((qb.toNat : Int) == 39) = false := by
                rw [beq_eq_false_iff_ne]
                intro h
                exact h39 (UInt8.toNat_inj.1 (by simpa using (by omega : qb.toNat = 39)))
              obtain rfl : F = false := by
                rw [hF, show (qb == 39) = false by rw [beq_eq_false_iff_ne]; exact h39]; simp
              clear hF h39
              go_wp2_with (first
                | (at_builtin; refine wpList_append_fits _ rfl (.tmp 93) (.tmp 95) 23 rfl w.heap.size 5 i0 1 Try.underlying23 hi hz1 w.heap.size n N _ rfl (hown.alloc _) ⟨wr.heap.size, 0, none⟩ 1 1 [Value.int .u8 (qb.toNat : Int)] rfl rfl (one_cell (by simp)) (one_int _ _) (by omega) ?_; intro w6 hown6 hgrow6; have hconv := conv_of hown6 HW.out)
                | (go_at_call 8; refine (C.out _).mono ?_; rintro e w7 ⟨rfl, hb7⟩))
              go_ret
              exact ⟨rfl, (below_app hbel hBr hgrow6).trans (hb7.mono (below_app hbel hBr hgrow6).size)⟩
end Go.Proofs.Qxb6601006a
