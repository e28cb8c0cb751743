/-
  THE CONTRACTS of FnRecordRoundTrip: zzPutUvarint, zzUvarint, binary.Uvarint (off the shelf), record.
-/
import Derived.Test.Qxb6604381aRows
import Derived.Test.Qxb6604381aVarint
import Derived.Shelf.Bin.Uvarint
import Derived.Lib.VarintMem
import Derived.WalkKit
import Derived.ProofKit
import Derived.OpenShut
import Derived.ShutString
import Derived.Below
import Derived.Deep.QuietTactic
import Derived.BigQuiet
namespace Go.Proofs.Qxb6604381a
open Go.ChangeShapes Go.WideShapes Go.ChangeAt Go.RowKit Go.Shelf
set_option linter.unusedVariables false

/-- The shelf's numbers (of its toy of names) at this dump, for binary.Uvarint: the laying in plain words. -/
def Try.laysUvarint_ren : Ren := {
  f := fun | 45 => 15 | n => n
  t := fun | 22 => 25 | 33 => 26 | 3 => 3 | 45 => 29 | 0 => 0 | 5 => 5 | 4 => 4 | n => n
  g := fun n => n }
theorem Try.laysUvarint : LaysBin.n45 Try.prog Try.laysUvarint_ren := {
  mixed := by kernel_rfl
  f45 := Try.func15.trans (congrArg some (by kernel_rfl))
  t0 := Try.underlying0
  a0 := Try.isAgg0
  z0 := Try.sizeOf0
  v0 := Try.zeroValue0
  i0 := by kernel_rfl
  t3 := Try.underlying3
  a3 := Try.isAgg3
  z3 := Try.sizeOf3
  v3 := Try.zeroValue3
  i3 := by kernel_rfl
  t4 := Try.underlying4
  a4 := Try.isAgg4
  z4 := Try.sizeOf4
  v4 := Try.zeroValue4
  i4 := by kernel_rfl
  t5 := Try.underlying5
  a5 := Try.isAgg5
  z5 := Try.sizeOf5
  v5 := Try.zeroValue5
  i5 := by kernel_rfl
  t22 := Try.underlying25
  a22 := Try.isAgg25
  z22 := Try.sizeOf25
  v22 := Try.zeroValue25
  i22 := by kernel_rfl
  t33 := Try.underlying26
  a33 := Try.isAgg26
  z33 := Try.sizeOf26
  v33 := Try.zeroValue26
  i33 := by kernel_rfl
  t45 := Try.underlying29
  a45 := Try.isAgg29
  z45 := Try.sizeOf29
  v45 := Try.zeroValue29
  i45 := by kernel_rfl }
theorem uvarint_lib (g o n c : Nat) (l : List UInt8) (w : World) (hl : l.length = n) (hcell : ∀ j (hj : j < l.length), w.cell? ⟨g, o + j, none⟩ = some (.int .u8 (l[j]).toNat)) :
    Calls Try.prog 15 #[.slice (some ⟨g, o, none⟩) n c] w fun e w' => e = .returned (.tuple #[.int .u64 (Lib.uvarintDec l).1, .int .i64 (Lib.uvarintDec l).2]) ∧ w' = w := Any.binary_Uvarint Try.laysUvarint g o n c l w hl hcell

theorem Try.info5 : (Try.prog.info? 5).map (fun i => (i.zero, i.size, i.bytes)) = some (some (.int .u8 0), 1, 1) := by kernel_rfl

theorem one_cell {w : World} {p : Nat} {v : Value} (hp : w.cell? ⟨p, 0, none⟩ = some v) : ∀ j u, [v][j]? = some u → w.cell? ((⟨p, 0, none⟩ : Addr).add j) = some u := by
  intro j u hj
  match j, hj with
  | 0, hj => simp at hj; subst hj; simpa [Addr.add] using hp

set_option maxHeartbeats 1000000 in
set_option maxRecDepth 100000 in
/-- zzPutUvarint, where there is room: the value stays at its row's head. -/
theorem put_any (B g n N x : Nat) (hx : x < 18446744073709551616) (hN : N ≤ 2000000) (xs : List Value) (w : World) (hown : w.ownsRow B 5 1 (.slice (some ⟨g, 0, none⟩) n N) n xs) (hBw : B ≤ w.heap.size) (hfit : n + (Lib.uvarint x).length ≤ N) :
    Calls Try.prog 8 #[.slice (some ⟨g, 0, none⟩) n N, .int .u64 x] w fun e w' => e = .returned (.slice (some ⟨g, 0, none⟩) (n + (Lib.uvarint x).length) N) ∧
      w'.ownsRow B 5 1 (.slice (some ⟨g, 0, none⟩) (n + (Lib.uvarint x).length) N) (n + (Lib.uvarint x).length) (xs ++ Lib.byteCells (Lib.uvarint x)) ∧ Below B w w' := by
  obtain ⟨i0, hi, hz0, hz1, hz2⟩ := info_parts Try.info5
  have hBg : B ≤ g := (hown.lt g rfl).1
  go_enter Try.func8, Try.ntmps8
  go_wp2
  go_loopw [0, 1] (fun vb vx wr => ∃ (y k : Nat) (pre : List UInt8), vx = .int .u64 y ∧ y ≤ x ∧ Lib.uvarint x = pre ++ Lib.uvarint y ∧ k = n + pre.length ∧ vb = .slice (some ⟨g, 0, none⟩) k N ∧ wr.ownsRow B 5 1 (.slice (some ⟨g, 0, none⟩) k N) k (xs ++ Lib.byteCells pre) ∧ Below B w wr)
    (fun _ vx _ => (intOf vx).toNat)
  case atStart => exact ⟨x, n, [], rfl, Nat.le_refl _, rfl, rfl, rfl, by simpa [Lib.byteCells] using hown, Below.refl _ _⟩
  case round =>
    obtain ⟨y, k, pre, rfl, hy, hsplit, hk, rfl, hown1, hnx⟩ := hrel
    have hpl : k + (Lib.uvarint y).length ≤ N := by
      have h2 := congrArg List.length hsplit
      rw [List.length_append] at h2
      omega
    have hyp := Lib.uvarint_pos y
    have Hs : Hid (Lib.uvarint x = pre ++ Lib.uvarint y) := hsplit
    have Hk : Hid (k = n + pre.length) := hk
    have hBr : B ≤ wr.heap.size := Nat.le_trans hBw hnx.size
    clear hsplit hk hown hfit
    by_cases h128 : 128 ≤ y
    · have hor : bits .or .u8 ((y : Int) % 256) 128 = ((y % 128 + 128 : Nat) : Int) := by
        rw [Lib.u8_or128_any _ (by omega) (by omega)]
        omega
      have hlen : 1 < (Lib.uvarint y).length := by
        rw [Lib.uvarint_big h128, List.length_cons]; have := Lib.uvarint_pos (y / 128); omega
      go_wp2_with (at_builtin; refine wpList_append_fits _ rfl _ _ 25 rfl B 5 i0 1 Try.underlying25 hi hz1 g k N _ rfl (hown1.alloc _) ⟨wr.heap.size, 0, none⟩ 1 1 [Value.int .u8 ((y % 128 + 128 : Nat) : Int)] rfl rfl ?c1 ?c2 ?c3 ?_)
      case c1 => exact one_cell (by simp)
      case c2 => intro u hu; simp at hu; subst hu; rfl
      case c3 => omega
      intro w1 hown' hgrow
      have hnx1 : Below B w w1 := (hnx.alloc hBr _).grown hgrow (by simp; omega) (fun k hk => by cases hk; exact hBg)
      clear hown1 hgrow hnx
      go_wp2
      go_roundw
      case rel =>
        refine ⟨y / 128, k + 1, pre ++ [(y % 128 + 128).toUInt8], by go_num, by omega, by rw [Hs.out, Lib.uvarint_big h128]; simp, by rw [Hk.out]; simp; omega, rfl, ?_, hnx1⟩
        have ec : ((y % 128 + 128 : Nat) : Int) = (y : Int) % 128 + 128 := by omega
        rw [Lib.byteCells_snoc pre (by omega), ec]
        exact hown'
      case measure => simp [intOf]; omega
    · have hsm : Lib.uvarint y = [y.toUInt8] := Lib.uvarint_small (by omega)
      have Hm : Hid (Lib.uvarint y = [y.toUInt8]) := hsm
      clear hsm
      go_wp2_with (at_builtin; refine wpList_append_fits _ rfl _ _ 25 rfl B 5 i0 1 Try.underlying25 hi hz1 g k N _ rfl (hown1.alloc _) ⟨wr.heap.size, 0, none⟩ 1 1 [Value.int .u8 (y : Int)] rfl rfl ?c1 ?c2 ?c3 ?_)
      case c1 => exact one_cell (by simp)
      case c2 => intro u hu; simp at hu; subst hu; rfl
      case c3 => omega
      intro w1 hown' hgrow
      have hnx1 : Below B w w1 := (hnx.alloc hBr _).grown hgrow (by simp; omega) (fun k hk => by cases hk; exact hBg)
      clear hown1 hgrow hnx
      go_wp2
      go_ret
      have hl : n + (Lib.uvarint x).length = k + 1 := by rw [Hs.out, Hm.out, Hk.out]; simp; omega
      rw [hl, Hs.out, Hm.out, Lib.byteCells_snoc pre (by omega)]
      exact ⟨rfl, hown', hnx1⟩

theorem and127_fin : ∀ d : Fin 128, bits .and .u8 ((d.val : Int) + 128) 127 = (d.val : Int) := by decide +kernel

theorem cell_up {w : World} {g o x : Nat} {r : List UInt8} (hcell : ∀ j (hj : j < (Lib.uvarint x ++ r).length), w.cell? ⟨g, o + j, none⟩ = some (.int .u8 ((Lib.uvarint x ++ r)[j]).toNat))
    (k : Nat) (hk : k < ups x) : w.cell? ⟨g, o + k, none⟩ = some (.int .u8 (((x / 128 ^ k) % 128 : Nat) + 128 : Int)) := by
  have h1 := byte_up k x hk
  obtain ⟨hl, he⟩ := List.getElem?_eq_some_iff.1 h1
  have h2 := hcell k (by rw [List.length_append]; omega)
  rw [h2, List.getElem_append_left hl, he, toUInt8_val (by omega)]
  rfl

theorem cell_last {w : World} {g o x : Nat} {r : List UInt8} (hcell : ∀ j (hj : j < (Lib.uvarint x ++ r).length), w.cell? ⟨g, o + j, none⟩ = some (.int .u8 ((Lib.uvarint x ++ r)[j]).toNat)) :
    w.cell? ⟨g, o + ups x, none⟩ = some (.int .u8 ((x / 128 ^ ups x : Nat) : Int)) ∧ x / 128 ^ ups x < 128 := by
  obtain ⟨h1, h3⟩ := byte_last (ups x) x rfl
  obtain ⟨hl, he⟩ := List.getElem?_eq_some_iff.1 h1
  have h2 := hcell (ups x) (by rw [List.length_append]; omega)
  refine ⟨?_, h3⟩
  rw [h2, List.getElem_append_left hl, he, toUInt8_val (by omega)]

set_option maxHeartbeats 1000000 in
set_option maxRecDepth 100000 in
/-- zzUvarint at a varint, whatever follows. -/
theorem zzu_any (g o n c x : Nat) (r : List UInt8) (w : World) (hx : x < 18446744073709551616) (hl : (Lib.uvarint x ++ r).length = n) (hn : n ≤ 2000000)
    (hcell : ∀ j (hj : j < (Lib.uvarint x ++ r).length), w.cell? ⟨g, o + j, none⟩ = some (.int .u8 ((Lib.uvarint x ++ r)[j]).toNat)) :
    Calls Try.prog 10 #[.slice (some ⟨g, o, none⟩) n c] w fun e w' => e = .returned (.tuple #[.int .u64 x, .int .i64 (Lib.uvarint x).length, .int .i64 1]) ∧ w = w' := by
  have hU := ups_le hx
  have hun : ups x < n := by rw [← hl, List.length_append, len_ups]; omega
  have H1 : Hid (∀ k, k < ups x → w.cell? ⟨g, o + k, none⟩ = some (.int .u8 (((x / 128 ^ k) % 128 : Nat) + 128 : Int))) := cell_up hcell
  have H2 : Hid (w.cell? ⟨g, o + ups x, none⟩ = some (.int .u8 ((x / 128 ^ ups x : Nat) : Int)) ∧ x / 128 ^ ups x < 128) := cell_last hcell
  clear hcell hl
  rw [len_ups]
  obtain ⟨u, hu⟩ : ∃ u, u = ups x := ⟨_, rfl⟩
  rw [← hu] at hU hun H1 H2 ⊢
  have H3 : Hid (u = 9 → x / 128 ^ u ≤ 1) := fun h => by rw [h]; exact last_nine hx
  clear hu
  go_enter Try.func10, Try.ntmps10
  go_wp2
  go_loop [5] (fun i => ∃ k : Nat, k ≤ u ∧ i = .int .i64 k) (fun i => n - (intOf i).toNat)
  case atStart => exact ⟨0, Nat.zero_le _, rfl⟩
  case round =>
    obtain ⟨k, hk, rfl⟩ := hrel
    have hkn : (k : Int) < (n : Int) := by omega
    have hk10 : ((k : Int) == 10) = false := by rw [beq_eq_false_iff_ne]; omega
    by_cases hlt : k < u
    · have hc := H1.out k hlt
      obtain ⟨d, hd, hd'⟩ : ∃ d : Nat, (x / 128 ^ k) % 128 = d ∧ d < 128 := ⟨_, rfl, by omega⟩
      rw [hd] at hc
      clear hd
      have hb : ¬ ((d : Int) + 128 < 128) := by omega
      go_wp2
      go_round
      case rel => exact ⟨k + 1, by omega, by go_num⟩
      case measure => simp [intOf]; omega
    · obtain rfl : k = u := by omega
      obtain ⟨hc, hd'⟩ := H2.out
      have h9 := H3.out
      obtain ⟨d, hd⟩ : ∃ d : Nat, x / 128 ^ k = d := ⟨_, rfl⟩
      rw [hd] at hc hd' h9
      have HD : Hid (x / 128 ^ k = d) := hd
      clear hd hlt
      by_cases hk9 : k = 9
      · have hd1 : d ≤ 1 := h9 hk9
        clear h9
        have hg9 : ((k : Int) == 9) = true := by rw [beq_iff_eq]; omega
        have hg : decide ((1 : Int) < (d : Int)) = false := decide_eq_false (by omega)
        clear hk9
        go_wp2
        go_loop [6, 7] (fun v q => ∃ m V : Nat, m ≤ k ∧ q = .int .i64 ((m : Int) - 1) ∧ v = .int .u64 V ∧ Hid (x / 128 ^ m = V)) (fun _ q => (intOf q + 1).toNat)
        case atStart => exact ⟨k, d, Nat.le_refl _, rfl, rfl, HD⟩
        case round =>
          obtain ⟨m, V, hm, rfl, rfl, HV⟩ := hrel
          clear hc HD hg
          rcases m with _ | q
          · obtain rfl : V = x := by have h := HV.out; simpa using h.symm
            go_wp2
            go_ret3
            exact ⟨rfl, rfl⟩
          · have hc := H1.out q (by omega)
            obtain ⟨d2, hd2, hd2'⟩ : ∃ d : Nat, (x / 128 ^ q) % 128 = d ∧ d < 128 := ⟨_, rfl, by omega⟩
            have hb := step_back x q
            rw [HV.out, hd2] at hb
            rw [hd2] at hc
            have HV2 : Hid (x / 128 ^ q = V * 128 + d2) := hb.symm
            have hle : V * 128 + d2 ≤ x := by rw [hb]; exact Nat.div_le_self _ _
            have hand : bits .and .u8 ((d2 : Int) + 128) 127 = (d2 : Int) := and127_fin ⟨d2, hd2'⟩
            have hor : bits .or .u64 ((V : Int) * 128) (d2 : Int) = ((V * 128 + d2 : Nat) : Int) := or_low7 V d2 hd2' (by omega)
            have hVb : (V : Int) * 128 ≤ 18446744073709551615 := by omega
            clear hd2 hb HV
            go_wp2
            go_round
            case rel => exact ⟨q, V * 128 + d2, by omega, by go_num, by go_num, HV2⟩
            case measure => simp [intOf]
      · have hg : ((k : Int) == 9) = false := by rw [beq_eq_false_iff_ne]; omega
        clear h9 hk9
        go_wp2
        go_loop [6, 7] (fun v q => ∃ m V : Nat, m ≤ k ∧ q = .int .i64 ((m : Int) - 1) ∧ v = .int .u64 V ∧ Hid (x / 128 ^ m = V)) (fun _ q => (intOf q + 1).toNat)
        case atStart => exact ⟨k, d, Nat.le_refl _, rfl, rfl, HD⟩
        case round =>
          obtain ⟨m, V, hm, rfl, rfl, HV⟩ := hrel
          clear hc HD hg
          rcases m with _ | q
          · obtain rfl : V = x := by have h := HV.out; simpa using h.symm
            go_wp2
            go_ret3
            exact ⟨rfl, rfl⟩
          · have hc := H1.out q (by omega)
            obtain ⟨d2, hd2, hd2'⟩ : ∃ d : Nat, (x / 128 ^ q) % 128 = d ∧ d < 128 := ⟨_, rfl, by omega⟩
            have hb := step_back x q
            rw [HV.out, hd2] at hb
            rw [hd2] at hc
            have HV2 : Hid (x / 128 ^ q = V * 128 + d2) := hb.symm
            have hle : V * 128 + d2 ≤ x := by rw [hb]; exact Nat.div_le_self _ _
            have hand : bits .and .u8 ((d2 : Int) + 128) 127 = (d2 : Int) := and127_fin ⟨d2, hd2'⟩
            have hor : bits .or .u64 ((V : Int) * 128) (d2 : Int) = ((V * 128 + d2 : Nat) : Int) := or_low7 V d2 hd2' (by omega)
            have hVb : (V : Int) * 128 ≤ 18446744073709551615 := by omega
            clear hd2 hb HV
            go_wp2
            go_round
            case rel => exact ⟨q, V * 128 + d2, by omega, by go_num, by go_num, HV2⟩
            case measure => simp [intOf]

/-- From place o of block g on the cells hold the bytes l. -/
def Row (w : World) (g o : Nat) (l : List UInt8) : Prop := ∀ j (hj : j < l.length), w.cell? ⟨g, o + j, none⟩ = some (.int .u8 (l[j]).toNat)

theorem Row.right {w : World} {g o : Nat} {a b : List UInt8} (h : Row w g o (a ++ b)) : Row w g (o + a.length) b := by
  intro j hj
  have := h (a.length + j) (by rw [List.length_append]; omega)
  rw [List.getElem_append_right (by omega)] at this
  rw [Nat.add_assoc, this]
  simp
theorem Row.alloc {w : World} {g o : Nat} {a : List UInt8} (h : Row w g o a) (ob : Obj) (hg : g < w.heap.size) : Row (w.alloc ob) g o a := by
  intro j hj
  rw [World.cell?_alloc_past _ _ _ hg]
  exact h j hj

/-- binary.Uvarint at a varint, whatever follows. -/
theorem uvl_any (g o n c x n1 : Nat) (r : List UInt8) (w : World) (hx : x < 18446744073709551616) (hn1 : (Lib.uvarint x).length = n1) (hl : (Lib.uvarint x ++ r).length = n) (hrow : Row w g o (Lib.uvarint x ++ r)) :
    Calls Try.prog 15 #[.slice (some ⟨g, o, none⟩) n c] w fun e w' => e = .returned (.tuple #[.int .u64 (x : Int), .int .i64 (n1 : Int)]) ∧ w = w' := by
  refine (uvarint_lib g o n c _ w hl hrow).mono fun e w' ⟨he, hw⟩ => ⟨?_, hw.symm⟩
  rw [he, dec_enc x r hx, hn1]

set_option maxHeartbeats 1000000 in
set_option maxRecDepth 100000 in
/-- (*repeatedIDs).record. -/
theorem record_any (p g n N s x y n1 n2 : Nat) (key : Int) (T : List UInt8) (w : World) (hf : w.cell? ⟨p, 4, none⟩ = some (.slice (some ⟨g, 0, none⟩) n N)) (hkey : bits .and .u64 key 33554431 = (s : Int))
    (hx : x < 18446744073709551616) (hy : y ≤ 1048576) (hn1 : (Lib.uvarint x).length = n1) (hn2 : (Lib.uvarint y).length = n2) (hyT : y ≤ T.length) (hn : s + (n1 + (n2 + T.length)) = n) (hN : n ≤ N) (hN2 : N ≤ 2000000)
    (hrow : Row w g s (Lib.uvarint x ++ (Lib.uvarint y ++ T))) :
    Calls Try.prog 14 #[.pointer (some ⟨p, 0, none⟩), .int .u64 key] w fun e w' => e = .returned (.slice (some ⟨g, s, none⟩) (n1 + n2 + y) (N - s)) ∧ w = w' := by
  have hp1 : 1 ≤ n1 := by rw [← hn1]; exact Lib.uvarint_pos x
  have hp2 : 1 ≤ n2 := by rw [← hn2]; exact Lib.uvarint_pos y
  have hrow2 := hrow.right
  rw [hn1] at hrow2
  have hl1 : (Lib.uvarint x ++ (Lib.uvarint y ++ T)).length = n - s := by simp only [List.length_append, hn1, hn2]; omega
  have hl2 : (Lib.uvarint y ++ T).length = n - s - n1 := by simp only [List.length_append, hn2]; omega
  have C1 := fun w (hr : Row w g s (Lib.uvarint x ++ (Lib.uvarint y ++ T))) => uvl_any g s (n - s) (N - s) x n1 (Lib.uvarint y ++ T) w hx hn1 hl1 hr
  have C2 := fun w (hr : Row w g (s + n1) (Lib.uvarint y ++ T)) => uvl_any g (s + n1) (n - s - n1) (N - s - n1) y n2 T w (by omega) hn2 hl2 hr
  clear hn1 hn2 hl1 hl2
  have hk1 : bits .and .u64 key 33554431 ≤ (n : Int) := by omega
  go_enter Try.func14, Try.ntmps14
  go_wp2_with fail
  refine (C1 _ hrow).mono ?_
  rintro e w' ⟨rfl, rfl⟩
  go_wp2_with fail
  refine (C2 _ hrow2).mono ?_
  rintro e w' ⟨rfl, rfl⟩
  go_wp2
  go_ret
  exact ⟨rfl, rfl⟩

/-- The cells of a run in memory whose records are the slice s. -/
def runCells (s : Value) : Array Value :=
  #[Value.nilFunc, Value.int IntKind.i64 0, Value.slice none 0 0, Value.slice none 0 0, s, Value.pointer none, Value.pointer none, Value.slice none 0 0, Value.string { data := #[] }]

theorem run_cell4 (w : World) (s : Value) : (w.alloc (.cells (runCells s) 43)).cell? ⟨w.heap.size, 4, none⟩ = some s := by
  simp [runCells]

set_option maxHeartbeats 1000000 in
set_option maxRecDepth 100000 in
/-- ZZrecord. -/
theorem zzrecord_any (g n N s x y n1 n2 : Nat) (key : Int) (T : List UInt8) (w : World) (hkey : bits .and .u64 key 33554431 = (s : Int))
    (hx : x < 18446744073709551616) (hy : y ≤ 1048576) (hn1 : (Lib.uvarint x).length = n1) (hn2 : (Lib.uvarint y).length = n2) (hyT : y ≤ T.length) (hn : s + (n1 + (n2 + T.length)) = n) (hN : n ≤ N) (hN2 : N ≤ 2000000)
    (hg : g < w.heap.size) (hrow : Row w g s (Lib.uvarint x ++ (Lib.uvarint y ++ T))) :
    Calls Try.prog 9 #[.slice (some ⟨g, 0, none⟩) n N, .int .u64 key] w fun e w' => e = .returned (.slice (some ⟨g, s, none⟩) (n1 + n2 + y) (N - s)) ∧ w' = w.alloc (.cells (runCells (.slice (some ⟨g, 0, none⟩) n N)) 43) := by
  have C := record_any w.heap.size g n N s x y n1 n2 key T _ (run_cell4 w (.slice (some ⟨g, 0, none⟩) n N)) hkey hx hy hn1 hn2 hyT hn hN hN2 (hrow.alloc _ hg)
  clear hkey hn1 hn2 hrow hn
  unfold runCells at C ⊢
  go_enter Try.func9, Try.ntmps9
  go_wp2_with fail
  refine C.mono ?_
  rintro e w' ⟨rfl, rfl⟩
  go_wp2
  go_ret
  exact ⟨rfl, rfl⟩
end Go.Proofs.Qxb6604381a
