/-
  THE CONTRACTS of FnCharacterNameRoundTrip: zzDecodeRune, zzNameCarries, characterName; and the plain law that a name tells its byte.
-/
import Derived.Test.Qxb6604381aRows
import Derived.WalkKit
import Derived.ProofKit
import Derived.OpenShut
import Derived.ShutString
namespace Go.Proofs.Qxb6604381a
open Go.ChangeShapes Go.WideShapes Go.ChangeAt Go.RowKit
set_option linter.unusedVariables false

theorem and192_fin : ∀ n : Fin 64, bits .and .u8 (128 + (n.val : Int)) 192 = 128 := by decide +kernel
theorem and63_fin : ∀ n : Fin 64, bits .and .u8 (128 + (n.val : Int)) 63 = (n.val : Int) := by decide +kernel
theorem or128_fin : ∀ n : Fin 64, bits .or .i32 128 (n.val : Int) = 128 + (n.val : Int) := by decide +kernel
theorem or192_fin : ∀ n : Fin 64, bits .or .i32 192 (n.val : Int) = 192 + (n.val : Int) := by decide +kernel

/-- zzDecodeRune at a rune of two bytes, the first 194 or 195. -/
theorem decode2 (s : ByteArray) (i j : Int) (hj : i + 1 = j) (b0 : Int) (m : Nat) (h0 : 0 ≤ i) (hi : j < s.size) (hs : s.size ≤ 20) (hb : b0 = 194 ∨ b0 = 195) (hm : m < 64)
    (hx0 : ∀ w, (Instr.index 9 (.string s) (.int .i64 i)).run Try.prog w = .ok (.int .u8 b0) w)
    (hx1 : ∀ w, (Instr.index 9 (.string s) (.int .i64 j)).run Try.prog w = .ok (.int .u8 (128 + (m : Int))) w)
    (w : World) :
    Calls Try.prog 12 #[.string s, .int .i64 i] w fun e w' => e = .returned (.tuple #[.int .i32 ((b0 - 192) * 64 + (m : Int)), .int .i64 2]) ∧ w = w' := by
  subst hj
  have hk : ¬ (s.size : Int) - i < 2 := by omega
  have e1 : bits .and .u8 (128 + (m : Int)) 192 = 128 := and192_fin ⟨m, hm⟩
  have e2 : bits .and .u8 (128 + (m : Int)) 63 = (m : Int) := and63_fin ⟨m, hm⟩
  have e3 : bits .or .i32 128 (m : Int) = 128 + (m : Int) := or128_fin ⟨m, hm⟩
  have e4 : bits .or .i32 192 (m : Int) = 192 + (m : Int) := or192_fin ⟨m, hm⟩
  rcases hb with rfl | rfl
  · go_enter Try.func12, Try.ntmps12
    go_wp2
    refine wp_loop_rounds 2 ?_
    rw [rounds_succ]
    go_wp2
    rw [rounds_succ]
    go_wp2
    go_ret2
    exact ⟨rfl, rfl⟩
  · go_enter Try.func12, Try.ntmps12
    go_wp2
    refine wp_loop_rounds 2 ?_
    rw [rounds_succ]
    go_wp2
    rw [rounds_succ]
    go_wp2
    go_ret2
    exact ⟨rfl, rfl⟩

/-- zzDecodeRune at a byte of ASCII. -/
theorem decode1 (s : ByteArray) (i : Int) (b0 : Int) (hb0 : 0 ≤ b0) (hb : b0 < 128)
    (hx0 : ∀ w, (Instr.index 9 (.string s) (.int .i64 i)).run Try.prog w = .ok (.int .u8 b0) w) (w : World) :
    Calls Try.prog 12 #[.string s, .int .i64 i] w fun e w' => e = .returned (.tuple #[.int .i32 b0, .int .i64 1]) ∧ w = w' := by
  go_enter Try.func12, Try.ntmps12
  go_wp2
  go_ret2
  exact ⟨rfl, rfl⟩

set_option maxHeartbeats 1000000 in
/-- zzNameCarries at a name of five runes, the middle one of 1 byte(s). -/
theorem carries1 (s : ByteArray) (c : Int) (hs : s.size = 7) (h0 : 0 ≤ c) (h1 : c < 256) (h9 : (c == 9) = false) (h13 : (c == 13) = false)
    (d0 : Hid (∀ w, Calls Try.prog 12 #[.string s, .int .i64 0] w fun e w' => e = .returned (.tuple #[.int .i32 171, .int .i64 2]) ∧ w = w'))
    (d1 : Hid (∀ w, Calls Try.prog 12 #[.string s, .int .i64 2] w fun e w' => e = .returned (.tuple #[.int .i32 32, .int .i64 1]) ∧ w = w'))
    (d2 : Hid (∀ w, Calls Try.prog 12 #[.string s, .int .i64 3] w fun e w' => e = .returned (.tuple #[.int .i32 c, .int .i64 1]) ∧ w = w'))
    (d3 : Hid (∀ w, Calls Try.prog 12 #[.string s, .int .i64 4] w fun e w' => e = .returned (.tuple #[.int .i32 32, .int .i64 1]) ∧ w = w'))
    (d4 : Hid (∀ w, Calls Try.prog 12 #[.string s, .int .i64 5] w fun e w' => e = .returned (.tuple #[.int .i32 187, .int .i64 2]) ∧ w = w'))
    (w : World) :
    Calls Try.prog 6 #[.string s, .int .u8 c] w fun e w' => e = .returned (.bool true) ∧ Grown w w' := by
  go_enter Try.func6, Try.ntmps6
  go_wp2
  refine wp_loop_rounds 6 ?_
  rw [rounds_succ]
  go_wp2_with (go_at_call 12; refine (d0.out _).mono ?_; rintro e w' ⟨rfl, rfl⟩)
  rw [rounds_succ]
  go_wp2_with (go_at_call 12; refine (d1.out _).mono ?_; rintro e w' ⟨rfl, rfl⟩)
  rw [rounds_succ]
  go_wp2_with (go_at_call 12; refine (d2.out _).mono ?_; rintro e w' ⟨rfl, rfl⟩)
  rw [rounds_succ]
  go_wp2_with (go_at_call 12; refine (d3.out _).mono ?_; rintro e w' ⟨rfl, rfl⟩)
  rw [rounds_succ]
  go_wp2_with (go_at_call 12; refine (d4.out _).mono ?_; rintro e w' ⟨rfl, rfl⟩)
  rw [rounds_succ]
  go_wp2
  go_ret
  exact ⟨rfl, by repeat (first | exact Grown.refl _ | apply Grown.drew | apply Grown.alloc)⟩

set_option maxHeartbeats 1000000 in
/-- zzNameCarries at a name of five runes, the middle one of 2 byte(s). -/
theorem carries2 (s : ByteArray) (c : Int) (hs : s.size = 8) (h0 : 0 ≤ c) (h1 : c < 256) (h9 : (c == 9) = false) (h13 : (c == 13) = false)
    (d0 : Hid (∀ w, Calls Try.prog 12 #[.string s, .int .i64 0] w fun e w' => e = .returned (.tuple #[.int .i32 171, .int .i64 2]) ∧ w = w'))
    (d1 : Hid (∀ w, Calls Try.prog 12 #[.string s, .int .i64 2] w fun e w' => e = .returned (.tuple #[.int .i32 32, .int .i64 1]) ∧ w = w'))
    (d2 : Hid (∀ w, Calls Try.prog 12 #[.string s, .int .i64 3] w fun e w' => e = .returned (.tuple #[.int .i32 c, .int .i64 2]) ∧ w = w'))
    (d3 : Hid (∀ w, Calls Try.prog 12 #[.string s, .int .i64 5] w fun e w' => e = .returned (.tuple #[.int .i32 32, .int .i64 1]) ∧ w = w'))
    (d4 : Hid (∀ w, Calls Try.prog 12 #[.string s, .int .i64 6] w fun e w' => e = .returned (.tuple #[.int .i32 187, .int .i64 2]) ∧ w = w'))
    (w : World) :
    Calls Try.prog 6 #[.string s, .int .u8 c] w fun e w' => e = .returned (.bool true) ∧ Grown w w' := by
  go_enter Try.func6, Try.ntmps6
  go_wp2
  refine wp_loop_rounds 6 ?_
  rw [rounds_succ]
  go_wp2_with (go_at_call 12; refine (d0.out _).mono ?_; rintro e w' ⟨rfl, rfl⟩)
  rw [rounds_succ]
  go_wp2_with (go_at_call 12; refine (d1.out _).mono ?_; rintro e w' ⟨rfl, rfl⟩)
  rw [rounds_succ]
  go_wp2_with (go_at_call 12; refine (d2.out _).mono ?_; rintro e w' ⟨rfl, rfl⟩)
  rw [rounds_succ]
  go_wp2_with (go_at_call 12; refine (d3.out _).mono ?_; rintro e w' ⟨rfl, rfl⟩)
  rw [rounds_succ]
  go_wp2_with (go_at_call 12; refine (d4.out _).mono ?_; rintro e w' ⟨rfl, rfl⟩)
  rw [rounds_succ]
  go_wp2
  go_ret
  exact ⟨rfl, by repeat (first | exact Grown.refl _ | apply Grown.drew | apply Grown.alloc)⟩

set_option maxHeartbeats 1000000 in
/-- zzNameCarries at a tab's or a carriage return's name: printable ASCII alone. -/
theorem carriesA (s : ByteArray) (c : Int) (hc : c = 9 ∨ c = 13) (hs : 0 < s.size) (hs' : s.size ≤ 20)
    (hb : ∀ k : Nat, k < s.size → ∃ b : Int, 32 ≤ b ∧ b ≤ 126 ∧ ∀ w, (Instr.index 9 (.string s) (.int .i64 (k : Int))).run Try.prog w = .ok (.int .u8 b) w) (w : World) :
    Calls Try.prog 6 #[.string s, .int .u8 c] w fun e w' => e = .returned (.bool true) ∧ Grown w w' := by
  have hz : ((s.size : Int) == 0) = false := by rw [beq_eq_false_iff_ne]; omega
  have H : Hid (∀ k : Nat, k < s.size → ∃ b : Int, 32 ≤ b ∧ b ≤ 126 ∧ ∀ w, (Instr.index 9 (.string s) (.int .i64 (k : Int))).run Try.prog w = .ok (.int .u8 b) w) := hb
  clear hb
  rcases hc with rfl | rfl
  · go_enter Try.func6, Try.ntmps6
    go_wp2
    go_loop [5] (fun i => ∃ k : Nat, k ≤ s.size ∧ i = .int .i64 k) (fun i => s.size - (intOf i).toNat)
    case atStart => exact ⟨0, Nat.zero_le _, rfl⟩
    case round =>
      obtain ⟨k, hk, rfl⟩ := hrel
      by_cases hlt : k < s.size
      · obtain ⟨b, hb0, hb1, hx⟩ := H.out k hlt
        go_wp2
        go_round
        case rel => exact ⟨k + 1, by omega, by go_num⟩
        case measure => simp [intOf]; omega
      · go_wp2
        go_ret
        exact ⟨rfl, Grown.refl _⟩
  · go_enter Try.func6, Try.ntmps6
    go_wp2
    go_loop [5] (fun i => ∃ k : Nat, k ≤ s.size ∧ i = .int .i64 k) (fun i => s.size - (intOf i).toNat)
    case atStart => exact ⟨0, Nat.zero_le _, rfl⟩
    case round =>
      obtain ⟨k, hk, rfl⟩ := hrel
      by_cases hlt : k < s.size
      · obtain ⟨b, hb0, hb1, hx⟩ := H.out k hlt
        go_wp2
        go_round
        case rel => exact ⟨k + 1, by omega, by go_num⟩
        case measure => simp [intOf]; omega
      · go_wp2
        go_ret
        exact ⟨rfl, Grown.refl _⟩

/-- What characterName answers. -/
def nameOf (c : Int) : ByteArray :=
  if c == 9 then ⟨#[117, 110, 101, 32, 116, 97, 98, 117, 108, 97, 116, 105, 111, 110]⟩
  else if c == 13 then ⟨#[117, 110, 32, 114, 101, 116, 111, 117, 114, 32, 99, 104, 97, 114, 105, 111, 116]⟩
  else ⟨#[194, 171, 32]⟩ ++ Utf8.encode c ++ ⟨#[32, 194, 187]⟩

theorem encode_le : ∀ n : Fin 256, (Utf8.encode (n.val : Int)).size ≤ 2 := by decide +kernel

/-- The byte that a name tells. -/
def back : List UInt8 → Nat
  | [_, _, _, x, _, _, _] => x.toNat
  | [_, _, _, x, y, _, _, _] => (x.toNat - 192) * 64 + (y.toNat - 128)
  | [_, _, _, _, _, _, _, _, _, _, _, _, _, _] => 9
  | _ => 13

theorem back_name : ∀ n : Fin 256, back (nameOf (n.val : Int)).data.toList = n.val := by decide +kernel
theorem name_low : ∀ n : Fin 256, n.val < 128 → n.val ≠ 9 → n.val ≠ 13 → (nameOf (n.val : Int)).data.toList = [194, 171, 32, UInt8.ofNat n.val, 32, 194, 187] := by decide +kernel
theorem name_high : ∀ n : Fin 256, 128 ≤ n.val → (nameOf (n.val : Int)).data.toList = [194, 171, 32, UInt8.ofNat (192 + n.val / 64), UInt8.ofNat (128 + n.val % 64), 32, 194, 187] := by decide +kernel

theorem name_inj (n m : Nat) (hn : n < 256) (hm : m < 256) : ((nameOf (n : Int)).toList == (nameOf (m : Int)).toList) = ((n : Int) == (m : Int)) := by
  rw [ByteArray.toList_eq, ByteArray.toList_eq, Bool.eq_iff_iff, beq_iff_eq, beq_iff_eq]
  constructor
  · intro h
    have h1 := back_name ⟨n, hn⟩
    have h2 := back_name ⟨m, hm⟩
    simp only at h1 h2
    rw [h, h2] at h1
    omega
  · intro h; rw [h]

/-- An index into a string whose bytes are known. -/
theorem idx_of {s : ByteArray} {l : List UInt8} (hs : s.data.toList = l) (i : Nat) (b : UInt8) (h : l[i]? = some b) (j : Int) (hj : j = (i : Int)) (v : Int) (hv : v = (b.toNat : Int)) :
    ∀ w, (Instr.index 9 (.string s) (.int .i64 j)).run Try.prog w = .ok (.int .u8 v) w := by
  intro w
  subst hj hv hs
  have hlt : i < s.size := by
    have := (List.getElem?_eq_some_iff.1 h).1
    simpa using this
  rw [run_index_string w 9 s .i64 (i : Int) Try.underlying9, dif_pos (by omega)]
  have hb : s[i]'hlt = b := by
    have h2 := (List.getElem?_eq_some_iff.1 h).2
    have h3 : s.data[i]'hlt = b := by simpa using h2
    exact h3
  simp only [Int.toNat_natCast, hb]

theorem size_of {s : ByteArray} {l : List UInt8} (hs : s.data.toList = l) : s.size = l.length := by
  subst hs; simp

/-- ZZcharacterName. -/
theorem name_any (n : Nat) (hn : n < 256) (w : World) :
    Calls Try.prog 5 #[.int .u8 (n : Int)] w fun e w' => e = .returned (.string (nameOf n)) ∧ w = w' := by
  have he : (Utf8.encode (n : Int)).size ≤ 2 := encode_le ⟨n, hn⟩
  unfold nameOf
  by_cases h9 : ((n : Int) == 9) = true
  · rw [if_pos h9]
    go_enter Try.func5, Try.ntmps5
    go_wp2
    go_ret
    exact ⟨rfl, rfl⟩
  · rw [if_neg h9]
    by_cases h13 : ((n : Int) == 13) = true
    · rw [if_pos h13]
      go_enter Try.func5, Try.ntmps5
      go_wp2
      go_ret
      exact ⟨rfl, rfl⟩
    · rw [if_neg h13]
      have k9 : ((n : Int) == 9) = false := by simpa using h9
      have k13 : ((n : Int) == 13) = false := by simpa using h13
      clear h9 h13
      go_enter Try.func5, Try.ntmps5
      go_wp2
      go_ret
      exact ⟨rfl, rfl⟩

theorem printable {s : ByteArray} {l : List UInt8} (hs : s.data.toList = l) (hl : l.all (fun b => decide (32 ≤ b.toNat) && decide (b.toNat ≤ 126)) = true) :
    ∀ k : Nat, k < s.size → ∃ b : Int, 32 ≤ b ∧ b ≤ 126 ∧ ∀ w, (Instr.index 9 (.string s) (.int .i64 (k : Int))).run Try.prog w = .ok (.int .u8 b) w := by
  intro k hk
  have hk' : k < l.length := by rw [← size_of hs]; exact hk
  have hb := List.all_eq_true.1 hl l[k] (List.getElem_mem hk')
  simp only [Bool.and_eq_true, decide_eq_true_eq] at hb
  exact ⟨(l[k].toNat : Int), by omega, by omega, idx_of hs k l[k] (List.getElem?_eq_getElem hk') _ rfl _ rfl⟩

/-- zzNameCarries at a byte's own name. -/
theorem carries_any (n : Nat) (hn : n < 256) (w : World) :
    Calls Try.prog 6 #[.string (nameOf n), .int .u8 (n : Int)] w fun e w' => e = .returned (.bool true) ∧ Grown w w' := by
  by_cases h9 : n = 9
  · subst h9
    have hd : (nameOf ((9 : Nat) : Int)).data.toList = [117, 110, 101, 32, 116, 97, 98, 117, 108, 97, 116, 105, 111, 110] := rfl
    exact carriesA _ _ (Or.inl rfl) (by rw [size_of hd]; decide) (by rw [size_of hd]; decide) (printable hd (by decide)) w
  by_cases h13 : n = 13
  · subst h13
    have hd : (nameOf ((13 : Nat) : Int)).data.toList = [117, 110, 32, 114, 101, 116, 111, 117, 114, 32, 99, 104, 97, 114, 105, 111, 116] := rfl
    exact carriesA _ _ (Or.inr rfl) (by rw [size_of hd]; decide) (by rw [size_of hd]; decide) (printable hd (by decide)) w
  have k9 : ((n : Int) == 9) = false := by rw [beq_eq_false_iff_ne]; omega
  have k13 : ((n : Int) == 13) = false := by rw [beq_eq_false_iff_ne]; omega
  by_cases hlow : n < 128
  · have hd := name_low ⟨n, hn⟩ hlow h9 h13
    simp only at hd
    have hsz : (nameOf (n : Int)).size = 7 := by rw [size_of hd]; rfl
    have hv : ((UInt8.ofNat n).toNat : Int) = (n : Int) := by rw [UInt8.toNat_ofNat']; omega
    refine carries1 _ _ hsz (by omega) (by omega) k9 k13 ?_ ?_ ?_ ?_ ?_ w
    · exact fun w => decode2 _ 0 1 rfl 194 43 (by omega) (by omega) (by omega) (Or.inl rfl) (by omega) (idx_of hd 0 194 rfl _ rfl _ rfl) (idx_of hd 1 171 rfl _ rfl _ rfl) w
    · exact fun w => decode1 _ 2 32 (by omega) (by omega) (idx_of hd 2 32 rfl _ rfl _ rfl) w
    · exact fun w => decode1 _ 3 n (by omega) (by omega) (idx_of hd 3 _ rfl _ rfl _ hv.symm) w
    · exact fun w => decode1 _ 4 32 (by omega) (by omega) (idx_of hd 4 32 rfl _ rfl _ rfl) w
    · exact fun w => decode2 _ 5 6 rfl 194 59 (by omega) (by omega) (by omega) (Or.inl rfl) (by omega) (idx_of hd 5 194 rfl _ rfl _ rfl) (idx_of hd 6 187 rfl _ rfl _ rfl) w
  · have hd := name_high ⟨n, hn⟩ (by simpa using hlow)
    simp only at hd
    have hsz : (nameOf (n : Int)).size = 8 := by rw [size_of hd]; rfl
    have hv : ((UInt8.ofNat (192 + n / 64)).toNat : Int) = 192 + ((n / 64 : Nat) : Int) := by rw [UInt8.toNat_ofNat']; omega
    have hu : ((UInt8.ofNat (128 + n % 64)).toNat : Int) = 128 + ((n % 64 : Nat) : Int) := by rw [UInt8.toNat_ofNat']; omega
    refine carries2 _ _ hsz (by omega) (by omega) k9 k13 ?_ ?_ ?_ ?_ ?_ w
    · exact fun w => decode2 _ 0 1 rfl 194 43 (by omega) (by omega) (by omega) (Or.inl rfl) (by omega) (idx_of hd 0 194 rfl _ rfl _ rfl) (idx_of hd 1 171 rfl _ rfl _ rfl) w
    · exact fun w => decode1 _ 2 32 (by omega) (by omega) (idx_of hd 2 32 rfl _ rfl _ rfl) w
    · intro w
      have hr := decode2 (nameOf (n : Int)) 3 4 rfl (192 + ((n / 64 : Nat) : Int)) (n % 64) (by omega) (by omega) (by omega) (by omega) (by omega) (idx_of hd 3 _ rfl _ rfl _ hv.symm) (idx_of hd 4 _ rfl _ rfl _ hu.symm) w
      rw [show (192 + ((n / 64 : Nat) : Int) - 192) * 64 + ((n % 64 : Nat) : Int) = (n : Int) by omega] at hr
      exact hr
    · exact fun w => decode1 _ 5 32 (by omega) (by omega) (idx_of hd 5 32 rfl _ rfl _ rfl) w
    · exact fun w => decode2 _ 6 7 rfl 194 59 (by omega) (by omega) (by omega) (Or.inl rfl) (by omega) (idx_of hd 6 194 rfl _ rfl _ rfl) (idx_of hd 7 187 rfl _ rfl _ rfl) w

theorem grown_trans {a b c : World} (h : Grown a b) (k : Grown b c) : Grown a c :=
  ⟨World.keptBut_trans h.1 k.1, fun x => (k.2.1 x).trans (h.2.1 x), Nat.le_trans h.2.2 k.2.2⟩
end Go.Proofs.Qxb6604381a
