/- The string of 8 bytes of a number. -/
import Derived.Test.YtceildcbehaoaaaBtSl
import Derived.Test.YtceildcbehaoaaaProg
import Derived.Laws.BitsAllLaws
import Derived.Laws.BytesArg
namespace Go.Proofs.Ytceildcbehaoaaa.Bt.Nu
set_option linter.unusedVariables false
set_option linter.unusedSimpArgs false
open Go Go.RowKit Go.Proofs.Ytceildcbehaoaaa.Bt

variable {w : World}

/-- The bytes of a number below 2^64, the greatest first. -/
def byt (u : Int) : List Int := [u / 72057594037927936, u / 281474976710656 % 256, u / 1099511627776 % 256, u / 4294967296 % 256, u / 16777216 % 256, u / 65536 % 256, u / 256 % 256, u % 256]
def num (n : Int) : ByteArray := strOfNums (byt (n + 9223372036854775808))

theorem xor_hi (n : Int) (h1 : -9223372036854775808 ≤ n) (h2 : n ≤ 9223372036854775807) : bits .xor .u64 (IntKind.u64.wrap n) 9223372036854775808 = n + 9223372036854775808 := by
  have e : IntKind.u64.wrap n = n % 18446744073709551616 := by simp [IntKind.wrap, IntKind.bits, IntKind.signed]
  rw [e, u64_xor _ _ (by omega) (by omega) (by decide) (by decide)]
  obtain ⟨a, ha⟩ : ∃ a, a = (n % 18446744073709551616).toNat := ⟨_, rfl⟩
  rw [← ha]
  have hp : (9223372036854775808 : Int).toNat = 2 ^ 63 := rfl
  rw [hp]
  have m1 : (a ^^^ 2 ^ 63) % 2 ^ 63 = a % 2 ^ 63 := by rw [Nat.xor_mod_two_pow, Nat.mod_self, Nat.xor_zero]
  have d1 : (a ^^^ 2 ^ 63) / 2 ^ 63 = a / 2 ^ 63 ^^^ 1 := by rw [Nat.xor_div_two_pow]
  have hb : a / 2 ^ 63 = 0 ∨ a / 2 ^ 63 = 1 := by omega
  have d2 : (a ^^^ 2 ^ 63) / 2 ^ 63 = 1 - a / 2 ^ 63 := by
    rw [d1]
    rcases hb with h | h <;> rw [h] <;> rfl
  clear d1 hp
  generalize a ^^^ 2 ^ 63 = x at *
  omega


theorem make8 (u : World) : (Instr.makeSlice 66 (.int .i64 8) (.int .i64 8)).run Try.prog u = .ok (.slice (some ⟨u.heap.size, 0, none⟩) 8 8) (u.alloc (.cells #[.int .u8 0, .int .u8 0, .int .u8 0, .int .u8 0, .int .u8 0, .int .u8 0, .int .u8 0, .int .u8 0] 5)) := by kernel_rfl
set_option maxRecDepth 100000 in
set_option maxHeartbeats 1000000 in
theorem number_is (n : Int) (h1 : -9223372036854775808 ≤ n) (h2 : n ≤ 9223372036854775807) : Calls Try.prog 12 #[.int .i64 n] w (fun e w' => e = .returned (.string (num n)) ∧ Below w.heap.size w w') := by
  have hmk := make8
  have hx := xor_hi n h1 h2
  have hn : num n = strOfNums (byt (n + 9223372036854775808)) := rfl
  have hu1 : 0 ≤ n + 9223372036854775808 := by omega
  have hu2 : n + 9223372036854775808 ≤ 18446744073709551615 := by omega
  rw [hn]
  generalize n + 9223372036854775808 = u at hx hu1 hu2 ⊢
  clear hn h1 h2
  go_enter Try.func12, Try.ntmps12
  go_wp2
  refine wp_loop_rounds 9 ?_
  rw [rounds_succ]
  go_wp2
  rw [rounds_succ]
  go_wp2
  rw [rounds_succ]
  go_wp2
  rw [rounds_succ]
  go_wp2
  rw [rounds_succ]
  go_wp2
  rw [rounds_succ]
  go_wp2
  rw [rounds_succ]
  go_wp2
  rw [rounds_succ]
  go_wp2
  have hcv := run_convert_bytes_arg (P := Try.prog) (w.alloc (.cells #[.int .u8 (u / 72057594037927936), .int .u8 (u / 281474976710656 % 256), .int .u8 (u / 1099511627776 % 256), .int .u8 (u / 4294967296 % 256), .int .u8 (u / 16777216 % 256), .int .u8 (u / 65536 % 256), .int .u8 (u / 256 % 256), .int .u8 (u % 256)] 5)) 66 5 Try.underlying66 Try.underlying5 w.heap.size 0 8 8 (byt u) rfl (fun i hi => by
    rw [Nat.zero_add]
    have e := (Bx.new w ((byt u).map (Value.int .u8)) 5).cell i (v := .int .u8 ((byt u).getD i 0)) (by rw [List.getElem?_map, List.getElem?_eq_getElem hi, List.getD_eq_getElem?_getD, List.getElem?_eq_getElem hi]; rfl)
    exact e) 9 Try.underlying9
  rw [rounds_succ]
  go_wp2
  go_ret
  exact ⟨rfl, (Below.refl _ _).alloc (Nat.le_refl _) _⟩
/-! ### the order -/
theorem lt_pre {α : Type} [LT α] : ∀ (l : List α) {x y : List α}, x < y → l ++ x < l ++ y
  | [], _, _, h => h
  | _ :: l, _, _, h => List.Lex.cons (lt_pre l h)
theorem lt_app {α : Type} [LT α] : ∀ (l m : List α) (x y : List α), l.length = m.length → l < m → l ++ x < m ++ y
  | [], [], _, _, _, h => by cases h
  | a :: l, b :: m, x, y, hl, h => by
    cases h with
    | rel h => exact List.Lex.rel h
    | cons h => exact List.Lex.cons (lt_app l m x y (by simpa using hl) h)
def dig : Nat → Int → List UInt8
  | 0, _ => []
  | k + 1, u => dig k (u / 256) ++ [UInt8.ofNat (u % 256).toNat]
theorem dig_length : ∀ (k : Nat) (u : Int), (dig k u).length = k
  | 0, _ => rfl
  | k + 1, u => by rw [dig, List.length_append, dig_length k]; rfl
theorem dig_lt : ∀ (k : Nat) (u v : Int), 0 ≤ u → u < v → v < 256 ^ k → dig k u < dig k v
  | 0, u, v, h0, h, h1 => by simp at h1; omega
  | k + 1, u, v, h0, h, h1 => by
    rw [dig, dig]
    have hp : v / 256 < 256 ^ k := by
      rw [Int.pow_succ] at h1
      exact Int.ediv_lt_of_lt_mul (by decide) h1
    rcases Int.lt_or_le (u / 256) (v / 256) with hq | hq
    · exact lt_app _ _ _ _ (by rw [dig_length, dig_length]) (dig_lt k _ _ (by omega) hq hp)
    · have he : u / 256 = v / 256 := by omega
      rw [he]
      refine lt_pre _ (List.Lex.rel ?_)
      have hd : u % 256 < v % 256 := by omega
      rw [UInt8.lt_iff_toNat_lt, UInt8.toNat_ofNat', UInt8.toNat_ofNat']
      omega
theorem byt_dig {u : Int} (h0 : 0 ≤ u) (h : u < 18446744073709551616) : (byt u).map (fun n => UInt8.ofNat n.toNat) = dig 8 u := by
  simp only [byt, dig, List.map_cons, List.map_nil, List.nil_append, List.cons_append]
  rw [show u / 256 / 256 = u / 65536 by omega, show u / 65536 / 256 = u / 16777216 by omega, show u / 16777216 / 256 = u / 4294967296 by omega, show u / 4294967296 / 256 = u / 1099511627776 by omega, show u / 1099511627776 / 256 = u / 281474976710656 by omega, show u / 281474976710656 / 256 = u / 72057594037927936 by omega, show u / 72057594037927936 % 256 = u / 72057594037927936 by omega]
theorem num_list {n : Int} (h1 : -9223372036854775808 ≤ n) (h2 : n ≤ 9223372036854775807) : (num n).toList = dig 8 (n + 9223372036854775808) := by
  rw [← byt_dig (by omega) (by omega)]
  unfold num
  rw [ByteArray.toList_eq, strOfNums_data]
theorem num_lt {m n : Int} (h1 : -9223372036854775808 ≤ m) (h2 : n ≤ 9223372036854775807) (h : m < n) : (num m).toList < (num n).toList := by
  rw [num_list h1 (by omega), num_list (by omega) h2]
  exact dig_lt 8 _ _ (by omega) (by omega) (by omega)
end Go.Proofs.Ytceildcbehaoaaa.Bt.Nu
