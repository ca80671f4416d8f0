/- The reference's functions on numbers and bytes. The format's records, in plain Lean. The reference's functions on headers. The reference's functions on lists of files. The checksum, in plain Lean: bit by bit. The reference's checksum. The reference's functions on lists of files: sizes, stored files, guards. The reference's functions on lists of files: HeaderOk. The reference's guards: Good, Directories. Texts that are UTF-8, in plain Lean. -/
import Derived.Test.YtlmefkhglooepaaGreatDoorPart1
set_option linter.unusedSimpArgs false
set_option linter.unusedVariables false
namespace Go.Proofs.YtlmefkhglooepaaGreatDoor
open Go
set_option linter.unusedSimpArgs false
set_option linter.unusedVariables false
variable {G : Nat → Option Obj}
theorem cBytes (n k : Nat) (hn : n < 2 ^ 62) (hk : k ≤ 8) : Fn P G 49 #[.int .i64 n, .int .i64 k] [] fun v H => v = .string (str (le k n)) ∧ H = [] := by
  refine fn_intro (args := [_,_]) Tryz.func49 Tryz.ntmps49 rfl ?_
  refine w_seq ?_
  refine w_region ?_
  refine o_t x_as ?_
  refine o_nil ?_
  refine w_seq ?_
  refine w_region ?_
  refine o_bs0 Tryz.underlying78 e78 (fun b => ?_)
  refine o_t x_as ?_
  refine o_nil ?_
  refine w_seq ?_
  refine w_block ?_ -- 0
  refine w_loop (α := Nat × Nat × Value × Res) (fun x => [(0, .int .i64 x.2.1), (1, .int .i64 ((k - x.1 : Nat) : Int)), (5, x.2.2.1)]) (fun x => [x.2.2.2]) (fun x => x.1 ≤ k ∧ x.2.1 = n / 256 ^ x.1 ∧ Own 5 1 x.2.2.1 x.1 ((le x.1 n).map u8) x.2.2.2) (fun x => k - x.1) (0, n, .slice (some ⟨b, 0, none⟩) 0 0, pt b [] 5) (wka) (hka) ⟨Nat.zero_le _, by simp, Own.empty 5 1 b⟩ ?_
  rintro ⟨i, m, o, r⟩ ⟨hi, hm, hO⟩
  dsimp only at hi hm hO ⊢
  have hmn : m ≤ n := by rw [hm]; exact Nat.div_le_self _ _
  refine w_seq ?_
  refine w_seq ?_
  refine w_region ?_
  refine o_t x_mv ?_
  refine o_t x_cmp ?_
  refine o_nil ?_
  refine w_cond (fun g => rfl) (fun hc => ?_) (fun hc => ?_) -- ('Go.Operand.tmp', 8)
  · --
    refine w_skip ?_
    refine w_seq ?_
    refine w_block ?_ -- 1
    refine w_seq ?_
    have hik : i < k := by have := of_decide_eq_true hc; omega
    have hb : IntKind.u8.wrap ((m : Int) % 256) = ((UInt8.ofNat m).toNat : Int) := by
      rw [w_u8 (by omega), UInt8.toNat_ofNat']; omega
    refine w_region ?_
    refine o_t x_mv ?_
    refine o_t x_mv ?_
    refine o_t x_rem ?_
    refine o_t (x_cv ⟨_, Tryz.underlying3⟩ Tryz.underlying5 (hz := hb)) ?_
    refine o_bs1 Tryz.underlying78 z5 (fun b1 => ?_)
    refine o_app info5 Tryz.underlying78 rfl hO (pulla) Rd.all rfl (by simp [Value.oneCell']) (by simp [maxLen]; omega) (by omega) (fun v' r' hO' => ?_)
    refine o_t x_as ?_
    refine o_nil ?_
    refine w_region ?_
    refine o_t x_mv ?_
    refine o_t x_quo ?_
    refine o_t x_as ?_
    refine o_nil ?_
    refine w_region ?_
    refine o_t x_mv ?_
    refine o_t x_sub ?_
    refine o_t x_as ?_
    refine o_nil ?_
    refine ⟨(i + 1, m / 256, v', r'), wka, hka, ⟨hik, ?_, ?_⟩, ?_⟩
    · dsimp only; rw [hm, Nat.div_div_eq_div_mul, Nat.pow_succ]
    · dsimp only; rw [le_snoc, List.map_append, ← hm]; exact hO'
    · dsimp only; omega
  · --
    refine w_exit ?_ -- 0
    obtain rfl : i = k := by have := of_decide_eq_false hc; omega
    refine w_seq ?_
    refine w_region ?_
    refine o_t x_mv ?_
    refine o_t (x_own2s Tryz.underlying78 Tryz.underlying5 Tryz.underlying9 hO (pulla)) ?_
    refine o_t x_as ?_
    refine o_nil ?_
    refine w_ret (r_1 rfl ⟨rfl, rfl⟩)
theorem take_num (l : List UInt8) (i : Nat) (c : UInt8) (h : l[i]? = some c) : num (l.drop i) = c.toNat + 256 * num (l.drop (i + 1)) := by
  rw [List.drop_eq_getElem_cons (List.getElem?_eq_some_iff.1 h).1, num, (List.getElem?_eq_some_iff.1 h).2]
theorem cNumber (l : List UInt8) (hl : l.length ≤ 4) : Fn P G 36 #[.string (str l)] [] fun v H => v = .int .i64 (num l) ∧ H = [] := by
  refine fn_intro (args := [_]) Tryz.func36 Tryz.ntmps36 rfl ?_
  refine w_seq ?_
  refine w_region ?_
  refine o_t x_as ?_
  refine o_nil ?_
  refine w_seq ?_
  refine w_region ?_
  refine o_t x_as ?_
  refine o_nil ?_
  refine w_seq ?_
  refine w_seq ?_
  refine w_region ?_
  refine o_t x_mv ?_
  refine o_t (x_lens Tryz.underlying9) ?_
  refine o_t x_sub ?_
  refine o_t x_as ?_
  refine o_nil ?_
  refine w_block ?_ -- 0
  refine w_loop (α := Nat) (fun x => [(0, .string (str l)), (3, .int .i64 (num (l.drop x))), (4, .int .i64 ((x : Int) - 1))]) (fun x => []) (fun x => x ≤ l.length) (fun x => x) l.length (.cons (fun _ => rfl) (.cons (fun _ => by simp [val, args0, num]) (.cons (fun _ => rfl) (.nil _)))) (hka) (Nat.le_refl _) (fun x hx => ?_)
  refine w_seq ?_
  refine w_seq ?_
  refine w_region ?_
  refine o_t x_mv ?_
  refine o_t x_cmp ?_
  refine o_nil ?_
  refine w_cond (fun g => rfl) (fun hc => ?_) (fun hc => ?_) -- ('Go.Operand.tmp', 9)
  · --
    refine w_skip ?_
    refine w_seq ?_
    refine w_block ?_ -- 1
    obtain ⟨i, rfl⟩ : ∃ i, x = i + 1 := ⟨x - 1, by have := of_decide_eq_true hc; omega⟩
    have h0 := List.getElem?_eq_getElem (l := l) (i := i) (by omega)
    have h1 := take_num l i l[i] h0
    have h2 := num_lt (l.drop (i + 1))
    have h3 := Nat.pow_le_pow_right (n := 256) (by decide) (show (l.drop (i + 1)).length ≤ 4 by simp; omega)
    have h4 := l[i].toNat_lt
    have h5 : (256 : Nat) ^ 4 = 4294967296 := by decide
    generalize num (l.drop (i + 1)) = q at *
    generalize 256 ^ (l.drop (i + 1)).length = q2 at *
    refine w_region ?_
    refine o_t x_mv ?_
    refine o_t x_mul ?_
    refine o_t x_mv ?_
    refine o_t x_mv ?_
    refine o_t (x_ixs (j := i) Tryz.underlying9 h0) ?_
    refine o_t (x_cv ⟨_, Tryz.underlying5⟩ Tryz.underlying3) ?_
    refine o_t x_add ?_
    refine o_t x_as ?_
    refine o_nil ?_
    refine w_region ?_
    refine o_t x_mv ?_
    refine o_t x_sub ?_
    refine o_t x_as ?_
    refine o_nil ?_
    exact ⟨i, .cons (fun _ => rfl) (.cons (fun _ => congrArg (Value.int _) (by omega)) (.cons (fun _ => congrArg (Value.int _) (by omega)) (.nil _))), hka, by omega, by omega⟩
  · --
    refine w_exit ?_ -- 0
    obtain rfl : x = 0 := by have := of_decide_eq_false hc; omega
    refine w_seq ?_
    refine w_region ?_
    refine o_t x_mv ?_
    refine o_t x_as ?_
    refine o_nil ?_
    refine w_ret (r_1 rfl ⟨rfl, rfl⟩)
theorem cWithin (n lo hi : Int) : Fn P G 42 #[.int .i64 n, .int .i64 lo, .int .i64 hi] [] fun v H => v = .bool (decide (lo ≤ n ∧ n ≤ hi)) ∧ H = [] := by
  refine fn_intro (args := [_,_,_]) Tryz.func42 Tryz.ntmps42 rfl ?_
  refine w_seq ?_
  refine w_region ?_
  refine o_t x_as ?_
  refine o_nil ?_
  refine w_seq ?_
  by_cases h : lo ≤ n
  · refine w_region ?_
    refine o_t x_mv ?_
    refine o_t x_mv ?_
    refine o_t x_cmp ?_
    refine o_t x_mv ?_
    first | refine o_t (x_g x_mv) ?_ | refine o_t x_gs ?_ | refine o_t x_gu ?_
    first | refine o_t (x_g x_mv) ?_ | refine o_t x_gs ?_ | refine o_t x_gu ?_
    first | refine o_t (x_g x_cmp) ?_ | refine o_t x_gs ?_ | refine o_t x_gu ?_
    refine o_t x_pick ?_
    refine o_t x_as ?_
    refine o_nil ?_
    refine w_ret (r_1 rfl ⟨?_, rfl⟩)
    simp [h, cmpI]
  · refine w_region ?_
    refine o_t x_mv ?_
    refine o_t x_mv ?_
    refine o_t x_cmp ?_
    refine o_t x_mv ?_
    first | refine o_t (x_g x_mv) ?_ | refine o_t x_gs ?_ | refine o_t x_gu ?_
    first | refine o_t (x_g x_mv) ?_ | refine o_t x_gs ?_ | refine o_t x_gu ?_
    first | refine o_t (x_g x_cmp) ?_ | refine o_t x_gs ?_ | refine o_t x_gu ?_
    refine o_t x_pick ?_
    refine o_t x_as ?_
    refine o_nil ?_
    refine w_ret (r_1 rfl ⟨?_, rfl⟩)
    simp [h]
end Go.Proofs.YtlmefkhglooepaaGreatDoor
namespace Go.Proofs.YtlmefkhglooepaaGreatDoor
open Go
/-- A header. -/
structure Hd where
  name : List UInt8
  comment : List UInt8
  extra : List UInt8
  non : Bool
  creator : Int
  reader : Int
  flags : Int
  method : Int
  time : Int
  date : Int
  crc : Int
  packed : Int
  size : Int
  ext : Int
structure Ok (h : Hd) : Prop where
  creator : 0 ≤ h.creator ∧ h.creator ≤ 65535
  reader : 0 ≤ h.reader ∧ h.reader ≤ 65535
  flags : 0 ≤ h.flags ∧ h.flags ≤ 65535
  method : 0 ≤ h.method ∧ h.method ≤ 65535
  time : 0 ≤ h.time ∧ h.time ≤ 65535
  date : 0 ≤ h.date ∧ h.date ≤ 65535
  crc : 0 ≤ h.crc ∧ h.crc ≤ 4294967295
  packed : 0 ≤ h.packed ∧ h.packed ≤ 4294967294
  size : 0 ≤ h.size ∧ h.size ≤ 4294967294
  ext : 0 ≤ h.ext ∧ h.ext ≤ 4294967295
  name : h.name.length ≤ 60000
  comment : h.comment.length ≤ 60000
  extra : h.extra.length ≤ 60000
def i2 (z : Int) : List UInt8 := le 2 z.toNat
def i4 (z : Int) : List UInt8 := le 4 z.toNat
@[simp] theorem i2_length (z : Int) : (i2 z).length = 2 := le_length _ _
@[simp] theorem i4_length (z : Int) : (i4 z).length = 4 := le_length _ _
def fieldsT (h : Hd) : List UInt8 := i2 h.flags ++ i2 h.method ++ i2 h.time ++ i2 h.date ++ i4 h.crc ++ i4 h.packed ++ i4 h.size
@[simp] theorem fieldsT_length (h : Hd) : (fieldsT h).length = 20 := by simp [fieldsT]
def localT (h : Hd) : List UInt8 := [80, 75, 3, 4] ++ i2 h.reader ++ fieldsT h ++ i2 h.name.length ++ i2 h.extra.length ++ h.name ++ h.extra
@[simp] theorem localT_length (h : Hd) : (localT h).length = 30 + h.name.length + h.extra.length := by simp [localT]; omega
def centralT (h : Hd) (at' : Nat) : List UInt8 :=
  [80, 75, 1, 2] ++ i2 h.creator ++ i2 h.reader ++ fieldsT h ++ i2 h.name.length ++ i2 h.extra.length ++ i2 h.comment.length ++ i2 0 ++ i2 0 ++ i4 h.ext ++ i4 at' ++ h.name ++ h.extra ++ h.comment
@[simp] theorem centralT_length (h : Hd) (a : Nat) : (centralT h a).length = 46 + h.name.length + h.extra.length + h.comment.length := by simp [centralT]; omega
def endT (many size at' : Nat) (c : List UInt8) : List UInt8 := [80, 75, 5, 6] ++ i2 0 ++ i2 0 ++ i2 many ++ i2 many ++ i4 size ++ i4 at' ++ i2 c.length ++ c
@[simp] theorem endT_length (m s a : Nat) (c : List UInt8) : (endT m s a c).length = 22 + c.length := by simp [endT]; omega
/-- A file that is put into an archive. -/
structure En where
  h : Hd
  data : List UInt8
def fileT (e : En) : List UInt8 := localT e.h ++ e.data
def filesT : List En → List UInt8
  | [] => []
  | e :: l => fileT e ++ filesT l
def dirT : List En → Nat → List UInt8
  | [], _ => []
  | e :: l, a => centralT e.h a ++ dirT l (a + (fileT e).length)
def archT (l : List En) (c : List UInt8) : List UInt8 := filesT l ++ dirT l 0 ++ endT l.length (dirT l 0).length (filesT l).length c
end Go.Proofs.YtlmefkhglooepaaGreatDoor
namespace Go.Proofs.YtlmefkhglooepaaGreatDoor
open Go
set_option linter.unusedSimpArgs false
set_option linter.unusedVariables false
variable {G : Nat → Option Obj}
def hdC (h : Hd) : List Value := [.string (str h.name), .string (str h.comment), .string (str h.extra), .bool h.non, .int .i64 h.creator, .int .i64 h.reader, .int .i64 h.flags, .int .i64 h.method,
  .int .i64 h.time, .int .i64 h.date, .int .i64 h.crc, .int .i64 h.packed, .int .i64 h.size, .int .i64 h.ext]
abbrev hdV (h : Hd) : Value := .agg #[.string (str h.name), .string (str h.comment), .string (str h.extra), .bool h.non, .int .i64 h.creator, .int .i64 h.reader, .int .i64 h.flags, .int .i64 h.method,
  .int .i64 h.time, .int .i64 h.date, .int .i64 h.crc, .int .i64 h.packed, .int .i64 h.size, .int .i64 h.ext]
theorem cB2 (z : Int) (h0 : 0 ≤ z) (h1 : z < 4611686018427387904) : Fn P G 49 #[.int .i64 z, .int .i64 2] [] fun v H => v = .string (str (i2 z)) ∧ H = [] := by
  obtain ⟨n, rfl⟩ := Int.eq_ofNat_of_zero_le h0
  exact cBytes n 2 (by omega) (by omega)
theorem cB4 (z : Int) (h0 : 0 ≤ z) (h1 : z < 4611686018427387904) : Fn P G 49 #[.int .i64 z, .int .i64 4] [] fun v H => v = .string (str (i4 z)) ∧ H = [] := by
  obtain ⟨n, rfl⟩ := Int.eq_ofNat_of_zero_le h0
  exact cBytes n 4 (by omega) (by omega)
theorem cFields (h : Hd) (k : Ok h) : Fn P G 73 #[hdV h] [] fun v H => v = .string (str (fieldsT h)) ∧ H = [] := by
  obtain ⟨_, _, _, _, _, _, _, _, _, _, _, _, _⟩ := k
  refine fn_intro (args := [_]) Tryz.func73 Tryz.ntmps73 rfl ?_
  refine w_seq ?_
  refine w_region ?_
  refine o_bx (fun b1 => ?_)
  refine o_t x_as ?_
  refine o_nil ?_
  refine w_seq ?_
  refine w_quiet mixed (by kernel_rfl) ?_
  refine q_t (x_fa f36_6) ?_
  refine q_t (x_ld k3) ?_
  refine q_call Tryz.call49 haa spla (cB2 _ (by omega) (by omega)) ?_
  refine q_t (x_fa f36_7) ?_
  refine q_t (x_ld k3) ?_
  refine q_call Tryz.call49 haa spla (cB2 _ (by omega) (by omega)) ?_
  refine q_t x_cat ?_
  refine q_t (x_fa f36_8) ?_
  refine q_t (x_ld k3) ?_
  refine q_call Tryz.call49 haa spla (cB2 _ (by omega) (by omega)) ?_
  refine q_t x_cat ?_
  refine q_t (x_fa f36_9) ?_
  refine q_t (x_ld k3) ?_
  refine q_call Tryz.call49 haa spla (cB2 _ (by omega) (by omega)) ?_
  refine q_t x_cat ?_
  refine q_t (x_fa f36_10) ?_
  refine q_t (x_ld k3) ?_
  refine q_call Tryz.call49 haa spla (cB4 _ (by omega) (by omega)) ?_
  refine q_t x_cat ?_
  refine q_t (x_fa f36_11) ?_
  refine q_t (x_ld k3) ?_
  refine q_call Tryz.call49 haa spla (cB4 _ (by omega) (by omega)) ?_
  refine q_t x_cat ?_
  refine q_t (x_fa f36_12) ?_
  refine q_t (x_ld k3) ?_
  refine q_call Tryz.call49 haa spla (cB4 _ (by omega) (by omega)) ?_
  refine q_t x_cat ?_
  refine q_t x_as ?_
  refine q_nil ?_
  refine w_ret (r_1 rfl ⟨rfl, rfl⟩)
theorem cSimple (h : Hd) (k : 0 ≤ h.flags) (k' : h.flags ≤ 65535) : Fn P G 31 #[hdV h] [] fun v H => v = .bool (decide (h.flags / 8 % 2 = 0)) ∧ H = [] := by
  refine fn_intro (args := [_]) Tryz.func31 Tryz.ntmps31 rfl ?_
  refine w_seq ?_
  refine w_region ?_
  refine o_bx (fun b1 => ?_)
  refine o_t x_as ?_
  refine o_nil ?_
  refine w_seq ?_
  refine w_region ?_
  refine o_t (x_fa f36_6) ?_
  refine o_t (x_ld k3) ?_
  refine o_t x_quo ?_
  refine o_t x_rem ?_
  refine o_t x_cmp ?_
  refine o_t x_as ?_
  refine o_nil ?_
  refine w_ret (r_1 rfl ⟨rfl, rfl⟩)
theorem cLocal (h : Hd) (k : Ok h) : Fn P G 47 #[hdV h] [] fun v H => v = .string (str (localT h)) ∧ H = [] := by
  have hf := cFields (G := G) h k
  obtain ⟨_, _, _, _, _, _, _, _, _, _, _, _, _⟩ := k
  refine fn_intro (args := [_]) Tryz.func47 Tryz.ntmps47 rfl ?_
  refine w_seq ?_
  refine w_region ?_
  refine o_bx (fun b1 => ?_)
  refine o_t x_as ?_
  refine o_nil ?_
  refine w_seq ?_
  refine w_quiet mixed (by kernel_rfl) ?_
  refine q_t (x_fa f36_5) ?_
  refine q_t (x_ld k3) ?_
  refine q_call Tryz.call49 haa spla (cB2 _ (by omega) (by omega)) ?_
  refine q_t x_cat ?_
  refine q_t (x_lda g36) ?_
  refine q_call Tryz.call73 haa spla (hf) ?_
  refine q_t x_cat ?_
  refine q_t (x_fa f36_0) ?_
  refine q_t (x_ld k9) ?_
  refine q_t (x_lens Tryz.underlying9) ?_
  refine q_call Tryz.call49 haa spla (cB2 _ (by omega) (by omega)) ?_
  refine q_t x_cat ?_
  refine q_t (x_fa f36_2) ?_
  refine q_t (x_ld k9) ?_
  refine q_t (x_lens Tryz.underlying9) ?_
  refine q_call Tryz.call49 haa spla (cB2 _ (by omega) (by omega)) ?_
  refine q_t x_cat ?_
  refine q_t (x_fa f36_0) ?_
  refine q_t (x_ld k9) ?_
  refine q_t x_cat ?_
  refine q_t (x_fa f36_2) ?_
  refine q_t (x_ld k9) ?_
  refine q_t x_cat ?_
  refine q_t x_as ?_
  refine q_nil ?_
  refine w_ret (r_1 rfl ⟨rfl, rfl⟩)
theorem cCentral (h : Hd) (k : Ok h) (a : Nat) (ha : a < 4611686018427387904) : Fn P G 48 #[hdV h, .int .i64 a] [] fun v H => v = .string (str (centralT h a)) ∧ H = [] := by
  have hf := cFields (G := G) h k
  obtain ⟨_, _, _, _, _, _, _, _, _, _, _, _, _⟩ := k
  refine fn_intro (args := [_,_]) Tryz.func48 Tryz.ntmps48 rfl ?_
  refine w_seq ?_
  refine w_region ?_
  refine o_bx (fun b2 => ?_)
  refine o_t x_as ?_
  refine o_nil ?_
  refine w_seq ?_
  refine w_quiet mixed (by kernel_rfl) ?_
  refine q_t (x_fa f36_4) ?_
  refine q_t (x_ld k3) ?_
  refine q_call Tryz.call49 haa spla (cB2 _ (by omega) (by omega)) ?_
  refine q_t x_cat ?_
  refine q_t (x_fa f36_5) ?_
  refine q_t (x_ld k3) ?_
  refine q_call Tryz.call49 haa spla (cB2 _ (by omega) (by omega)) ?_
  refine q_t x_cat ?_
  refine q_t (x_lda g36) ?_
  refine q_call Tryz.call73 haa spla (hf) ?_
  refine q_t x_cat ?_
  refine q_t (x_fa f36_0) ?_
  refine q_t (x_ld k9) ?_
  refine q_t (x_lens Tryz.underlying9) ?_
  refine q_call Tryz.call49 haa spla (cB2 _ (by omega) (by omega)) ?_
  refine q_t x_cat ?_
  refine q_t (x_fa f36_2) ?_
  refine q_t (x_ld k9) ?_
  refine q_t (x_lens Tryz.underlying9) ?_
  refine q_call Tryz.call49 haa spla (cB2 _ (by omega) (by omega)) ?_
  refine q_t x_cat ?_
  refine q_t (x_fa f36_1) ?_
  refine q_t (x_ld k9) ?_
  refine q_t (x_lens Tryz.underlying9) ?_
  refine q_call Tryz.call49 haa spla (cB2 _ (by omega) (by omega)) ?_
  refine q_t x_cat ?_
  refine q_call Tryz.call49 haa spla (cB2 _ (by omega) (by omega)) ?_
  refine q_t x_cat ?_
  refine q_call Tryz.call49 haa spla (cB2 _ (by omega) (by omega)) ?_
  refine q_t x_cat ?_
  refine q_t (x_fa f36_13) ?_
  refine q_t (x_ld k3) ?_
  refine q_call Tryz.call49 haa spla (cB4 _ (by omega) (by omega)) ?_
  refine q_t x_cat ?_
  refine q_t x_mv ?_
  refine q_call Tryz.call49 haa spla (cB4 _ (by omega) (by omega)) ?_
  refine q_t x_cat ?_
  refine q_t (x_fa f36_0) ?_
  refine q_t (x_ld k9) ?_
  refine q_t x_cat ?_
  refine q_t (x_fa f36_2) ?_
  refine q_t (x_ld k9) ?_
  refine q_t x_cat ?_
  refine q_t (x_fa f36_1) ?_
  refine q_t (x_ld k9) ?_
  refine q_t x_cat ?_
  refine q_t x_as ?_
  refine q_nil ?_
  refine w_ret (r_1 rfl ⟨rfl, rfl⟩)
theorem cEnd (m s a : Nat) (c : List UInt8) (hm : m < 4611686018427387904) (hs : s < 4611686018427387904) (ha : a < 4611686018427387904) (hc : c.length < 4611686018427387904) :
    Fn P G 26 #[.int .i64 m, .int .i64 s, .int .i64 a, .string (str c)] [] fun v H => v = .string (str (endT m s a c)) ∧ H = [] := by
  refine fn_intro (args := [_,_,_,_]) Tryz.func26 Tryz.ntmps26 rfl ?_
  refine w_seq ?_
  refine w_region ?_
  refine o_t x_as ?_
  refine o_nil ?_
  refine w_seq ?_
  refine w_region ?_
  refine o_call Tryz.call49 haa spla (cB2 _ (by omega) (by omega)) ?_
  rintro _ _ HH ⟨rfl, rfl⟩ hHH
  simp only [List.cons_append, List.nil_append, List.append_nil] at hHH; subst hHH
  refine o_t x_cat ?_
  refine o_call Tryz.call49 haa spla (cB2 _ (by omega) (by omega)) ?_
  rintro _ _ HH ⟨rfl, rfl⟩ hHH
  simp only [List.cons_append, List.nil_append, List.append_nil] at hHH; subst hHH
  refine o_t x_cat ?_
  refine o_t x_mv ?_
  refine o_call Tryz.call49 haa spla (cB2 _ (by omega) (by omega)) ?_
  rintro _ _ HH ⟨rfl, rfl⟩ hHH
  simp only [List.cons_append, List.nil_append, List.append_nil] at hHH; subst hHH
  refine o_t x_cat ?_
  refine o_t x_mv ?_
  refine o_call Tryz.call49 haa spla (cB2 _ (by omega) (by omega)) ?_
  rintro _ _ HH ⟨rfl, rfl⟩ hHH
  simp only [List.cons_append, List.nil_append, List.append_nil] at hHH; subst hHH
  refine o_t x_cat ?_
  refine o_t x_mv ?_
  refine o_call Tryz.call49 haa spla (cB4 _ (by omega) (by omega)) ?_
  rintro _ _ HH ⟨rfl, rfl⟩ hHH
  simp only [List.cons_append, List.nil_append, List.append_nil] at hHH; subst hHH
  refine o_t x_cat ?_
  refine o_t x_mv ?_
  refine o_call Tryz.call49 haa spla (cB4 _ (by omega) (by omega)) ?_
  rintro _ _ HH ⟨rfl, rfl⟩ hHH
  simp only [List.cons_append, List.nil_append, List.append_nil] at hHH; subst hHH
  refine o_t x_cat ?_
  refine o_t x_mv ?_
  refine o_t (x_lens Tryz.underlying9) ?_
  refine o_call Tryz.call49 haa spla (cB2 _ (by omega) (by omega)) ?_
  rintro _ _ HH ⟨rfl, rfl⟩ hHH
  simp only [List.cons_append, List.nil_append, List.append_nil] at hHH; subst hHH
  refine o_t x_cat ?_
  refine o_t x_mv ?_
  refine o_t x_cat ?_
  refine o_t x_as ?_
  refine o_nil ?_
  refine w_ret (r_1 rfl ⟨rfl, rfl⟩)
/-- A text stands in another one at a place. -/
def atB (s : List UInt8) (a : Int) (p : List UInt8) : Bool := decide (0 ≤ a ∧ a + p.length ≤ s.length ∧ (s.drop a.toNat).take p.length = p)
theorem cAt (s p : List UInt8) (a : Int) (hs : s.length < 4611686018427387904) (hp : p.length < 4611686018427387904) (ha : a < 4611686018427387904) :
    Fn P G 35 #[.string (str s), .int .i64 a, .string (str p)] [] fun v H => v = .bool (atB s a p) ∧ H = [] := by
  refine fn_intro (args := [_,_,_]) Tryz.func35 Tryz.ntmps35 rfl ?_
  refine w_seq ?_
  refine w_region ?_
  refine o_t x_as ?_
  refine o_nil ?_
  refine w_seq ?_
  by_cases h1 : 0 ≤ a
  · obtain ⟨n, rfl⟩ := Int.eq_ofNat_of_zero_le h1
    by_cases h2 : (n : Int) + p.length ≤ s.length
    · refine w_region ?_
      refine o_t x_mv ?_
      refine o_t x_cmp ?_
      refine o_t x_mv ?_
      first | refine o_t (x_g x_mv) ?_ | refine o_t x_gs ?_ | refine o_t x_gu ?_
      first | refine o_t (x_g x_mv) ?_ | refine o_t x_gs ?_ | refine o_t x_gu ?_
      first | refine o_t (x_g (x_lens Tryz.underlying9)) ?_ | refine o_t x_gs ?_ | refine o_t x_gu ?_
      first | refine o_t (x_g x_add) ?_ | refine o_t x_gs ?_ | refine o_t x_gu ?_
      first | refine o_t (x_g x_mv) ?_ | refine o_t x_gs ?_ | refine o_t x_gu ?_
      first | refine o_t (x_g (x_lens Tryz.underlying9)) ?_ | refine o_t x_gs ?_ | refine o_t x_gu ?_
      first | refine o_t (x_g x_cmp) ?_ | refine o_t x_gs ?_ | refine o_t x_gu ?_
      refine o_t x_pick ?_
      refine o_t x_mv ?_
      first | refine o_t (x_g x_mv) ?_ | refine o_t x_gs ?_ | refine o_t x_gu ?_
      first | refine o_t (x_g x_mv) ?_ | refine o_t x_gs ?_ | refine o_t x_gu ?_
      first | refine o_t (x_g x_mv) ?_ | refine o_t x_gs ?_ | refine o_t x_gu ?_
      first | refine o_t (x_g x_mv) ?_ | refine o_t x_gs ?_ | refine o_t x_gu ?_
      first | refine o_t (x_g (x_lens Tryz.underlying9)) ?_ | refine o_t x_gs ?_ | refine o_t x_gu ?_
      first | refine o_t (x_g x_add) ?_ | refine o_t x_gs ?_ | refine o_t x_gu ?_
      first | refine o_t (x_g (x_sls Tryz.underlying9)) ?_ | refine o_t x_gs ?_ | refine o_t x_gu ?_
      first | refine o_t (x_g x_mv) ?_ | refine o_t x_gs ?_ | refine o_t x_gu ?_
      first | refine o_t (x_g x_eqs) ?_ | refine o_t x_gs ?_ | refine o_t x_gu ?_
      refine o_t x_pick ?_
      refine o_t x_as ?_
      refine o_nil ?_
      refine w_ret (r_1 rfl ⟨?_, rfl⟩)
      have e : ((n : Int) + p.length).toNat - n = p.length := by omega
      simp [atB, h2, e]
    · refine w_region ?_
      refine o_t x_mv ?_
      refine o_t x_cmp ?_
      refine o_t x_mv ?_
      first | refine o_t (x_g x_mv) ?_ | refine o_t x_gs ?_ | refine o_t x_gu ?_
      first | refine o_t (x_g x_mv) ?_ | refine o_t x_gs ?_ | refine o_t x_gu ?_
      first | refine o_t (x_g (x_lens Tryz.underlying9)) ?_ | refine o_t x_gs ?_ | refine o_t x_gu ?_
      first | refine o_t (x_g x_add) ?_ | refine o_t x_gs ?_ | refine o_t x_gu ?_
      first | refine o_t (x_g x_mv) ?_ | refine o_t x_gs ?_ | refine o_t x_gu ?_
      first | refine o_t (x_g (x_lens Tryz.underlying9)) ?_ | refine o_t x_gs ?_ | refine o_t x_gu ?_
      first | refine o_t (x_g x_cmp) ?_ | refine o_t x_gs ?_ | refine o_t x_gu ?_
      refine o_t x_pick ?_
      refine o_t x_mv ?_
      first | refine o_t (x_g x_mv) ?_ | refine o_t x_gs ?_ | refine o_t x_gu ?_
      first | refine o_t (x_g x_mv) ?_ | refine o_t x_gs ?_ | refine o_t x_gu ?_
      first | refine o_t (x_g x_mv) ?_ | refine o_t x_gs ?_ | refine o_t x_gu ?_
      first | refine o_t (x_g x_mv) ?_ | refine o_t x_gs ?_ | refine o_t x_gu ?_
      first | refine o_t (x_g (x_lens Tryz.underlying9)) ?_ | refine o_t x_gs ?_ | refine o_t x_gu ?_
      first | refine o_t (x_g x_add) ?_ | refine o_t x_gs ?_ | refine o_t x_gu ?_
      first | refine o_t (x_g (x_sls Tryz.underlying9)) ?_ | refine o_t x_gs ?_ | refine o_t x_gu ?_
      first | refine o_t (x_g x_mv) ?_ | refine o_t x_gs ?_ | refine o_t x_gu ?_
      first | refine o_t (x_g x_eqs) ?_ | refine o_t x_gs ?_ | refine o_t x_gu ?_
      refine o_t x_pick ?_
      refine o_t x_as ?_
      refine o_nil ?_
      refine w_ret (r_1 rfl ⟨?_, rfl⟩)
      simp [atB, h2]
  · refine w_region ?_
    refine o_t x_mv ?_
    refine o_t x_cmp ?_
    refine o_t x_mv ?_
    first | refine o_t (x_g x_mv) ?_ | refine o_t x_gs ?_ | refine o_t x_gu ?_
    first | refine o_t (x_g x_mv) ?_ | refine o_t x_gs ?_ | refine o_t x_gu ?_
    first | refine o_t (x_g (x_lens Tryz.underlying9)) ?_ | refine o_t x_gs ?_ | refine o_t x_gu ?_
    first | refine o_t (x_g x_add) ?_ | refine o_t x_gs ?_ | refine o_t x_gu ?_
    first | refine o_t (x_g x_mv) ?_ | refine o_t x_gs ?_ | refine o_t x_gu ?_
    first | refine o_t (x_g (x_lens Tryz.underlying9)) ?_ | refine o_t x_gs ?_ | refine o_t x_gu ?_
    first | refine o_t (x_g x_cmp) ?_ | refine o_t x_gs ?_ | refine o_t x_gu ?_
    refine o_t x_pick ?_
    refine o_t x_mv ?_
    first | refine o_t (x_g x_mv) ?_ | refine o_t x_gs ?_ | refine o_t x_gu ?_
    first | refine o_t (x_g x_mv) ?_ | refine o_t x_gs ?_ | refine o_t x_gu ?_
    first | refine o_t (x_g x_mv) ?_ | refine o_t x_gs ?_ | refine o_t x_gu ?_
    first | refine o_t (x_g x_mv) ?_ | refine o_t x_gs ?_ | refine o_t x_gu ?_
    first | refine o_t (x_g (x_lens Tryz.underlying9)) ?_ | refine o_t x_gs ?_ | refine o_t x_gu ?_
    first | refine o_t (x_g x_add) ?_ | refine o_t x_gs ?_ | refine o_t x_gu ?_
    first | refine o_t (x_g (x_sls Tryz.underlying9)) ?_ | refine o_t x_gs ?_ | refine o_t x_gu ?_
    first | refine o_t (x_g x_mv) ?_ | refine o_t x_gs ?_ | refine o_t x_gu ?_
    first | refine o_t (x_g x_eqs) ?_ | refine o_t x_gs ?_ | refine o_t x_gu ?_
    refine o_t x_pick ?_
    refine o_t x_as ?_
    refine o_nil ?_
    refine w_ret (r_1 rfl ⟨?_, rfl⟩)
    simp [atB, h1]
theorem cEnds (s : List UInt8) (hs : s.length < 4611686018427387904) : Fn P G 16 #[.string (str s)] [] fun v H => v = .int .i64 (ends s) ∧ H = [] := by
  refine fn_intro (args := [_]) Tryz.func16 Tryz.ntmps16 rfl ?_
  refine w_seq ?_
  refine w_region ?_
  refine o_t x_as ?_
  refine o_nil ?_
  refine w_seq ?_
  refine w_region ?_
  refine o_t x_as ?_
  refine o_nil ?_
  refine w_seq ?_
  refine w_seq ?_
  refine w_region ?_
  refine o_t x_as ?_
  refine o_nil ?_
  refine w_block ?_ -- 0
  refine w_loop (α := Nat × Nat) (fun x => [(0, .string (str s)), (3, .int .i64 x.2), (4, .int .i64 x.1)]) (fun x => []) (fun x => x.1 ≤ s.length ∧ x.2 + ends (s.drop x.1) = ends s) (fun x => s.length - x.1) (0, 0) (wka) (hka) ⟨Nat.zero_le _, by simp⟩ ?_
  rintro ⟨k, n⟩ ⟨hk, hn⟩
  dsimp only at hk hn ⊢
  have hl := ends_le s
  refine w_seq ?_
  refine w_seq ?_
  refine w_region ?_
  refine o_t x_mv ?_
  refine o_t x_add ?_
  refine o_t x_mv ?_
  refine o_t (x_lens Tryz.underlying9) ?_
  refine o_t x_cmp ?_
  refine o_nil ?_
  refine w_cond (fun g => rfl) (fun hc => ?_) (fun hc => ?_) -- ('Go.Operand.tmp', 9)
  · --
    refine w_skip ?_
    have hc := of_decide_eq_true hc
    have h1 := ends_drop s k (by omega)
    have e : ((k : Int) + 4).toNat - k = 4 := by omega
    refine w_seq ?_
    refine w_block ?_ -- 1
    refine w_seq ?_
    refine w_region ?_
    refine o_t x_mv ?_
    refine o_t x_mv ?_
    refine o_t x_mv ?_
    refine o_t x_add ?_
    refine o_t (x_sls Tryz.underlying9) ?_
    refine o_t x_eqs ?_
    refine o_nil ?_
    refine w_cond (fun g => rfl) (fun hd => ?_) (fun hd => ?_) -- ('Go.Operand.tmp', 17)
    · --
      have hd := of_decide_eq_true hd
      rw [e] at hd
      rw [if_pos hd] at h1
      refine w_region ?_
      refine o_t x_mv ?_
      refine o_t x_add ?_
      refine o_t x_as ?_
      refine o_nil ?_
      refine w_region ?_
      refine o_t x_mv ?_
      refine o_t x_add ?_
      refine o_t x_as ?_
      refine o_nil ?_
      exact ⟨(k + 1, n + 1), wka, hka, ⟨by dsimp only; omega, by dsimp only; omega⟩, by dsimp only; omega⟩
    · --
      have hd := of_decide_eq_false hd
      rw [e] at hd
      rw [if_neg hd] at h1
      refine w_skip ?_
      refine w_region ?_
      refine o_t x_mv ?_
      refine o_t x_add ?_
      refine o_t x_as ?_
      refine o_nil ?_
      exact ⟨(k + 1, n), wka, hka, ⟨by dsimp only; omega, by dsimp only; omega⟩, by dsimp only; omega⟩
  · --
    refine w_exit ?_ -- 0
    have hc := of_decide_eq_false hc
    have h1 := ends_short (s.drop k) (by simp; omega)
    obtain rfl : n = ends s := by omega
    refine w_seq ?_
    refine w_region ?_
    refine o_t x_mv ?_
    refine o_t x_as ?_
    refine o_nil ?_
    refine w_ret (r_1 rfl ⟨rfl, rfl⟩)
end Go.Proofs.YtlmefkhglooepaaGreatDoor
namespace Go.Proofs.YtlmefkhglooepaaGreatDoor
open Go
set_option linter.unusedSimpArgs false
set_option linter.unusedVariables false
variable {G : Nat → Option Obj}
/-- A slice that can be read. -/
def Arr (G : Nat → Option Obj) (r : Res) (v : Value) (sz n : Nat) (xs : List Value) : Prop :=
  xs.length = n * sz ∧ ((v = .slice none 0 0 ∧ n = 0) ∨ ∃ b o cap, v = .slice (some ⟨b, o, none⟩) n cap ∧ n ≤ cap ∧ Rd G [r] b o xs)
theorem Arr.len {r : Res} {v : Value} {sz n : Nat} {xs : List Value} (h : Arr G r v sz n xs) : ∃ a cap, v = .slice a n cap := by
  rcases h.2 with ⟨rfl, rfl⟩ | ⟨b, o, cap, rfl, _⟩ <;> exact ⟨_, _, rfl⟩
theorem Arr.some {r : Res} {v : Value} {sz n : Nat} {xs : List Value} (h : Arr G r v sz n xs) (h0 : 0 < n) : ∃ b o cap, v = .slice (some ⟨b, o, none⟩) n cap ∧ n ≤ cap ∧ Rd G [r] b o xs := by
  rcases h.2 with ⟨rfl, rfl⟩ | h
  · omega
  · exact h
theorem Own.arr {T sz n : Nat} {v : Value} {xs : List Value} {r : Res} (h : Own T sz v n xs r) : Arr G r v sz n xs := by
  refine ⟨h.1, ?_⟩
  rcases h.2 with ⟨rfl, rfl, _⟩ | ⟨g, cap, cur, rfl, hr, hc, _⟩
  · exact .inl ⟨rfl, rfl⟩
  · exact .inr ⟨g, 0, cap, rfl, hc, h.rd⟩
def enC (e : En) : List Value := hdC e.h ++ [.string (str e.data)]
abbrev enV (e : En) : Value := .agg #[.string (str e.h.name), .string (str e.h.comment), .string (str e.h.extra), .bool e.h.non, .int .i64 e.h.creator, .int .i64 e.h.reader, .int .i64 e.h.flags, .int .i64 e.h.method,
  .int .i64 e.h.time, .int .i64 e.h.date, .int .i64 e.h.crc, .int .i64 e.h.packed, .int .i64 e.h.size, .int .i64 e.h.ext, .string (str e.data)]
def entsC (l : List En) : List Value := l.flatMap enC
theorem enC_length (e : En) : (enC e).length = 15 := rfl
theorem entsC_length (l : List En) : (entsC l).length = l.length * 15 := by
  induction l with
  | nil => rfl
  | cons e l ih => simp only [entsC, List.flatMap_cons, List.length_append, enC_length, List.length_cons] at ih ⊢; omega
theorem ents_get : ∀ (l : List En) (i : Nat) (e : En), l[i]? = some e → ∀ j v, (enC e)[j]? = some v → (entsC l)[i * 15 + j]? = some v
  | [], i, e, h => by simp at h
  | a :: l, 0, e, h => by
    intro j v hj
    simp at h; subst h
    have : j < 15 := (List.getElem?_eq_some_iff.1 hj).1
    rw [entsC, List.flatMap_cons, List.getElem?_append_left (by rw [enC_length]; omega)]
    simpa using hj
  | a :: l, i + 1, e, h => by
    intro j v hj
    have := ents_get l i e (by simpa using h) j v hj
    rw [entsC, List.flatMap_cons, List.getElem?_append_right (by rw [enC_length]; omega), enC_length, show (i + 1) * 15 + j - 15 = i * 15 + j by omega]
    exact this
section
variable {n : Nat} {ops : Array Oper} {L : Loc} {H R : List Res} {d : Nat} {x : Operand} {ty : TypeId} {p : String} {e : Array Edge}
theorem x_ldE {b o i : Nat} {l : List En} {a : En} (hr : Rd G H b o (entsC l)) (he : l[i]? = some a) (hx : ∀ g, evl L g x = .pointer (some ⟨b, o + i * 15, none⟩) := by intro g; rfl) (hn : d < n := by decide) :
    Ex P n G ops L H ⟨some d, .load 38 x, ty, p, e, none⟩ d (enV a) :=
  x_ldaR (vs := enC a) g38 hr rfl (ents_get l i a he) rfl hx hn
end
theorem filesT_append (a b : List En) : filesT (a ++ b) = filesT a ++ filesT b := by
  induction a with
  | nil => rfl
  | cons e l ih => simp [filesT, ih]
def Oks (l : List En) : Prop := ∀ e ∈ l, Ok e.h ∧ e.data.length ≤ 1048576
theorem Oks.take {l : List En} (h : Oks l) (k : Nat) : Oks (l.take k) := fun e he => h e (List.mem_of_mem_take he)
theorem fileT_len {e : En} (h : Ok e.h ∧ e.data.length ≤ 1048576) : (fileT e).length ≤ 1200000 := by
  have := h.1.name; have := h.1.extra; have := h.2
  simp [fileT]; omega
theorem filesT_len {l : List En} (h : Oks l) : (filesT l).length ≤ l.length * 1200000 := by
  induction l with
  | nil => simp [filesT]
  | cons e l ih =>
    have h1 := ih (fun a ha => h a (List.mem_cons_of_mem _ ha))
    have h2 := fileT_len (h e (by simp))
    simp only [filesT, List.length_append, List.length_cons]; omega
theorem take_snoc {α : Type} (l : List α) (i : Nat) (a : α) (h : l[i]? = some a) : l.take (i + 1) = l.take i ++ [a] := by
  rw [List.take_add_one, h]; rfl
theorem files_snoc (l : List En) (i : Nat) (a : En) (h : l[i]? = some a) : filesT (l.take (i + 1)) = filesT (l.take i) ++ (localT a.h ++ a.data) := by
  rw [take_snoc l i a h, filesT_append]; simp [filesT, fileT]
theorem dirT_append : ∀ (a b : List En) (k : Nat), dirT (a ++ b) k = dirT a k ++ dirT b (k + (filesT a).length)
  | [], b, k => by simp [dirT, filesT]
  | e :: a, b, k => by simp [dirT, filesT, dirT_append a b, Nat.add_assoc]
theorem dir_snoc (l : List En) (i : Nat) (a : En) (h : l[i]? = some a) : dirT (l.take (i + 1)) 0 = dirT (l.take i) 0 ++ centralT a.h (filesT (l.take i)).length := by
  rw [take_snoc l i a h, dirT_append]; simp [dirT]
theorem dirT_len {l : List En} (h : Oks l) (k : Nat) : (dirT l k).length ≤ l.length * 200000 := by
  induction l generalizing k with
  | nil => simp [dirT]
  | cons e l ih =>
    have h1 := ih (fun a ha => h a (List.mem_cons_of_mem _ ha)) (k + (fileT e).length)
    have h2 := (h e (by simp)).1
    have := h2.name; have := h2.extra; have := h2.comment
    simp only [dirT, List.length_append, List.length_cons, centralT_length]; omega
theorem cFiles (v : Value) (r : Res) (l : List En) (hA : Arr G r v 15 l.length (entsC l)) (hk : Oks l) (hl : l.length ≤ 2147483647) : Fn P G 24 #[v] [r] fun v' H' => v' = .string (str (filesT l)) ∧ H' = [r] := by
  refine fn_intro (args := [_]) Tryz.func24 Tryz.ntmps24 rfl ?_
  refine w_seq ?_
  refine w_region ?_
  refine o_t x_as ?_
  refine o_nil ?_
  refine w_seq ?_
  refine w_region ?_
  refine o_t x_as ?_
  refine o_nil ?_
  refine w_seq ?_
  refine w_seq ?_
  obtain ⟨a0, cap, hv⟩ := hA.len
  refine w_region ?_
  refine o_t x_mv ?_
  refine o_t (x_lenb Tryz.underlying22 (hx := fun g => by subst hv; rfl)) ?_
  refine o_t x_mv ?_
  refine o_nil ?_
  refine w_block ?_ -- 0
  refine w_loop (α := Nat) (fun x => [(3, .string (str (filesT (l.take x)))), (6, v), (7, .int .i64 l.length), (8, .int .i64 x)]) (fun x => [r]) (fun x => x ≤ l.length) (fun x => l.length - x) 0 (wka) (hka) (Nat.zero_le _) (fun i hi => ?_)
  refine w_seq ?_
  refine w_region ?_
  refine o_t x_cmp ?_
  refine o_nil ?_
  refine w_seq ?_
  refine w_cond (fun g => rfl) (fun hc => ?_) (fun hc => ?_) -- ('Go.Operand.tmp', 9)
  · --
    have hc := of_decide_eq_true hc
    obtain ⟨b, o, cap', rfl, _, hrd⟩ := hA.some (by omega)
    have he := List.getElem?_eq_getElem (l := l) (i := i) (by omega)
    generalize l[i]'(by omega) = a at he
    have hE := hk a (List.mem_of_getElem? he)
    have hfl := filesT_len (hk.take i)
    have := hE.1.name; have := hE.1.extra
    have hfa := fileT_len hE
    simp only [List.length_take] at hfl
    refine w_skip ?_
    refine w_seq ?_
    refine w_block ?_ -- 1
    refine w_seq ?_
    refine w_region ?_
    refine o_t (x_ia Tryz.underlying22 e22) ?_
    refine o_t (x_ldE hrd he) ?_
    refine o_al z38 (fun b5 => ?_)
    refine o_sta g38 ?_
    refine o_nil ?_
    refine w_quiet mixed (by kernel_rfl) ?_
    refine q_t x_mv ?_
    refine q_t (x_fa f38_0) ?_
    refine q_t (x_lda g36) ?_
    refine q_call Tryz.call47 haa spla (cLocal a.h hE.1) ?_
    refine q_t (x_fa f38_1) ?_
    refine q_t (x_ld k9) ?_
    refine q_t x_cat ?_
    refine q_t x_cat ?_
    refine q_t x_as ?_
    refine q_nil ?_
    refine w_region ?_
    refine o_t x_add ?_
    refine o_t x_mv ?_
    refine o_nil ?_
    exact ⟨i + 1, .cons (fun _ => congrArg (fun x => Value.string (str x)) (files_snoc l i a he).symm) wka, hka, by omega, by omega⟩
  · --
    refine w_exit ?_ -- 0
    obtain rfl : i = l.length := by have := of_decide_eq_false hc; omega
    rw [List.take_length]
    refine w_seq ?_
    refine w_region ?_
    refine o_t x_mv ?_
    refine o_t x_as ?_
    refine o_nil ?_
    refine w_ret (r_1 rfl ⟨rfl, rfl⟩)
theorem cDirectory (v : Value) (r : Res) (l : List En) (hA : Arr G r v 15 l.length (entsC l)) (hk : Oks l) (hl : l.length ≤ 2147483647) : Fn P G 25 #[v] [r] fun v' H' => v' = .string (str (dirT l 0)) ∧ H' = [r] := by
  refine fn_intro (args := [_]) Tryz.func25 Tryz.ntmps25 rfl ?_
  refine w_seq ?_
  refine w_region ?_
  refine o_t x_as ?_
  refine o_nil ?_
  refine w_seq ?_
  refine w_region ?_
  refine o_t x_as ?_
  refine o_nil ?_
  refine w_seq ?_
  refine w_region ?_
  refine o_t x_as ?_
  refine o_nil ?_
  refine w_seq ?_
  refine w_seq ?_
  obtain ⟨a0, cap, hv⟩ := hA.len
  refine w_region ?_
  refine o_t x_mv ?_
  refine o_t (x_lenb Tryz.underlying22 (hx := fun g => by subst hv; rfl)) ?_
  refine o_t x_mv ?_
  refine o_nil ?_
  refine w_block ?_ -- 0
  refine w_loop (α := Nat) (fun x => [(3, .string (str (dirT (l.take x) 0))), (4, .int .i64 (filesT (l.take x)).length), (7, v), (8, .int .i64 l.length), (9, .int .i64 x)]) (fun x => [r]) (fun x => x ≤ l.length) (fun x => l.length - x) 0 (wka) (hka) (Nat.zero_le _) (fun i hi => ?_)
  refine w_seq ?_
  refine w_region ?_
  refine o_t x_cmp ?_
  refine o_nil ?_
  refine w_seq ?_
  refine w_cond (fun g => rfl) (fun hc => ?_) (fun hc => ?_) -- ('Go.Operand.tmp', 10)
  · --
    have hc := of_decide_eq_true hc
    obtain ⟨b, o, cap', rfl, _, hrd⟩ := hA.some (by omega)
    have he := List.getElem?_eq_getElem (l := l) (i := i) (by omega)
    generalize l[i]'(by omega) = a at he
    have hE := hk a (List.mem_of_getElem? he)
    have hfl := filesT_len (hk.take i)
    have hdl := dirT_len (hk.take i) 0
    have := hE.1.name; have := hE.1.extra; have := hE.1.comment
    have hfa := fileT_len hE
    simp only [List.length_take] at hfl hdl
    refine w_skip ?_
    refine w_seq ?_
    refine w_block ?_ -- 1
    refine w_seq ?_
    refine w_region ?_
    refine o_t (x_ia Tryz.underlying22 e22) ?_
    refine o_t (x_ldE hrd he) ?_
    refine o_al z38 (fun b6 => ?_)
    refine o_sta g38 ?_
    refine o_nil ?_
    refine w_seq ?_
    refine w_region ?_
    refine o_t x_mv ?_
    refine o_t (x_fa f38_0) ?_
    refine o_t (x_lda g36) ?_
    refine o_t x_mv ?_
    refine o_call Tryz.call48 haa spla (cCentral a.h hE.1 (filesT (l.take i)).length (by omega)) ?_
    rintro _ _ HH ⟨rfl, rfl⟩ hHH
    simp only [List.cons_append, List.nil_append, List.append_nil] at hHH; subst hHH
    refine o_t (x_cat (hl := by simp; omega)) ?_
    refine o_t x_as ?_
    refine o_nil ?_
    refine w_quiet mixed (by kernel_rfl) ?_
    refine q_t x_mv ?_
    refine q_t (x_fa f38_0) ?_
    refine q_t (x_lda g36) ?_
    refine q_call Tryz.call47 haa spla (cLocal a.h hE.1) ?_
    refine q_t (x_fa f38_1) ?_
    refine q_t (x_ld k9) ?_
    refine q_t x_cat ?_
    refine q_t (x_lens Tryz.underlying9) ?_
    refine q_t (x_add (hz := (w_i64 (by simp; omega)).trans rfl)) ?_
    refine q_t x_as ?_
    refine q_nil ?_
    refine w_region ?_
    refine o_t x_add ?_
    refine o_t x_mv ?_
    refine o_nil ?_
    exact ⟨i + 1, .cons (fun _ => congrArg (fun x => Value.string (str x)) (dir_snoc l i a he).symm) (.cons (fun _ => congrArg (Value.int _) (by rw [files_snoc l i a he]; simp)) wka), hka, by omega, by omega⟩
  · --
    refine w_exit ?_ -- 0
    obtain rfl : i = l.length := by have := of_decide_eq_false hc; omega
    rw [List.take_length]
    refine w_seq ?_
    refine w_region ?_
    refine o_t x_mv ?_
    refine o_t x_as ?_
    refine o_nil ?_
    refine w_ret (r_1 rfl ⟨rfl, rfl⟩)
theorem cArchive (v : Value) (r : Res) (l : List En) (c : List UInt8) (hA : Arr G r v 15 l.length (entsC l)) (hk : Oks l) (hl : l.length ≤ 2147483647) (hc : c.length ≤ 2147483647) : Fn P G 10 #[v, .string (str c)] [r] fun v' H' => v' = .string (str (archT l c)) ∧ H' = [r] := by
  have hfl := filesT_len hk
  have hdl := dirT_len hk 0
  obtain ⟨a0, cap, hv⟩ := hA.len
  refine fn_intro (args := [_,_]) Tryz.func10 Tryz.ntmps10 rfl ?_
  refine w_seq ?_
  refine w_region ?_
  refine o_t x_as ?_
  refine o_nil ?_
  refine w_seq ?_
  refine w_region ?_
  refine o_t x_mv ?_
  refine o_call Tryz.call24 haa spla (cFiles v r l hA hk hl) ?_
  rintro _ _ HH ⟨rfl, rfl⟩ hHH
  simp only [List.cons_append, List.nil_append, List.append_nil] at hHH; subst hHH
  refine o_t x_mv ?_
  refine o_call Tryz.call25 haa spla (cDirectory v r l hA hk hl) ?_
  rintro _ _ HH ⟨rfl, rfl⟩ hHH
  simp only [List.cons_append, List.nil_append, List.append_nil] at hHH; subst hHH
  refine o_t x_as ?_
  refine o_t x_as ?_
  refine o_nil ?_
  refine w_seq ?_
  refine w_region ?_
  refine o_t x_mv ?_
  refine o_t x_mv ?_
  refine o_t x_cat ?_
  refine o_t x_mv ?_
  refine o_t (x_lenb Tryz.underlying22 (hx := fun g => by subst hv; rfl)) ?_
  refine o_t x_mv ?_
  refine o_t (x_lens Tryz.underlying9) ?_
  refine o_t x_mv ?_
  refine o_t (x_lens Tryz.underlying9) ?_
  refine o_t x_mv ?_
  refine o_call Tryz.call26 haa spla (cEnd l.length (dirT l 0).length (filesT l).length c (by omega) (by omega) (by omega) (by omega)) ?_
  rintro _ _ HH ⟨rfl, rfl⟩ hHH
  simp only [List.cons_append, List.nil_append, List.append_nil] at hHH; subst hHH
  refine o_t (x_cat (hl := by simp; omega)) ?_
  refine o_t x_as ?_
  refine o_nil ?_
  refine w_ret (r_1 rfl ⟨rfl, rfl⟩)
end Go.Proofs.YtlmefkhglooepaaGreatDoor
namespace Go.Proofs.YtlmefkhglooepaaGreatDoor
open Go
def cbit (c : Nat) : Nat := if c % 2 = 1 then (c / 2) ^^^ 3988292384 else c / 2
def cbits : Nat → Nat → Nat
  | 0, c => c
  | k + 1, c => cbits k (cbit c)
def cbyte (c : Nat) (b : UInt8) : Nat := cbits 8 (c ^^^ b.toNat)
def crcFrom (c : Nat) (l : List UInt8) : Nat := l.foldl cbyte c
def crcT (l : List UInt8) : Nat := crcFrom 4294967295 l ^^^ 4294967295
theorem cbit_lt {c : Nat} (h : c < 4294967296) : cbit c < 4294967296 := by
  unfold cbit; split
  · exact Nat.xor_lt_two_pow (n := 32) (by omega) (by omega)
  · omega
theorem cbits_lt : ∀ (k : Nat) {c : Nat}, c < 4294967296 → cbits k c < 4294967296
  | 0, _, h => h
  | k + 1, _, h => cbits_lt k (cbit_lt h)
theorem cbits_snoc : ∀ (k c : Nat), cbits (k + 1) c = cbit (cbits k c)
  | 0, _ => rfl
  | k + 1, c => by rw [cbits, cbits_snoc k]; rfl
theorem cbyte_lt {c : Nat} (h : c < 4294967296) (b : UInt8) : cbyte c b < 4294967296 :=
  cbits_lt 8 (Nat.xor_lt_two_pow (n := 32) h (by have := b.toNat_lt; omega))
theorem crcFrom_lt (l : List UInt8) : ∀ {c : Nat}, c < 4294967296 → crcFrom c l < 4294967296 := by
  induction l with
  | nil => exact fun h => h
  | cons b l ih => exact fun h => ih (cbyte_lt h b)
theorem crcT_lt (l : List UInt8) : crcT l < 4294967296 := Nat.xor_lt_two_pow (n := 32) (crcFrom_lt l (by omega)) (by omega)
theorem crcFrom_snoc (c : Nat) (l : List UInt8) (b : UInt8) : crcFrom c (l ++ [b]) = cbyte (crcFrom c l) b := by simp [crcFrom]
end Go.Proofs.YtlmefkhglooepaaGreatDoor
namespace Go.Proofs.YtlmefkhglooepaaGreatDoor
open Go
set_option linter.unusedSimpArgs false
set_option linter.unusedVariables false
variable {G : Nat → Option Obj}
theorem cCRC (l : List UInt8) (hl : l.length < 4611686018427387904) : Fn P G 19 #[.string (str l)] [] fun v H => v = .int .i64 (crcT l) ∧ H = [] := by
  refine fn_intro (args := [_]) Tryz.func19 Tryz.ntmps19 rfl ?_
  refine w_seq ?_
  refine w_region ?_
  refine o_t x_as ?_
  refine o_nil ?_
  refine w_seq ?_
  refine w_region ?_
  refine o_t x_as ?_
  refine o_nil ?_
  refine w_seq ?_
  refine w_seq ?_
  refine w_region ?_
  refine o_t x_as ?_
  refine o_nil ?_
  refine w_block ?_ -- 0
  refine w_loop (α := Nat × Nat) (fun x => [(0, .string (str l)), (3, .int .u32 x.2), (4, .int .i64 x.1)]) (fun x => []) (fun x => x.1 ≤ l.length ∧ x.2 = crcFrom 4294967295 (l.take x.1)) (fun x => l.length - x.1) (0, 4294967295) (wka) (hka) ⟨Nat.zero_le _, rfl⟩ ?_
  rintro ⟨i, c⟩ ⟨hi, hcr⟩
  dsimp only at hi hcr ⊢
  have hc32 : c < 4294967296 := by rw [hcr]; exact crcFrom_lt _ (by omega)
  refine w_seq ?_
  refine w_seq ?_
  refine w_region ?_
  refine o_t x_mv ?_
  refine o_t x_mv ?_
  refine o_t (x_lens Tryz.underlying9) ?_
  refine o_t x_cmp ?_
  refine o_nil ?_
  refine w_cond (fun g => rfl) (fun hc => ?_) (fun hc => ?_) -- ('Go.Operand.tmp', 10)
  · --
    have hc := of_decide_eq_true hc
    have he := List.getElem?_eq_getElem (l := l) (i := i) (by omega)
    generalize l[i]'(by omega) = b at he
    have hb := b.toNat_lt
    refine w_skip ?_
    refine w_seq ?_
    refine w_block ?_ -- 1
    refine w_seq ?_
    refine w_region ?_
    refine o_t x_mv ?_
    refine o_t x_mv ?_
    refine o_t x_mv ?_
    refine o_t (x_ixs (j := i) Tryz.underlying9 he) ?_
    refine o_t (x_cv ⟨_, Tryz.underlying5⟩ Tryz.underlying77) ?_
    refine o_t x_xor ?_
    refine o_t x_as ?_
    refine o_nil ?_
    have hx : c ^^^ b.toNat < 4294967296 := Nat.xor_lt_two_pow (n := 32) hc32 (by omega)
    refine w_seq ?_
    refine w_region ?_
    refine o_t x_as ?_
    refine o_nil ?_
    refine w_block ?_ -- 2
    refine w_loop (α := Nat × Nat) (fun x => [(0, .string (str l)), (3, .int .u32 x.2), (4, .int .i64 i), (5, .int .i64 x.1)]) (fun x => []) (fun x => x.1 ≤ 8 ∧ x.2 = cbits x.1 (c ^^^ b.toNat)) (fun x => 8 - x.1) (0, c ^^^ b.toNat) (wka) (hka) ⟨Nat.zero_le _, rfl⟩ ?_
    rintro ⟨j, q⟩ ⟨hj, hq⟩
    dsimp only at hj hq ⊢
    have hq32 : q < 4294967296 := by rw [hq]; exact cbits_lt _ hx
    refine w_seq ?_
    refine w_seq ?_
    refine w_region ?_
    refine o_t x_mv ?_
    refine o_t x_cmp ?_
    refine o_nil ?_
    refine w_cond (fun g => rfl) (fun hc => ?_) (fun hc => ?_) -- ('Go.Operand.tmp', 20)
    · --
      have hj8 := of_decide_eq_true hc
      refine w_skip ?_
      refine w_seq ?_
      refine w_block ?_ -- 3
      refine w_seq ?_
      refine w_region ?_
      refine o_t x_mv ?_
      refine o_t x_and ?_
      refine o_t x_cmp ?_
      refine o_t x_as ?_
      refine o_nil ?_
      refine w_seq ?_
      refine w_region ?_
      refine o_t x_mv ?_
      refine o_t x_shr ?_
      refine o_t x_as ?_
      refine o_nil ?_
      refine w_seq ?_
      refine w_region ?_
      refine o_t x_mv ?_
      refine o_nil ?_
      refine w_cond (fun g => rfl) (fun hd => ?_) (fun hd => ?_) -- ('Go.Operand.tmp', 28)
      · --
        have hd := of_decide_eq_true hd
        have h2 : q % 2 = 1 := by have h3 : (q : Int) % 2 = 1 := by simpa using hd
                                  omega
        have h4 : ((q : Int) / 2).toNat = q / 2 := by omega
        refine w_region ?_
        refine o_t x_mv ?_
        refine o_t x_xor ?_
        refine o_t x_as ?_
        refine o_nil ?_
        refine w_region ?_
        refine o_t x_mv ?_
        refine o_t x_add ?_
        refine o_t x_as ?_
        refine o_nil ?_
        refine ⟨(j + 1, cbit q), .cons (fun _ => rfl) (.cons (fun _ => ?_) wka), hka, ⟨by dsimp only; omega, by dsimp only; rw [cbits_snoc, ← hq]⟩, by dsimp only; omega⟩
        exact congrArg (Value.int _) (by rw [h4, cbit, if_pos h2]; rfl)
      · --
        have hd := of_decide_eq_false hd
        have h2 : ¬ q % 2 = 1 := by have h3 : ¬ (q : Int) % 2 = 1 := by simpa using hd
                                    omega
        refine w_skip ?_
        refine w_region ?_
        refine o_t x_mv ?_
        refine o_t x_add ?_
        refine o_t x_as ?_
        refine o_nil ?_
        refine ⟨(j + 1, cbit q), .cons (fun _ => rfl) (.cons (fun _ => ?_) wka), hka, ⟨by dsimp only; omega, by dsimp only; rw [cbits_snoc, ← hq]⟩, by dsimp only; omega⟩
        exact congrArg (Value.int _) (by rw [cbit, if_neg h2]; omega)
    · --
      refine w_exit ?_ -- 2
      obtain rfl : j = 8 := by have := of_decide_eq_false hc; omega
      refine w_region ?_
      refine o_t x_mv ?_
      refine o_t x_add ?_
      refine o_t x_as ?_
      refine o_nil ?_
      exact ⟨(i + 1, q), wka, hka, ⟨by dsimp only; omega, by dsimp only; rw [take_snoc l i b he, crcFrom_snoc, ← hcr, hq]; rfl⟩, by dsimp only; omega⟩
  · --
    refine w_exit ?_ -- 0
    obtain rfl : i = l.length := by have := of_decide_eq_false hc; omega
    rw [List.take_length] at hcr
    refine w_seq ?_
    refine w_region ?_
    refine o_t x_mv ?_
    refine o_t x_xor ?_
    refine o_t (x_cv ⟨_, Tryz.underlying77⟩ Tryz.underlying3) ?_
    refine o_t x_as ?_
    refine o_nil ?_
    refine w_ret (r_1 rfl ⟨?_, rfl⟩)
    rw [crcT, ← hcr]
    have := Nat.xor_lt_two_pow (n := 32) hc32 (show 4294967295 < 2 ^ 32 by omega)
    exact congrArg (Value.int _) (w_i64 (x := ((c ^^^ 4294967295 : Nat) : Int)) (by omega))
end Go.Proofs.YtlmefkhglooepaaGreatDoor
namespace Go.Proofs.YtlmefkhglooepaaGreatDoor
open Go
set_option linter.unusedSimpArgs false
set_option linter.unusedVariables false
variable {G : Nat → Option Obj}
def fitsH (h : Hd) : Prop := h.name.length ≤ 2147483647 ∧ h.comment.length ≤ 2147483647 ∧ h.extra.length ≤ 2147483647
def fitsE (e : En) : Prop := fitsH e.h ∧ e.data.length ≤ 2147483647
instance (h : Hd) : Decidable (fitsH h) := by unfold fitsH; infer_instance
instance (e : En) : Decidable (fitsE e) := by unfold fitsE; infer_instance
theorem cFits3 (h : Hd) : Fn P G 41 #[hdV h] [] fun v H => v = .bool (decide (fitsH h)) ∧ H = [] := by
  refine fn_intro (args := [_]) Tryz.func41 Tryz.ntmps41 rfl ?_
  refine w_seq ?_
  refine w_region ?_
  refine o_bx (fun b1 => ?_)
  refine o_t x_as ?_
  refine o_nil ?_
  refine w_seq ?_
  refine w_seq ?_
  refine w_region ?_
  refine o_t (x_fa f36_0) ?_
  refine o_t (x_ld k9) ?_
  refine o_t (x_lens Tryz.underlying9) ?_
  refine o_t x_cmp ?_
  refine o_nil ?_
  refine w_cond (fun g => rfl) (fun hc => ?_) (fun hc => ?_) -- ('Go.Operand.tmp', 6)
  · --
    have hc := of_decide_eq_true hc
    refine w_seq ?_
    refine w_region ?_
    refine o_t x_as ?_
    refine o_nil ?_
    refine w_ret (r_1 rfl ⟨congrArg Value.bool (decide_eq_false (fun h => by have := h.1; omega)).symm, rfl⟩)
  · --
    have h1 := of_decide_eq_false hc
    refine w_skip ?_
    refine w_seq ?_
    refine w_seq ?_
    refine w_region ?_
    refine o_t (x_fa f36_1) ?_
    refine o_t (x_ld k9) ?_
    refine o_t (x_lens Tryz.underlying9) ?_
    refine o_t x_cmp ?_
    refine o_nil ?_
    refine w_cond (fun g => rfl) (fun hc => ?_) (fun hc => ?_) -- ('Go.Operand.tmp', 10)
    · --
      have hc := of_decide_eq_true hc
      refine w_seq ?_
      refine w_region ?_
      refine o_t x_as ?_
      refine o_nil ?_
      refine w_ret (r_1 rfl ⟨congrArg Value.bool (decide_eq_false (fun h => by have := h.2.1; omega)).symm, rfl⟩)
    · --
      have h2 := of_decide_eq_false hc
      refine w_skip ?_
      refine w_seq ?_
      refine w_seq ?_
      refine w_region ?_
      refine o_t (x_fa f36_2) ?_
      refine o_t (x_ld k9) ?_
      refine o_t (x_lens Tryz.underlying9) ?_
      refine o_t x_cmp ?_
      refine o_nil ?_
      refine w_cond (fun g => rfl) (fun hc => ?_) (fun hc => ?_) -- ('Go.Operand.tmp', 14)
      · --
        have hc := of_decide_eq_true hc
        refine w_seq ?_
        refine w_region ?_
        refine o_t x_as ?_
        refine o_nil ?_
        refine w_ret (r_1 rfl ⟨congrArg Value.bool (decide_eq_false (fun h => by have := h.2.2; omega)).symm, rfl⟩)
      · --
        have h3 := of_decide_eq_false hc
        refine w_skip ?_
        refine w_seq ?_
        refine w_region ?_
        refine o_t x_as ?_
        refine o_nil ?_
        refine w_ret (r_1 rfl ⟨congrArg Value.bool (decide_eq_true (show fitsH h from ⟨by omega, by omega, by omega⟩)).symm, rfl⟩)
theorem cFits2 (e : En) : Fn P G 20 #[enV e] [] fun v H => v = .bool (decide (fitsE e)) ∧ H = [] := by
  refine fn_intro (args := [_]) Tryz.func20 Tryz.ntmps20 rfl ?_
  refine w_seq ?_
  refine w_region ?_
  refine o_bx (fun b1 => ?_)
  refine o_t x_as ?_
  refine o_nil ?_
  refine w_seq ?_
  refine w_seq ?_
  refine w_region ?_
  refine o_t (x_fa f38_0) ?_
  refine o_t (x_lda g36) ?_
  refine o_call Tryz.call41 haa spla (cFits3 e.h) ?_
  rintro _ _ HH ⟨rfl, rfl⟩ hHH
  simp only [List.cons_append, List.nil_append, List.append_nil] at hHH; subst hHH
  refine o_t x_not ?_
  refine o_nil ?_
  refine w_cond (fun g => rfl) (fun hc => ?_) (fun hc => ?_) -- ('Go.Operand.tmp', 6)
  · --
    have hc : ¬ fitsH e.h := by simpa using hc
    refine w_seq ?_
    refine w_region ?_
    refine o_t x_as ?_
    refine o_nil ?_
    refine w_ret (r_1 rfl ⟨congrArg Value.bool (decide_eq_false (fun h => hc h.1)).symm, rfl⟩)
  · --
    have h1 : fitsH e.h := by simpa using hc
    refine w_skip ?_
    refine w_seq ?_
    refine w_seq ?_
    refine w_region ?_
    refine o_t (x_fa f38_1) ?_
    refine o_t (x_ld k9) ?_
    refine o_t (x_lens Tryz.underlying9) ?_
    refine o_t x_cmp ?_
    refine o_nil ?_
    refine w_cond (fun g => rfl) (fun hc => ?_) (fun hc => ?_) -- ('Go.Operand.tmp', 10)
    · --
      have hc := of_decide_eq_true hc
      refine w_seq ?_
      refine w_region ?_
      refine o_t x_as ?_
      refine o_nil ?_
      refine w_ret (r_1 rfl ⟨congrArg Value.bool (decide_eq_false (fun h => by have := h.2; omega)).symm, rfl⟩)
    · --
      have h2 := of_decide_eq_false hc
      refine w_skip ?_
      refine w_seq ?_
      refine w_region ?_
      refine o_t x_as ?_
      refine o_nil ?_
      refine w_ret (r_1 rfl ⟨congrArg Value.bool (decide_eq_true (show fitsE e from ⟨h1, by omega⟩)).symm, rfl⟩)
def fitsL (l : List En) : Prop := l.length ≤ 2147483647 ∧ ∀ e ∈ l, fitsE e
theorem mem_take_snoc {p : En → Prop} {l : List En} {i : Nat} {a : En} (he : l[i]? = some a) (h : ∀ e ∈ l.take i, p e) (ha : p a) : ∀ e ∈ l.take (i + 1), p e := by
  rw [take_snoc l i a he]
  intro e h1
  rcases List.mem_append.1 h1 with h1 | h1
  · exact h e h1
  · simp at h1; rw [h1]; exact ha
theorem cFits1 (v : Value) (r : Res) (l : List En) (hA : Arr G r v 15 l.length (entsC l)) : Fn P G 4 #[v] [r] fun v' H => (∃ b, v' = .bool b ∧ (b = true ↔ fitsL l)) ∧ H = [r] := by
  obtain ⟨a0, cap, hv⟩ := hA.len
  refine fn_intro (args := [_]) Tryz.func4 Tryz.ntmps4 rfl ?_
  refine w_seq ?_
  refine w_region ?_
  refine o_t x_as ?_
  refine o_nil ?_
  refine w_seq ?_
  refine w_seq ?_
  refine w_region ?_
  refine o_t x_mv ?_
  refine o_t (x_lenb Tryz.underlying22 (hx := fun g => by subst hv; rfl)) ?_
  refine o_t x_cmp ?_
  refine o_nil ?_
  refine w_cond (fun g => rfl) (fun hc => ?_) (fun hc => ?_) -- ('Go.Operand.tmp', 7)
  · --
    have hc := of_decide_eq_true hc
    refine w_seq ?_
    refine w_region ?_
    refine o_t x_as ?_
    refine o_nil ?_
    refine w_ret (r_1 rfl ⟨⟨false, rfl, by simp [fitsL]; omega⟩, rfl⟩)
  · --
    have h1 := of_decide_eq_false hc
    refine w_skip ?_
    refine w_seq ?_
    refine w_seq ?_
    refine w_region ?_
    refine o_t x_mv ?_
    refine o_t (x_lenb Tryz.underlying22 (hx := fun g => by subst hv; rfl)) ?_
    refine o_t x_mv ?_
    refine o_nil ?_
    refine w_block ?_ -- 0
    refine w_loop (α := Nat) (fun x => [(8, v), (9, .int .i64 l.length), (10, .int .i64 x)]) (fun x => [r]) (fun x => x ≤ l.length ∧ ∀ e ∈ l.take x, fitsE e) (fun x => l.length - x) 0 (wka) (hka) ⟨Nat.zero_le _, by simp⟩ ?_
    rintro i ⟨hi, hall⟩
    refine w_seq ?_
    refine w_region ?_
    refine o_t x_cmp ?_
    refine o_nil ?_
    refine w_seq ?_
    refine w_cond (fun g => rfl) (fun hc => ?_) (fun hc => ?_) -- ('Go.Operand.tmp', 11)
    · --
      have hc := of_decide_eq_true hc
      obtain ⟨b, o, cap', rfl, _, hrd⟩ := hA.some (by omega)
      have he := List.getElem?_eq_getElem (l := l) (i := i) (by omega)
      generalize l[i]'(by omega) = a at he
      refine w_skip ?_
      refine w_seq ?_
      refine w_block ?_ -- 1
      refine w_seq ?_
      refine w_region ?_
      refine o_t (x_ia Tryz.underlying22 e22) ?_
      refine o_t (x_ldE hrd he) ?_
      refine o_al z38 (fun b4 => ?_)
      refine o_sta g38 ?_
      refine o_nil ?_
      refine w_seq ?_
      refine w_region ?_
      refine o_t (x_lda g38) ?_
      refine o_call Tryz.call20 haa spla (cFits2 a) ?_
      rintro _ _ HH ⟨rfl, rfl⟩ hHH
      simp only [List.cons_append, List.nil_append, List.append_nil] at hHH; subst hHH
      refine o_t x_not ?_
      refine o_nil ?_
      refine w_cond (fun g => rfl) (fun hc => ?_) (fun hc => ?_) -- ('Go.Operand.tmp', 16)
      · --
        have hc : ¬ fitsE a := by simpa using hc
        refine w_seq ?_
        refine w_region ?_
        refine o_t x_as ?_
        refine o_nil ?_
        refine w_ret (r_1 rfl ⟨⟨false, rfl, by simp [fitsL]; exact fun _ => ⟨a, List.mem_of_getElem? he, hc⟩⟩, rfl⟩)
      · --
        have hc : fitsE a := by simpa using hc
        refine w_skip ?_
        refine w_region ?_
        refine o_t x_add ?_
        refine o_t x_mv ?_
        refine o_nil ?_
        exact ⟨i + 1, wka, hka, ⟨by omega, mem_take_snoc he hall hc⟩, by omega⟩
    · --
      refine w_exit ?_ -- 0
      obtain rfl : i = l.length := by have := of_decide_eq_false hc; omega
      rw [List.take_length] at hall
      refine w_seq ?_
      refine w_region ?_
      refine o_t x_as ?_
      refine o_nil ?_
      refine w_ret (r_1 rfl ⟨⟨true, rfl, by simp only [true_iff]; exact ⟨by omega, hall⟩⟩, rfl⟩)
end Go.Proofs.YtlmefkhglooepaaGreatDoor
namespace Go.Proofs.YtlmefkhglooepaaGreatDoor
open Go
set_option linter.unusedSimpArgs false
set_option linter.unusedVariables false
variable {G : Nat → Option Obj}
theorem cW (n lo hi : Int) (b : Bool) (hb : decide (lo ≤ n ∧ n ≤ hi) = b) : Fn P G 42 #[.int .i64 n, .int .i64 lo, .int .i64 hi] [] fun v H => v = .bool b ∧ H = [] := by
  subst hb; exact cWithin n lo hi
theorem cHeaderOk (h : Hd) (hf : fitsH h) : Fn P G 22 #[hdV h] [] fun v H => (∃ b, v = .bool b ∧ (b = true ↔ Ok h)) ∧ H = [] := by
  obtain ⟨hf1, hf2, hf3⟩ := hf
  obtain ⟨w0, hb0⟩ : ∃ b, decide (0 ≤ h.creator ∧ h.creator ≤ 65535) = b := ⟨_, rfl⟩
  obtain ⟨w1, hb1⟩ : ∃ b, decide (0 ≤ h.reader ∧ h.reader ≤ 65535) = b := ⟨_, rfl⟩
  obtain ⟨w2, hb2⟩ : ∃ b, decide (0 ≤ h.flags ∧ h.flags ≤ 65535) = b := ⟨_, rfl⟩
  obtain ⟨w3, hb3⟩ : ∃ b, decide (0 ≤ h.method ∧ h.method ≤ 65535) = b := ⟨_, rfl⟩
  obtain ⟨w4, hb4⟩ : ∃ b, decide (0 ≤ h.time ∧ h.time ≤ 65535) = b := ⟨_, rfl⟩
  obtain ⟨w5, hb5⟩ : ∃ b, decide (0 ≤ h.date ∧ h.date ≤ 65535) = b := ⟨_, rfl⟩
  obtain ⟨w6, hb6⟩ : ∃ b, decide (0 ≤ h.crc ∧ h.crc ≤ 4294967295) = b := ⟨_, rfl⟩
  obtain ⟨w7, hb7⟩ : ∃ b, decide (0 ≤ h.packed ∧ h.packed ≤ 4294967294) = b := ⟨_, rfl⟩
  obtain ⟨w8, hb8⟩ : ∃ b, decide (0 ≤ h.size ∧ h.size ≤ 4294967294) = b := ⟨_, rfl⟩
  obtain ⟨w9, hb9⟩ : ∃ b, decide (0 ≤ h.ext ∧ h.ext ≤ 4294967295) = b := ⟨_, rfl⟩
  obtain ⟨t0, hd0⟩ : ∃ b, decide ((h.name.length : Int) ≤ 60000) = b := ⟨_, rfl⟩
  obtain ⟨t1, hd1⟩ : ∃ b, decide ((h.comment.length : Int) ≤ 60000) = b := ⟨_, rfl⟩
  obtain ⟨t2, hd2⟩ : ∃ b, decide ((h.extra.length : Int) ≤ 60000) = b := ⟨_, rfl⟩
  have key : (w0 && w1 && w2 && w3 && w4 && w5 && (w6 && w7 && w8 && w9) && t0 && t1 && t2) = true ↔ Ok h := by
    subst hb0 hb1 hb2 hb3 hb4 hb5 hb6 hb7 hb8 hb9 hd0 hd1 hd2
    simp only [Bool.and_eq_true, decide_eq_true_eq]
    constructor
    · rintro ⟨⟨⟨⟨⟨⟨⟨⟨⟨q0, q1⟩, q2⟩, q3⟩, q4⟩, q5⟩, ⟨⟨q6, q7⟩, q8⟩, q9⟩, e0⟩, e1⟩, e2⟩
      exact ⟨q0, q1, q2, q3, q4, q5, q6, q7, q8, q9, by omega, by omega, by omega⟩
    · rintro ⟨q0, q1, q2, q3, q4, q5, q6, q7, q8, q9, e0, e1, e2⟩
      exact ⟨⟨⟨⟨⟨⟨⟨⟨⟨q0, q1⟩, q2⟩, q3⟩, q4⟩, q5⟩, ⟨⟨q6, q7⟩, q8⟩, q9⟩, by omega⟩, by omega⟩, by omega⟩
  refine fn_intro (args := [_]) Tryz.func22 Tryz.ntmps22 rfl ?_
  refine w_seq ?_
  refine w_region ?_
  refine o_bx (fun b1 => ?_)
  refine o_t x_as ?_
  refine o_nil ?_
  refine w_cut (α := Unit) (fun _ => [(1, .pointer (some ⟨b1, 0, none⟩)), (3, .bool (w0 && w1 && w2 && w3 && w4 && w5))]) (fun _ => [pt b1 (hdC h) 36]) (fun _ => True) ?_ (fun _ _ => ?_)
  · --
    cases w0 with
    | false =>
      refine w_region ?_
      refine o_t (x_fa f36_4) ?_
      refine o_t (x_ld k3) ?_
      refine o_call Tryz.call42 haa spla (cW _ _ _ _ hb0) ?_
      rintro _ _ HH ⟨rfl, rfl⟩ hHH
      simp only [List.cons_append, List.nil_append, List.append_nil] at hHH; subst hHH
      refine o_t x_mv ?_
      first | refine o_t (x_g (x_fa f36_5)) ?_ | refine o_t x_gs ?_ | refine o_t x_gu ?_
      first | refine o_t (x_g (x_ld k3)) ?_ | refine o_t x_gs ?_ | refine o_t x_gu ?_
      first | (refine o_gy (?_); refine o_call Tryz.call42 haa spla (cW _ _ _ _ hb1) ?_; rintro _ _ HH ⟨rfl, rfl⟩ hHH; simp only [List.cons_append, List.nil_append, List.append_nil] at hHH; subst hHH) | refine o_t x_gs ?_ | refine o_t x_gu ?_
      refine o_t x_pick ?_
      refine o_t x_mv ?_
      first | refine o_t (x_g (x_fa f36_6)) ?_ | refine o_t x_gs ?_ | refine o_t x_gu ?_
      first | refine o_t (x_g (x_ld k3)) ?_ | refine o_t x_gs ?_ | refine o_t x_gu ?_
      first | (refine o_gy (?_); refine o_call Tryz.call42 haa spla (cW _ _ _ _ hb2) ?_; rintro _ _ HH ⟨rfl, rfl⟩ hHH; simp only [List.cons_append, List.nil_append, List.append_nil] at hHH; subst hHH) | refine o_t x_gs ?_ | refine o_t x_gu ?_
      refine o_t x_pick ?_
      refine o_t x_mv ?_
      first | refine o_t (x_g (x_fa f36_7)) ?_ | refine o_t x_gs ?_ | refine o_t x_gu ?_
      first | refine o_t (x_g (x_ld k3)) ?_ | refine o_t x_gs ?_ | refine o_t x_gu ?_
      first | (refine o_gy (?_); refine o_call Tryz.call42 haa spla (cW _ _ _ _ hb3) ?_; rintro _ _ HH ⟨rfl, rfl⟩ hHH; simp only [List.cons_append, List.nil_append, List.append_nil] at hHH; subst hHH) | refine o_t x_gs ?_ | refine o_t x_gu ?_
      refine o_t x_pick ?_
      refine o_t x_mv ?_
      first | refine o_t (x_g (x_fa f36_8)) ?_ | refine o_t x_gs ?_ | refine o_t x_gu ?_
      first | refine o_t (x_g (x_ld k3)) ?_ | refine o_t x_gs ?_ | refine o_t x_gu ?_
      first | (refine o_gy (?_); refine o_call Tryz.call42 haa spla (cW _ _ _ _ hb4) ?_; rintro _ _ HH ⟨rfl, rfl⟩ hHH; simp only [List.cons_append, List.nil_append, List.append_nil] at hHH; subst hHH) | refine o_t x_gs ?_ | refine o_t x_gu ?_
      refine o_t x_pick ?_
      refine o_t x_mv ?_
      first | refine o_t (x_g (x_fa f36_9)) ?_ | refine o_t x_gs ?_ | refine o_t x_gu ?_
      first | refine o_t (x_g (x_ld k3)) ?_ | refine o_t x_gs ?_ | refine o_t x_gu ?_
      first | (refine o_gy (?_); refine o_call Tryz.call42 haa spla (cW _ _ _ _ hb5) ?_; rintro _ _ HH ⟨rfl, rfl⟩ hHH; simp only [List.cons_append, List.nil_append, List.append_nil] at hHH; subst hHH) | refine o_t x_gs ?_ | refine o_t x_gu ?_
      refine o_t x_pick ?_
      refine o_t x_as ?_
      refine o_nil ?_
      exact ⟨(), wka, hka, trivial⟩
    | true =>
      cases w1 with
      | false =>
        refine w_region ?_
        refine o_t (x_fa f36_4) ?_
        refine o_t (x_ld k3) ?_
        refine o_call Tryz.call42 haa spla (cW _ _ _ _ hb0) ?_
        rintro _ _ HH ⟨rfl, rfl⟩ hHH
        simp only [List.cons_append, List.nil_append, List.append_nil] at hHH; subst hHH
        refine o_t x_mv ?_
        first | refine o_t (x_g (x_fa f36_5)) ?_ | refine o_t x_gs ?_ | refine o_t x_gu ?_
        first | refine o_t (x_g (x_ld k3)) ?_ | refine o_t x_gs ?_ | refine o_t x_gu ?_
        first | (refine o_gy (?_); refine o_call Tryz.call42 haa spla (cW _ _ _ _ hb1) ?_; rintro _ _ HH ⟨rfl, rfl⟩ hHH; simp only [List.cons_append, List.nil_append, List.append_nil] at hHH; subst hHH) | refine o_t x_gs ?_ | refine o_t x_gu ?_
        refine o_t x_pick ?_
        refine o_t x_mv ?_
        first | refine o_t (x_g (x_fa f36_6)) ?_ | refine o_t x_gs ?_ | refine o_t x_gu ?_
        first | refine o_t (x_g (x_ld k3)) ?_ | refine o_t x_gs ?_ | refine o_t x_gu ?_
        first | (refine o_gy (?_); refine o_call Tryz.call42 haa spla (cW _ _ _ _ hb2) ?_; rintro _ _ HH ⟨rfl, rfl⟩ hHH; simp only [List.cons_append, List.nil_append, List.append_nil] at hHH; subst hHH) | refine o_t x_gs ?_ | refine o_t x_gu ?_
        refine o_t x_pick ?_
        refine o_t x_mv ?_
        first | refine o_t (x_g (x_fa f36_7)) ?_ | refine o_t x_gs ?_ | refine o_t x_gu ?_
        first | refine o_t (x_g (x_ld k3)) ?_ | refine o_t x_gs ?_ | refine o_t x_gu ?_
        first | (refine o_gy (?_); refine o_call Tryz.call42 haa spla (cW _ _ _ _ hb3) ?_; rintro _ _ HH ⟨rfl, rfl⟩ hHH; simp only [List.cons_append, List.nil_append, List.append_nil] at hHH; subst hHH) | refine o_t x_gs ?_ | refine o_t x_gu ?_
        refine o_t x_pick ?_
        refine o_t x_mv ?_
        first | refine o_t (x_g (x_fa f36_8)) ?_ | refine o_t x_gs ?_ | refine o_t x_gu ?_
        first | refine o_t (x_g (x_ld k3)) ?_ | refine o_t x_gs ?_ | refine o_t x_gu ?_
        first | (refine o_gy (?_); refine o_call Tryz.call42 haa spla (cW _ _ _ _ hb4) ?_; rintro _ _ HH ⟨rfl, rfl⟩ hHH; simp only [List.cons_append, List.nil_append, List.append_nil] at hHH; subst hHH) | refine o_t x_gs ?_ | refine o_t x_gu ?_
        refine o_t x_pick ?_
        refine o_t x_mv ?_
        first | refine o_t (x_g (x_fa f36_9)) ?_ | refine o_t x_gs ?_ | refine o_t x_gu ?_
        first | refine o_t (x_g (x_ld k3)) ?_ | refine o_t x_gs ?_ | refine o_t x_gu ?_
        first | (refine o_gy (?_); refine o_call Tryz.call42 haa spla (cW _ _ _ _ hb5) ?_; rintro _ _ HH ⟨rfl, rfl⟩ hHH; simp only [List.cons_append, List.nil_append, List.append_nil] at hHH; subst hHH) | refine o_t x_gs ?_ | refine o_t x_gu ?_
        refine o_t x_pick ?_
        refine o_t x_as ?_
        refine o_nil ?_
        exact ⟨(), wka, hka, trivial⟩
      | true =>
        cases w2 with
        | false =>
          refine w_region ?_
          refine o_t (x_fa f36_4) ?_
          refine o_t (x_ld k3) ?_
          refine o_call Tryz.call42 haa spla (cW _ _ _ _ hb0) ?_
          rintro _ _ HH ⟨rfl, rfl⟩ hHH
          simp only [List.cons_append, List.nil_append, List.append_nil] at hHH; subst hHH
          refine o_t x_mv ?_
          first | refine o_t (x_g (x_fa f36_5)) ?_ | refine o_t x_gs ?_ | refine o_t x_gu ?_
          first | refine o_t (x_g (x_ld k3)) ?_ | refine o_t x_gs ?_ | refine o_t x_gu ?_
          first | (refine o_gy (?_); refine o_call Tryz.call42 haa spla (cW _ _ _ _ hb1) ?_; rintro _ _ HH ⟨rfl, rfl⟩ hHH; simp only [List.cons_append, List.nil_append, List.append_nil] at hHH; subst hHH) | refine o_t x_gs ?_ | refine o_t x_gu ?_
          refine o_t x_pick ?_
          refine o_t x_mv ?_
          first | refine o_t (x_g (x_fa f36_6)) ?_ | refine o_t x_gs ?_ | refine o_t x_gu ?_
          first | refine o_t (x_g (x_ld k3)) ?_ | refine o_t x_gs ?_ | refine o_t x_gu ?_
          first | (refine o_gy (?_); refine o_call Tryz.call42 haa spla (cW _ _ _ _ hb2) ?_; rintro _ _ HH ⟨rfl, rfl⟩ hHH; simp only [List.cons_append, List.nil_append, List.append_nil] at hHH; subst hHH) | refine o_t x_gs ?_ | refine o_t x_gu ?_
          refine o_t x_pick ?_
          refine o_t x_mv ?_
          first | refine o_t (x_g (x_fa f36_7)) ?_ | refine o_t x_gs ?_ | refine o_t x_gu ?_
          first | refine o_t (x_g (x_ld k3)) ?_ | refine o_t x_gs ?_ | refine o_t x_gu ?_
          first | (refine o_gy (?_); refine o_call Tryz.call42 haa spla (cW _ _ _ _ hb3) ?_; rintro _ _ HH ⟨rfl, rfl⟩ hHH; simp only [List.cons_append, List.nil_append, List.append_nil] at hHH; subst hHH) | refine o_t x_gs ?_ | refine o_t x_gu ?_
          refine o_t x_pick ?_
          refine o_t x_mv ?_
          first | refine o_t (x_g (x_fa f36_8)) ?_ | refine o_t x_gs ?_ | refine o_t x_gu ?_
          first | refine o_t (x_g (x_ld k3)) ?_ | refine o_t x_gs ?_ | refine o_t x_gu ?_
          first | (refine o_gy (?_); refine o_call Tryz.call42 haa spla (cW _ _ _ _ hb4) ?_; rintro _ _ HH ⟨rfl, rfl⟩ hHH; simp only [List.cons_append, List.nil_append, List.append_nil] at hHH; subst hHH) | refine o_t x_gs ?_ | refine o_t x_gu ?_
          refine o_t x_pick ?_
          refine o_t x_mv ?_
          first | refine o_t (x_g (x_fa f36_9)) ?_ | refine o_t x_gs ?_ | refine o_t x_gu ?_
          first | refine o_t (x_g (x_ld k3)) ?_ | refine o_t x_gs ?_ | refine o_t x_gu ?_
          first | (refine o_gy (?_); refine o_call Tryz.call42 haa spla (cW _ _ _ _ hb5) ?_; rintro _ _ HH ⟨rfl, rfl⟩ hHH; simp only [List.cons_append, List.nil_append, List.append_nil] at hHH; subst hHH) | refine o_t x_gs ?_ | refine o_t x_gu ?_
          refine o_t x_pick ?_
          refine o_t x_as ?_
          refine o_nil ?_
          exact ⟨(), wka, hka, trivial⟩
        | true =>
          cases w3 with
          | false =>
            refine w_region ?_
            refine o_t (x_fa f36_4) ?_
            refine o_t (x_ld k3) ?_
            refine o_call Tryz.call42 haa spla (cW _ _ _ _ hb0) ?_
            rintro _ _ HH ⟨rfl, rfl⟩ hHH
            simp only [List.cons_append, List.nil_append, List.append_nil] at hHH; subst hHH
            refine o_t x_mv ?_
            first | refine o_t (x_g (x_fa f36_5)) ?_ | refine o_t x_gs ?_ | refine o_t x_gu ?_
            first | refine o_t (x_g (x_ld k3)) ?_ | refine o_t x_gs ?_ | refine o_t x_gu ?_
            first | (refine o_gy (?_); refine o_call Tryz.call42 haa spla (cW _ _ _ _ hb1) ?_; rintro _ _ HH ⟨rfl, rfl⟩ hHH; simp only [List.cons_append, List.nil_append, List.append_nil] at hHH; subst hHH) | refine o_t x_gs ?_ | refine o_t x_gu ?_
            refine o_t x_pick ?_
            refine o_t x_mv ?_
            first | refine o_t (x_g (x_fa f36_6)) ?_ | refine o_t x_gs ?_ | refine o_t x_gu ?_
            first | refine o_t (x_g (x_ld k3)) ?_ | refine o_t x_gs ?_ | refine o_t x_gu ?_
            first | (refine o_gy (?_); refine o_call Tryz.call42 haa spla (cW _ _ _ _ hb2) ?_; rintro _ _ HH ⟨rfl, rfl⟩ hHH; simp only [List.cons_append, List.nil_append, List.append_nil] at hHH; subst hHH) | refine o_t x_gs ?_ | refine o_t x_gu ?_
            refine o_t x_pick ?_
            refine o_t x_mv ?_
            first | refine o_t (x_g (x_fa f36_7)) ?_ | refine o_t x_gs ?_ | refine o_t x_gu ?_
            first | refine o_t (x_g (x_ld k3)) ?_ | refine o_t x_gs ?_ | refine o_t x_gu ?_
            first | (refine o_gy (?_); refine o_call Tryz.call42 haa spla (cW _ _ _ _ hb3) ?_; rintro _ _ HH ⟨rfl, rfl⟩ hHH; simp only [List.cons_append, List.nil_append, List.append_nil] at hHH; subst hHH) | refine o_t x_gs ?_ | refine o_t x_gu ?_
            refine o_t x_pick ?_
            refine o_t x_mv ?_
            first | refine o_t (x_g (x_fa f36_8)) ?_ | refine o_t x_gs ?_ | refine o_t x_gu ?_
            first | refine o_t (x_g (x_ld k3)) ?_ | refine o_t x_gs ?_ | refine o_t x_gu ?_
            first | (refine o_gy (?_); refine o_call Tryz.call42 haa spla (cW _ _ _ _ hb4) ?_; rintro _ _ HH ⟨rfl, rfl⟩ hHH; simp only [List.cons_append, List.nil_append, List.append_nil] at hHH; subst hHH) | refine o_t x_gs ?_ | refine o_t x_gu ?_
            refine o_t x_pick ?_
            refine o_t x_mv ?_
            first | refine o_t (x_g (x_fa f36_9)) ?_ | refine o_t x_gs ?_ | refine o_t x_gu ?_
            first | refine o_t (x_g (x_ld k3)) ?_ | refine o_t x_gs ?_ | refine o_t x_gu ?_
            first | (refine o_gy (?_); refine o_call Tryz.call42 haa spla (cW _ _ _ _ hb5) ?_; rintro _ _ HH ⟨rfl, rfl⟩ hHH; simp only [List.cons_append, List.nil_append, List.append_nil] at hHH; subst hHH) | refine o_t x_gs ?_ | refine o_t x_gu ?_
            refine o_t x_pick ?_
            refine o_t x_as ?_
            refine o_nil ?_
            exact ⟨(), wka, hka, trivial⟩
          | true =>
            cases w4 with
            | false =>
              refine w_region ?_
              refine o_t (x_fa f36_4) ?_
              refine o_t (x_ld k3) ?_
              refine o_call Tryz.call42 haa spla (cW _ _ _ _ hb0) ?_
              rintro _ _ HH ⟨rfl, rfl⟩ hHH
              simp only [List.cons_append, List.nil_append, List.append_nil] at hHH; subst hHH
              refine o_t x_mv ?_
              first | refine o_t (x_g (x_fa f36_5)) ?_ | refine o_t x_gs ?_ | refine o_t x_gu ?_
              first | refine o_t (x_g (x_ld k3)) ?_ | refine o_t x_gs ?_ | refine o_t x_gu ?_
              first | (refine o_gy (?_); refine o_call Tryz.call42 haa spla (cW _ _ _ _ hb1) ?_; rintro _ _ HH ⟨rfl, rfl⟩ hHH; simp only [List.cons_append, List.nil_append, List.append_nil] at hHH; subst hHH) | refine o_t x_gs ?_ | refine o_t x_gu ?_
              refine o_t x_pick ?_
              refine o_t x_mv ?_
              first | refine o_t (x_g (x_fa f36_6)) ?_ | refine o_t x_gs ?_ | refine o_t x_gu ?_
              first | refine o_t (x_g (x_ld k3)) ?_ | refine o_t x_gs ?_ | refine o_t x_gu ?_
              first | (refine o_gy (?_); refine o_call Tryz.call42 haa spla (cW _ _ _ _ hb2) ?_; rintro _ _ HH ⟨rfl, rfl⟩ hHH; simp only [List.cons_append, List.nil_append, List.append_nil] at hHH; subst hHH) | refine o_t x_gs ?_ | refine o_t x_gu ?_
              refine o_t x_pick ?_
              refine o_t x_mv ?_
              first | refine o_t (x_g (x_fa f36_7)) ?_ | refine o_t x_gs ?_ | refine o_t x_gu ?_
              first | refine o_t (x_g (x_ld k3)) ?_ | refine o_t x_gs ?_ | refine o_t x_gu ?_
              first | (refine o_gy (?_); refine o_call Tryz.call42 haa spla (cW _ _ _ _ hb3) ?_; rintro _ _ HH ⟨rfl, rfl⟩ hHH; simp only [List.cons_append, List.nil_append, List.append_nil] at hHH; subst hHH) | refine o_t x_gs ?_ | refine o_t x_gu ?_
              refine o_t x_pick ?_
              refine o_t x_mv ?_
              first | refine o_t (x_g (x_fa f36_8)) ?_ | refine o_t x_gs ?_ | refine o_t x_gu ?_
              first | refine o_t (x_g (x_ld k3)) ?_ | refine o_t x_gs ?_ | refine o_t x_gu ?_
              first | (refine o_gy (?_); refine o_call Tryz.call42 haa spla (cW _ _ _ _ hb4) ?_; rintro _ _ HH ⟨rfl, rfl⟩ hHH; simp only [List.cons_append, List.nil_append, List.append_nil] at hHH; subst hHH) | refine o_t x_gs ?_ | refine o_t x_gu ?_
              refine o_t x_pick ?_
              refine o_t x_mv ?_
              first | refine o_t (x_g (x_fa f36_9)) ?_ | refine o_t x_gs ?_ | refine o_t x_gu ?_
              first | refine o_t (x_g (x_ld k3)) ?_ | refine o_t x_gs ?_ | refine o_t x_gu ?_
              first | (refine o_gy (?_); refine o_call Tryz.call42 haa spla (cW _ _ _ _ hb5) ?_; rintro _ _ HH ⟨rfl, rfl⟩ hHH; simp only [List.cons_append, List.nil_append, List.append_nil] at hHH; subst hHH) | refine o_t x_gs ?_ | refine o_t x_gu ?_
              refine o_t x_pick ?_
              refine o_t x_as ?_
              refine o_nil ?_
              exact ⟨(), wka, hka, trivial⟩
            | true =>
              cases w5 with
              | false =>
                refine w_region ?_
                refine o_t (x_fa f36_4) ?_
                refine o_t (x_ld k3) ?_
                refine o_call Tryz.call42 haa spla (cW _ _ _ _ hb0) ?_
                rintro _ _ HH ⟨rfl, rfl⟩ hHH
                simp only [List.cons_append, List.nil_append, List.append_nil] at hHH; subst hHH
                refine o_t x_mv ?_
                first | refine o_t (x_g (x_fa f36_5)) ?_ | refine o_t x_gs ?_ | refine o_t x_gu ?_
                first | refine o_t (x_g (x_ld k3)) ?_ | refine o_t x_gs ?_ | refine o_t x_gu ?_
                first | (refine o_gy (?_); refine o_call Tryz.call42 haa spla (cW _ _ _ _ hb1) ?_; rintro _ _ HH ⟨rfl, rfl⟩ hHH; simp only [List.cons_append, List.nil_append, List.append_nil] at hHH; subst hHH) | refine o_t x_gs ?_ | refine o_t x_gu ?_
                refine o_t x_pick ?_
                refine o_t x_mv ?_
                first | refine o_t (x_g (x_fa f36_6)) ?_ | refine o_t x_gs ?_ | refine o_t x_gu ?_
                first | refine o_t (x_g (x_ld k3)) ?_ | refine o_t x_gs ?_ | refine o_t x_gu ?_
                first | (refine o_gy (?_); refine o_call Tryz.call42 haa spla (cW _ _ _ _ hb2) ?_; rintro _ _ HH ⟨rfl, rfl⟩ hHH; simp only [List.cons_append, List.nil_append, List.append_nil] at hHH; subst hHH) | refine o_t x_gs ?_ | refine o_t x_gu ?_
                refine o_t x_pick ?_
                refine o_t x_mv ?_
                first | refine o_t (x_g (x_fa f36_7)) ?_ | refine o_t x_gs ?_ | refine o_t x_gu ?_
                first | refine o_t (x_g (x_ld k3)) ?_ | refine o_t x_gs ?_ | refine o_t x_gu ?_
                first | (refine o_gy (?_); refine o_call Tryz.call42 haa spla (cW _ _ _ _ hb3) ?_; rintro _ _ HH ⟨rfl, rfl⟩ hHH; simp only [List.cons_append, List.nil_append, List.append_nil] at hHH; subst hHH) | refine o_t x_gs ?_ | refine o_t x_gu ?_
                refine o_t x_pick ?_
                refine o_t x_mv ?_
                first | refine o_t (x_g (x_fa f36_8)) ?_ | refine o_t x_gs ?_ | refine o_t x_gu ?_
                first | refine o_t (x_g (x_ld k3)) ?_ | refine o_t x_gs ?_ | refine o_t x_gu ?_
                first | (refine o_gy (?_); refine o_call Tryz.call42 haa spla (cW _ _ _ _ hb4) ?_; rintro _ _ HH ⟨rfl, rfl⟩ hHH; simp only [List.cons_append, List.nil_append, List.append_nil] at hHH; subst hHH) | refine o_t x_gs ?_ | refine o_t x_gu ?_
                refine o_t x_pick ?_
                refine o_t x_mv ?_
                first | refine o_t (x_g (x_fa f36_9)) ?_ | refine o_t x_gs ?_ | refine o_t x_gu ?_
                first | refine o_t (x_g (x_ld k3)) ?_ | refine o_t x_gs ?_ | refine o_t x_gu ?_
                first | (refine o_gy (?_); refine o_call Tryz.call42 haa spla (cW _ _ _ _ hb5) ?_; rintro _ _ HH ⟨rfl, rfl⟩ hHH; simp only [List.cons_append, List.nil_append, List.append_nil] at hHH; subst hHH) | refine o_t x_gs ?_ | refine o_t x_gu ?_
                refine o_t x_pick ?_
                refine o_t x_as ?_
                refine o_nil ?_
                exact ⟨(), wka, hka, trivial⟩
              | true =>
                refine w_region ?_
                refine o_t (x_fa f36_4) ?_
                refine o_t (x_ld k3) ?_
                refine o_call Tryz.call42 haa spla (cW _ _ _ _ hb0) ?_
                rintro _ _ HH ⟨rfl, rfl⟩ hHH
                simp only [List.cons_append, List.nil_append, List.append_nil] at hHH; subst hHH
                refine o_t x_mv ?_
                first | refine o_t (x_g (x_fa f36_5)) ?_ | refine o_t x_gs ?_ | refine o_t x_gu ?_
                first | refine o_t (x_g (x_ld k3)) ?_ | refine o_t x_gs ?_ | refine o_t x_gu ?_
                first | (refine o_gy (?_); refine o_call Tryz.call42 haa spla (cW _ _ _ _ hb1) ?_; rintro _ _ HH ⟨rfl, rfl⟩ hHH; simp only [List.cons_append, List.nil_append, List.append_nil] at hHH; subst hHH) | refine o_t x_gs ?_ | refine o_t x_gu ?_
                refine o_t x_pick ?_
                refine o_t x_mv ?_
                first | refine o_t (x_g (x_fa f36_6)) ?_ | refine o_t x_gs ?_ | refine o_t x_gu ?_
                first | refine o_t (x_g (x_ld k3)) ?_ | refine o_t x_gs ?_ | refine o_t x_gu ?_
                first | (refine o_gy (?_); refine o_call Tryz.call42 haa spla (cW _ _ _ _ hb2) ?_; rintro _ _ HH ⟨rfl, rfl⟩ hHH; simp only [List.cons_append, List.nil_append, List.append_nil] at hHH; subst hHH) | refine o_t x_gs ?_ | refine o_t x_gu ?_
                refine o_t x_pick ?_
                refine o_t x_mv ?_
                first | refine o_t (x_g (x_fa f36_7)) ?_ | refine o_t x_gs ?_ | refine o_t x_gu ?_
                first | refine o_t (x_g (x_ld k3)) ?_ | refine o_t x_gs ?_ | refine o_t x_gu ?_
                first | (refine o_gy (?_); refine o_call Tryz.call42 haa spla (cW _ _ _ _ hb3) ?_; rintro _ _ HH ⟨rfl, rfl⟩ hHH; simp only [List.cons_append, List.nil_append, List.append_nil] at hHH; subst hHH) | refine o_t x_gs ?_ | refine o_t x_gu ?_
                refine o_t x_pick ?_
                refine o_t x_mv ?_
                first | refine o_t (x_g (x_fa f36_8)) ?_ | refine o_t x_gs ?_ | refine o_t x_gu ?_
                first | refine o_t (x_g (x_ld k3)) ?_ | refine o_t x_gs ?_ | refine o_t x_gu ?_
                first | (refine o_gy (?_); refine o_call Tryz.call42 haa spla (cW _ _ _ _ hb4) ?_; rintro _ _ HH ⟨rfl, rfl⟩ hHH; simp only [List.cons_append, List.nil_append, List.append_nil] at hHH; subst hHH) | refine o_t x_gs ?_ | refine o_t x_gu ?_
                refine o_t x_pick ?_
                refine o_t x_mv ?_
                first | refine o_t (x_g (x_fa f36_9)) ?_ | refine o_t x_gs ?_ | refine o_t x_gu ?_
                first | refine o_t (x_g (x_ld k3)) ?_ | refine o_t x_gs ?_ | refine o_t x_gu ?_
                first | (refine o_gy (?_); refine o_call Tryz.call42 haa spla (cW _ _ _ _ hb5) ?_; rintro _ _ HH ⟨rfl, rfl⟩ hHH; simp only [List.cons_append, List.nil_append, List.append_nil] at hHH; subst hHH) | refine o_t x_gs ?_ | refine o_t x_gu ?_
                refine o_t x_pick ?_
                refine o_t x_as ?_
                refine o_nil ?_
                exact ⟨(), wka, hka, trivial⟩
  refine w_cut (α := Unit) (fun _ => [(1, .pointer (some ⟨b1, 0, none⟩)), (3, .bool (w0 && w1 && w2 && w3 && w4 && w5)), (4, .bool (w6 && w7 && w8 && w9))]) (fun _ => [pt b1 (hdC h) 36]) (fun _ => True) ?_ (fun _ _ => ?_)
  · --
    cases w6 with
    | false =>
      refine w_region ?_
      refine o_t (x_fa f36_10) ?_
      refine o_t (x_ld k3) ?_
      refine o_call Tryz.call42 haa spla (cW _ _ _ _ hb6) ?_
      rintro _ _ HH ⟨rfl, rfl⟩ hHH
      simp only [List.cons_append, List.nil_append, List.append_nil] at hHH; subst hHH
      refine o_t x_mv ?_
      first | refine o_t (x_g (x_fa f36_11)) ?_ | refine o_t x_gs ?_ | refine o_t x_gu ?_
      first | refine o_t (x_g (x_ld k3)) ?_ | refine o_t x_gs ?_ | refine o_t x_gu ?_
      first | (refine o_gy (?_); refine o_call Tryz.call42 haa spla (cW _ _ _ _ hb7) ?_; rintro _ _ HH ⟨rfl, rfl⟩ hHH; simp only [List.cons_append, List.nil_append, List.append_nil] at hHH; subst hHH) | refine o_t x_gs ?_ | refine o_t x_gu ?_
      refine o_t x_pick ?_
      refine o_t x_mv ?_
      first | refine o_t (x_g (x_fa f36_12)) ?_ | refine o_t x_gs ?_ | refine o_t x_gu ?_
      first | refine o_t (x_g (x_ld k3)) ?_ | refine o_t x_gs ?_ | refine o_t x_gu ?_
      first | (refine o_gy (?_); refine o_call Tryz.call42 haa spla (cW _ _ _ _ hb8) ?_; rintro _ _ HH ⟨rfl, rfl⟩ hHH; simp only [List.cons_append, List.nil_append, List.append_nil] at hHH; subst hHH) | refine o_t x_gs ?_ | refine o_t x_gu ?_
      refine o_t x_pick ?_
      refine o_t x_mv ?_
      first | refine o_t (x_g (x_fa f36_13)) ?_ | refine o_t x_gs ?_ | refine o_t x_gu ?_
      first | refine o_t (x_g (x_ld k3)) ?_ | refine o_t x_gs ?_ | refine o_t x_gu ?_
      first | (refine o_gy (?_); refine o_call Tryz.call42 haa spla (cW _ _ _ _ hb9) ?_; rintro _ _ HH ⟨rfl, rfl⟩ hHH; simp only [List.cons_append, List.nil_append, List.append_nil] at hHH; subst hHH) | refine o_t x_gs ?_ | refine o_t x_gu ?_
      refine o_t x_pick ?_
      refine o_t x_as ?_
      refine o_nil ?_
      exact ⟨(), wka, hka, trivial⟩
    | true =>
      cases w7 with
      | false =>
        refine w_region ?_
        refine o_t (x_fa f36_10) ?_
        refine o_t (x_ld k3) ?_
        refine o_call Tryz.call42 haa spla (cW _ _ _ _ hb6) ?_
        rintro _ _ HH ⟨rfl, rfl⟩ hHH
        simp only [List.cons_append, List.nil_append, List.append_nil] at hHH; subst hHH
        refine o_t x_mv ?_
        first | refine o_t (x_g (x_fa f36_11)) ?_ | refine o_t x_gs ?_ | refine o_t x_gu ?_
        first | refine o_t (x_g (x_ld k3)) ?_ | refine o_t x_gs ?_ | refine o_t x_gu ?_
        first | (refine o_gy (?_); refine o_call Tryz.call42 haa spla (cW _ _ _ _ hb7) ?_; rintro _ _ HH ⟨rfl, rfl⟩ hHH; simp only [List.cons_append, List.nil_append, List.append_nil] at hHH; subst hHH) | refine o_t x_gs ?_ | refine o_t x_gu ?_
        refine o_t x_pick ?_
        refine o_t x_mv ?_
        first | refine o_t (x_g (x_fa f36_12)) ?_ | refine o_t x_gs ?_ | refine o_t x_gu ?_
        first | refine o_t (x_g (x_ld k3)) ?_ | refine o_t x_gs ?_ | refine o_t x_gu ?_
        first | (refine o_gy (?_); refine o_call Tryz.call42 haa spla (cW _ _ _ _ hb8) ?_; rintro _ _ HH ⟨rfl, rfl⟩ hHH; simp only [List.cons_append, List.nil_append, List.append_nil] at hHH; subst hHH) | refine o_t x_gs ?_ | refine o_t x_gu ?_
        refine o_t x_pick ?_
        refine o_t x_mv ?_
        first | refine o_t (x_g (x_fa f36_13)) ?_ | refine o_t x_gs ?_ | refine o_t x_gu ?_
        first | refine o_t (x_g (x_ld k3)) ?_ | refine o_t x_gs ?_ | refine o_t x_gu ?_
        first | (refine o_gy (?_); refine o_call Tryz.call42 haa spla (cW _ _ _ _ hb9) ?_; rintro _ _ HH ⟨rfl, rfl⟩ hHH; simp only [List.cons_append, List.nil_append, List.append_nil] at hHH; subst hHH) | refine o_t x_gs ?_ | refine o_t x_gu ?_
        refine o_t x_pick ?_
        refine o_t x_as ?_
        refine o_nil ?_
        exact ⟨(), wka, hka, trivial⟩
      | true =>
        cases w8 with
        | false =>
          refine w_region ?_
          refine o_t (x_fa f36_10) ?_
          refine o_t (x_ld k3) ?_
          refine o_call Tryz.call42 haa spla (cW _ _ _ _ hb6) ?_
          rintro _ _ HH ⟨rfl, rfl⟩ hHH
          simp only [List.cons_append, List.nil_append, List.append_nil] at hHH; subst hHH
          refine o_t x_mv ?_
          first | refine o_t (x_g (x_fa f36_11)) ?_ | refine o_t x_gs ?_ | refine o_t x_gu ?_
          first | refine o_t (x_g (x_ld k3)) ?_ | refine o_t x_gs ?_ | refine o_t x_gu ?_
          first | (refine o_gy (?_); refine o_call Tryz.call42 haa spla (cW _ _ _ _ hb7) ?_; rintro _ _ HH ⟨rfl, rfl⟩ hHH; simp only [List.cons_append, List.nil_append, List.append_nil] at hHH; subst hHH) | refine o_t x_gs ?_ | refine o_t x_gu ?_
          refine o_t x_pick ?_
          refine o_t x_mv ?_
          first | refine o_t (x_g (x_fa f36_12)) ?_ | refine o_t x_gs ?_ | refine o_t x_gu ?_
          first | refine o_t (x_g (x_ld k3)) ?_ | refine o_t x_gs ?_ | refine o_t x_gu ?_
          first | (refine o_gy (?_); refine o_call Tryz.call42 haa spla (cW _ _ _ _ hb8) ?_; rintro _ _ HH ⟨rfl, rfl⟩ hHH; simp only [List.cons_append, List.nil_append, List.append_nil] at hHH; subst hHH) | refine o_t x_gs ?_ | refine o_t x_gu ?_
          refine o_t x_pick ?_
          refine o_t x_mv ?_
          first | refine o_t (x_g (x_fa f36_13)) ?_ | refine o_t x_gs ?_ | refine o_t x_gu ?_
          first | refine o_t (x_g (x_ld k3)) ?_ | refine o_t x_gs ?_ | refine o_t x_gu ?_
          first | (refine o_gy (?_); refine o_call Tryz.call42 haa spla (cW _ _ _ _ hb9) ?_; rintro _ _ HH ⟨rfl, rfl⟩ hHH; simp only [List.cons_append, List.nil_append, List.append_nil] at hHH; subst hHH) | refine o_t x_gs ?_ | refine o_t x_gu ?_
          refine o_t x_pick ?_
          refine o_t x_as ?_
          refine o_nil ?_
          exact ⟨(), wka, hka, trivial⟩
        | true =>
          cases w9 with
          | false =>
            refine w_region ?_
            refine o_t (x_fa f36_10) ?_
            refine o_t (x_ld k3) ?_
            refine o_call Tryz.call42 haa spla (cW _ _ _ _ hb6) ?_
            rintro _ _ HH ⟨rfl, rfl⟩ hHH
            simp only [List.cons_append, List.nil_append, List.append_nil] at hHH; subst hHH
            refine o_t x_mv ?_
            first | refine o_t (x_g (x_fa f36_11)) ?_ | refine o_t x_gs ?_ | refine o_t x_gu ?_
            first | refine o_t (x_g (x_ld k3)) ?_ | refine o_t x_gs ?_ | refine o_t x_gu ?_
            first | (refine o_gy (?_); refine o_call Tryz.call42 haa spla (cW _ _ _ _ hb7) ?_; rintro _ _ HH ⟨rfl, rfl⟩ hHH; simp only [List.cons_append, List.nil_append, List.append_nil] at hHH; subst hHH) | refine o_t x_gs ?_ | refine o_t x_gu ?_
            refine o_t x_pick ?_
            refine o_t x_mv ?_
            first | refine o_t (x_g (x_fa f36_12)) ?_ | refine o_t x_gs ?_ | refine o_t x_gu ?_
            first | refine o_t (x_g (x_ld k3)) ?_ | refine o_t x_gs ?_ | refine o_t x_gu ?_
            first | (refine o_gy (?_); refine o_call Tryz.call42 haa spla (cW _ _ _ _ hb8) ?_; rintro _ _ HH ⟨rfl, rfl⟩ hHH; simp only [List.cons_append, List.nil_append, List.append_nil] at hHH; subst hHH) | refine o_t x_gs ?_ | refine o_t x_gu ?_
            refine o_t x_pick ?_
            refine o_t x_mv ?_
            first | refine o_t (x_g (x_fa f36_13)) ?_ | refine o_t x_gs ?_ | refine o_t x_gu ?_
            first | refine o_t (x_g (x_ld k3)) ?_ | refine o_t x_gs ?_ | refine o_t x_gu ?_
            first | (refine o_gy (?_); refine o_call Tryz.call42 haa spla (cW _ _ _ _ hb9) ?_; rintro _ _ HH ⟨rfl, rfl⟩ hHH; simp only [List.cons_append, List.nil_append, List.append_nil] at hHH; subst hHH) | refine o_t x_gs ?_ | refine o_t x_gu ?_
            refine o_t x_pick ?_
            refine o_t x_as ?_
            refine o_nil ?_
            exact ⟨(), wka, hka, trivial⟩
          | true =>
            refine w_region ?_
            refine o_t (x_fa f36_10) ?_
            refine o_t (x_ld k3) ?_
            refine o_call Tryz.call42 haa spla (cW _ _ _ _ hb6) ?_
            rintro _ _ HH ⟨rfl, rfl⟩ hHH
            simp only [List.cons_append, List.nil_append, List.append_nil] at hHH; subst hHH
            refine o_t x_mv ?_
            first | refine o_t (x_g (x_fa f36_11)) ?_ | refine o_t x_gs ?_ | refine o_t x_gu ?_
            first | refine o_t (x_g (x_ld k3)) ?_ | refine o_t x_gs ?_ | refine o_t x_gu ?_
            first | (refine o_gy (?_); refine o_call Tryz.call42 haa spla (cW _ _ _ _ hb7) ?_; rintro _ _ HH ⟨rfl, rfl⟩ hHH; simp only [List.cons_append, List.nil_append, List.append_nil] at hHH; subst hHH) | refine o_t x_gs ?_ | refine o_t x_gu ?_
            refine o_t x_pick ?_
            refine o_t x_mv ?_
            first | refine o_t (x_g (x_fa f36_12)) ?_ | refine o_t x_gs ?_ | refine o_t x_gu ?_
            first | refine o_t (x_g (x_ld k3)) ?_ | refine o_t x_gs ?_ | refine o_t x_gu ?_
            first | (refine o_gy (?_); refine o_call Tryz.call42 haa spla (cW _ _ _ _ hb8) ?_; rintro _ _ HH ⟨rfl, rfl⟩ hHH; simp only [List.cons_append, List.nil_append, List.append_nil] at hHH; subst hHH) | refine o_t x_gs ?_ | refine o_t x_gu ?_
            refine o_t x_pick ?_
            refine o_t x_mv ?_
            first | refine o_t (x_g (x_fa f36_13)) ?_ | refine o_t x_gs ?_ | refine o_t x_gu ?_
            first | refine o_t (x_g (x_ld k3)) ?_ | refine o_t x_gs ?_ | refine o_t x_gu ?_
            first | (refine o_gy (?_); refine o_call Tryz.call42 haa spla (cW _ _ _ _ hb9) ?_; rintro _ _ HH ⟨rfl, rfl⟩ hHH; simp only [List.cons_append, List.nil_append, List.append_nil] at hHH; subst hHH) | refine o_t x_gs ?_ | refine o_t x_gu ?_
            refine o_t x_pick ?_
            refine o_t x_as ?_
            refine o_nil ?_
            exact ⟨(), wka, hka, trivial⟩
  refine w_seq ?_
  generalize (w0 && w1 && w2 && w3 && w4 && w5) = u0 at key ⊢
  generalize (w6 && w7 && w8 && w9) = u1 at key ⊢
  cases u0 with
  | false =>
    refine w_region ?_
    refine o_t x_mv ?_
    refine o_t x_mv ?_
    first | refine o_t (x_g x_mv) ?_ | refine o_t x_gs ?_ | refine o_t x_gu ?_
    refine o_t x_pick ?_
    refine o_t x_mv ?_
    first | refine o_t (x_g (x_fa f36_0)) ?_ | refine o_t x_gs ?_ | refine o_t x_gu ?_
    first | refine o_t (x_g (x_ld k9)) ?_ | refine o_t x_gs ?_ | refine o_t x_gu ?_
    first | refine o_t (x_g (x_lens Tryz.underlying9)) ?_ | refine o_t x_gs ?_ | refine o_t x_gu ?_
    first | refine o_t (x_g (x_cmp (hr := hd0))) ?_ | refine o_t x_gs ?_ | refine o_t x_gu ?_
    refine o_t x_pick ?_
    refine o_t x_mv ?_
    first | refine o_t (x_g (x_fa f36_1)) ?_ | refine o_t x_gs ?_ | refine o_t x_gu ?_
    first | refine o_t (x_g (x_ld k9)) ?_ | refine o_t x_gs ?_ | refine o_t x_gu ?_
    first | refine o_t (x_g (x_lens Tryz.underlying9)) ?_ | refine o_t x_gs ?_ | refine o_t x_gu ?_
    first | refine o_t (x_g (x_cmp (hr := hd1))) ?_ | refine o_t x_gs ?_ | refine o_t x_gu ?_
    refine o_t x_pick ?_
    refine o_t x_mv ?_
    first | refine o_t (x_g (x_fa f36_2)) ?_ | refine o_t x_gs ?_ | refine o_t x_gu ?_
    first | refine o_t (x_g (x_ld k9)) ?_ | refine o_t x_gs ?_ | refine o_t x_gu ?_
    first | refine o_t (x_g (x_lens Tryz.underlying9)) ?_ | refine o_t x_gs ?_ | refine o_t x_gu ?_
    first | refine o_t (x_g (x_cmp (hr := hd2))) ?_ | refine o_t x_gs ?_ | refine o_t x_gu ?_
    refine o_t x_pick ?_
    refine o_t x_as ?_
    refine o_nil ?_
    refine w_ret (r_1 rfl ⟨⟨_, rfl, key⟩, rfl⟩)
  | true =>
    cases u1 with
    | false =>
      refine w_region ?_
      refine o_t x_mv ?_
      refine o_t x_mv ?_
      first | refine o_t (x_g x_mv) ?_ | refine o_t x_gs ?_ | refine o_t x_gu ?_
      refine o_t x_pick ?_
      refine o_t x_mv ?_
      first | refine o_t (x_g (x_fa f36_0)) ?_ | refine o_t x_gs ?_ | refine o_t x_gu ?_
      first | refine o_t (x_g (x_ld k9)) ?_ | refine o_t x_gs ?_ | refine o_t x_gu ?_
      first | refine o_t (x_g (x_lens Tryz.underlying9)) ?_ | refine o_t x_gs ?_ | refine o_t x_gu ?_
      first | refine o_t (x_g (x_cmp (hr := hd0))) ?_ | refine o_t x_gs ?_ | refine o_t x_gu ?_
      refine o_t x_pick ?_
      refine o_t x_mv ?_
      first | refine o_t (x_g (x_fa f36_1)) ?_ | refine o_t x_gs ?_ | refine o_t x_gu ?_
      first | refine o_t (x_g (x_ld k9)) ?_ | refine o_t x_gs ?_ | refine o_t x_gu ?_
      first | refine o_t (x_g (x_lens Tryz.underlying9)) ?_ | refine o_t x_gs ?_ | refine o_t x_gu ?_
      first | refine o_t (x_g (x_cmp (hr := hd1))) ?_ | refine o_t x_gs ?_ | refine o_t x_gu ?_
      refine o_t x_pick ?_
      refine o_t x_mv ?_
      first | refine o_t (x_g (x_fa f36_2)) ?_ | refine o_t x_gs ?_ | refine o_t x_gu ?_
      first | refine o_t (x_g (x_ld k9)) ?_ | refine o_t x_gs ?_ | refine o_t x_gu ?_
      first | refine o_t (x_g (x_lens Tryz.underlying9)) ?_ | refine o_t x_gs ?_ | refine o_t x_gu ?_
      first | refine o_t (x_g (x_cmp (hr := hd2))) ?_ | refine o_t x_gs ?_ | refine o_t x_gu ?_
      refine o_t x_pick ?_
      refine o_t x_as ?_
      refine o_nil ?_
      refine w_ret (r_1 rfl ⟨⟨_, rfl, key⟩, rfl⟩)
    | true =>
      cases t0 with
      | false =>
        refine w_region ?_
        refine o_t x_mv ?_
        refine o_t x_mv ?_
        first | refine o_t (x_g x_mv) ?_ | refine o_t x_gs ?_ | refine o_t x_gu ?_
        refine o_t x_pick ?_
        refine o_t x_mv ?_
        first | refine o_t (x_g (x_fa f36_0)) ?_ | refine o_t x_gs ?_ | refine o_t x_gu ?_
        first | refine o_t (x_g (x_ld k9)) ?_ | refine o_t x_gs ?_ | refine o_t x_gu ?_
        first | refine o_t (x_g (x_lens Tryz.underlying9)) ?_ | refine o_t x_gs ?_ | refine o_t x_gu ?_
        first | refine o_t (x_g (x_cmp (hr := hd0))) ?_ | refine o_t x_gs ?_ | refine o_t x_gu ?_
        refine o_t x_pick ?_
        refine o_t x_mv ?_
        first | refine o_t (x_g (x_fa f36_1)) ?_ | refine o_t x_gs ?_ | refine o_t x_gu ?_
        first | refine o_t (x_g (x_ld k9)) ?_ | refine o_t x_gs ?_ | refine o_t x_gu ?_
        first | refine o_t (x_g (x_lens Tryz.underlying9)) ?_ | refine o_t x_gs ?_ | refine o_t x_gu ?_
        first | refine o_t (x_g (x_cmp (hr := hd1))) ?_ | refine o_t x_gs ?_ | refine o_t x_gu ?_
        refine o_t x_pick ?_
        refine o_t x_mv ?_
        first | refine o_t (x_g (x_fa f36_2)) ?_ | refine o_t x_gs ?_ | refine o_t x_gu ?_
        first | refine o_t (x_g (x_ld k9)) ?_ | refine o_t x_gs ?_ | refine o_t x_gu ?_
        first | refine o_t (x_g (x_lens Tryz.underlying9)) ?_ | refine o_t x_gs ?_ | refine o_t x_gu ?_
        first | refine o_t (x_g (x_cmp (hr := hd2))) ?_ | refine o_t x_gs ?_ | refine o_t x_gu ?_
        refine o_t x_pick ?_
        refine o_t x_as ?_
        refine o_nil ?_
        refine w_ret (r_1 rfl ⟨⟨_, rfl, key⟩, rfl⟩)
      | true =>
        cases t1 with
        | false =>
          refine w_region ?_
          refine o_t x_mv ?_
          refine o_t x_mv ?_
          first | refine o_t (x_g x_mv) ?_ | refine o_t x_gs ?_ | refine o_t x_gu ?_
          refine o_t x_pick ?_
          refine o_t x_mv ?_
          first | refine o_t (x_g (x_fa f36_0)) ?_ | refine o_t x_gs ?_ | refine o_t x_gu ?_
          first | refine o_t (x_g (x_ld k9)) ?_ | refine o_t x_gs ?_ | refine o_t x_gu ?_
          first | refine o_t (x_g (x_lens Tryz.underlying9)) ?_ | refine o_t x_gs ?_ | refine o_t x_gu ?_
          first | refine o_t (x_g (x_cmp (hr := hd0))) ?_ | refine o_t x_gs ?_ | refine o_t x_gu ?_
          refine o_t x_pick ?_
          refine o_t x_mv ?_
          first | refine o_t (x_g (x_fa f36_1)) ?_ | refine o_t x_gs ?_ | refine o_t x_gu ?_
          first | refine o_t (x_g (x_ld k9)) ?_ | refine o_t x_gs ?_ | refine o_t x_gu ?_
          first | refine o_t (x_g (x_lens Tryz.underlying9)) ?_ | refine o_t x_gs ?_ | refine o_t x_gu ?_
          first | refine o_t (x_g (x_cmp (hr := hd1))) ?_ | refine o_t x_gs ?_ | refine o_t x_gu ?_
          refine o_t x_pick ?_
          refine o_t x_mv ?_
          first | refine o_t (x_g (x_fa f36_2)) ?_ | refine o_t x_gs ?_ | refine o_t x_gu ?_
          first | refine o_t (x_g (x_ld k9)) ?_ | refine o_t x_gs ?_ | refine o_t x_gu ?_
          first | refine o_t (x_g (x_lens Tryz.underlying9)) ?_ | refine o_t x_gs ?_ | refine o_t x_gu ?_
          first | refine o_t (x_g (x_cmp (hr := hd2))) ?_ | refine o_t x_gs ?_ | refine o_t x_gu ?_
          refine o_t x_pick ?_
          refine o_t x_as ?_
          refine o_nil ?_
          refine w_ret (r_1 rfl ⟨⟨_, rfl, key⟩, rfl⟩)
        | true =>
          cases t2 with
          | false =>
            refine w_region ?_
            refine o_t x_mv ?_
            refine o_t x_mv ?_
            first | refine o_t (x_g x_mv) ?_ | refine o_t x_gs ?_ | refine o_t x_gu ?_
            refine o_t x_pick ?_
            refine o_t x_mv ?_
            first | refine o_t (x_g (x_fa f36_0)) ?_ | refine o_t x_gs ?_ | refine o_t x_gu ?_
            first | refine o_t (x_g (x_ld k9)) ?_ | refine o_t x_gs ?_ | refine o_t x_gu ?_
            first | refine o_t (x_g (x_lens Tryz.underlying9)) ?_ | refine o_t x_gs ?_ | refine o_t x_gu ?_
            first | refine o_t (x_g (x_cmp (hr := hd0))) ?_ | refine o_t x_gs ?_ | refine o_t x_gu ?_
            refine o_t x_pick ?_
            refine o_t x_mv ?_
            first | refine o_t (x_g (x_fa f36_1)) ?_ | refine o_t x_gs ?_ | refine o_t x_gu ?_
            first | refine o_t (x_g (x_ld k9)) ?_ | refine o_t x_gs ?_ | refine o_t x_gu ?_
            first | refine o_t (x_g (x_lens Tryz.underlying9)) ?_ | refine o_t x_gs ?_ | refine o_t x_gu ?_
            first | refine o_t (x_g (x_cmp (hr := hd1))) ?_ | refine o_t x_gs ?_ | refine o_t x_gu ?_
            refine o_t x_pick ?_
            refine o_t x_mv ?_
            first | refine o_t (x_g (x_fa f36_2)) ?_ | refine o_t x_gs ?_ | refine o_t x_gu ?_
            first | refine o_t (x_g (x_ld k9)) ?_ | refine o_t x_gs ?_ | refine o_t x_gu ?_
            first | refine o_t (x_g (x_lens Tryz.underlying9)) ?_ | refine o_t x_gs ?_ | refine o_t x_gu ?_
            first | refine o_t (x_g (x_cmp (hr := hd2))) ?_ | refine o_t x_gs ?_ | refine o_t x_gu ?_
            refine o_t x_pick ?_
            refine o_t x_as ?_
            refine o_nil ?_
            refine w_ret (r_1 rfl ⟨⟨_, rfl, key⟩, rfl⟩)
          | true =>
            refine w_region ?_
            refine o_t x_mv ?_
            refine o_t x_mv ?_
            first | refine o_t (x_g x_mv) ?_ | refine o_t x_gs ?_ | refine o_t x_gu ?_
            refine o_t x_pick ?_
            refine o_t x_mv ?_
            first | refine o_t (x_g (x_fa f36_0)) ?_ | refine o_t x_gs ?_ | refine o_t x_gu ?_
            first | refine o_t (x_g (x_ld k9)) ?_ | refine o_t x_gs ?_ | refine o_t x_gu ?_
            first | refine o_t (x_g (x_lens Tryz.underlying9)) ?_ | refine o_t x_gs ?_ | refine o_t x_gu ?_
            first | refine o_t (x_g (x_cmp (hr := hd0))) ?_ | refine o_t x_gs ?_ | refine o_t x_gu ?_
            refine o_t x_pick ?_
            refine o_t x_mv ?_
            first | refine o_t (x_g (x_fa f36_1)) ?_ | refine o_t x_gs ?_ | refine o_t x_gu ?_
            first | refine o_t (x_g (x_ld k9)) ?_ | refine o_t x_gs ?_ | refine o_t x_gu ?_
            first | refine o_t (x_g (x_lens Tryz.underlying9)) ?_ | refine o_t x_gs ?_ | refine o_t x_gu ?_
            first | refine o_t (x_g (x_cmp (hr := hd1))) ?_ | refine o_t x_gs ?_ | refine o_t x_gu ?_
            refine o_t x_pick ?_
            refine o_t x_mv ?_
            first | refine o_t (x_g (x_fa f36_2)) ?_ | refine o_t x_gs ?_ | refine o_t x_gu ?_
            first | refine o_t (x_g (x_ld k9)) ?_ | refine o_t x_gs ?_ | refine o_t x_gu ?_
            first | refine o_t (x_g (x_lens Tryz.underlying9)) ?_ | refine o_t x_gs ?_ | refine o_t x_gu ?_
            first | refine o_t (x_g (x_cmp (hr := hd2))) ?_ | refine o_t x_gs ?_ | refine o_t x_gu ?_
            refine o_t x_pick ?_
            refine o_t x_as ?_
            refine o_nil ?_
            refine w_ret (r_1 rfl ⟨⟨_, rfl, key⟩, rfl⟩)
/-- An entry with the method, sizes and checksum of its content as it is. -/
def stored (e : En) : En := { e with h := { e.h with method := 0, packed := e.data.length, size := e.data.length, crc := crcT e.data } }
theorem cStored (e : En) (hd : e.data.length ≤ 2147483647) : Fn P G 21 #[enV e] [] fun v H => v = enV (stored e) ∧ H = [] := by
  refine fn_intro (args := [_]) Tryz.func21 Tryz.ntmps21 rfl ?_
  refine w_seq ?_
  refine w_region ?_
  refine o_bx (fun b1 => ?_)
  refine o_al z38 (fun b2 => ?_)
  refine o_nil ?_
  refine w_seq ?_
  refine w_region ?_
  refine o_t (x_fa f38_0) ?_
  refine o_t (x_fa f36_7) ?_
  refine o_st k3 ?_
  refine o_nil ?_
  refine w_seq ?_
  refine w_region ?_
  refine o_t (x_fa f38_1) ?_
  refine o_t (x_ld k9) ?_
  refine o_t (x_lens Tryz.underlying9) ?_
  refine o_t (x_fa f38_0) ?_
  refine o_t (x_fa f36_11) ?_
  refine o_st k3 ?_
  refine o_nil ?_
  refine w_seq ?_
  refine w_region ?_
  refine o_t (x_fa f38_1) ?_
  refine o_t (x_ld k9) ?_
  refine o_t (x_lens Tryz.underlying9) ?_
  refine o_t (x_fa f38_0) ?_
  refine o_t (x_fa f36_12) ?_
  refine o_st k3 ?_
  refine o_nil ?_
  refine w_seq ?_
  refine w_region ?_
  refine o_t (x_fa f38_1) ?_
  refine o_t (x_ld k9) ?_
  refine o_call Tryz.call19 haa spla (cCRC e.data (by omega)) ?_
  rintro _ _ HH ⟨rfl, rfl⟩ hHH
  simp only [List.cons_append, List.nil_append, List.append_nil] at hHH; subst hHH
  refine o_t (x_fa f38_0) ?_
  refine o_t (x_fa f36_10) ?_
  refine o_st k3 ?_
  refine o_nil ?_
  refine w_seq ?_
  refine w_region ?_
  refine o_t (x_lda g38) ?_
  refine o_sta g38 ?_
  refine o_nil ?_
  refine w_ret (r_cell rfl g38 ⟨rfl, rfl⟩)
theorem cAllStored (v : Value) (r : Res) (l : List En) (hA : Arr G r v 15 l.length (entsC l)) (hk : fitsL l) : Fn P G 5 #[v] [r] fun v' H => ∃ r', Own 38 15 v' l.length (entsC (l.map stored)) r' ∧ H = [r', r] := by
  obtain ⟨a0, cap, hv⟩ := hA.len
  have hl := hk.1
  refine fn_intro (args := [_]) Tryz.func5 Tryz.ntmps5 rfl ?_
  refine w_seq ?_
  refine w_region ?_
  refine o_t x_as ?_
  refine o_nil ?_
  refine w_seq ?_
  refine w_region ?_
  refine o_bs0 Tryz.underlying22 e22 (fun b => ?_)
  refine o_t x_as ?_
  refine o_nil ?_
  refine w_seq ?_
  refine w_seq ?_
  refine w_region ?_
  refine o_t x_mv ?_
  refine o_t (x_lenb Tryz.underlying22 (hx := fun g => by subst hv; rfl)) ?_
  refine o_t x_mv ?_
  refine o_nil ?_
  refine w_block ?_ -- 0
  refine w_loop (α := Nat × Value × Res) (fun x => [(3, x.2.1), (7, v), (8, .int .i64 l.length), (9, .int .i64 x.1)]) (fun x => [x.2.2, r]) (fun x => x.1 ≤ l.length ∧ Own 38 15 x.2.1 x.1 (entsC ((l.take x.1).map stored)) x.2.2) (fun x => l.length - x.1) (0, .slice (some ⟨b, 0, none⟩) 0 0, pt b [] 38) (wka) (hka) ⟨Nat.zero_le _, Own.empty 38 15 b⟩ ?_
  rintro ⟨i, o, ro⟩ ⟨hi, hO⟩
  dsimp only at hi hO ⊢
  refine w_seq ?_
  refine w_region ?_
  refine o_t x_cmp ?_
  refine o_nil ?_
  refine w_seq ?_
  refine w_cond (fun g => rfl) (fun hc => ?_) (fun hc => ?_) -- ('Go.Operand.tmp', 10)
  · --
    have hc := of_decide_eq_true hc
    obtain ⟨b', o', cap', rfl, _, hrd⟩ := hA.some (by omega)
    have he := List.getElem?_eq_getElem (l := l) (i := i) (by omega)
    generalize l[i]'(by omega) = a at he
    have hE := hk.2 a (List.mem_of_getElem? he)
    refine w_skip ?_
    refine w_seq ?_
    refine w_block ?_ -- 1
    refine w_seq ?_
    refine w_region ?_
    refine o_t (x_ia Tryz.underlying22 e22) ?_
    refine o_t (x_ldE (hrd.pull (R := [ro]) (.tail .head)) he) ?_
    refine o_al z38 (fun b5 => ?_)
    refine o_sta g38 ?_
    refine o_nil ?_
    refine w_region ?_
    refine o_t x_mv ?_
    refine o_t (x_lda g38) ?_
    refine o_call Tryz.call21 haa spla (cStored a hE.2) ?_
    rintro _ _ HH ⟨rfl, rfl⟩ hHH
    simp only [List.cons_append, List.nil_append, List.append_nil] at hHH; subst hHH
    refine o_bs1 Tryz.underlying22 z38 (fun b1 => ?_)
    refine o_app info38 Tryz.underlying22 rfl hO (pulla) (Rd.all.pull .head) rfl (by simp [Value.oneCell']) (by simp [maxLen]; omega) (by omega) (fun v' r' hO' => ?_)
    refine o_t x_as ?_
    refine o_nil ?_
    refine w_region ?_
    refine o_t x_add ?_
    refine o_t x_mv ?_
    refine o_nil ?_
    refine ⟨(i + 1, v', r'), wka, hka, ⟨by dsimp only; omega, ?_⟩, by dsimp only; omega⟩
    dsimp only
    rw [take_snoc l i a he, List.map_append]
    simp only [entsC, List.flatMap_append] at hO' ⊢
    simpa [enC, hdC] using hO'
  · --
    refine w_exit ?_ -- 0
    obtain rfl : i = l.length := by have := of_decide_eq_false hc; omega
    rw [List.take_length] at hO
    refine w_seq ?_
    refine w_region ?_
    refine o_t x_mv ?_
    refine o_t x_as ?_
    refine o_nil ?_
    refine w_ret (r_1 rfl ⟨ro, hO, rfl⟩)
end Go.Proofs.YtlmefkhglooepaaGreatDoor
namespace Go.Proofs.YtlmefkhglooepaaGreatDoor
open Go
set_option linter.unusedSimpArgs false
set_option linter.unusedVariables false
variable {G : Nat → Option Obj}
structure GoodP (l : List En) (c : List UInt8) : Prop where
  oks : Oks l
  many : l.length ≤ 1000
  com : c.length ≤ 65535
  one : ends (archT l c) = 1
theorem archT_len {l : List En} {c : List UInt8} (h : Oks l) (hl : l.length ≤ 1000) (hc : c.length ≤ 65535) : (archT l c).length ≤ 1500000000 := by
  have := filesT_len h
  have := dirT_len h 0
  simp only [archT, List.length_append, endT_length]; omega
theorem cGood (v : Value) (r : Res) (l : List En) (c : List UInt8) (hA : Arr G r v 15 l.length (entsC l)) (hf : fitsL l) (hcl : c.length ≤ 2147483647) : Fn P G 6 #[v, .string (str c)] [r] fun v' H => (∃ b, v' = .bool b ∧ (b = true ↔ GoodP l c)) ∧ H = [r] := by
  obtain ⟨a0, cap, hv⟩ := hA.len
  have hl := hf.1
  refine fn_intro (args := [_,_]) Tryz.func6 Tryz.ntmps6 rfl ?_
  refine w_seq ?_
  refine w_region ?_
  refine o_t x_as ?_
  refine o_nil ?_
  refine w_seq ?_
  refine w_seq ?_
  refine w_region ?_
  refine o_t x_mv ?_
  refine o_t (x_lenb Tryz.underlying22 (hx := fun g => by subst hv; rfl)) ?_
  refine o_t x_mv ?_
  refine o_nil ?_
  refine w_block ?_ -- 0
  refine w_loop (α := Nat) (fun x => [(0, v), (1, .string (str c)), (7, v), (8, .int .i64 l.length), (9, .int .i64 x)]) (fun x => [r]) (fun x => x ≤ l.length ∧ ∀ e ∈ l.take x, Ok e.h ∧ e.data.length ≤ 1048576) (fun x => l.length - x) 0 (wka) (hka) ⟨Nat.zero_le _, by simp⟩ ?_
  rintro i ⟨hi, hall⟩
  refine w_seq ?_
  refine w_region ?_
  refine o_t x_cmp ?_
  refine o_nil ?_
  refine w_seq ?_
  refine w_cond (fun g => rfl) (fun hc => ?_) (fun hc => ?_) -- ('Go.Operand.tmp', 10)
  · --
    have hc := of_decide_eq_true hc
    obtain ⟨b, o, cap', rfl, _, hrd⟩ := hA.some (by omega)
    have he := List.getElem?_eq_getElem (l := l) (i := i) (by omega)
    generalize l[i]'(by omega) = a at he
    have hE := hf.2 a (List.mem_of_getElem? he)
    refine w_skip ?_
    refine w_seq ?_
    refine w_block ?_ -- 1
    refine w_seq ?_
    refine w_region ?_
    refine o_t (x_ia Tryz.underlying22 e22) ?_
    refine o_t (x_ldE hrd he) ?_
    refine o_al z38 (fun b6 => ?_)
    refine o_sta g38 ?_
    refine o_nil ?_
    refine w_cut (α := Bool) (fun x => [(0, .slice (some ⟨b, o, none⟩) l.length cap'), (1, .string (str c)), (7, .slice (some ⟨b, o, none⟩) l.length cap'), (8, .int .i64 l.length), (9, .int .i64 i), (22, .bool x)]) (fun _ => [r]) (fun x => x = true ↔ ¬ (Ok a.h ∧ a.data.length ≤ 1048576)) ?_ ?_
    · have hok := cHeaderOk (G := G) a.h hE.1
      refine w_region ?_
      refine o_t (x_fa f38_0) ?_
      refine o_t (x_lda g36) ?_
      refine o_call Tryz.call22 haa spla hok ?_
      rintro _ _ HH ⟨⟨bo, rfl, hbo⟩, rfl⟩ hHH
      simp only [List.cons_append, List.nil_append, List.append_nil] at hHH; subst hHH
      cases bo with
      | false =>
        have hno : ¬ Ok a.h := fun h => by simpa using hbo.2 h
        refine o_t x_not ?_
        refine o_t x_mv ?_
        refine o_t x_gs ?_
        refine o_t x_gs ?_
        refine o_t x_gs ?_
        refine o_t x_gs ?_
        refine o_t x_pick ?_
        refine o_nil ?_
        exact ⟨true, wka, hka, by simp [hno]⟩
      | true =>
        have hyes : Ok a.h := hbo.1 rfl
        refine o_t x_not ?_
        refine o_t x_mv ?_
        refine o_t (x_g (x_fa f38_1)) ?_
        refine o_t (x_g (x_ld k9)) ?_
        refine o_t (x_g (x_lens Tryz.underlying9)) ?_
        refine o_t (x_g x_cmp) ?_
        refine o_t x_pick ?_
        refine o_nil ?_
        exact ⟨_, .cons (fun _ => rfl) (.cons (fun _ => rfl) (.cons (fun _ => rfl) (.cons (fun _ => rfl) (.cons (fun _ => rfl) (.cons (fun _ => rfl) (.nil _)))))), hka, by simp [hyes]; omega⟩
    rintro q hq
    refine w_cond (t := q) (fun g => rfl) (fun hc => ?_) (fun hc => ?_) -- ('Go.Operand.tmp', 22)
    · --
      have hno := hq.1 hc
      refine w_seq ?_
      refine w_region ?_
      refine o_t x_as ?_
      refine o_nil ?_
      refine w_ret (r_1 rfl ⟨⟨false, rfl, by simp; exact fun h => hno (h.oks a (List.mem_of_getElem? he))⟩, rfl⟩)
    · --
      have hyes : Ok a.h ∧ a.data.length ≤ 1048576 := Classical.byContradiction (fun h => by rw [hq.2 h] at hc; cases hc)
      refine w_skip ?_
      refine w_region ?_
      refine o_t x_add ?_
      refine o_t x_mv ?_
      refine o_nil ?_
      exact ⟨i + 1, wka, hka, ⟨by omega, mem_take_snoc (p := fun e => Ok e.h ∧ e.data.length ≤ 1048576) he hall hyes⟩, by omega⟩
  · --
    refine w_exit ?_ -- 0
    obtain rfl : i = l.length := by have := of_decide_eq_false hc; omega
    rw [List.take_length] at hall
    refine w_seq ?_
    have hen : l.length ≤ 1000 → c.length ≤ 65535 → (archT l c).length < 4611686018427387904 := fun h1 h2 => by have := archT_len hall h1 h2; omega
    by_cases h1 : l.length ≤ 1000
    · by_cases h2 : c.length ≤ 65535
      · have hen := hen h1 h2
        refine w_region ?_
        refine o_t x_mv ?_
        refine o_t (x_lenb Tryz.underlying22 (hx := fun g => by subst hv; rfl)) ?_
        refine o_t x_cmp ?_
        refine o_t x_mv ?_
        first | refine o_t (x_g x_mv) ?_ | refine o_t x_gs ?_ | refine o_t x_gu ?_
        first | refine o_t (x_g (x_lens Tryz.underlying9)) ?_ | refine o_t x_gs ?_ | refine o_t x_gu ?_
        first | refine o_t (x_g x_cmp) ?_ | refine o_t x_gs ?_ | refine o_t x_gu ?_
        refine o_t x_pick ?_
        refine o_t x_mv ?_
        first | refine o_t (x_g x_mv) ?_ | refine o_t x_gs ?_ | refine o_t x_gu ?_
        first | refine o_t (x_g x_mv) ?_ | refine o_t x_gs ?_ | refine o_t x_gu ?_
        first | (refine o_gy (?_); refine o_call Tryz.call10 haa spla (cArchive v r l c hA hall (by omega) (by omega)) ?_; rintro _ _ HH ⟨rfl, rfl⟩ hHH; simp only [List.cons_append, List.nil_append, List.append_nil] at hHH; subst hHH) | refine o_t x_gs ?_ | refine o_t x_gu ?_
        first | (refine o_gy (?_); refine o_call Tryz.call16 haa spla (cEnds (archT l c) hen) ?_; rintro _ _ HH ⟨rfl, rfl⟩ hHH; simp only [List.cons_append, List.nil_append, List.append_nil] at hHH; subst hHH) | refine o_t x_gs ?_ | refine o_t x_gu ?_
        first | refine o_t (x_g x_cmp) ?_ | refine o_t x_gs ?_ | refine o_t x_gu ?_
        refine o_t x_pick ?_
        refine o_t x_as ?_
        refine o_nil ?_
        refine w_ret (r_1 rfl ⟨⟨decide (ends (archT l c) = 1), ?_, ?_⟩, rfl⟩)
        · simp [cmpI]; omega
        · simp only [decide_eq_true_eq]
          exact ⟨fun h => ⟨hall, h1, h2, h⟩, fun h => h.one⟩
      · refine w_region ?_
        refine o_t x_mv ?_
        refine o_t (x_lenb Tryz.underlying22 (hx := fun g => by subst hv; rfl)) ?_
        refine o_t x_cmp ?_
        refine o_t x_mv ?_
        first | refine o_t (x_g x_mv) ?_ | refine o_t x_gs ?_ | refine o_t x_gu ?_
        first | refine o_t (x_g (x_lens Tryz.underlying9)) ?_ | refine o_t x_gs ?_ | refine o_t x_gu ?_
        first | refine o_t (x_g x_cmp) ?_ | refine o_t x_gs ?_ | refine o_t x_gu ?_
        refine o_t x_pick ?_
        refine o_t x_mv ?_
        first | refine o_t (x_g x_mv) ?_ | refine o_t x_gs ?_ | refine o_t x_gu ?_
        first | refine o_t (x_g x_mv) ?_ | refine o_t x_gs ?_ | refine o_t x_gu ?_
        first | (refine o_gy (?_); refine o_t x_gs ?_) | refine o_t x_gs ?_ | refine o_t x_gu ?_
        first | (refine o_gy (?_); refine o_t x_gs ?_) | refine o_t x_gs ?_ | refine o_t x_gu ?_
        first | refine o_t (x_g x_cmp) ?_ | refine o_t x_gs ?_ | refine o_t x_gu ?_
        refine o_t x_pick ?_
        refine o_t x_as ?_
        refine o_nil ?_
        refine w_ret (r_1 rfl ⟨⟨false, rfl, by simp; exact fun h => h2 h.com⟩, rfl⟩)
    · refine w_region ?_
      refine o_t x_mv ?_
      refine o_t (x_lenb Tryz.underlying22 (hx := fun g => by subst hv; rfl)) ?_
      refine o_t x_cmp ?_
      refine o_t x_mv ?_
      first | refine o_t (x_g x_mv) ?_ | refine o_t x_gs ?_ | refine o_t x_gu ?_
      first | refine o_t (x_g (x_lens Tryz.underlying9)) ?_ | refine o_t x_gs ?_ | refine o_t x_gu ?_
      first | refine o_t (x_g x_cmp) ?_ | refine o_t x_gs ?_ | refine o_t x_gu ?_
      refine o_t x_pick ?_
      refine o_t x_mv ?_
      first | refine o_t (x_g x_mv) ?_ | refine o_t x_gs ?_ | refine o_t x_gu ?_
      first | refine o_t (x_g x_mv) ?_ | refine o_t x_gs ?_ | refine o_t x_gu ?_
      first | (refine o_gy (?_); refine o_t x_gs ?_) | refine o_t x_gs ?_ | refine o_t x_gu ?_
      first | (refine o_gy (?_); refine o_t x_gs ?_) | refine o_t x_gs ?_ | refine o_t x_gu ?_
      first | refine o_t (x_g x_cmp) ?_ | refine o_t x_gs ?_ | refine o_t x_gu ?_
      refine o_t x_pick ?_
      refine o_t x_as ?_
      refine o_nil ?_
      refine w_ret (r_1 rfl ⟨⟨false, rfl, by simp; exact fun h => h1 h.many⟩, rfl⟩)
end Go.Proofs.YtlmefkhglooepaaGreatDoor
namespace Go.Proofs.YtlmefkhglooepaaGreatDoor
open Go
def cont (b : UInt8) : Bool := decide (128 ≤ b.toNat ∧ b.toNat ≤ 191)
def acc (c : Nat) : List UInt8 → Option Nat
  | [] => some c
  | b :: l => if cont b then acc (c * 64 + b.toNat - 128) l else none
def headR (a : Nat) : Option (Nat × Nat × Nat) :=
  if 194 ≤ a ∧ a ≤ 223 then some (2, a - 192, 128) else if 224 ≤ a ∧ a ≤ 239 then some (3, a - 224, 2048) else if 240 ≤ a ∧ a ≤ 244 then some (4, a - 240, 65536) else none
def tailR (n low : Nat) : Option Nat → Nat
  | none => 0
  | some c => if c < low ∨ 1114111 < c ∨ 55296 ≤ c ∧ c ≤ 57343 then 0 else n
def rune1T : List UInt8 → Nat
  | [] => 0
  | a :: t =>
    if a.toNat < 128 then 1 else
    match headR a.toNat with
    | none => 0
    | some (n, c, low) => if t.length + 1 < n then 0 else tailR n low (acc c (t.take (n - 1)))
theorem acc_snoc (b : UInt8) : ∀ (l : List UInt8) (c : Nat), acc c (l ++ [b]) = (acc c l).bind fun c => if cont b then some (c * 64 + b.toNat - 128) else none
  | [], c => by simp [acc]
  | x :: l, c => by
    simp only [List.cons_append, acc]
    split
    · exact acc_snoc b l _
    · rfl
theorem acc_none (l m : List UInt8) (c : Nat) (h : acc c l = none) : acc c (l ++ m) = none := by
  induction l generalizing c with
  | nil => simp [acc] at h
  | cons x l ih =>
    simp only [List.cons_append, acc] at h ⊢
    split
    · rename_i hx; rw [if_pos hx] at h; exact ih _ h
    · rfl
theorem headR_spec {a n c low : Nat} (h : headR a = some (n, c, low)) (ha : a < 256) : 2 ≤ n ∧ n ≤ 4 ∧ c < 32 ∧ low ≤ 65536 ∧ 128 ≤ a := by
  unfold headR at h
  split at h
  · simp at h; omega
  · split at h
    · simp at h; omega
    · split at h
      · simp at h; omega
      · cases h
theorem rune1T_le (l : List UInt8) : rune1T l ≤ l.length := by
  unfold rune1T
  split
  · simp
  · rename_i a t
    split
    · simp
    · split
      · simp
      · split
        · simp
        · unfold tailR; split
          · simp
          · split
            · simp
            · simp; omega
def needs (b : UInt8) : Bool := decide (b.toNat < 32 ∨ 125 < b.toNat ∨ b.toNat = 92)
/-- Whether a text is UTF-8, and whether it needs to be told so; m bounds the signs. -/
def validG : Nat → Bool → List UInt8 → Bool × Bool
  | 0, q, _ => (true, q)
  | _, q, [] => (true, q)
  | m + 1, q, a :: t =>
    let n := rune1T (a :: t)
    if n = 0 then (false, false) else validG m (q || decide (1 < n) || needs a) ((a :: t).drop n)
def validT (s : List UInt8) : Bool × Bool := validG s.length false s
theorem validG_fuel : ∀ (m m' : Nat) (q : Bool) (s : List UInt8), s.length ≤ m → s.length ≤ m' → validG m q s = validG m' q s
  | 0, 0, _, _, _, _ => rfl
  | 0, m' + 1, q, [], _, _ => rfl
  | m + 1, 0, q, [], _, _ => rfl
  | m + 1, m' + 1, q, [], _, _ => rfl
  | 0, m' + 1, q, a :: t, h, _ => by simp at h
  | m + 1, 0, q, a :: t, _, h => by simp at h
  | m + 1, m' + 1, q, a :: t, h, h' => by
    simp only [validG]
    split
    · rfl
    · rename_i hn
      simp only [List.length_cons] at h h'
      exact validG_fuel m m' _ _ (by simp only [List.length_drop, List.length_cons]; omega) (by simp only [List.length_drop, List.length_cons]; omega)
end Go.Proofs.YtlmefkhglooepaaGreatDoor
