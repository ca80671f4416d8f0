/- The reference's functions on UTF-8. The reference's functions on UTF-8, listings. The reference's functions on listings. The reference's comparison of listings. What stands where in a text, in plain Lean. The reference's reading of records. An archive as its records, in plain Lean. The reference's scan of an archive. The tables of package utf8, in plain Lean. The engine's rules: tests of interfaces, pointers, functions, slices against nil; the package's errors. -/
import Derived.Test.YtlmefkhglooepaaGreatDoorPart2
import Derived.Laws.StructEq
import Derived.LaidEql
import Derived.WideLaws
set_option linter.unusedSimpArgs false
set_option linter.unusedVariables false
namespace Go.Proofs.YtlmefkhglooepaaGreatDoor
open Go
set_option linter.unusedSimpArgs false
set_option linter.unusedVariables false
variable {G : Nat → Option Obj}
theorem cRune1 (a : UInt8) (t : List UInt8) (ht : t.length < 4611686018427387904) : Fn P G 40 #[.string (str (a :: t))] [] fun v H => v = .int .i64 (rune1T (a :: t)) ∧ H = [] := by
  have ha := a.toNat_lt
  have h0 : (a :: t)[0]? = some a := rfl
  obtain ⟨w2, hb2⟩ : ∃ b, decide ((194 : Int) ≤ a.toNat ∧ (a.toNat : Int) ≤ 223) = b := ⟨_, rfl⟩
  obtain ⟨w3, hb3⟩ : ∃ b, decide ((224 : Int) ≤ a.toNat ∧ (a.toNat : Int) ≤ 239) = b := ⟨_, rfl⟩
  obtain ⟨w4, hb4⟩ : ∃ b, decide ((240 : Int) ≤ a.toNat ∧ (a.toNat : Int) ≤ 244) = b := ⟨_, rfl⟩
  refine fn_intro (args := [_]) Tryz.func40 Tryz.ntmps40 rfl ?_
  refine w_seq ?_
  refine w_region ?_
  refine o_t x_as ?_
  refine o_nil ?_
  refine w_seq ?_
  refine w_region ?_
  refine o_t x_mv ?_
  refine o_t (x_ixs (j := 0) Tryz.underlying9 h0) ?_
  refine o_t (x_cv ⟨_, Tryz.underlying5⟩ Tryz.underlying3) ?_
  refine o_t x_as ?_
  refine o_nil ?_
  refine w_seq ?_
  refine w_region ?_
  refine o_t x_as ?_
  refine o_t x_as ?_
  refine o_nil ?_
  refine w_cut (α := Nat × Nat × Nat) (fun x => [(0, .string (str (a :: t))), (3, .int .i64 x.2.1), (4, .int .i64 x.1), (5, .int .i64 x.2.2)]) (fun _ => []) (fun x => headR a.toNat = some x) ?_ ?_
  · refine w_block ?_ -- 0
    refine w_seq ?_
    refine w_region ?_
    refine o_t x_mv ?_
    refine o_t x_cmp ?_
    refine o_t x_as ?_
    refine o_nil ?_
    refine w_cond (fun g => rfl) (fun hc => ?_) (fun hc => ?_) -- ('Go.Operand.tmp', 10)
    · --
      have hc := of_decide_eq_true hc
      refine w_seq ?_
      refine w_region ?_
      refine o_t x_as ?_
      refine o_nil ?_
      refine w_ret (r_1 rfl ⟨?_, rfl⟩)
      rw [rune1T, if_pos (by omega)]; rfl
    · --
      have hc := of_decide_eq_false hc
      refine w_seq ?_
      refine w_region ?_
      refine o_t x_mv ?_
      refine o_call Tryz.call42 haa spla (cW _ _ _ _ hb2) ?_
      rintro _ _ HH ⟨rfl, rfl⟩ hHH
      simp only [List.cons_append, List.nil_append, List.append_nil] at hHH; subst hHH
      refine o_t x_as ?_
      refine o_nil ?_
      refine w_cond (t := w2) (fun g => rfl) (fun hc => ?_) (fun hc => ?_) -- ('Go.Operand.tmp', 13)
      · --
        subst hc
        have hb2 := of_decide_eq_true hb2
        refine w_region ?_
        refine o_t x_mv ?_
        refine o_t x_sub ?_
        refine o_t x_as ?_
        refine o_t x_as ?_
        refine o_t x_as ?_
        refine o_nil ?_
        exact ⟨(2, a.toNat - 192, 128), wka, hka, by rw [headR, if_pos (by omega)]⟩
      · --
        subst hc
        have hb2 := of_decide_eq_false hb2
        refine w_seq ?_
        refine w_region ?_
        refine o_t x_mv ?_
        refine o_call Tryz.call42 haa spla (cW _ _ _ _ hb3) ?_
        rintro _ _ HH ⟨rfl, rfl⟩ hHH
        simp only [List.cons_append, List.nil_append, List.append_nil] at hHH; subst hHH
        refine o_t x_as ?_
        refine o_nil ?_
        refine w_cond (t := w3) (fun g => rfl) (fun hc => ?_) (fun hc => ?_) -- ('Go.Operand.tmp', 18)
        · --
          subst hc
          have hb3 := of_decide_eq_true hb3
          refine w_region ?_
          refine o_t x_mv ?_
          refine o_t x_sub ?_
          refine o_t x_as ?_
          refine o_t x_as ?_
          refine o_t x_as ?_
          refine o_nil ?_
          exact ⟨(3, a.toNat - 224, 2048), wka, hka, by rw [headR, if_neg (by omega), if_pos (by omega)]⟩
        · --
          subst hc
          have hb3 := of_decide_eq_false hb3
          refine w_seq ?_
          refine w_region ?_
          refine o_t x_mv ?_
          refine o_call Tryz.call42 haa spla (cW _ _ _ _ hb4) ?_
          rintro _ _ HH ⟨rfl, rfl⟩ hHH
          simp only [List.cons_append, List.nil_append, List.append_nil] at hHH; subst hHH
          refine o_t x_as ?_
          refine o_nil ?_
          refine w_cond (t := w4) (fun g => rfl) (fun hc => ?_) (fun hc => ?_) -- ('Go.Operand.tmp', 23)
          · --
            subst hc
            have hb4 := of_decide_eq_true hb4
            refine w_region ?_
            refine o_t x_mv ?_
            refine o_t x_sub ?_
            refine o_t x_as ?_
            refine o_t x_as ?_
            refine o_t x_as ?_
            refine o_nil ?_
            exact ⟨(4, a.toNat - 240, 65536), wka, hka, by rw [headR, if_neg (by omega), if_neg (by omega), if_pos (by omega)]⟩
          · --
            subst hc
            have hb4 := of_decide_eq_false hb4
            refine w_seq ?_
            refine w_region ?_
            refine o_t x_as ?_
            refine o_nil ?_
            refine w_ret (r_1 rfl ⟨?_, rfl⟩)
            have : headR a.toNat = none := by rw [headR, if_neg (by omega), if_neg (by omega), if_neg (by omega)]
            rw [rune1T, if_neg (by omega), this]; rfl
  rintro ⟨n, c0, low⟩ hh
  dsimp only at hh ⊢
  have hsp := headR_spec hh (by omega)
  have hR : rune1T (a :: t) = if t.length + 1 < n then 0 else tailR n low (acc c0 (t.take (n - 1))) := by
    rw [rune1T, if_neg (by omega), hh]
  refine w_seq ?_
  refine w_seq ?_
  refine w_region ?_
  refine o_t x_mv ?_
  refine o_t (x_lens Tryz.underlying9) ?_
  refine o_t x_mv ?_
  refine o_t x_cmp ?_
  refine o_nil ?_
  refine w_cond (fun g => rfl) (fun hc => ?_) (fun hc => ?_) -- ('Go.Operand.tmp', 31)
  · --
    have hc := of_decide_eq_true hc
    refine w_seq ?_
    refine w_region ?_
    refine o_t x_as ?_
    refine o_nil ?_
    refine w_ret (r_1 rfl ⟨?_, rfl⟩)
    rw [hR, if_pos (by simp at hc; omega)]; rfl
  · --
    have hc := of_decide_eq_false hc
    have hlen : n ≤ t.length + 1 := by simp at hc; omega
    rw [if_neg (by omega)] at hR
    refine w_skip ?_
    refine w_seq ?_
    refine w_seq ?_
    refine w_region ?_
    refine o_t x_as ?_
    refine o_nil ?_
    refine w_block ?_ -- 1
    refine w_loop (α := Nat × Nat) (fun x => [(0, .string (str (a :: t))), (3, .int .i64 x.2), (4, .int .i64 n), (5, .int .i64 low), (6, .int .i64 x.1)]) (fun x => []) (fun x => 1 ≤ x.1 ∧ x.1 ≤ n ∧ acc c0 (t.take (x.1 - 1)) = some x.2 ∧ x.2 < 32 * 64 ^ (x.1 - 1)) (fun x => n - x.1) (1, c0) (wka) (hka) ⟨by simp, by dsimp only; omega, by simp [acc], by simp; omega⟩ ?_
    rintro ⟨k, c⟩ ⟨hk1, hkn, hacc, hcb⟩
    dsimp only at hk1 hkn hacc hcb ⊢
    have hp : 64 ^ (k - 1) ≤ 64 ^ 3 := Nat.pow_le_pow_right (by decide) (by omega)
    have hcs : c < 8388608 := by
      have : (64 : Nat) ^ 3 = 262144 := by decide
      omega
    refine w_seq ?_
    refine w_seq ?_
    refine w_region ?_
    refine o_t x_mv ?_
    refine o_t x_mv ?_
    refine o_t x_cmp ?_
    refine o_nil ?_
    refine w_cond (fun g => rfl) (fun hc => ?_) (fun hc => ?_) -- ('Go.Operand.tmp', 34)
    · --
      have hc := of_decide_eq_true hc
      have he := List.getElem?_eq_getElem (l := t) (i := k - 1) (by omega)
      generalize t[k - 1]'(by omega) = b at he
      have he' : (a :: t)[k]? = some b := by rw [show k = (k - 1) + 1 by omega, List.getElem?_cons_succ]; exact he
      have hbt := b.toNat_lt
      have hsn := take_snoc t (k - 1) b he
      rw [show k - 1 + 1 = k by omega] at hsn
      obtain ⟨wc, hwc⟩ : ∃ q, decide ((128 : Int) ≤ b.toNat ∧ (b.toNat : Int) ≤ 191) = q := ⟨_, rfl⟩
      have hcont : cont b = wc := by rw [← hwc, cont, Bool.eq_iff_iff]; simp; omega
      refine w_skip ?_
      refine w_seq ?_
      refine w_block ?_ -- 2
      refine w_seq ?_
      refine w_seq ?_
      refine w_region ?_
      refine o_t x_mv ?_
      refine o_t x_mv ?_
      refine o_t (x_ixs (j := k) Tryz.underlying9 he') ?_
      refine o_t (x_cv ⟨_, Tryz.underlying5⟩ Tryz.underlying3) ?_
      refine o_call Tryz.call42 haa spla (cW _ _ _ _ hwc) ?_
      rintro _ _ HH ⟨rfl, rfl⟩ hHH
      simp only [List.cons_append, List.nil_append, List.append_nil] at hHH; subst hHH
      refine o_t x_not ?_
      refine o_nil ?_
      refine w_cond (fun g => rfl) (fun hc => ?_) (fun hc => ?_) -- ('Go.Operand.tmp', 42)
      · --
        have hc : wc = false := by simpa using hc
        refine w_seq ?_
        refine w_region ?_
        refine o_t x_as ?_
        refine o_nil ?_
        refine w_ret (r_1 rfl ⟨?_, rfl⟩)
        have hnone : acc c0 (t.take k) = none := by rw [hsn, acc_snoc, hacc]; simp [hcont, hc]
        have : t.take (n - 1) = t.take k ++ (t.drop k).take (n - 1 - k) := by
          rw [← List.take_add]; congr 1; omega
        rw [hR, this, acc_none _ _ _ hnone]; rfl
      · --
        have hc : wc = true := by simpa using hc
        refine w_skip ?_
        have hwc' : 128 ≤ b.toNat ∧ b.toNat ≤ 191 := by rw [hc] at hwc; have := of_decide_eq_true hwc; omega
        refine w_region ?_
        refine o_t x_mv ?_
        refine o_t x_mul ?_
        refine o_t x_mv ?_
        refine o_t x_mv ?_
        refine o_t (x_ixs (j := k) Tryz.underlying9 he') ?_
        refine o_t (x_cv ⟨_, Tryz.underlying5⟩ Tryz.underlying3) ?_
        refine o_t x_add ?_
        refine o_t x_sub ?_
        refine o_t x_as ?_
        refine o_nil ?_
        refine w_region ?_
        refine o_t x_mv ?_
        refine o_t x_add ?_
        refine o_t x_as ?_
        refine o_nil ?_
        refine ⟨(k + 1, c * 64 + b.toNat - 128), wka, hka, ⟨by dsimp only; omega, by dsimp only; omega, ?_, ?_⟩, by dsimp only; omega⟩
        · dsimp only
          rw [Nat.add_sub_cancel, hsn, acc_snoc, hacc]; simp [hcont, hc]
        · dsimp only
          rw [Nat.add_sub_cancel, show (64 : Nat) ^ k = 64 * 64 ^ (k - 1) by rw [← Nat.pow_succ']; congr 1; omega]
          omega
    · --
      have hc := of_decide_eq_false hc
      obtain rfl : k = n := by omega
      rw [hacc] at hR
      refine w_exit ?_ -- 1
      obtain ⟨ws, hws⟩ : ∃ q, decide ((55296 : Int) ≤ c ∧ (c : Int) ≤ 57343) = q := ⟨_, rfl⟩
      refine w_seq ?_
      refine w_cut (α := Bool) (fun x => [(4, .int .i64 k), (61, .bool x)]) (fun _ => []) (fun x => x = decide (c < low ∨ 1114111 < c ∨ 55296 ≤ c ∧ c ≤ 57343)) ?_ ?_
      · by_cases h1 : c < low
        · refine w_region ?_
          refine o_t x_mv ?_
          refine o_t x_mv ?_
          refine o_t x_cmp ?_
          refine o_t x_mv ?_
          first | refine o_t (x_g x_mv) ?_ | refine o_t x_gs ?_ | refine o_t x_gu ?_
          first | refine o_t (x_g x_cmp) ?_ | refine o_t x_gs ?_ | refine o_t x_gu ?_
          refine o_t x_pick ?_
          refine o_t x_mv ?_
          first | refine o_t (x_g x_mv) ?_ | refine o_t x_gs ?_ | refine o_t x_gu ?_
          first | (refine o_gy (?_); refine o_t x_gs ?_) | refine o_t x_gs ?_ | refine o_t x_gu ?_
          refine o_t x_pick ?_
          refine o_nil ?_
          exact ⟨true, wka, hka, by simp [h1]⟩
        · by_cases h2 : 1114111 < c
          · refine w_region ?_
            refine o_t x_mv ?_
            refine o_t x_mv ?_
            refine o_t x_cmp ?_
            refine o_t x_mv ?_
            first | refine o_t (x_g x_mv) ?_ | refine o_t x_gs ?_ | refine o_t x_gu ?_
            first | refine o_t (x_g x_cmp) ?_ | refine o_t x_gs ?_ | refine o_t x_gu ?_
            refine o_t x_pick ?_
            refine o_t x_mv ?_
            first | refine o_t (x_g x_mv) ?_ | refine o_t x_gs ?_ | refine o_t x_gu ?_
            first | (refine o_gy (?_); refine o_t x_gs ?_) | refine o_t x_gs ?_ | refine o_t x_gu ?_
            refine o_t x_pick ?_
            refine o_nil ?_
            exact ⟨true, wka, hka, by simp [h2]⟩
          · refine w_region ?_
            refine o_t x_mv ?_
            refine o_t x_mv ?_
            refine o_t x_cmp ?_
            refine o_t x_mv ?_
            first | refine o_t (x_g x_mv) ?_ | refine o_t x_gs ?_ | refine o_t x_gu ?_
            first | refine o_t (x_g x_cmp) ?_ | refine o_t x_gs ?_ | refine o_t x_gu ?_
            refine o_t x_pick ?_
            refine o_t x_mv ?_
            first | refine o_t (x_g x_mv) ?_ | refine o_t x_gs ?_ | refine o_t x_gu ?_
            first | (refine o_gy (?_); refine o_call Tryz.call42 haa spla (cW _ _ _ _ hws) ?_; rintro _ _ HH ⟨rfl, rfl⟩ hHH; simp only [List.cons_append, List.nil_append, List.append_nil] at hHH; subst hHH) | refine o_t x_gs ?_ | refine o_t x_gu ?_
            refine o_t x_pick ?_
            refine o_nil ?_
            exact ⟨ws, wka, hka, by rw [← hws, Bool.eq_iff_iff]; simp; omega⟩
      rintro q hq
      refine w_cond (t := q) (fun g => rfl) (fun hc => ?_) (fun hc => ?_) -- ('Go.Operand.tmp', 61)
      · --
        rw [hc] at hq
        have hq := of_decide_eq_true hq.symm
        refine w_seq ?_
        refine w_region ?_
        refine o_t x_as ?_
        refine o_nil ?_
        refine w_ret (r_1 rfl ⟨?_, rfl⟩)
        rw [hR, tailR, if_pos hq]; rfl
      · --
        rw [hc] at hq
        have hq := of_decide_eq_false hq.symm
        refine w_skip ?_
        refine w_seq ?_
        refine w_region ?_
        refine o_t x_mv ?_
        refine o_t x_as ?_
        refine o_nil ?_
        refine w_ret (r_1 rfl ⟨?_, rfl⟩)
        rw [hR, tailR, if_neg hq]
end Go.Proofs.YtlmefkhglooepaaGreatDoor
namespace Go.Proofs.YtlmefkhglooepaaGreatDoor
open Go
set_option linter.unusedSimpArgs false
set_option linter.unusedVariables false
variable {G : Nat → Option Obj}
theorem cValid (s : List UInt8) (hs : s.length < 4611686018427387904) : Fn P G 18 #[.string (str s)] [] fun v H => v = .tuple #[.bool (validT s).1, .bool (validT s).2] ∧ H = [] := by
  refine fn_intro (args := [_]) Tryz.func18 Tryz.ntmps18 rfl ?_
  refine w_seq ?_
  refine w_region ?_
  refine o_t x_as ?_
  refine o_t x_as ?_
  refine o_nil ?_
  refine w_seq ?_
  refine w_region ?_
  refine o_t x_as ?_
  refine o_nil ?_
  refine w_seq ?_
  refine w_seq ?_
  refine w_region ?_
  refine o_t x_as ?_
  refine o_nil ?_
  refine w_block ?_ -- 0
  refine w_loop (α := Nat × Bool) (fun x => [(0, .string (str s)), (4, .bool x.2), (5, .int .i64 x.1)]) (fun x => []) (fun x => x.1 ≤ s.length ∧ validT s = validG (s.length - x.1) x.2 (s.drop x.1)) (fun x => s.length - x.1) (0, false) (wka) (hka) ⟨Nat.zero_le _, by simp [validT]⟩ ?_
  rintro ⟨i, q⟩ ⟨hi, hv⟩
  dsimp only at hi hv ⊢
  refine w_seq ?_
  refine w_seq ?_
  refine w_region ?_
  refine o_t x_mv ?_
  refine o_t x_mv ?_
  refine o_t (x_lens Tryz.underlying9) ?_
  refine o_t x_cmp ?_
  refine o_nil ?_
  refine w_cond (fun g => rfl) (fun hc => ?_) (fun hc => ?_) -- ('Go.Operand.tmp', 10)
  · --
    have hc := of_decide_eq_true hc
    have he := List.getElem?_eq_getElem (l := s) (i := i) (by omega)
    have hd := List.drop_eq_getElem_cons (l := s) (i := i) (by omega)
    generalize s[i]'(by omega) = a at he hd
    have hat := a.toNat_lt
    have hm : s.length - i = (s.length - (i + 1)) + 1 := by omega
    rw [hd, hm] at hv
    simp only [validG] at hv
    have hle := rune1T_le (a :: s.drop (i + 1))
    simp only [List.length_cons, List.length_drop] at hle
    have hsl : (s.drop i).take (s.length - i) = a :: s.drop (i + 1) := by rw [← hd, List.take_of_length_le (by simp)]
    refine w_skip ?_
    refine w_block ?_ -- 1
    refine w_seq ?_
    refine w_region ?_
    refine o_t x_mv ?_
    refine o_t x_mv ?_
    refine o_t (x_sls Tryz.underlying9 (lo := i) (hi := s.length) (hl := ⟨_, _, fun _ => rfl, by omega, by omega⟩) (hh := rfl)) ?_
    rw [hsl]
    refine o_call Tryz.call40 haa spla (cRune1 a (s.drop (i + 1)) (by simp; omega)) ?_
    rintro _ _ HH ⟨rfl, rfl⟩ hHH
    simp only [List.cons_append, List.nil_append, List.append_nil] at hHH; subst hHH
    refine o_t x_as ?_
    refine o_nil ?_
    generalize rune1T (a :: s.drop (i + 1)) = n at hv hle ⊢
    refine w_seq ?_
    refine w_seq ?_
    refine w_region ?_
    refine o_t x_mv ?_
    refine o_t x_cmp ?_
    refine o_nil ?_
    refine w_cond (fun g => rfl) (fun hc => ?_) (fun hc => ?_) -- ('Go.Operand.tmp', 16)
    · --
      have hc := of_decide_eq_true hc
      rw [if_pos (by omega)] at hv
      refine w_seq ?_
      refine w_region ?_
      refine o_t x_as ?_
      refine o_t x_as ?_
      refine o_nil ?_
      refine w_ret (r_2 rfl ⟨by rw [hv], rfl⟩)
    · --
      have hc := of_decide_eq_false hc
      rw [if_neg (by omega)] at hv
      refine w_skip ?_
      obtain ⟨y, hy⟩ : ∃ y, (decide (1 < n) || needs a) = y := ⟨_, rfl⟩
      rw [Bool.or_assoc, hy] at hv
      refine w_cut (α := Unit) (fun _ => [(0, .string (str s)), (4, .bool (q || y)), (5, .int .i64 i), (6, .int .i64 n)]) (fun _ => []) (fun _ => True) ?_ ?_
      · refine w_cut (α := Unit) (fun _ => [(0, .string (str s)), (4, .bool q), (5, .int .i64 i), (6, .int .i64 n), (36, .bool y)]) (fun _ => []) (fun _ => True) ?_ ?_
        · by_cases h1 : 1 < n
          · obtain rfl : y = true := by rw [← hy]; simp [h1]
            refine w_region ?_
            refine o_t x_mv ?_
            refine o_t x_cmp ?_
            refine o_t x_mv ?_
            first | refine o_t (x_g x_mv) ?_ | refine o_t x_gs ?_ | refine o_t x_gu ?_
            first | refine o_t (x_g x_mv) ?_ | refine o_t x_gs ?_ | refine o_t x_gu ?_
            first | (refine o_gy (?_); refine o_t x_gs ?_) | refine o_t x_gs ?_ | refine o_t x_gu ?_
            first | refine o_t (x_g x_cmp) ?_ | refine o_t x_gs ?_ | refine o_t x_gu ?_
            refine o_t x_pick ?_
            refine o_t x_mv ?_
            first | refine o_t (x_g x_mv) ?_ | refine o_t x_gs ?_ | refine o_t x_gu ?_
            first | refine o_t (x_g x_mv) ?_ | refine o_t x_gs ?_ | refine o_t x_gu ?_
            first | (refine o_gy (?_); refine o_t x_gs ?_) | refine o_t x_gs ?_ | refine o_t x_gu ?_
            first | refine o_t (x_g x_cmp) ?_ | refine o_t x_gs ?_ | refine o_t x_gu ?_
            refine o_t x_pick ?_
            refine o_t x_mv ?_
            first | refine o_t (x_g x_mv) ?_ | refine o_t x_gs ?_ | refine o_t x_gu ?_
            first | refine o_t (x_g x_mv) ?_ | refine o_t x_gs ?_ | refine o_t x_gu ?_
            first | (refine o_gy (?_); refine o_t x_gs ?_) | refine o_t x_gs ?_ | refine o_t x_gu ?_
            first | refine o_t (x_g x_cmp) ?_ | refine o_t x_gs ?_ | refine o_t x_gu ?_
            refine o_t x_pick ?_
            refine o_nil ?_
            exact ⟨(), wka, hka, trivial⟩
          · by_cases h2 : a.toNat < 32
            · obtain rfl : y = true := by rw [← hy]; simp [needs, h2]
              refine w_region ?_
              refine o_t x_mv ?_
              refine o_t x_cmp ?_
              refine o_t x_mv ?_
              first | refine o_t (x_g x_mv) ?_ | refine o_t x_gs ?_ | refine o_t x_gu ?_
              first | refine o_t (x_g x_mv) ?_ | refine o_t x_gs ?_ | refine o_t x_gu ?_
              first | refine o_t (x_g (x_ixs (j := i) Tryz.underlying9 he)) ?_ | refine o_t x_gs ?_ | refine o_t x_gu ?_
              first | refine o_t (x_g x_cmp) ?_ | refine o_t x_gs ?_ | refine o_t x_gu ?_
              refine o_t x_pick ?_
              refine o_t x_mv ?_
              first | refine o_t (x_g x_mv) ?_ | refine o_t x_gs ?_ | refine o_t x_gu ?_
              first | refine o_t (x_g x_mv) ?_ | refine o_t x_gs ?_ | refine o_t x_gu ?_
              first | (refine o_gy (?_); refine o_t x_gs ?_) | refine o_t x_gs ?_ | refine o_t x_gu ?_
              first | refine o_t (x_g x_cmp) ?_ | refine o_t x_gs ?_ | refine o_t x_gu ?_
              refine o_t x_pick ?_
              refine o_t x_mv ?_
              first | refine o_t (x_g x_mv) ?_ | refine o_t x_gs ?_ | refine o_t x_gu ?_
              first | refine o_t (x_g x_mv) ?_ | refine o_t x_gs ?_ | refine o_t x_gu ?_
              first | (refine o_gy (?_); refine o_t x_gs ?_) | refine o_t x_gs ?_ | refine o_t x_gu ?_
              first | refine o_t (x_g x_cmp) ?_ | refine o_t x_gs ?_ | refine o_t x_gu ?_
              refine o_t x_pick ?_
              refine o_nil ?_
              exact ⟨(), wka, hka, trivial⟩
            · by_cases h3 : 125 < a.toNat
              · obtain rfl : y = true := by rw [← hy]; simp [needs, h3]
                refine w_region ?_
                refine o_t x_mv ?_
                refine o_t x_cmp ?_
                refine o_t x_mv ?_
                first | refine o_t (x_g x_mv) ?_ | refine o_t x_gs ?_ | refine o_t x_gu ?_
                first | refine o_t (x_g x_mv) ?_ | refine o_t x_gs ?_ | refine o_t x_gu ?_
                first | refine o_t (x_g (x_ixs (j := i) Tryz.underlying9 he)) ?_ | refine o_t x_gs ?_ | refine o_t x_gu ?_
                first | refine o_t (x_g x_cmp) ?_ | refine o_t x_gs ?_ | refine o_t x_gu ?_
                refine o_t x_pick ?_
                refine o_t x_mv ?_
                first | refine o_t (x_g x_mv) ?_ | refine o_t x_gs ?_ | refine o_t x_gu ?_
                first | refine o_t (x_g x_mv) ?_ | refine o_t x_gs ?_ | refine o_t x_gu ?_
                first | refine o_t (x_g (x_ixs (j := i) Tryz.underlying9 he)) ?_ | refine o_t x_gs ?_ | refine o_t x_gu ?_
                first | refine o_t (x_g x_cmp) ?_ | refine o_t x_gs ?_ | refine o_t x_gu ?_
                refine o_t x_pick ?_
                refine o_t x_mv ?_
                first | refine o_t (x_g x_mv) ?_ | refine o_t x_gs ?_ | refine o_t x_gu ?_
                first | refine o_t (x_g x_mv) ?_ | refine o_t x_gs ?_ | refine o_t x_gu ?_
                first | (refine o_gy (?_); refine o_t x_gs ?_) | refine o_t x_gs ?_ | refine o_t x_gu ?_
                first | refine o_t (x_g x_cmp) ?_ | refine o_t x_gs ?_ | refine o_t x_gu ?_
                refine o_t x_pick ?_
                refine o_nil ?_
                exact ⟨(), wka, hka, trivial⟩
              · by_cases h4 : a.toNat = 92
                · obtain rfl : y = true := by rw [← hy]; simp [needs, h4]
                  refine w_region ?_
                  refine o_t x_mv ?_
                  refine o_t x_cmp ?_
                  refine o_t x_mv ?_
                  first | refine o_t (x_g x_mv) ?_ | refine o_t x_gs ?_ | refine o_t x_gu ?_
                  first | refine o_t (x_g x_mv) ?_ | refine o_t x_gs ?_ | refine o_t x_gu ?_
                  first | refine o_t (x_g (x_ixs (j := i) Tryz.underlying9 he)) ?_ | refine o_t x_gs ?_ | refine o_t x_gu ?_
                  first | refine o_t (x_g x_cmp) ?_ | refine o_t x_gs ?_ | refine o_t x_gu ?_
                  refine o_t x_pick ?_
                  refine o_t x_mv ?_
                  first | refine o_t (x_g x_mv) ?_ | refine o_t x_gs ?_ | refine o_t x_gu ?_
                  first | refine o_t (x_g x_mv) ?_ | refine o_t x_gs ?_ | refine o_t x_gu ?_
                  first | refine o_t (x_g (x_ixs (j := i) Tryz.underlying9 he)) ?_ | refine o_t x_gs ?_ | refine o_t x_gu ?_
                  first | refine o_t (x_g x_cmp) ?_ | refine o_t x_gs ?_ | refine o_t x_gu ?_
                  refine o_t x_pick ?_
                  refine o_t x_mv ?_
                  first | refine o_t (x_g x_mv) ?_ | refine o_t x_gs ?_ | refine o_t x_gu ?_
                  first | refine o_t (x_g x_mv) ?_ | refine o_t x_gs ?_ | refine o_t x_gu ?_
                  first | refine o_t (x_g (x_ixs (j := i) Tryz.underlying9 he)) ?_ | refine o_t x_gs ?_ | refine o_t x_gu ?_
                  first | refine o_t (x_g x_cmp) ?_ | refine o_t x_gs ?_ | refine o_t x_gu ?_
                  refine o_t x_pick ?_
                  refine o_nil ?_
                  exact ⟨(), wka, hka, trivial⟩
                · obtain rfl : y = false := by rw [← hy]; simp [needs, h1, h2, h3, h4]
                  refine w_region ?_
                  refine o_t x_mv ?_
                  refine o_t x_cmp ?_
                  refine o_t x_mv ?_
                  first | refine o_t (x_g x_mv) ?_ | refine o_t x_gs ?_ | refine o_t x_gu ?_
                  first | refine o_t (x_g x_mv) ?_ | refine o_t x_gs ?_ | refine o_t x_gu ?_
                  first | refine o_t (x_g (x_ixs (j := i) Tryz.underlying9 he)) ?_ | refine o_t x_gs ?_ | refine o_t x_gu ?_
                  first | refine o_t (x_g x_cmp) ?_ | refine o_t x_gs ?_ | refine o_t x_gu ?_
                  refine o_t x_pick ?_
                  refine o_t x_mv ?_
                  first | refine o_t (x_g x_mv) ?_ | refine o_t x_gs ?_ | refine o_t x_gu ?_
                  first | refine o_t (x_g x_mv) ?_ | refine o_t x_gs ?_ | refine o_t x_gu ?_
                  first | refine o_t (x_g (x_ixs (j := i) Tryz.underlying9 he)) ?_ | refine o_t x_gs ?_ | refine o_t x_gu ?_
                  first | refine o_t (x_g x_cmp) ?_ | refine o_t x_gs ?_ | refine o_t x_gu ?_
                  refine o_t x_pick ?_
                  refine o_t x_mv ?_
                  first | refine o_t (x_g x_mv) ?_ | refine o_t x_gs ?_ | refine o_t x_gu ?_
                  first | refine o_t (x_g x_mv) ?_ | refine o_t x_gs ?_ | refine o_t x_gu ?_
                  first | refine o_t (x_g (x_ixs (j := i) Tryz.underlying9 he)) ?_ | refine o_t x_gs ?_ | refine o_t x_gu ?_
                  first | refine o_t (x_g x_cmp) ?_ | refine o_t x_gs ?_ | refine o_t x_gu ?_
                  refine o_t x_pick ?_
                  refine o_nil ?_
                  exact ⟨(), wka, hka, trivial⟩
        · rintro _ _
          refine w_cond (t := y) (fun g => rfl) (fun hc => ?_) (fun hc => ?_) -- ('Go.Operand.tmp', 36)
          · --
            subst hc
            refine w_region ?_
            refine o_t x_as ?_
            refine o_nil ?_
            exact ⟨(), .cons (fun _ => rfl) (.cons (fun _ => congrArg Value.bool (by simp)) wka), hka, trivial⟩
          · --
            subst hc
            refine w_skip ?_
            exact ⟨(), .cons (fun _ => rfl) (.cons (fun _ => congrArg Value.bool (by simp)) wka), hka, trivial⟩
      · rintro _ _
        refine w_region ?_
        refine o_t x_mv ?_
        refine o_t x_mv ?_
        refine o_t x_add ?_
        refine o_t x_as ?_
        refine o_nil ?_
        refine ⟨(i + n, q || y), wka, hka, ⟨by dsimp only; omega, ?_⟩, by dsimp only; omega⟩
        dsimp only
        rw [hv, ← hd, List.drop_drop]
        exact validG_fuel _ _ _ _ (by first | (simp; done) | (simp; omega)) (by first | (simp; done) | (simp; omega))
  · --
    refine w_exit ?_ -- 0
    obtain rfl : i = s.length := by have := of_decide_eq_false hc; omega
    simp only [Nat.sub_self, validG] at hv
    refine w_seq ?_
    refine w_region ?_
    refine o_t x_mv ?_
    refine o_t x_as ?_
    refine o_t x_as ?_
    refine o_nil ?_
    refine w_ret (r_2 rfl ⟨by rw [hv], rfl⟩)
/-- Whether name and comment are not told as UTF-8. -/
def nonT (h : Hd) : Bool := !(validT h.name).1 || !(validT h.comment).1 || ((validT h.name).2 || (validT h.comment).2) && decide (h.flags / 2048 % 2 = 0)
theorem cNonUTF8 (h : Hd) (k : Ok h) : Fn P G 30 #[hdV h] [] fun v H => v = .bool (nonT h) ∧ H = [] := by
  have := k.name; have := k.comment; have hfl := k.flags
  refine fn_intro (args := [_]) Tryz.func30 Tryz.ntmps30 rfl ?_
  refine w_seq ?_
  refine w_region ?_
  refine o_bx (fun b1 => ?_)
  refine o_t x_as ?_
  refine o_nil ?_
  refine w_seq ?_
  refine w_region ?_
  refine o_t (x_fa f36_0) ?_
  refine o_t (x_ld k9) ?_
  refine o_call Tryz.call18 haa spla (cValid h.name (by omega)) ?_
  rintro _ _ HH ⟨rfl, rfl⟩ hHH
  simp only [List.cons_append, List.nil_append, List.append_nil] at hHH; subst hHH
  refine o_t x_mv ?_
  refine o_t x_ex ?_
  refine o_t x_ex ?_
  refine o_t x_as ?_
  refine o_t x_as ?_
  refine o_nil ?_
  refine w_seq ?_
  refine w_region ?_
  refine o_t (x_fa f36_1) ?_
  refine o_t (x_ld k9) ?_
  refine o_call Tryz.call18 haa spla (cValid h.comment (by omega)) ?_
  rintro _ _ HH ⟨rfl, rfl⟩ hHH
  simp only [List.cons_append, List.nil_append, List.append_nil] at hHH; subst hHH
  refine o_t x_mv ?_
  refine o_t x_ex ?_
  refine o_t x_ex ?_
  refine o_t x_as ?_
  refine o_t x_as ?_
  refine o_nil ?_
  refine w_seq ?_
  unfold nonT
  generalize (validT h.name).1 = a
  generalize (validT h.comment).1 = b
  generalize (validT h.name).2 = x
  generalize (validT h.comment).2 = y
  cases a with
  | false =>
    refine w_region ?_
    refine o_t x_mv ?_
    refine o_t x_not ?_
    refine o_t x_mv ?_
    first | refine o_t (x_g x_mv) ?_ | refine o_t x_gs ?_ | refine o_t x_gu ?_
    first | refine o_t (x_g x_not) ?_ | refine o_t x_gs ?_ | refine o_t x_gu ?_
    refine o_t x_pick ?_
    refine o_t x_mv ?_
    first | refine o_t (x_g x_mv) ?_ | refine o_t x_gs ?_ | refine o_t x_gu ?_
    first | refine o_t (x_g x_mv) ?_ | refine o_t x_gs ?_ | refine o_t x_gu ?_
    first | refine o_t (x_g x_mv) ?_ | refine o_t x_gs ?_ | refine o_t x_gu ?_
    first | refine o_t (x_g x_pick) ?_ | refine o_t x_gs ?_ | refine o_t x_gu ?_
    first | refine o_t (x_g x_mv) ?_ | refine o_t x_gs ?_ | refine o_t x_gu ?_
    first | refine o_t (x_g (x_fa f36_6)) ?_ | refine o_t x_gs ?_ | refine o_t x_gu ?_
    first | refine o_t (x_g (x_ld k3)) ?_ | refine o_t x_gs ?_ | refine o_t x_gu ?_
    first | refine o_t (x_g x_quo) ?_ | refine o_t x_gs ?_ | refine o_t x_gu ?_
    first | refine o_t (x_g x_rem) ?_ | refine o_t x_gs ?_ | refine o_t x_gu ?_
    first | refine o_t (x_g x_cmp) ?_ | refine o_t x_gs ?_ | refine o_t x_gu ?_
    first | refine o_t (x_g x_pick) ?_ | refine o_t x_gs ?_ | refine o_t x_gu ?_
    refine o_t x_pick ?_
    refine o_t x_as ?_
    refine o_nil ?_
    refine w_ret (r_1 rfl ⟨rfl, rfl⟩)
  | true =>
    cases b with
    | false =>
      refine w_region ?_
      refine o_t x_mv ?_
      refine o_t x_not ?_
      refine o_t x_mv ?_
      first | refine o_t (x_g x_mv) ?_ | refine o_t x_gs ?_ | refine o_t x_gu ?_
      first | refine o_t (x_g x_not) ?_ | refine o_t x_gs ?_ | refine o_t x_gu ?_
      refine o_t x_pick ?_
      refine o_t x_mv ?_
      first | refine o_t (x_g x_mv) ?_ | refine o_t x_gs ?_ | refine o_t x_gu ?_
      first | refine o_t (x_g x_mv) ?_ | refine o_t x_gs ?_ | refine o_t x_gu ?_
      first | refine o_t (x_g x_mv) ?_ | refine o_t x_gs ?_ | refine o_t x_gu ?_
      first | refine o_t (x_g x_pick) ?_ | refine o_t x_gs ?_ | refine o_t x_gu ?_
      first | refine o_t (x_g x_mv) ?_ | refine o_t x_gs ?_ | refine o_t x_gu ?_
      first | refine o_t (x_g (x_fa f36_6)) ?_ | refine o_t x_gs ?_ | refine o_t x_gu ?_
      first | refine o_t (x_g (x_ld k3)) ?_ | refine o_t x_gs ?_ | refine o_t x_gu ?_
      first | refine o_t (x_g x_quo) ?_ | refine o_t x_gs ?_ | refine o_t x_gu ?_
      first | refine o_t (x_g x_rem) ?_ | refine o_t x_gs ?_ | refine o_t x_gu ?_
      first | refine o_t (x_g x_cmp) ?_ | refine o_t x_gs ?_ | refine o_t x_gu ?_
      first | refine o_t (x_g x_pick) ?_ | refine o_t x_gs ?_ | refine o_t x_gu ?_
      refine o_t x_pick ?_
      refine o_t x_as ?_
      refine o_nil ?_
      refine w_ret (r_1 rfl ⟨rfl, rfl⟩)
    | true =>
      cases x with
      | true =>
        refine w_region ?_
        refine o_t x_mv ?_
        refine o_t x_not ?_
        refine o_t x_mv ?_
        first | refine o_t (x_g x_mv) ?_ | refine o_t x_gs ?_ | refine o_t x_gu ?_
        first | refine o_t (x_g x_not) ?_ | refine o_t x_gs ?_ | refine o_t x_gu ?_
        refine o_t x_pick ?_
        refine o_t x_mv ?_
        first | refine o_t (x_g x_mv) ?_ | refine o_t x_gs ?_ | refine o_t x_gu ?_
        first | refine o_t (x_g x_mv) ?_ | refine o_t x_gs ?_ | refine o_t x_gu ?_
        first | refine o_t (x_g x_mv) ?_ | refine o_t x_gs ?_ | refine o_t x_gu ?_
        first | refine o_t (x_g x_pick) ?_ | refine o_t x_gs ?_ | refine o_t x_gu ?_
        first | refine o_t (x_g x_mv) ?_ | refine o_t x_gs ?_ | refine o_t x_gu ?_
        first | refine o_t (x_g (x_fa f36_6)) ?_ | refine o_t x_gs ?_ | refine o_t x_gu ?_
        first | refine o_t (x_g (x_ld k3)) ?_ | refine o_t x_gs ?_ | refine o_t x_gu ?_
        first | refine o_t (x_g x_quo) ?_ | refine o_t x_gs ?_ | refine o_t x_gu ?_
        first | refine o_t (x_g x_rem) ?_ | refine o_t x_gs ?_ | refine o_t x_gu ?_
        first | refine o_t (x_g x_cmp) ?_ | refine o_t x_gs ?_ | refine o_t x_gu ?_
        first | refine o_t (x_g x_pick) ?_ | refine o_t x_gs ?_ | refine o_t x_gu ?_
        refine o_t x_pick ?_
        refine o_t x_as ?_
        refine o_nil ?_
        refine w_ret (r_1 rfl ⟨rfl, rfl⟩)
      | false =>
        cases y with
        | true =>
          refine w_region ?_
          refine o_t x_mv ?_
          refine o_t x_not ?_
          refine o_t x_mv ?_
          first | refine o_t (x_g x_mv) ?_ | refine o_t x_gs ?_ | refine o_t x_gu ?_
          first | refine o_t (x_g x_not) ?_ | refine o_t x_gs ?_ | refine o_t x_gu ?_
          refine o_t x_pick ?_
          refine o_t x_mv ?_
          first | refine o_t (x_g x_mv) ?_ | refine o_t x_gs ?_ | refine o_t x_gu ?_
          first | refine o_t (x_g x_mv) ?_ | refine o_t x_gs ?_ | refine o_t x_gu ?_
          first | refine o_t (x_g x_mv) ?_ | refine o_t x_gs ?_ | refine o_t x_gu ?_
          first | refine o_t (x_g x_pick) ?_ | refine o_t x_gs ?_ | refine o_t x_gu ?_
          first | refine o_t (x_g x_mv) ?_ | refine o_t x_gs ?_ | refine o_t x_gu ?_
          first | refine o_t (x_g (x_fa f36_6)) ?_ | refine o_t x_gs ?_ | refine o_t x_gu ?_
          first | refine o_t (x_g (x_ld k3)) ?_ | refine o_t x_gs ?_ | refine o_t x_gu ?_
          first | refine o_t (x_g x_quo) ?_ | refine o_t x_gs ?_ | refine o_t x_gu ?_
          first | refine o_t (x_g x_rem) ?_ | refine o_t x_gs ?_ | refine o_t x_gu ?_
          first | refine o_t (x_g x_cmp) ?_ | refine o_t x_gs ?_ | refine o_t x_gu ?_
          first | refine o_t (x_g x_pick) ?_ | refine o_t x_gs ?_ | refine o_t x_gu ?_
          refine o_t x_pick ?_
          refine o_t x_as ?_
          refine o_nil ?_
          refine w_ret (r_1 rfl ⟨rfl, rfl⟩)
        | false =>
          refine w_region ?_
          refine o_t x_mv ?_
          refine o_t x_not ?_
          refine o_t x_mv ?_
          first | refine o_t (x_g x_mv) ?_ | refine o_t x_gs ?_ | refine o_t x_gu ?_
          first | refine o_t (x_g x_not) ?_ | refine o_t x_gs ?_ | refine o_t x_gu ?_
          refine o_t x_pick ?_
          refine o_t x_mv ?_
          first | refine o_t (x_g x_mv) ?_ | refine o_t x_gs ?_ | refine o_t x_gu ?_
          first | refine o_t (x_g x_mv) ?_ | refine o_t x_gs ?_ | refine o_t x_gu ?_
          first | refine o_t (x_g x_mv) ?_ | refine o_t x_gs ?_ | refine o_t x_gu ?_
          first | refine o_t (x_g x_pick) ?_ | refine o_t x_gs ?_ | refine o_t x_gu ?_
          first | refine o_t (x_g x_mv) ?_ | refine o_t x_gs ?_ | refine o_t x_gu ?_
          first | refine o_t (x_g (x_fa f36_6)) ?_ | refine o_t x_gs ?_ | refine o_t x_gu ?_
          first | refine o_t (x_g (x_ld k3)) ?_ | refine o_t x_gs ?_ | refine o_t x_gu ?_
          first | refine o_t (x_g x_quo) ?_ | refine o_t x_gs ?_ | refine o_t x_gu ?_
          first | refine o_t (x_g x_rem) ?_ | refine o_t x_gs ?_ | refine o_t x_gu ?_
          first | refine o_t (x_g x_cmp) ?_ | refine o_t x_gs ?_ | refine o_t x_gu ?_
          first | refine o_t (x_g x_pick) ?_ | refine o_t x_gs ?_ | refine o_t x_gu ?_
          refine o_t x_pick ?_
          refine o_t x_as ?_
          refine o_nil ?_
          refine w_ret (r_1 rfl ⟨rfl, rfl⟩)
end Go.Proofs.YtlmefkhglooepaaGreatDoor
namespace Go.Proofs.YtlmefkhglooepaaGreatDoor
open Go
set_option linter.unusedSimpArgs false
set_option linter.unusedVariables false
variable {G : Nat → Option Obj}
def hdsC (l : List Hd) : List Value := l.flatMap hdC
theorem hdC_length (e : Hd) : (hdC e).length = 14 := rfl
theorem hdsC_length (l : List Hd) : (hdsC l).length = l.length * 14 := by
  induction l with
  | nil => rfl
  | cons e l ih => simp only [hdsC, List.flatMap_cons, List.length_append, hdC_length, List.length_cons] at ih ⊢; omega
theorem hds_get : ∀ (l : List Hd) (i : Nat) (e : Hd), l[i]? = some e → ∀ j v, (hdC e)[j]? = some v → (hdsC l)[i * 14 + j]? = some v
  | [], i, e, h => by simp at h
  | a :: l, 0, e, h => by
    intro j v hj
    simp at h; subst h
    have : j < 14 := (List.getElem?_eq_some_iff.1 hj).1
    rw [hdsC, List.flatMap_cons, List.getElem?_append_left (by rw [hdC_length]; omega)]
    simpa using hj
  | a :: l, i + 1, e, h => by
    intro j v hj
    have := hds_get l i e (by simpa using h) j v hj
    rw [hdsC, List.flatMap_cons, List.getElem?_append_right (by rw [hdC_length]; omega), hdC_length, show (i + 1) * 14 + j - 14 = i * 14 + j by omega]
    exact this
section
variable {n : Nat} {ops : Array Oper} {L : Loc} {H R : List Res} {d : Nat} {x : Operand} {ty : TypeId} {p : String} {e : Array Edge}
theorem x_ldH {b o i : Nat} {l : List Hd} {a : Hd} (hr : Rd G H b o (hdsC l)) (he : l[i]? = some a) (hx : ∀ g, evl L g x = .pointer (some ⟨b, o + i * 14, none⟩) := by intro g; rfl) (hn : d < n := by decide) :
    Ex P n G ops L H ⟨some d, .load 36 x, ty, p, e, none⟩ d (hdV a) :=
  x_ldaR (vs := hdC a) g36 hr rfl (hds_get l i a he) rfl hx hn
end
def listed (e : En) : Hd := { e.h with non := nonT e.h }
theorem cListed (v : Value) (r : Res) (l : List En) (hA : Arr G r v 15 l.length (entsC l)) (hk : Oks l) (hl : l.length ≤ 1000) : Fn P G 13 #[v] [r] fun v' H => ∃ r', Own 36 14 v' l.length (hdsC (l.map listed)) r' ∧ H = [r', r] := by
  obtain ⟨a0, cap, hv⟩ := hA.len
  refine fn_intro (args := [_]) Tryz.func13 Tryz.ntmps13 rfl ?_
  refine w_seq ?_
  refine w_region ?_
  refine o_t x_as ?_
  refine o_nil ?_
  refine w_seq ?_
  refine w_region ?_
  refine o_bs0 Tryz.underlying29 e29 (fun b => ?_)
  refine o_t x_as ?_
  refine o_nil ?_
  refine w_seq ?_
  refine w_seq ?_
  refine w_region ?_
  refine o_t x_mv ?_
  refine o_t (x_lenb Tryz.underlying22 (hx := fun g => by subst hv; rfl)) ?_
  refine o_t x_mv ?_
  refine o_nil ?_
  refine w_block ?_ -- 0
  refine w_loop (α := Nat × Value × Res) (fun x => [(3, x.2.1), (7, v), (8, .int .i64 l.length), (9, .int .i64 x.1)]) (fun x => [x.2.2, r]) (fun x => x.1 ≤ l.length ∧ Own 36 14 x.2.1 x.1 (hdsC ((l.take x.1).map listed)) x.2.2) (fun x => l.length - x.1) (0, .slice (some ⟨b, 0, none⟩) 0 0, pt b [] 36) (wka) (hka) ⟨Nat.zero_le _, Own.empty 36 14 b⟩ ?_
  rintro ⟨i, o, ro⟩ ⟨hi, hO⟩
  dsimp only at hi hO ⊢
  refine w_seq ?_
  refine w_region ?_
  refine o_t x_cmp ?_
  refine o_nil ?_
  refine w_seq ?_
  refine w_cond (fun g => rfl) (fun hc => ?_) (fun hc => ?_) -- ('Go.Operand.tmp', 10)
  · --
    have hc := of_decide_eq_true hc
    obtain ⟨b', o', cap', rfl, _, hrd⟩ := hA.some (by omega)
    have he := List.getElem?_eq_getElem (l := l) (i := i) (by omega)
    generalize l[i]'(by omega) = a at he
    have hE := (hk a (List.mem_of_getElem? he)).1
    refine w_skip ?_
    refine w_seq ?_
    refine w_block ?_ -- 1
    refine w_seq ?_
    refine w_region ?_
    refine o_t (x_ia Tryz.underlying22 e22) ?_
    refine o_t (x_ldE (hrd.pull (R := [ro]) (.tail .head)) he) ?_
    refine o_al z38 (fun b5 => ?_)
    refine o_sta g38 ?_
    refine o_nil ?_
    refine w_seq ?_
    refine w_region ?_
    refine o_t (x_fa f38_0) ?_
    refine o_t (x_lda g36) ?_
    refine o_call Tryz.call30 haa spla (cNonUTF8 a.h hE) ?_
    rintro _ _ HH ⟨rfl, rfl⟩ hHH
    simp only [List.cons_append, List.nil_append, List.append_nil] at hHH; subst hHH
    refine o_t (x_fa f38_0) ?_
    refine o_t (x_fa f36_3) ?_
    refine o_st k4 ?_
    refine o_nil ?_
    refine w_region ?_
    refine o_t x_mv ?_
    refine o_t (x_fa f38_0) ?_
    refine o_t (x_lda g36) ?_
    refine o_bs1 Tryz.underlying29 z36 (fun b1 => ?_)
    refine o_app info36 Tryz.underlying29 rfl hO (pulla) (Rd.all.pull .head) rfl (by simp [Value.oneCell']) (by simp [maxLen]; omega) (by omega) (fun v' r' hO' => ?_)
    refine o_t x_as ?_
    refine o_nil ?_
    refine w_region ?_
    refine o_t x_add ?_
    refine o_t x_mv ?_
    refine o_nil ?_
    refine ⟨(i + 1, v', r'), wka, hka, ⟨by dsimp only; omega, ?_⟩, by dsimp only; omega⟩
    dsimp only
    rw [take_snoc l i a he, List.map_append]
    simp only [hdsC, List.flatMap_append] at hO' ⊢
    simpa [hdC, listed] using hO'
  · --
    refine w_exit ?_ -- 0
    obtain rfl : i = l.length := by have := of_decide_eq_false hc; omega
    rw [List.take_length] at hO
    refine w_seq ?_
    refine w_region ?_
    refine o_t x_mv ?_
    refine o_t x_as ?_
    refine o_nil ?_
    refine w_ret (r_1 rfl ⟨ro, hO, rfl⟩)
def dirsOK (l : List En) : Prop := ∀ e ∈ l, e.h.name.getLast? = some 47 → e.data = []
theorem cDirectories (v : Value) (r : Res) (l : List En) (hA : Arr G r v 15 l.length (entsC l)) (hf : fitsL l) : Fn P G 7 #[v] [r] fun v' H => (∃ b, v' = .bool b ∧ (b = true ↔ dirsOK l)) ∧ H = [r] := by
  obtain ⟨a0, cap, hv⟩ := hA.len
  have hl := hf.1
  refine fn_intro (args := [_]) Tryz.func7 Tryz.ntmps7 rfl ?_
  refine w_seq ?_
  refine w_region ?_
  refine o_t x_as ?_
  refine o_nil ?_
  refine w_seq ?_
  refine w_seq ?_
  refine w_region ?_
  refine o_t x_mv ?_
  refine o_t (x_lenb Tryz.underlying22 (hx := fun g => by subst hv; rfl)) ?_
  refine o_t x_mv ?_
  refine o_nil ?_
  refine w_block ?_ -- 0
  refine w_loop (α := Nat) (fun x => [(6, v), (7, .int .i64 l.length), (8, .int .i64 x)]) (fun x => [r]) (fun x => x ≤ l.length ∧ ∀ e ∈ l.take x, e.h.name.getLast? = some 47 → e.data = []) (fun x => l.length - x) 0 (wka) (hka) ⟨Nat.zero_le _, by simp⟩ ?_
  rintro i ⟨hi, hall⟩
  refine w_seq ?_
  refine w_region ?_
  refine o_t x_cmp ?_
  refine o_nil ?_
  refine w_seq ?_
  refine w_cond (fun g => rfl) (fun hc => ?_) (fun hc => ?_) -- ('Go.Operand.tmp', 9)
  · --
    have hc := of_decide_eq_true hc
    obtain ⟨b, o, cap', rfl, _, hrd⟩ := hA.some (by omega)
    have he := List.getElem?_eq_getElem (l := l) (i := i) (by omega)
    generalize l[i]'(by omega) = a at he
    have hE := hf.2 a (List.mem_of_getElem? he)
    have hnl := hE.1.1
    refine w_skip ?_
    refine w_seq ?_
    refine w_block ?_ -- 1
    refine w_seq ?_
    refine w_region ?_
    refine o_t (x_ia Tryz.underlying22 e22) ?_
    refine o_t (x_ldE hrd he) ?_
    refine o_al z38 (fun b4 => ?_)
    refine o_sta g38 ?_
    refine o_nil ?_
    refine w_seq ?_
    refine w_region ?_
    refine o_t (x_fa f38_0) ?_
    refine o_t (x_fa f36_0) ?_
    refine o_t (x_ld k9) ?_
    refine o_t (x_lens Tryz.underlying9) ?_
    refine o_t x_as ?_
    refine o_nil ?_
    refine w_cut (α := Bool) (fun x => [(6, .slice (some ⟨b, o, none⟩) l.length cap'), (7, .int .i64 l.length), (8, .int .i64 i), (31, .bool x)]) (fun _ => [r]) (fun x => x = true ↔ ¬ (a.h.name.getLast? = some 47 → a.data = [])) ?_ ?_
    · by_cases h0 : 0 < a.h.name.length
      · have hg := List.getElem?_eq_getElem (l := a.h.name) (i := a.h.name.length - 1) (by omega)
        have hgl : a.h.name.getLast? = a.h.name[a.h.name.length - 1]? := List.getLast?_eq_getElem?
        generalize a.h.name[a.h.name.length - 1]'(by omega) = c at hg
        rw [hg] at hgl
        by_cases h1 : c.toNat = 47
        · have hc47 : c = 47 := UInt8.toNat_inj.1 (by rw [h1]; rfl)
          refine w_region ?_
          refine o_t x_mv ?_
          refine o_t x_cmp ?_
          refine o_t x_mv ?_
          first | refine o_t (x_g (x_fa f38_0)) ?_ | refine o_t x_gs ?_ | refine o_t x_gu ?_
          first | refine o_t (x_g (x_fa f36_0)) ?_ | refine o_t x_gs ?_ | refine o_t x_gu ?_
          first | refine o_t (x_g (x_ld k9)) ?_ | refine o_t x_gs ?_ | refine o_t x_gu ?_
          first | refine o_t (x_g x_mv) ?_ | refine o_t x_gs ?_ | refine o_t x_gu ?_
          first | refine o_t (x_g x_sub) ?_ | refine o_t x_gs ?_ | refine o_t x_gu ?_
          first | refine o_t (x_g (x_ixs (j := a.h.name.length - 1) Tryz.underlying9 hg)) ?_ | refine o_t x_gs ?_ | refine o_t x_gu ?_
          first | refine o_t (x_g x_cmp) ?_ | refine o_t x_gs ?_ | refine o_t x_gu ?_
          refine o_t x_pick ?_
          refine o_t x_mv ?_
          first | refine o_t (x_g (x_fa f38_1)) ?_ | refine o_t x_gs ?_ | refine o_t x_gu ?_
          first | refine o_t (x_g (x_ld k9)) ?_ | refine o_t x_gs ?_ | refine o_t x_gu ?_
          first | refine o_t (x_g x_nes) ?_ | refine o_t x_gs ?_ | refine o_t x_gu ?_
          refine o_t x_pick ?_
          refine o_nil ?_
          exact ⟨_, .cons (fun _ => rfl) (.cons (fun _ => rfl) (.cons (fun _ => rfl) (.cons (fun _ => rfl) (.nil _)))), hka, by simp [hgl, hc47, str]⟩
        · have hc47 : ¬ c = 47 := fun h => h1 (by rw [h]; rfl)
          refine w_region ?_
          refine o_t x_mv ?_
          refine o_t x_cmp ?_
          refine o_t x_mv ?_
          first | refine o_t (x_g (x_fa f38_0)) ?_ | refine o_t x_gs ?_ | refine o_t x_gu ?_
          first | refine o_t (x_g (x_fa f36_0)) ?_ | refine o_t x_gs ?_ | refine o_t x_gu ?_
          first | refine o_t (x_g (x_ld k9)) ?_ | refine o_t x_gs ?_ | refine o_t x_gu ?_
          first | refine o_t (x_g x_mv) ?_ | refine o_t x_gs ?_ | refine o_t x_gu ?_
          first | refine o_t (x_g x_sub) ?_ | refine o_t x_gs ?_ | refine o_t x_gu ?_
          first | refine o_t (x_g (x_ixs (j := a.h.name.length - 1) Tryz.underlying9 hg)) ?_ | refine o_t x_gs ?_ | refine o_t x_gu ?_
          first | refine o_t (x_g x_cmp) ?_ | refine o_t x_gs ?_ | refine o_t x_gu ?_
          refine o_t x_pick ?_
          refine o_t x_mv ?_
          first | refine o_t (x_g (x_fa f38_1)) ?_ | refine o_t x_gs ?_ | refine o_t x_gu ?_
          first | refine o_t (x_g (x_ld k9)) ?_ | refine o_t x_gs ?_ | refine o_t x_gu ?_
          first | refine o_t (x_g x_nes) ?_ | refine o_t x_gs ?_ | refine o_t x_gu ?_
          refine o_t x_pick ?_
          refine o_nil ?_
          exact ⟨false, wka, hka, by simp [hgl, hc47]⟩
      · have h00 : a.h.name = [] := List.eq_nil_of_length_eq_zero (by omega)
        refine w_region ?_
        refine o_t x_mv ?_
        refine o_t x_cmp ?_
        refine o_t x_mv ?_
        first | refine o_t (x_g (x_fa f38_0)) ?_ | refine o_t x_gs ?_ | refine o_t x_gu ?_
        first | refine o_t (x_g (x_fa f36_0)) ?_ | refine o_t x_gs ?_ | refine o_t x_gu ?_
        first | refine o_t (x_g (x_ld k9)) ?_ | refine o_t x_gs ?_ | refine o_t x_gu ?_
        first | refine o_t (x_g x_mv) ?_ | refine o_t x_gs ?_ | refine o_t x_gu ?_
        first | refine o_t (x_g x_sub) ?_ | refine o_t x_gs ?_ | refine o_t x_gu ?_
        first | (refine o_gy (?_); refine o_t x_gs ?_) | refine o_t x_gs ?_ | refine o_t x_gu ?_
        first | refine o_t (x_g x_cmp) ?_ | refine o_t x_gs ?_ | refine o_t x_gu ?_
        refine o_t x_pick ?_
        refine o_t x_mv ?_
        first | refine o_t (x_g (x_fa f38_1)) ?_ | refine o_t x_gs ?_ | refine o_t x_gu ?_
        first | refine o_t (x_g (x_ld k9)) ?_ | refine o_t x_gs ?_ | refine o_t x_gu ?_
        first | refine o_t (x_g x_nes) ?_ | refine o_t x_gs ?_ | refine o_t x_gu ?_
        refine o_t x_pick ?_
        refine o_nil ?_
        exact ⟨false, wka, hka, by simp [h00]⟩
    rintro q hq
    refine w_cond (t := q) (fun g => rfl) (fun hc => ?_) (fun hc => ?_) -- ('Go.Operand.tmp', 31)
    · --
      have hno := hq.1 hc
      refine w_seq ?_
      refine w_region ?_
      refine o_t x_as ?_
      refine o_nil ?_
      refine w_ret (r_1 rfl ⟨⟨false, rfl, by simp; exact fun h => hno (h a (List.mem_of_getElem? he))⟩, rfl⟩)
    · --
      have hyes : a.h.name.getLast? = some 47 → a.data = [] := Classical.byContradiction (fun h => by rw [hq.2 h] at hc; cases hc)
      refine w_skip ?_
      refine w_region ?_
      refine o_t x_add ?_
      refine o_t x_mv ?_
      refine o_nil ?_
      exact ⟨i + 1, wka, hka, ⟨by omega, mem_take_snoc (p := fun e => e.h.name.getLast? = some 47 → e.data = []) he hall hyes⟩, by omega⟩
  · --
    refine w_exit ?_ -- 0
    obtain rfl : i = l.length := by have := of_decide_eq_false hc; omega
    rw [List.take_length] at hall
    refine w_seq ?_
    refine w_region ?_
    refine o_t x_as ?_
    refine o_nil ?_
    refine w_ret (r_1 rfl ⟨⟨true, rfl, by simp only [true_iff]; exact hall⟩, rfl⟩)
end Go.Proofs.YtlmefkhglooepaaGreatDoor
namespace Go.Proofs.YtlmefkhglooepaaGreatDoor
open Go
set_option linter.unusedSimpArgs false
set_option linter.unusedVariables false
variable {G : Nat → Option Obj}
theorem eq36 (h : Hd) (w : World) : (binOp .neq 36 (hdV h) (hdV h)).run P w = .ok (.bool false) w := by
  rw [run_neq_struct, run_equalIn_struct w 9999 36 _ _ (by kernel_rfl) (by kernel_rfl)]
  go_simp
theorem guard36 (h : Hd) (x y : Operand) (w : World) : (eqGuard .neq 36 x y (hdV h) (hdV h)).run P w = .ok () w := run_eqGuard_agg w .neq 36 x y _ _ (by kernel_rfl)
section
variable {n : Nat} {ops : Array Oper} {L : Loc} {H R : List Res} {d : Nat} {x y : Operand} {ty t' : TypeId} {p : String} {e : Array Edge}
theorem x_same (h : Hd) (hx : ∀ g, evl L g x = hdV h := by intro g; rfl) (hy : ∀ g, evl L g y = hdV h := by intro g; rfl) (hn : d < n := by decide) :
    Ex P n G ops L H ⟨some d, .binOp .neq 36 x y t', ty, p, e, none⟩ d (.bool false) :=
  .mk hn (fun _ _ g w _ => by simp [execOp, hx g, hy g, eq36, guard36])
end
theorem cSame (v1 v2 : Value) (r1 r2 : Res) (l : List Hd) (c : List UInt8) (hA1 : Arr G r1 v1 14 l.length (hdsC l)) (hA2 : Arr G r2 v2 14 l.length (hdsC l)) (hl : l.length ≤ 1000) :
    Fn P G 11 #[.agg #[.bool true, .string (str c), v1], v2, .string (str c)] [r1, r2] fun v' H => v' = .bool true ∧ H = [r1, r2] := by
  obtain ⟨a1, cap1, hv1⟩ := hA1.len
  obtain ⟨a2, cap2, hv2⟩ := hA2.len
  have hlen1 : ∀ {L : Loc} {t : Nat} {g : Nat → Value}, val L g t = v1 → val L g t = .slice a1 l.length cap1 := fun h => h.trans hv1
  have hlen2 : ∀ {L : Loc} {t : Nat} {g : Nat → Value}, val L g t = v2 → val L g t = .slice a2 l.length cap2 := fun h => h.trans hv2
  refine fn_intro (args := [_,_,_]) Tryz.func11 Tryz.ntmps11 rfl ?_
  refine w_seq ?_
  refine w_region ?_
  refine o_bx (fun b3 => ?_)
  refine o_t x_as ?_
  refine o_nil ?_
  refine w_seq ?_
  refine w_seq ?_
  refine w_region ?_
  refine o_t (x_fa f31_0) ?_
  refine o_t (x_ld k4) ?_
  refine o_t x_not ?_
  refine o_t x_mv ?_
  first | refine o_t (x_g (x_fa f31_1)) ?_ | refine o_t x_gs ?_ | refine o_t x_gu ?_
  first | refine o_t (x_g (x_ld k9)) ?_ | refine o_t x_gs ?_ | refine o_t x_gu ?_
  first | refine o_t (x_g x_mv) ?_ | refine o_t x_gs ?_ | refine o_t x_gu ?_
  first | refine o_t (x_g x_nes) ?_ | refine o_t x_gs ?_ | refine o_t x_gu ?_
  refine o_t x_pick ?_
  refine o_t x_mv ?_
  first | refine o_t (x_g (x_fa f31_2)) ?_ | refine o_t x_gs ?_ | refine o_t x_gu ?_
  first | refine o_t (x_g (x_ld k29)) ?_ | refine o_t x_gs ?_ | refine o_t x_gu ?_
  first | refine o_t (x_g (x_lenb Tryz.underlying29 (hx := fun g => hlen1 rfl))) ?_ | refine o_t x_gs ?_ | refine o_t x_gu ?_
  first | refine o_t (x_g x_mv) ?_ | refine o_t x_gs ?_ | refine o_t x_gu ?_
  first | refine o_t (x_g (x_lenb Tryz.underlying29 (hx := fun g => hlen2 rfl))) ?_ | refine o_t x_gs ?_ | refine o_t x_gu ?_
  first | refine o_t (x_g x_ne) ?_ | refine o_t x_gs ?_ | refine o_t x_gu ?_
  refine o_t x_pick ?_
  refine o_nil ?_
  refine w_cond (t := false) (fun g => rfl) (fun hc => ?_) (fun hc => ?_) -- ('Go.Operand.tmp', 24)
  · cases hc
  refine w_skip ?_
  refine w_seq ?_
  refine w_seq ?_
  refine w_region ?_
  refine o_t x_as ?_
  refine o_nil ?_
  refine w_block ?_ -- 0
  refine w_loop (α := Nat) (fun x => [(1, v2), (3, .pointer (some ⟨b3, 0, none⟩)), (7, .int .i64 x)]) (fun x => [pt b3 [.bool true, .string (str c), v1] 31, r1, r2]) (fun x => x ≤ l.length) (fun x => l.length - x) 0 (wka) (hka) (Nat.zero_le _) (fun i hi => ?_)
  refine w_seq ?_
  refine w_seq ?_
  refine w_region ?_
  refine o_t x_mv ?_
  refine o_t x_mv ?_
  refine o_t (x_lenb Tryz.underlying29 (hx := fun g => hlen2 rfl)) ?_
  refine o_t x_cmp ?_
  refine o_nil ?_
  refine w_cond (fun g => rfl) (fun hc => ?_) (fun hc => ?_) -- ('Go.Operand.tmp', 28)
  · --
    have hc := of_decide_eq_true hc
    obtain ⟨p1, o1, c1, rfl, _, hrd1⟩ := hA1.some (by omega)
    obtain ⟨p2, o2, c2, rfl, _, hrd2⟩ := hA2.some (by omega)
    have he := List.getElem?_eq_getElem (l := l) (i := i) (by omega)
    generalize l[i]'(by omega) = a at he
    refine w_skip ?_
    refine w_seq ?_
    refine w_block ?_ -- 1
    refine w_seq ?_
    refine w_quiet mixed (by kernel_rfl) ?_
    refine q_t (x_fa f31_2) ?_
    refine q_t (x_ld k29) ?_
    refine q_t x_mv ?_
    refine q_t (x_ia Tryz.underlying29 e29) ?_
    refine q_t (x_ldH (hrd1.pull (.tail .head)) he) ?_
    refine q_t x_mv ?_
    refine q_t x_mv ?_
    refine q_t (x_ia Tryz.underlying29 e29) ?_
    refine q_t (x_ldH (hrd2.pull (.tail (.tail .head))) he) ?_
    refine q_t (x_same a) ?_
    refine q_nil ?_
    refine w_cond (t := false) (fun g => rfl) (fun hc => ?_) (fun hc => ?_) -- ('Go.Operand.tmp', 40)
    · cases hc
    refine w_skip ?_
    refine w_region ?_
    refine o_t x_mv ?_
    refine o_t x_add ?_
    refine o_t x_as ?_
    refine o_nil ?_
    exact ⟨i + 1, wka, hka, by omega, by omega⟩
  · --
    refine w_exit ?_ -- 0
    refine w_seq ?_
    refine w_region ?_
    refine o_t x_as ?_
    refine o_nil ?_
    refine w_ret (r_1 rfl ⟨rfl, rfl⟩)
end Go.Proofs.YtlmefkhglooepaaGreatDoor
namespace Go.Proofs.YtlmefkhglooepaaGreatDoor
open Go
/-- t stands in s at k. -/
def Has (s : List UInt8) (k : Nat) (t : List UInt8) : Prop := k + t.length ≤ s.length ∧ (s.drop k).take t.length = t
theorem Has.app {s : List UInt8} {k : Nat} {a b : List UInt8} : Has s k (a ++ b) ↔ Has s k a ∧ Has s (k + a.length) b := by
  unfold Has
  constructor
  · rintro ⟨h1, h2⟩
    simp only [List.length_append] at h1 h2
    rw [List.take_add] at h2
    have hl : ((s.drop k).take a.length).length = a.length := by simp; omega
    have h3 := List.append_inj h2 hl
    rw [List.drop_drop] at h3
    exact ⟨⟨by omega, h3.1⟩, ⟨by omega, h3.2⟩⟩
  · rintro ⟨⟨h1, h2⟩, ⟨h3, h4⟩⟩
    simp only [List.length_append]
    refine ⟨by omega, ?_⟩
    rw [List.take_add, List.drop_drop, h2, h4]
theorem Has.mid (a t b : List UInt8) : Has (a ++ t ++ b) a.length t := by
  unfold Has; simp
theorem Has.mid' (a t b : List UInt8) : Has (a ++ (t ++ b)) a.length t := by
  unfold Has; simp
theorem Has.len {s t : List UInt8} {k : Nat} (h : Has s k t) : k + t.length ≤ s.length := h.1
theorem Has.eq {s t : List UInt8} {k : Nat} (h : Has s k t) (m : Nat) (hm : m = t.length) : (s.drop k).take m = t := by rw [hm]; exact h.2
theorem Has.get {s t : List UInt8} {k : Nat} (h : Has s k t) {i : Nat} {b : UInt8} (hb : t[i]? = some b) : s[k + i]? = some b := by
  have h1 := h.2
  have hi := (List.getElem?_eq_some_iff.1 hb).1
  rw [← h1, List.getElem?_take, if_pos (by omega), List.getElem?_drop] at hb
  exact hb
theorem Has.shift {s t p : List UInt8} {k : Nat} (h : Has s k t) : Has (p ++ s) (p.length + k) t := by
  unfold Has at *
  obtain ⟨h1, h2⟩ := h
  refine ⟨by simp; omega, ?_⟩
  rw [List.drop_append, List.drop_eq_nil_of_le (by omega), Nat.add_sub_cancel_left, List.nil_append, h2]
theorem Has.right {s t p : List UInt8} {k : Nat} (h : Has s k t) : Has (s ++ p) k t := by
  unfold Has at *
  obtain ⟨h1, h2⟩ := h
  refine ⟨by simp; omega, ?_⟩
  rw [List.drop_append_of_le_length (by omega), List.take_append_of_le_length (by simp; omega), h2]
theorem Has.take {s t : List UInt8} {k m : Nat} (h : Has s k t) (hm : k + t.length ≤ m) : Has (s.take m) k t := by
  unfold Has at *
  obtain ⟨h1, h2⟩ := h
  refine ⟨by simp; omega, ?_⟩
  rw [List.drop_take, List.take_take, Nat.min_eq_left (by omega), h2]
theorem num_i2 {z : Int} (h : 0 ≤ z ∧ z ≤ 65535) : (num (i2 z) : Int) = z := by
  have h2 : (256 : Nat) ^ 2 = 65536 := by decide
  rw [i2, num_le 2 _ (by omega)]; omega
theorem num_i4 {z : Int} (h : 0 ≤ z ∧ z ≤ 4294967295) : (num (i4 z) : Int) = z := by
  have h2 : (256 : Nat) ^ 4 = 4294967296 := by decide
  rw [i4, num_le 4 _ (by omega)]; omega
structure CentralAt (s : List UInt8) (k : Nat) (h : Hd) (a : Nat) : Prop where
  sig : Has s k [80, 75, 1, 2]
  creator : Has s (k + 4) (i2 h.creator)
  reader : Has s (k + 6) (i2 h.reader)
  flags : Has s (k + 8) (i2 h.flags)
  method : Has s (k + 10) (i2 h.method)
  time : Has s (k + 12) (i2 h.time)
  date : Has s (k + 14) (i2 h.date)
  crc : Has s (k + 16) (i4 h.crc)
  packed : Has s (k + 20) (i4 h.packed)
  size : Has s (k + 24) (i4 h.size)
  nlen : Has s (k + 28) (i2 h.name.length)
  xlen : Has s (k + 30) (i2 h.extra.length)
  clen : Has s (k + 32) (i2 h.comment.length)
  ext : Has s (k + 38) (i4 h.ext)
  off : Has s (k + 42) (i4 a)
  name : Has s (k + 46) h.name
  extra : Has s (k + 46 + h.name.length) h.extra
  comment : Has s (k + 46 + h.name.length + h.extra.length) h.comment
theorem centralAt {s : List UInt8} {k : Nat} {h : Hd} {a : Nat} (hh : Has s k (centralT h a)) : CentralAt s k h a := by
  simp only [centralT, fieldsT, Has.app, List.length_append, i2_length, i4_length, List.length_cons, List.length_nil, Nat.reduceAdd, Nat.add_assoc] at hh
  obtain ⟨⟨⟨⟨⟨⟨⟨⟨⟨⟨⟨⟨⟨h1, h2⟩, h3⟩, ⟨⟨⟨⟨⟨⟨h4, h5⟩, h6⟩, h7⟩, h8⟩, h9⟩, h10⟩⟩, h11⟩, h12⟩, h13⟩, h14⟩, h15⟩, h16⟩, h17⟩, h18⟩, h19⟩, h20⟩ := hh
  exact ⟨h1, h2, h3, h4, h5, h6, h7, h8, h9, h10, h11, h12, h13, h16, h17, h18, by rw [Nat.add_assoc]; exact h19, by rw [Nat.add_assoc, Nat.add_assoc]; exact h20⟩
structure LocalAt (s : List UInt8) (k : Nat) (h : Hd) : Prop where
  sig : Has s k [80, 75, 3, 4]
  method : Has s (k + 8) (i2 h.method)
  nlen : Has s (k + 26) (i2 h.name.length)
  xlen : Has s (k + 28) (i2 h.extra.length)
  name : Has s (k + 30) h.name
  extra : Has s (k + 30 + h.name.length) h.extra
theorem localAt {s : List UInt8} {k : Nat} {h : Hd} (hh : Has s k (localT h)) : LocalAt s k h := by
  simp only [localT, fieldsT, Has.app, List.length_append, i2_length, i4_length, List.length_cons, List.length_nil, Nat.reduceAdd, Nat.add_assoc] at hh
  obtain ⟨⟨⟨⟨⟨⟨h1, h2⟩, ⟨⟨⟨⟨⟨⟨h4, h5⟩, h6⟩, h7⟩, h8⟩, h9⟩, h10⟩⟩, h11⟩, h12⟩, h13⟩, h14⟩ := hh
  exact ⟨h1, h5, h11, h12, h13, by rw [Nat.add_assoc]; exact h14⟩
structure EndAt (s : List UInt8) (k : Nat) (m z a : Nat) (c : List UInt8) : Prop where
  sig : Has s k [80, 75, 5, 6]
  many0 : Has s (k + 8) (i2 m)
  many : Has s (k + 10) (i2 m)
  size : Has s (k + 12) (i4 z)
  off : Has s (k + 16) (i4 a)
  clen : Has s (k + 20) (i2 c.length)
  com : Has s (k + 22) c
theorem endAt {s : List UInt8} {k m z a : Nat} {c : List UInt8} (hh : Has s k (endT m z a c)) : EndAt s k m z a c := by
  simp only [endT, Has.app, List.length_append, i2_length, i4_length, List.length_cons, List.length_nil, Nat.reduceAdd, Nat.add_assoc] at hh
  obtain ⟨⟨⟨⟨⟨⟨⟨⟨h1, h2⟩, h3⟩, h4⟩, h5⟩, h6⟩, h7⟩, h8⟩, h9⟩ := hh
  exact ⟨h1, h4, h5, h6, h7, h8, h9⟩
/-- Where the end's sign stands once only. -/
theorem ends_two {s : List UInt8} {k j : Nat} (h1 : ends s = 1) (hk : Has s k [80, 75, 5, 6]) (hj : Has s j [80, 75, 5, 6]) (h : k < j) : False := by
  have a1 := ends_drop s k (by have := hk.1; simp at this; omega)
  have a2 := ends_drop s j (by have := hj.1; simp at this; omega)
  rw [if_pos (hk.eq 4 rfl)] at a1
  rw [if_pos (hj.eq 4 rfl)] at a2
  have b1 := ends_mono s k 0
  have b2 := ends_mono s (j - (k + 1)) (k + 1)
  rw [show k + 1 + (j - (k + 1)) = j by omega] at b2
  simp at b1
  omega
theorem ends_unique {s : List UInt8} {k j : Nat} (h1 : ends s = 1) (hk : Has s k [80, 75, 5, 6]) (hj : Has s j [80, 75, 5, 6]) : k = j := by
  rcases Nat.lt_trichotomy k j with h | h | h
  · exact (ends_two h1 hk hj h).elim
  · exact h
  · exact (ends_two h1 hj hk h).elim
end Go.Proofs.YtlmefkhglooepaaGreatDoor
namespace Go.Proofs.YtlmefkhglooepaaGreatDoor
open Go
set_option linter.unusedSimpArgs false
set_option linter.unusedVariables false
variable {G : Nat → Option Obj}
theorem has_sls {s t : List UInt8} {k lo hi : Nat} (h : Has s k t) (hlo : lo = k) (hhi : hi = k + t.length) : (s.drop lo).take (hi - lo) = t := by
  subst hlo; subst hhi; exact h.eq _ (by omega)
section
variable {n : Nat} {ops : Array Oper} {L : Loc} {H R : List Res} {d : Nat} {x : Operand} {ty : TypeId} {p : String} {e : Array Edge} {ol oh : Operand} {k k' : IntKind} {a b : Int}
theorem Ex.cast {o : Oper} {v v' : Value} (hv : v = v') (h : Ex P n G ops L H o d v) : Ex P n G ops L H o d v' := hv ▸ h
/-- A part of a text that is known. -/
theorem x_slh {s t : List UInt8} {i : Nat} (h : Has s i t) (hx : ∀ g, evl L g x = .string (str s) := by intro g; rfl) (hl : ∀ g, evl L g ol = .int k a := by intro g; rfl) (hh : ∀ g, evl L g oh = .int k' b := by intro g; rfl)
    (ha : a = i := by first | omega | (simp; omega)) (hb : b = i + t.length := by first | omega | (simp; done) | (simp; omega)) (hn : d < n := by decide) :
    Ex P n G ops L H ⟨some d, .slice 9 x (some ol) (some oh) none, ty, p, e, none⟩ d (.string (str t)) := by
  have h1 := h.len
  have h2 : (s.drop i).take (i + t.length - i) = t := h.eq _ (by omega)
  exact Ex.cast (congrArg (fun z => Value.string (str z)) h2) <| x_sls (lo := i) (hi := i + t.length) Tryz.underlying9 hx ⟨k, a, hl, by omega, by omega⟩ ⟨k', b, hh, by omega, by omega⟩ (by omega) (by omega) hn
end
theorem cNum (bs ba : Nat) (s t : List UInt8) (a f o : Nat) (h : Has s (a + f) t) (ht : t.length = o - f) (h4 : t.length ≤ 4) (z : Int) (hz : (num t : Int) = z) (hfo : f ≤ o) (hs : s.length < 4611686018427387904) :
    Fn P G 67 #[.int .i64 f, .int .i64 o, .pointer (some ⟨bs, 0, none⟩), .pointer (some ⟨ba, 0, none⟩)] [pt bs [.string (str s)] 9, pt ba [.int .i64 a] 3] fun v H => v = .int .i64 z ∧ H = [pt bs [.string (str s)] 9, pt ba [.int .i64 a] 3] := by
  have hl := h.len
  subst hz
  refine fn_intro (args := [_,_,_,_]) Tryz.func67 Tryz.ntmps67 rfl ?_
  refine w_seq ?_
  refine w_region ?_
  refine o_t x_as ?_
  refine o_nil ?_
  refine w_seq ?_
  refine w_region ?_
  refine o_t (x_ld k9) ?_
  refine o_t (x_ld k3) ?_
  refine o_t x_mv ?_
  refine o_t x_add ?_
  refine o_t (x_ld k3) ?_
  refine o_t x_mv ?_
  refine o_t x_add ?_
  refine o_t (x_slh h) ?_
  refine o_call Tryz.call36 haa spla (cNumber t h4) ?_
  rintro _ _ HH ⟨rfl, rfl⟩ hHH
  simp only [List.cons_append, List.nil_append, List.append_nil] at hHH; subst hHH
  refine o_t x_as ?_
  refine o_nil ?_
  refine w_ret (r_1 rfl ⟨rfl, rfl⟩)
theorem atB_has {s p : List UInt8} {k : Nat} : atB s k p = true ↔ Has s k p := by
  simp only [atB, decide_eq_true_eq, Has, Int.toNat_natCast]
  constructor
  · rintro ⟨_, h1, h2⟩; exact ⟨by omega, h2⟩
  · rintro ⟨h1, h2⟩; exact ⟨by omega, by omega, h2⟩
/-- A record, as the reference finds it. -/
abbrev recV (h : Hd) (a : Nat) (data : List UInt8) : Value := .agg #[.string (str h.name), .string (str h.comment), .string (str h.extra), .bool false, .int .i64 h.creator, .int .i64 h.reader, .int .i64 h.flags, .int .i64 h.method,
  .int .i64 h.time, .int .i64 h.date, .int .i64 h.crc, .int .i64 h.packed, .int .i64 h.size, .int .i64 h.ext, .int .i64 a, .string (str data)]
theorem cCentralRead (s : List UInt8) (k : Nat) (h : Hd) (a : Nat) (hh : Has s k (centralT h a)) (ok : Ok h) (ha : a ≤ 4294967295) (hs : s.length ≤ 2147483647) :
    Fn P G 37 #[.string (str s), .int .i64 k] [] fun v H => v = .tuple #[recV h a [], .int .i64 ((k + (centralT h a).length : Nat) : Int), .bool true] ∧ H = [] := by
  have hlen := hh.len
  have c := centralAt hh
  have hat : atB s k [80, 75, 1, 2] = true := atB_has.2 c.sig
  have n1 := ok.name; have n2 := ok.extra; have n3 := ok.comment
  have e1 : (num (i2 h.name.length) : Int) = h.name.length := num_i2 (by omega)
  have e2 : (num (i2 h.extra.length) : Int) = h.extra.length := num_i2 (by omega)
  have e3 : (num (i2 h.comment.length) : Int) = h.comment.length := num_i2 (by omega)
  have ea : (num (i4 a) : Int) = a := num_i4 (by omega)
  simp only [centralT_length] at hlen ⊢
  have hat' := cAt (G := G) s [80, 75, 1, 2] k (by omega) (by decide) (by omega)
  rw [hat] at hat'
  refine fn_intro (args := [_,_]) Tryz.func37 Tryz.ntmps37 rfl ?_
  refine w_seq ?_
  refine w_region ?_
  refine o_bx (fun b2 => ?_)
  refine o_bx (fun b3 => ?_)
  refine o_al z46 (fun b4 => ?_)
  refine o_t x_as ?_
  refine o_t x_as ?_
  refine o_nil ?_
  refine w_seq ?_
  refine w_seq ?_
  refine w_region ?_
  refine o_t (x_ld k3) ?_
  refine o_t x_add ?_
  refine o_t (x_ld k9) ?_
  refine o_t (x_lens Tryz.underlying9) ?_
  refine o_t x_cmp ?_
  refine o_t x_mv ?_
  first | refine o_t (x_g (x_ld k9)) ?_ | refine o_t x_gs ?_ | refine o_t x_gu ?_
  first | refine o_t (x_g (x_ld k3)) ?_ | refine o_t x_gs ?_ | refine o_t x_gu ?_
  first | (refine o_gy (?_); refine o_call Tryz.call35 haa spla (hat') ?_; rintro _ _ HH ⟨rfl, rfl⟩ hHH; simp only [List.cons_append, List.nil_append, List.append_nil] at hHH; subst hHH) | refine o_t x_gs ?_ | refine o_t x_gu ?_
  first | refine o_t (x_g x_not) ?_ | refine o_t x_gs ?_ | refine o_t x_gu ?_
  refine o_t x_pick ?_
  refine o_nil ?_
  refine w_cond (t := false) (fun g => rfl) (fun hc => ?_) (fun hc => ?_) -- ('Go.Operand.tmp', 22)
  · cases hc
  refine w_skip ?_
  refine w_seq ?_
  refine w_region ?_
  refine o_t (x_mf haa haa) ?_
  refine o_t x_as ?_
  refine o_nil ?_
  refine w_seq ?_
  refine w_region ?_
  refine o_t x_mv ?_
  refine o_cv Tryz.call67 hxa haa spla vca (cNum _ _ s _ k 28 30 c.nlen rfl (by simp) _ e1 (by decide) (by omega)) ?_
  rintro _ HH ⟨rfl, rfl⟩
  simp only [List.cons_append, List.nil_append, List.append_nil]
  refine o_t x_mv ?_
  refine o_cv Tryz.call67 hxa haa spla vca (cNum _ _ s _ k 30 32 c.xlen rfl (by simp) _ e2 (by decide) (by omega)) ?_
  rintro _ HH ⟨rfl, rfl⟩
  simp only [List.cons_append, List.nil_append, List.append_nil]
  refine o_t x_mv ?_
  refine o_cv Tryz.call67 hxa haa spla vca (cNum _ _ s _ k 32 34 c.clen rfl (by simp) _ e3 (by decide) (by omega)) ?_
  rintro _ HH ⟨rfl, rfl⟩
  simp only [List.cons_append, List.nil_append, List.append_nil]
  refine o_t x_as ?_
  refine o_t x_as ?_
  refine o_t x_as ?_
  refine o_nil ?_
  refine w_seq ?_
  refine w_seq ?_
  refine w_region ?_
  refine o_t (x_ld k3) ?_
  refine o_t x_add ?_
  refine o_t x_mv ?_
  refine o_t x_add ?_
  refine o_t x_mv ?_
  refine o_t x_add ?_
  refine o_t x_mv ?_
  refine o_t x_add ?_
  refine o_t (x_ld k9) ?_
  refine o_t (x_lens Tryz.underlying9) ?_
  refine o_t x_cmp ?_
  refine o_nil ?_
  refine w_cond (t := false) (fun g => rfl) (fun hc => ?_) (fun hc => ?_) -- ('Go.Operand.tmp', 41)
  · cases hc
  refine w_skip ?_
  refine w_seq ?_
  refine w_region ?_
  refine o_t x_mv ?_
  refine o_cv Tryz.call67 hxa haa spla vca (cNum _ _ s _ k 4 6 c.creator rfl (by simp) _ (num_i2 ok.creator) (by decide) (by omega)) ?_
  rintro _ HH ⟨rfl, rfl⟩
  simp only [List.cons_append, List.nil_append, List.append_nil]
  refine o_t x_mv ?_
  refine o_cv Tryz.call67 hxa haa spla vca (cNum _ _ s _ k 6 8 c.reader rfl (by simp) _ (num_i2 ok.reader) (by decide) (by omega)) ?_
  rintro _ HH ⟨rfl, rfl⟩
  simp only [List.cons_append, List.nil_append, List.append_nil]
  refine o_t x_mv ?_
  refine o_cv Tryz.call67 hxa haa spla vca (cNum _ _ s _ k 8 10 c.flags rfl (by simp) _ (num_i2 ok.flags) (by decide) (by omega)) ?_
  rintro _ HH ⟨rfl, rfl⟩
  simp only [List.cons_append, List.nil_append, List.append_nil]
  refine o_t x_mv ?_
  refine o_cv Tryz.call67 hxa haa spla vca (cNum _ _ s _ k 10 12 c.method rfl (by simp) _ (num_i2 ok.method) (by decide) (by omega)) ?_
  rintro _ HH ⟨rfl, rfl⟩
  simp only [List.cons_append, List.nil_append, List.append_nil]
  refine o_t x_mv ?_
  refine o_cv Tryz.call67 hxa haa spla vca (cNum _ _ s _ k 12 14 c.time rfl (by simp) _ (num_i2 ok.time) (by decide) (by omega)) ?_
  rintro _ HH ⟨rfl, rfl⟩
  simp only [List.cons_append, List.nil_append, List.append_nil]
  refine o_t x_mv ?_
  refine o_cv Tryz.call67 hxa haa spla vca (cNum _ _ s _ k 14 16 c.date rfl (by simp) _ (num_i2 ok.date) (by decide) (by omega)) ?_
  rintro _ HH ⟨rfl, rfl⟩
  simp only [List.cons_append, List.nil_append, List.append_nil]
  refine o_t x_mv ?_
  refine o_cv Tryz.call67 hxa haa spla vca (cNum _ _ s _ k 16 20 c.crc rfl (by simp) _ (num_i4 ok.crc) (by decide) (by omega)) ?_
  rintro _ HH ⟨rfl, rfl⟩
  simp only [List.cons_append, List.nil_append, List.append_nil]
  refine o_t x_mv ?_
  refine o_cv Tryz.call67 hxa haa spla vca (cNum _ _ s _ k 20 24 c.packed rfl (by simp) _ (num_i4 ⟨ok.packed.1, Int.le_trans ok.packed.2 (by decide)⟩) (by decide) (by omega)) ?_
  rintro _ HH ⟨rfl, rfl⟩
  simp only [List.cons_append, List.nil_append, List.append_nil]
  refine o_t x_mv ?_
  refine o_cv Tryz.call67 hxa haa spla vca (cNum _ _ s _ k 24 28 c.size rfl (by simp) _ (num_i4 ⟨ok.size.1, Int.le_trans ok.size.2 (by decide)⟩) (by decide) (by omega)) ?_
  rintro _ HH ⟨rfl, rfl⟩
  simp only [List.cons_append, List.nil_append, List.append_nil]
  refine o_t x_mv ?_
  refine o_cv Tryz.call67 hxa haa spla vca (cNum _ _ s _ k 38 42 c.ext rfl (by simp) _ (num_i4 ok.ext) (by decide) (by omega)) ?_
  rintro _ HH ⟨rfl, rfl⟩
  simp only [List.cons_append, List.nil_append, List.append_nil]
  refine o_t (x_bd hla bd36_4_5_6_7_8_9_10_11_12_13) ?_
  refine o_al z36 (fun b11 => ?_)
  refine o_sta g36 ?_
  refine o_nil ?_
  refine w_seq ?_
  refine w_region ?_
  refine o_t (x_ld k9) ?_
  refine o_t (x_ld k3) ?_
  refine o_t x_add ?_
  refine o_t (x_ld k3) ?_
  refine o_t x_add ?_
  refine o_t x_mv ?_
  refine o_t x_add ?_
  refine o_t (x_slh c.name) ?_
  refine o_t (x_fa f36_0) ?_
  refine o_st k9 ?_
  refine o_nil ?_
  refine w_seq ?_
  refine w_region ?_
  refine o_t (x_ld k9) ?_
  refine o_t (x_ld k3) ?_
  refine o_t x_add ?_
  refine o_t x_mv ?_
  refine o_t x_add ?_
  refine o_t (x_ld k3) ?_
  refine o_t x_add ?_
  refine o_t x_mv ?_
  refine o_t x_add ?_
  refine o_t x_mv ?_
  refine o_t x_add ?_
  refine o_t (x_slh c.extra) ?_
  refine o_t (x_fa f36_2) ?_
  refine o_st k9 ?_
  refine o_nil ?_
  refine w_seq ?_
  refine w_region ?_
  refine o_t (x_ld k9) ?_
  refine o_t (x_ld k3) ?_
  refine o_t x_add ?_
  refine o_t x_mv ?_
  refine o_t x_add ?_
  refine o_t x_mv ?_
  refine o_t x_add ?_
  refine o_t (x_ld k3) ?_
  refine o_t x_add ?_
  refine o_t x_mv ?_
  refine o_t x_add ?_
  refine o_t x_mv ?_
  refine o_t x_add ?_
  refine o_t x_mv ?_
  refine o_t x_add ?_
  refine o_t (x_slh c.comment) ?_
  refine o_t (x_fa f36_1) ?_
  refine o_st k9 ?_
  refine o_nil ?_
  refine w_seq ?_
  refine w_draw mixed ?_
  refine a_seg (k := 13) _ [(1, 0), (1, 1), (1, 4), (1, 5), (1, 6), (1, 7), (1, 8), (1, 9), (1, 10), (1, 11), (0, 2), (1, 3), (0, 12)] (by kernel_rfl) (hwk (.cons .head (.cons (.tail .head) .nil))) ?_
  refine h_t rfl (x_lda g36) ?_
  refine h_t rfl x_mv ?_
  refine h_t rfl (x_ld k3) ?_
  refine h_t rfl x_add ?_
  refine h_t rfl x_mv ?_
  refine h_t rfl x_add ?_
  refine h_t rfl x_mv ?_
  refine h_t rfl x_add ?_
  refine h_t rfl x_mv ?_
  refine h_t rfl x_add ?_
  refine h_one rfl (fun Q' hQ => ?_)
  refine o_cv Tryz.call67 hxa haa spla vca (cNum _ _ s _ k 42 46 c.off rfl (by simp) _ ea (by decide) (by omega)) ?_
  rintro _ HH ⟨rfl, rfl⟩
  simp only [List.cons_append, List.nil_append, List.append_nil]
  refine o_nil (hQ _ _ (h_keep ?_))
  refine h_t rfl (x_bd hla bd46_0_1) ?_
  refine h_one rfl (fun Q' hQ => ?_)
  refine o_sta g46 ?_
  refine o_nil (hQ _ _ (h_keep ?_))
  refine h_end ?_
  refine a_seg (k := 14) _ [(1, 13)] (by kernel_rfl) (HWk.refl _) ?_
  refine h_t rfl x_as ?_
  refine h_end ?_
  refine a_seg (k := 15) _ [(1, 14)] (by kernel_rfl) (HWk.refl _) ?_
  refine h_t rfl x_as ?_
  refine h_end ?_
  refine a_done rfl ?_
  refine w_ret (r_c3 rfl g46 (fun _ => rfl) (fun _ => rfl) (fun _ => rfl) pulla rfl hka ⟨?_, rfl⟩)
  refine congrArg (fun z => Value.tuple #[recV h a [], .int .i64 z, .bool true]) ?_
  omega
theorem cBegin (s : List UInt8) (h : Hd) (a : Nat) (data : List UInt8) (lh : Hd) (hh : Has s a (localT lh)) (n1 : lh.name.length ≤ 60000) (n2 : lh.extra.length ≤ 60000) (hs : s.length ≤ 2147483647) :
    Fn P G 68 #[.string (str s), recV h a data] [] fun v H => v = .int .i64 ((a + (localT lh).length : Nat) : Int) ∧ H = [] := by
  have c := localAt hh
  have hlen := hh.len
  simp only [localT_length] at hlen ⊢
  have e1 : (num (i2 lh.name.length) : Int) = lh.name.length := num_i2 (by omega)
  have e2 : (num (i2 lh.extra.length) : Int) = lh.extra.length := num_i2 (by omega)
  refine fn_intro (args := [_,_]) Tryz.func68 Tryz.ntmps68 rfl ?_
  refine w_seq ?_
  refine w_region ?_
  refine o_bx (fun b3 => ?_)
  refine o_t x_as ?_
  refine o_nil ?_
  refine w_seq ?_
  refine w_quiet mixed (by kernel_rfl) ?_
  refine q_t (x_fa f46_1) ?_
  refine q_t (x_ld k3) ?_
  refine q_t x_add ?_
  refine q_t x_mv ?_
  refine q_t (x_fa f46_1) ?_
  refine q_t (x_ld k3) ?_
  refine q_t x_add ?_
  refine q_t (x_fa f46_1) ?_
  refine q_t (x_ld k3) ?_
  refine q_t x_add ?_
  refine q_t (x_slh c.nlen) ?_
  refine q_call Tryz.call36 haa spla (cNumber (i2 lh.name.length) (by simp)) ?_
  refine q_t x_add ?_
  refine q_t x_mv ?_
  refine q_t (x_fa f46_1) ?_
  refine q_t (x_ld k3) ?_
  refine q_t x_add ?_
  refine q_t (x_fa f46_1) ?_
  refine q_t (x_ld k3) ?_
  refine q_t x_add ?_
  refine q_t (x_slh c.xlen) ?_
  refine q_call Tryz.call36 haa spla (cNumber (i2 lh.extra.length) (by simp)) ?_
  refine q_t x_add ?_
  refine q_t x_as ?_
  refine q_nil ?_
  refine w_ret (r_1 rfl ⟨?_, rfl⟩)
  exact congrArg (Value.int _) (by omega)
theorem cLocalRead (s : List UInt8) (h : Hd) (a : Nat) (data : List UInt8) (dd : List UInt8) (lh : Hd) (hh : Has s a (localT lh ++ data)) (n1 : lh.name.length ≤ 60000) (n2 : lh.extra.length ≤ 60000) (hs : s.length ≤ 2147483647)
    (hn : lh.name = h.name) (hm : lh.method = h.method) (hmr : 0 ≤ h.method ∧ h.method ≤ 65535) (hp : h.packed = data.length) :
    Fn P G 38 #[.string (str s), recV h a dd] [] fun v H => v = .bool true ∧ H = [] := by
  have hlen := hh.len
  rw [Has.app] at hh
  have c := localAt hh.1
  have hb := cBegin (G := G) s h a dd lh hh.1 n1 n2 hs
  simp only [List.length_append, localT_length] at hlen hb
  have e1 : (num (i2 lh.name.length) : Int) = lh.name.length := num_i2 (by omega)
  have e3 : (num (i2 lh.method) : Int) = h.method := hm ▸ num_i2 (by rw [hm]; exact hmr)
  have hat' := cAt (G := G) s [80, 75, 3, 4] a (by omega) (by decide) (by omega)
  rw [show atB s a [80, 75, 3, 4] = true from atB_has.2 c.sig] at hat'
  have hat2 := cAt (G := G) s h.name ((a + 30 : Nat) : Int) (by omega) (by rw [← hn]; omega) (by omega)
  rw [show atB s ((a + 30 : Nat) : Int) h.name = true from atB_has.2 (hn ▸ c.name)] at hat2
  have hnl : lh.name.length = h.name.length := by rw [hn]
  refine fn_intro (args := [_,_]) Tryz.func38 Tryz.ntmps38 rfl ?_
  refine w_seq ?_
  refine w_region ?_
  refine o_bx (fun b3 => ?_)
  refine o_t x_as ?_
  refine o_nil ?_
  refine w_seq ?_
  refine w_seq ?_
  refine w_region ?_
  refine o_t (x_fa f46_1) ?_
  refine o_t (x_ld k3) ?_
  refine o_t x_add ?_
  refine o_t x_mv ?_
  refine o_t (x_lens Tryz.underlying9) ?_
  refine o_t x_cmp ?_
  refine o_t x_mv ?_
  first | refine o_t (x_g x_mv) ?_ | refine o_t x_gs ?_ | refine o_t x_gu ?_
  first | refine o_t (x_g (x_fa f46_1)) ?_ | refine o_t x_gs ?_ | refine o_t x_gu ?_
  first | refine o_t (x_g (x_ld k3)) ?_ | refine o_t x_gs ?_ | refine o_t x_gu ?_
  first | (refine o_gy (?_); refine o_call Tryz.call35 haa spla (hat') ?_; rintro _ _ HH ⟨rfl, rfl⟩ hHH; simp only [List.cons_append, List.nil_append, List.append_nil] at hHH; subst hHH) | refine o_t x_gs ?_ | refine o_t x_gu ?_
  first | refine o_t (x_g x_not) ?_ | refine o_t x_gs ?_ | refine o_t x_gu ?_
  refine o_t x_pick ?_
  refine o_nil ?_
  refine w_cond (t := false) (fun g => rfl) (fun hc => ?_) (fun hc => ?_) -- ('Go.Operand.tmp', 17)
  · cases hc
  refine w_skip ?_
  refine w_seq ?_
  refine w_quiet mixed (by kernel_rfl) ?_
  refine q_t x_mv ?_
  refine q_t (x_fa f46_1) ?_
  refine q_t (x_ld k3) ?_
  refine q_t x_add ?_
  refine q_t (x_fa f46_1) ?_
  refine q_t (x_ld k3) ?_
  refine q_t x_add ?_
  refine q_t (x_slh c.method) ?_
  refine q_call Tryz.call36 haa spla (cNumber (i2 lh.method) (by simp)) ?_
  refine q_t (x_fa f46_0) ?_
  refine q_t (x_fa f36_7) ?_
  refine q_t (x_ld k3) ?_
  refine q_t x_cmp ?_
  refine q_t x_mv ?_
  first | refine q_t (x_g x_mv) ?_ | refine q_t x_gs ?_ | refine q_t x_gu ?_
  first | refine q_t (x_g (x_fa f46_1)) ?_ | refine q_t x_gs ?_ | refine q_t x_gu ?_
  first | refine q_t (x_g (x_ld k3)) ?_ | refine q_t x_gs ?_ | refine q_t x_gu ?_
  first | refine q_t (x_g x_add) ?_ | refine q_t x_gs ?_ | refine q_t x_gu ?_
  first | refine q_t (x_g (x_fa f46_0)) ?_ | refine q_t x_gs ?_ | refine q_t x_gu ?_
  first | refine q_t (x_g (x_fa f36_0)) ?_ | refine q_t x_gs ?_ | refine q_t x_gu ?_
  first | refine q_t (x_g (x_ld k9)) ?_ | refine q_t x_gs ?_ | refine q_t x_gu ?_
  first | (refine q_gy (?_); refine q_call Tryz.call35 haa spla (hat2) ?_) | refine q_t x_gs ?_ | refine q_t x_gu ?_
  refine q_t x_pick ?_
  refine q_t x_mv ?_
  first | refine q_t (x_g x_mv) ?_ | refine q_t x_gs ?_ | refine q_t x_gu ?_
  first | refine q_t (x_g (x_fa f46_1)) ?_ | refine q_t x_gs ?_ | refine q_t x_gu ?_
  first | refine q_t (x_g (x_ld k3)) ?_ | refine q_t x_gs ?_ | refine q_t x_gu ?_
  first | refine q_t (x_g x_add) ?_ | refine q_t x_gs ?_ | refine q_t x_gu ?_
  first | refine q_t (x_g (x_fa f46_1)) ?_ | refine q_t x_gs ?_ | refine q_t x_gu ?_
  first | refine q_t (x_g (x_ld k3)) ?_ | refine q_t x_gs ?_ | refine q_t x_gu ?_
  first | refine q_t (x_g x_add) ?_ | refine q_t x_gs ?_ | refine q_t x_gu ?_
  first | refine q_t (x_g (x_slh c.nlen)) ?_ | refine q_t x_gs ?_ | refine q_t x_gu ?_
  first | (refine q_gy (?_); refine q_call Tryz.call36 haa spla (cNumber (i2 lh.name.length) (by simp)) ?_) | refine q_t x_gs ?_ | refine q_t x_gu ?_
  first | refine q_t (x_g (x_fa f46_0)) ?_ | refine q_t x_gs ?_ | refine q_t x_gu ?_
  first | refine q_t (x_g (x_fa f36_0)) ?_ | refine q_t x_gs ?_ | refine q_t x_gu ?_
  first | refine q_t (x_g (x_ld k9)) ?_ | refine q_t x_gs ?_ | refine q_t x_gu ?_
  first | refine q_t (x_g (x_lens Tryz.underlying9)) ?_ | refine q_t x_gs ?_ | refine q_t x_gu ?_
  first | refine q_t (x_g x_cmp) ?_ | refine q_t x_gs ?_ | refine q_t x_gu ?_
  refine q_t x_pick ?_
  refine q_t x_mv ?_
  first | refine q_t (x_g x_mv) ?_ | refine q_t x_gs ?_ | refine q_t x_gu ?_
  first | refine q_t (x_g (x_lda g46)) ?_ | refine q_t x_gs ?_ | refine q_t x_gu ?_
  first | (refine q_gy (?_); refine q_call Tryz.call68 haa spla (hb) ?_) | refine q_t x_gs ?_ | refine q_t x_gu ?_
  first | refine q_t (x_g (x_fa f46_0)) ?_ | refine q_t x_gs ?_ | refine q_t x_gu ?_
  first | refine q_t (x_g (x_fa f36_11)) ?_ | refine q_t x_gs ?_ | refine q_t x_gu ?_
  first | refine q_t (x_g (x_ld k3)) ?_ | refine q_t x_gs ?_ | refine q_t x_gu ?_
  first | refine q_t (x_g x_add) ?_ | refine q_t x_gs ?_ | refine q_t x_gu ?_
  first | refine q_t (x_g x_mv) ?_ | refine q_t x_gs ?_ | refine q_t x_gu ?_
  first | refine q_t (x_g (x_lens Tryz.underlying9)) ?_ | refine q_t x_gs ?_ | refine q_t x_gu ?_
  first | refine q_t (x_g x_cmp) ?_ | refine q_t x_gs ?_ | refine q_t x_gu ?_
  refine q_t x_pick ?_
  refine q_t x_as ?_
  refine q_nil ?_
  refine w_ret (r_1 rfl ⟨rfl, rfl⟩)
theorem cContent (s : List UInt8) (h : Hd) (a : Nat) (data : List UInt8) (dd : List UInt8) (lh : Hd) (hh : Has s a (localT lh ++ data)) (n1 : lh.name.length ≤ 60000) (n2 : lh.extra.length ≤ 60000) (hs : s.length ≤ 2147483647)
    (hp : h.packed = data.length) :
    Fn P G 39 #[.string (str s), recV h a dd] [] fun v H => v = .string (str data) ∧ H = [] := by
  have hlen := hh.len
  rw [Has.app] at hh
  have hb := cBegin (G := G) s h a dd lh hh.1 n1 n2 hs
  have hd := hh.2
  simp only [List.length_append] at hlen
  refine fn_intro (args := [_,_]) Tryz.func39 Tryz.ntmps39 rfl ?_
  refine w_seq ?_
  refine w_region ?_
  refine o_bx (fun b3 => ?_)
  refine o_t x_as ?_
  refine o_nil ?_
  refine w_seq ?_
  refine w_quiet mixed (by kernel_rfl) ?_
  refine q_t x_mv ?_
  refine q_t x_mv ?_
  refine q_t (x_lda g46) ?_
  refine q_call Tryz.call68 haa spla (hb) ?_
  refine q_t x_mv ?_
  refine q_t (x_lda g46) ?_
  refine q_call Tryz.call68 haa spla (hb) ?_
  refine q_t (x_fa f46_0) ?_
  refine q_t (x_fa f36_11) ?_
  refine q_t (x_ld k3) ?_
  refine q_t x_add ?_
  refine q_t (x_slh hd) ?_
  refine q_t x_as ?_
  refine q_nil ?_
  refine w_ret (r_1 rfl ⟨rfl, rfl⟩)
end Go.Proofs.YtlmefkhglooepaaGreatDoor
namespace Go.Proofs.YtlmefkhglooepaaGreatDoor
open Go
structure ZR where
  h : Hd
  lh : Hd
  pos : Nat
  data : List UInt8
def dirG : List ZR → List UInt8
  | [] => []
  | r :: l => centralT r.h r.pos ++ dirG l
theorem dirG_append (a b : List ZR) : dirG (a ++ b) = dirG a ++ dirG b := by
  induction a with
  | nil => rfl
  | cons e l ih => simp [dirG, ih]
structure RecOK (s : List UInt8) (r : ZR) : Prop where
  ok : Ok r.h
  name : r.lh.name = r.h.name
  method : r.lh.method = r.h.method
  xlen : r.lh.extra.length ≤ 60000
  packed : r.h.packed = r.data.length
  pos : r.pos ≤ 4294967295
  here : Has s r.pos (localT r.lh ++ r.data)
structure Zip (s body : List UInt8) (rs : List ZR) (c : List UInt8) : Prop where
  text : s = body ++ (dirG rs ++ endT rs.length (dirG rs).length body.length c)
  recs : ∀ r ∈ rs, RecOK s r
  one : ends s = 1
  many : rs.length ≤ 1000
  com : c.length ≤ 65535
  len : s.length ≤ 2147483647
variable {s body : List UInt8} {rs : List ZR} {c : List UInt8}
theorem Zip.slen (z : Zip s body rs c) : s.length = body.length + (dirG rs).length + 22 + c.length := by
  have := congrArg List.length z.text
  simp at this; omega
theorem Zip.endHas (z : Zip s body rs c) : Has s (body.length + (dirG rs).length) (endT rs.length (dirG rs).length body.length c) := by
  have h := Has.mid (body ++ dirG rs) (endT rs.length (dirG rs).length body.length c) []
  rw [List.append_nil, List.append_assoc, ← z.text, List.length_append] at h
  exact h
theorem Zip.dirHas (z : Zip s body rs c) {j : Nat} {r : ZR} (hr : rs[j]? = some r) : Has s (body.length + (dirG (rs.take j)).length) (centralT r.h r.pos) := by
  have hj := (List.getElem?_eq_some_iff.1 hr).1
  have e : rs = rs.take j ++ r :: rs.drop (j + 1) := by
    conv => lhs; rw [← List.take_append_drop j rs, List.drop_eq_getElem_cons hj, (List.getElem?_eq_some_iff.1 hr).2]
  have h := Has.mid (body ++ dirG (rs.take j)) (centralT r.h r.pos) (dirG (rs.drop (j + 1)) ++ endT rs.length (dirG rs).length body.length c)
  have h2 : body ++ dirG (rs.take j) ++ centralT r.h r.pos ++ (dirG (rs.drop (j + 1)) ++ endT rs.length (dirG rs).length body.length c) = s := by
    have zt := z.text
    have ed : dirG rs = dirG (rs.take j) ++ (centralT r.h r.pos ++ dirG (rs.drop (j + 1))) := by
      conv => lhs; rw [e, dirG_append]
      rfl
    generalize endT rs.length (dirG rs).length body.length c = t at zt ⊢
    rw [zt, ed]
    simp
  rw [h2, List.length_append] at h
  exact h
theorem dirG_snoc {j : Nat} {r : ZR} (hr : rs[j]? = some r) : dirG (rs.take (j + 1)) = dirG (rs.take j) ++ centralT r.h r.pos := by
  rw [List.take_add_one, hr, dirG_append]; simp [dirG]
theorem dirG_take_le (j : Nat) : (dirG (rs.take j)).length ≤ (dirG rs).length := by
  conv => rhs; rw [← List.take_append_drop j rs, dirG_append]
  simp
theorem Zip.unique (z : Zip s body rs c) {k : Nat} (h : Has s k [80, 75, 5, 6]) : k = body.length + (dirG rs).length := ends_unique z.one h (endAt z.endHas).sig
end Go.Proofs.YtlmefkhglooepaaGreatDoor
namespace Go.Proofs.YtlmefkhglooepaaGreatDoor
open Go
set_option linter.unusedSimpArgs false
set_option linter.unusedVariables false
variable {G : Nat → Option Obj}
def recC (r : ZR) : List Value := [.string (str r.h.name), .string (str r.h.comment), .string (str r.h.extra), .bool false, .int .i64 r.h.creator, .int .i64 r.h.reader, .int .i64 r.h.flags, .int .i64 r.h.method,
  .int .i64 r.h.time, .int .i64 r.h.date, .int .i64 r.h.crc, .int .i64 r.h.packed, .int .i64 r.h.size, .int .i64 r.h.ext, .int .i64 r.pos, .string (str r.data)]
def recsC (l : List ZR) : List Value := l.flatMap recC
theorem atB_not {s p : List UInt8} {k : Nat} (h : ¬ Has s k p) : atB s k p = false := by
  cases hb : atB s k p with
  | false => rfl
  | true => exact absurd (atB_has.1 hb) h
theorem cScan (s body : List UInt8) (rs : List ZR) (c : List UInt8) (z : Zip s body rs c) : Fn P G 17 #[.string (str s)] [] fun v H => ∃ v1 r1, v = .tuple #[v1, .string (str c), .bool true] ∧ Own 46 16 v1 rs.length (recsC rs) r1 ∧ H = [r1] := by
  have hsl := z.slen
  have hen := endAt z.endHas
  have hl := z.len
  have hmany := z.many; have hcom := z.com
  have hdl : (dirG rs).length ≤ 2147483647 := by omega
  have hbl : body.length ≤ 2147483647 := by omega
  have q1 : (num (i2 rs.length) : Int) = rs.length := num_i2 (by omega)
  have q2 : (num (i4 (dirG rs).length) : Int) = (dirG rs).length := num_i4 (by omega)
  have q3 : (num (i4 body.length) : Int) = body.length := num_i4 (by omega)
  have q4 : (num (i2 c.length) : Int) = c.length := num_i2 (by omega)
  obtain ⟨E, hE⟩ : ∃ E, body.length + (dirG rs).length = E := ⟨_, rfl⟩
  have huniq : ∀ k, Has s k [80, 75, 5, 6] → k = E := fun k h => by rw [← hE]; exact z.unique h
  rw [hE] at hen
  refine fn_intro (args := [_]) Tryz.func17 Tryz.ntmps17 rfl ?_
  refine w_seq ?_
  refine w_region ?_
  refine o_t x_as ?_
  refine o_t x_as ?_
  refine o_t x_as ?_
  refine o_nil ?_
  refine w_seq ?_
  refine w_region ?_
  refine o_bs0 Tryz.underlying42 e42 (fun b => ?_)
  refine o_t x_as ?_
  refine o_nil ?_
  refine w_seq ?_
  refine w_region ?_
  refine o_t x_mv ?_
  refine o_t (x_lens Tryz.underlying9) ?_
  refine o_t x_sub ?_
  refine o_t x_as ?_
  refine o_nil ?_
  refine w_cut (α := Unit) (fun _ => [(0, .string (str s)), (5, .slice (some ⟨b, 0, none⟩) 0 0), (6, .int .i64 E)]) (fun _ => [pt b [] 46]) (fun _ => True) ?_ (fun _ _ => ?_)
  · refine w_block ?_ -- 0
    refine w_loop (α := Nat) (fun x => [(0, .string (str s)), (5, .slice (some ⟨b, 0, none⟩) 0 0), (6, .int .i64 x)]) (fun x => [pt b [] 46]) (fun x => E ≤ x ∧ x + 22 ≤ s.length) (fun x => x) (s.length - 22) (wka) (hka) ⟨by omega, by omega⟩ ?_
    rintro x ⟨hx1, hx2⟩
    refine w_seq ?_
    by_cases hxe : x = E
    · subst hxe
      have hat := cAt (G := G) s [80, 75, 5, 6] x (by omega) (by decide) (by omega)
      rw [show atB s x [80, 75, 5, 6] = true from atB_has.2 hen.sig] at hat
      refine w_seq ?_
      refine w_region ?_
      refine o_t x_mv ?_
      refine o_t x_cmp ?_
      refine o_t x_mv ?_
      first | refine o_t (x_g x_mv) ?_ | refine o_t x_gs ?_ | refine o_t x_gu ?_
      first | refine o_t (x_g x_mv) ?_ | refine o_t x_gs ?_ | refine o_t x_gu ?_
      first | (refine o_gy (?_); refine o_call Tryz.call35 haa spla (hat) ?_; rintro _ _ HH ⟨rfl, rfl⟩ hHH; simp only [List.cons_append, List.nil_append, List.append_nil] at hHH; subst hHH) | refine o_t x_gs ?_ | refine o_t x_gu ?_
      first | refine o_t (x_g x_mv) ?_ | refine o_t x_gs ?_ | refine o_t x_gu ?_
      first | refine o_t (x_g x_mv) ?_ | refine o_t x_gs ?_ | refine o_t x_gu ?_
      first | refine o_t (x_g x_add) ?_ | refine o_t x_gs ?_ | refine o_t x_gu ?_
      first | refine o_t (x_g x_mv) ?_ | refine o_t x_gs ?_ | refine o_t x_gu ?_
      first | refine o_t (x_g x_mv) ?_ | refine o_t x_gs ?_ | refine o_t x_gu ?_
      first | refine o_t (x_g x_add) ?_ | refine o_t x_gs ?_ | refine o_t x_gu ?_
      first | refine o_t (x_g x_mv) ?_ | refine o_t x_gs ?_ | refine o_t x_gu ?_
      first | refine o_t (x_g x_add) ?_ | refine o_t x_gs ?_ | refine o_t x_gu ?_
      first | refine o_t (x_g (x_slh hen.clen)) ?_ | refine o_t x_gs ?_ | refine o_t x_gu ?_
      first | (refine o_gy (?_); refine o_call Tryz.call36 haa spla (cNumber (i2 c.length) (by simp)) ?_; rintro _ _ HH ⟨rfl, rfl⟩ hHH; simp only [List.cons_append, List.nil_append, List.append_nil] at hHH; subst hHH) | refine o_t x_gs ?_ | refine o_t x_gu ?_
      first | refine o_t (x_g x_add) ?_ | refine o_t x_gs ?_ | refine o_t x_gu ?_
      first | refine o_t (x_g x_mv) ?_ | refine o_t x_gs ?_ | refine o_t x_gu ?_
      first | refine o_t (x_g (x_lens Tryz.underlying9)) ?_ | refine o_t x_gs ?_ | refine o_t x_gu ?_
      first | refine o_t (x_g x_cmp) ?_ | refine o_t x_gs ?_ | refine o_t x_gu ?_
      first | refine o_t (x_g x_pick) ?_ | refine o_t x_gs ?_ | refine o_t x_gu ?_
      first | refine o_t (x_g x_not) ?_ | refine o_t x_gs ?_ | refine o_t x_gu ?_
      refine o_t x_pick ?_
      refine o_nil ?_
      refine w_cond (t := false) (fun g => rfl) (fun hc => ?_) (fun hc => ?_) -- ('Go.Operand.tmp', 39)
      · cases hc
      refine w_exit ?_ -- 0
      exact ⟨(), wka, hka, trivial⟩
    · have hat := cAt (G := G) s [80, 75, 5, 6] x (by omega) (by decide) (by omega)
      rw [atB_not (fun h => hxe (huniq x h))] at hat
      refine w_seq ?_
      refine w_region ?_
      refine o_t x_mv ?_
      refine o_t x_cmp ?_
      refine o_t x_mv ?_
      first | refine o_t (x_g x_mv) ?_ | refine o_t x_gs ?_ | refine o_t x_gu ?_
      first | refine o_t (x_g x_mv) ?_ | refine o_t x_gs ?_ | refine o_t x_gu ?_
      first | (refine o_gy (?_); refine o_call Tryz.call35 haa spla (hat) ?_; rintro _ _ HH ⟨rfl, rfl⟩ hHH; simp only [List.cons_append, List.nil_append, List.append_nil] at hHH; subst hHH) | refine o_t x_gs ?_ | refine o_t x_gu ?_
      first | refine o_t (x_g x_mv) ?_ | refine o_t x_gs ?_ | refine o_t x_gu ?_
      first | refine o_t (x_g x_mv) ?_ | refine o_t x_gs ?_ | refine o_t x_gu ?_
      first | refine o_t (x_g x_add) ?_ | refine o_t x_gs ?_ | refine o_t x_gu ?_
      first | refine o_t (x_g x_mv) ?_ | refine o_t x_gs ?_ | refine o_t x_gu ?_
      first | refine o_t (x_g x_mv) ?_ | refine o_t x_gs ?_ | refine o_t x_gu ?_
      first | refine o_t (x_g x_add) ?_ | refine o_t x_gs ?_ | refine o_t x_gu ?_
      first | refine o_t (x_g x_mv) ?_ | refine o_t x_gs ?_ | refine o_t x_gu ?_
      first | refine o_t (x_g x_add) ?_ | refine o_t x_gs ?_ | refine o_t x_gu ?_
      first | (refine o_gy (?_); refine o_t x_gs ?_) | refine o_t x_gs ?_ | refine o_t x_gu ?_
      first | (refine o_gy (?_); refine o_t x_gs ?_) | refine o_t x_gs ?_ | refine o_t x_gu ?_
      first | refine o_t (x_g x_add) ?_ | refine o_t x_gs ?_ | refine o_t x_gu ?_
      first | refine o_t (x_g x_mv) ?_ | refine o_t x_gs ?_ | refine o_t x_gu ?_
      first | refine o_t (x_g (x_lens Tryz.underlying9)) ?_ | refine o_t x_gs ?_ | refine o_t x_gu ?_
      first | refine o_t (x_g x_cmp) ?_ | refine o_t x_gs ?_ | refine o_t x_gu ?_
      first | refine o_t (x_g x_pick) ?_ | refine o_t x_gs ?_ | refine o_t x_gu ?_
      first | refine o_t (x_g x_not) ?_ | refine o_t x_gs ?_ | refine o_t x_gu ?_
      refine o_t x_pick ?_
      refine o_nil ?_
      refine w_cond (t := true) (fun g => rfl) (fun hc => ?_) (fun hc => ?_) -- ('Go.Operand.tmp', 39)
      · refine w_skip ?_
        refine w_block ?_ -- 1
        refine w_region ?_
        refine o_t x_mv ?_
        refine o_t x_sub ?_
        refine o_t x_as ?_
        refine o_nil ?_
        exact ⟨x - 1, wka, hka, ⟨by omega, by omega⟩, by omega⟩
      · cases hc
  refine w_seq ?_
  refine w_seq ?_
  refine w_region ?_
  refine o_t x_mv ?_
  refine o_t x_cmp ?_
  refine o_nil ?_
  refine w_cond (t := false) (fun g => rfl) (fun hc => ?_) (fun hc => ?_) -- ('Go.Operand.tmp', 43)
  · cases hc
  refine w_skip ?_
  refine w_cut (α := Unit) (fun _ => [(0, .string (str s)), (5, .slice (some ⟨b, 0, none⟩) 0 0), (6, .int .i64 E), (7, .int .i64 rs.length), (8, .int .i64 (dirG rs).length), (9, .int .i64 body.length)]) (fun _ => [pt b [] 46]) (fun _ => True) ?_ (fun _ _ => ?_)
  · refine w_quiet mixed (by kernel_rfl) ?_
    refine q_t x_mv ?_
    refine q_t x_mv ?_
    refine q_t x_add ?_
    refine q_t x_mv ?_
    refine q_t x_add ?_
    refine q_t (x_slh hen.many) ?_
    refine q_call Tryz.call36 haa spla (cNumber (i2 rs.length) (by simp)) ?_
    refine q_t x_mv ?_
    refine q_t x_mv ?_
    refine q_t x_add ?_
    refine q_t x_mv ?_
    refine q_t x_add ?_
    refine q_t (x_slh hen.size) ?_
    refine q_call Tryz.call36 haa spla (cNumber (i4 (dirG rs).length) (by simp)) ?_
    refine q_t x_mv ?_
    refine q_t x_mv ?_
    refine q_t x_add ?_
    refine q_t x_mv ?_
    refine q_t x_add ?_
    refine q_t (x_slh hen.off) ?_
    refine q_call Tryz.call36 haa spla (cNumber (i4 body.length) (by simp)) ?_
    refine q_t x_as ?_
    refine q_t x_as ?_
    refine q_t x_as ?_
    refine q_nil ?_
    exact ⟨(), wka, hka, trivial⟩
  refine w_seq ?_
  refine w_seq ?_
  refine w_region ?_
  refine o_t x_mv ?_
  refine o_t x_mv ?_
  refine o_t x_add ?_
  refine o_t x_mv ?_
  refine o_t x_add ?_
  refine o_t (x_slh hen.many0) ?_
  refine o_call Tryz.call36 haa spla (cNumber (i2 rs.length) (by simp)) ?_
  rintro _ _ HH ⟨rfl, rfl⟩ hHH
  simp only [List.cons_append, List.nil_append, List.append_nil] at hHH; subst hHH
  refine o_t x_mv ?_
  refine o_t x_ne ?_
  refine o_t x_mv ?_
  first | refine o_t (x_g x_mv) ?_ | refine o_t x_gs ?_ | refine o_t x_gu ?_
  first | refine o_t (x_g x_mv) ?_ | refine o_t x_gs ?_ | refine o_t x_gu ?_
  first | refine o_t (x_g x_add) ?_ | refine o_t x_gs ?_ | refine o_t x_gu ?_
  first | refine o_t (x_g x_mv) ?_ | refine o_t x_gs ?_ | refine o_t x_gu ?_
  first | refine o_t (x_g x_ne) ?_ | refine o_t x_gs ?_ | refine o_t x_gu ?_
  refine o_t x_pick ?_
  refine o_nil ?_
  refine w_cond (t := false) (fun g => rfl) (fun hc => ?_) (fun hc => ?_) -- ('Go.Operand.tmp', 81)
  · cases hc
  refine w_skip ?_
  refine w_seq ?_
  refine w_block ?_ -- 2
  refine w_loop (α := Nat × Value × Res) (fun x => [(0, .string (str s)), (5, x.2.1), (6, .int .i64 E), (7, .int .i64 ((rs.length - x.1 : Nat) : Int)), (9, .int .i64 ((body.length + (dirG (rs.take x.1)).length : Nat) : Int))]) (fun x => [x.2.2]) (fun x => x.1 ≤ rs.length ∧ Own 46 16 x.2.1 x.1 (recsC (rs.take x.1)) x.2.2) (fun x => rs.length - x.1) (0, .slice (some ⟨b, 0, none⟩) 0 0, pt b [] 46) (wka) (hka) ⟨Nat.zero_le _, Own.empty 46 16 b⟩ ?_
  rintro ⟨j, o, ro⟩ ⟨hj, hO⟩
  dsimp only at hj hO ⊢
  refine w_seq ?_
  refine w_seq ?_
  refine w_region ?_
  refine o_t x_mv ?_
  refine o_t x_cmp ?_
  refine o_nil ?_
  refine w_cond (fun g => rfl) (fun hc => ?_) (fun hc => ?_) -- ('Go.Operand.tmp', 84)
  · --
    have hc := of_decide_eq_true hc
    have he := List.getElem?_eq_getElem (l := rs) (i := j) (by omega)
    generalize rs[j]'(by omega) = r at he
    have hR := z.recs r (List.mem_of_getElem? he)
    have hdh := z.dirHas he
    have hds := dirG_snoc he
    have hdt := dirG_take_le (rs := rs) (j + 1)
    have hdt0 := dirG_take_le (rs := rs) j
    have hdhl := hdh.len
    rw [hds, List.length_append] at hdt
    have hdh' : Has (s.take E) (body.length + (dirG (rs.take j)).length) (centralT r.h r.pos) := hdh.take (by omega)
    have hn1 : r.lh.name.length ≤ 60000 := by rw [hR.name]; exact hR.ok.name
    have hcr := cCentralRead (G := G) (s.take E) (body.length + (dirG (rs.take j)).length) r.h r.pos hdh' hR.ok hR.pos (by simp; omega)
    have hlr := cLocalRead (G := G) s r.h r.pos r.data [] r.lh hR.here hn1 hR.xlen hl hR.name hR.method hR.ok.method hR.packed
    have hct := cContent (G := G) s r.h r.pos r.data [] r.lh hR.here hn1 hR.xlen hl hR.packed
    have htk : (s.drop 0).take (E - 0) = s.take E := by simp
    refine w_skip ?_
    refine w_seq ?_
    refine w_block ?_ -- 3
    refine w_seq ?_
    refine w_region ?_
    refine o_t x_mv ?_
    refine o_t x_mv ?_
    refine o_t (Ex.cast (congrArg (fun z => Value.string (str z)) htk) (x_sls Tryz.underlying9)) ?_
    refine o_t x_mv ?_
    refine o_call Tryz.call37 haa spla (hcr) ?_
    rintro _ _ HH ⟨rfl, rfl⟩ hHH
    simp only [List.cons_append, List.nil_append, List.append_nil] at hHH; subst hHH
    refine o_t x_mv ?_
    refine o_t x_ex ?_
    refine o_t x_ex ?_
    refine o_t x_ex ?_
    refine o_al z46 (fun b10 => ?_)
    refine o_sta g46 ?_
    refine o_t x_as ?_
    refine o_t x_as ?_
    refine o_nil ?_
    refine w_seq ?_
    refine w_seq ?_
    refine w_region ?_
    refine o_t x_mv ?_
    refine o_t x_not ?_
    refine o_t x_mv ?_
    first | refine o_t (x_g x_mv) ?_ | refine o_t x_gs ?_ | refine o_t x_gu ?_
    first | refine o_t (x_g (x_lda g46)) ?_ | refine o_t x_gs ?_ | refine o_t x_gu ?_
    first | (refine o_gy (?_); refine o_call Tryz.call38 haa spla (hlr) ?_; rintro _ _ HH ⟨rfl, rfl⟩ hHH; simp only [List.cons_append, List.nil_append, List.append_nil] at hHH; subst hHH) | refine o_t x_gs ?_ | refine o_t x_gu ?_
    first | refine o_t (x_g x_not) ?_ | refine o_t x_gs ?_ | refine o_t x_gu ?_
    refine o_t x_pick ?_
    refine o_nil ?_
    refine w_cond (t := false) (fun g => rfl) (fun hc => ?_) (fun hc => ?_) -- ('Go.Operand.tmp', 103)
    · cases hc
    refine w_skip ?_
    refine w_seq ?_
    refine w_region ?_
    refine o_t x_mv ?_
    refine o_t (x_lda g46) ?_
    refine o_call Tryz.call39 haa spla (hct) ?_
    rintro _ _ HH ⟨rfl, rfl⟩ hHH
    simp only [List.cons_append, List.nil_append, List.append_nil] at hHH; subst hHH
    refine o_t (x_fa f46_2) ?_
    refine o_st k9 ?_
    refine o_nil ?_
    refine w_seq ?_
    refine w_region ?_
    refine o_t x_mv ?_
    refine o_t (x_lda g46) ?_
    refine o_bs1 Tryz.underlying42 z46 (fun b1 => ?_)
    refine o_app info46 Tryz.underlying42 rfl hO (pulla) (Rd.all.pull .head) rfl (by simp [Value.oneCell']) (by simp [maxLen]; omega) (by omega) (fun v' r' hO' => ?_)
    refine o_t x_as ?_
    refine o_nil ?_
    refine w_region ?_
    refine o_t x_mv ?_
    refine o_t x_as ?_
    refine o_nil ?_
    refine w_region ?_
    refine o_t x_mv ?_
    refine o_t x_sub ?_
    refine o_t x_as ?_
    refine o_nil ?_
    refine ⟨(j + 1, v', r'), .cons (fun _ => rfl) (.cons (fun _ => rfl) (.cons (fun _ => rfl) (.cons (fun _ => congrArg (Value.int _) (by dsimp only; omega)) (.cons (fun _ => congrArg (Value.int _) (by dsimp only; rw [hds, List.length_append]; omega)) (.nil _))))), hka, ⟨by dsimp only; omega, ?_⟩, by dsimp only; omega⟩
    dsimp only
    rw [take_snoc rs j r he]
    simp only [recsC, List.flatMap_append] at hO' ⊢
    simpa [recC] using hO'
  · --
    refine w_exit ?_ -- 2
    obtain rfl : j = rs.length := by have := of_decide_eq_false hc; omega
    rw [List.take_length] at hO
    have hcs : (s.drop (E + 22)).take (s.length - (E + 22)) = c := by
      have := hen.com
      exact this.eq _ (by omega)
    refine w_seq ?_
    refine w_quiet mixed (by kernel_rfl) ?_
    refine q_t x_mv ?_
    refine q_t x_mv ?_
    refine q_t x_mv ?_
    refine q_t x_add ?_
    refine q_t (Ex.cast (congrArg (fun z => Value.string (str z)) hcs) (x_sls (lo := E + 22) (hi := s.length) Tryz.underlying9)) ?_
    refine q_t x_mv ?_
    refine q_t x_mv ?_
    refine q_t (x_cmp (hr := decide_eq_true (by rw [List.take_length]; omega))) ?_
    refine q_t x_as ?_
    refine q_t x_as ?_
    refine q_t x_as ?_
    refine q_nil ?_
    refine w_ret (r_3 rfl ⟨o, ro, rfl, hO, rfl⟩)
end Go.Proofs.YtlmefkhglooepaaGreatDoor
namespace Go.Proofs.YtlmefkhglooepaaGreatDoor
open Go
def fstT (a : Nat) : Nat :=
  if a < 128 then 240 else if a < 194 then 241 else if a < 224 then 2 else if a = 224 then 19 else if a = 237 then 35 else if a < 240 then 3 else if a = 240 then 52 else if a < 244 then 4 else if a = 244 then 68 else 241
def accLo (i : Nat) : Nat := if i = 1 then 160 else if i = 3 then 144 else 128
def accHi (i : Nat) : Nat := if i = 2 then 159 else if i = 4 then 143 else 191
/-- What a rune's decoding gives: the rune and how many bytes. -/
def DecOK (s : List UInt8) (a : Nat) (r : Int) : Prop :=
  (rune1T s = 0 → r = 65533) ∧ (rune1T s = 1 → r = a) ∧ (1 < rune1T s → 128 ≤ r ∧ r ≤ 1114111 ∧ ¬ (55296 ≤ r ∧ r ≤ 57343))
theorem rune2 {a b : UInt8} {t : List UInt8} (h1 : 194 ≤ a.toNat) (h2 : a.toNat ≤ 223) : rune1T (a :: b :: t) = if 128 ≤ b.toNat ∧ b.toNat ≤ 191 then 2 else 0 := by
  have hb := b.toNat_lt
  rw [rune1T, if_neg (by omega)]
  simp only [headR, if_pos (And.intro h1 h2), List.length_cons]
  rw [if_neg (by omega)]
  simp only [Nat.reduceSub, List.take_succ_cons, List.take_zero, acc, cont]
  by_cases h : 128 ≤ b.toNat ∧ b.toNat ≤ 191
  · simp only [h, decide_true, if_true, tailR, and_self]
    rw [if_neg (by omega)]
  · simp only [h, decide_false, if_false, Bool.false_eq_true, tailR]
theorem rune3 {a b c : UInt8} {t : List UInt8} (h1 : 224 ≤ a.toNat) (h2 : a.toNat ≤ 239) :
    rune1T (a :: b :: c :: t) = if ((if a.toNat = 224 then 160 else 128) ≤ b.toNat ∧ b.toNat ≤ (if a.toNat = 237 then 159 else 191)) ∧ 128 ≤ c.toNat ∧ c.toNat ≤ 191 then 3 else 0 := by
  have hb := b.toNat_lt
  have hc := c.toNat_lt
  rw [rune1T, if_neg (by omega)]
  simp only [headR, if_neg (show ¬ (194 ≤ a.toNat ∧ a.toNat ≤ 223) by omega), if_pos (And.intro h1 h2), List.length_cons]
  rw [if_neg (by omega)]
  simp only [Nat.reduceSub, List.take_succ_cons, List.take_zero, acc, cont]
  obtain ⟨lo, hlo⟩ : ∃ lo, (if a.toNat = 224 then 160 else 128) = lo := ⟨_, rfl⟩
  obtain ⟨hi, hhi⟩ : ∃ hi, (if a.toNat = 237 then 159 else 191) = hi := ⟨_, rfl⟩
  rw [hlo, hhi]
  have hlo' : (a.toNat = 224 ∧ lo = 160) ∨ (¬ a.toNat = 224 ∧ lo = 128) := by
    by_cases h : a.toNat = 224
    · rw [if_pos h] at hlo; exact .inl ⟨h, hlo.symm⟩
    · rw [if_neg h] at hlo; exact .inr ⟨h, hlo.symm⟩
  have hhi' : (a.toNat = 237 ∧ hi = 159) ∨ (¬ a.toNat = 237 ∧ hi = 191) := by
    by_cases h : a.toNat = 237
    · rw [if_pos h] at hhi; exact .inl ⟨h, hhi.symm⟩
    · rw [if_neg h] at hhi; exact .inr ⟨h, hhi.symm⟩
  by_cases h : 128 ≤ b.toNat ∧ b.toNat ≤ 191
  · by_cases h' : 128 ≤ c.toNat ∧ c.toNat ≤ 191
    · simp only [h, h', decide_true, if_true, tailR, and_self, and_true]
      by_cases p : lo ≤ b.toNat ∧ b.toNat ≤ hi
      · rw [if_pos p, if_neg (by omega)]
      · rw [if_neg p, if_pos (by omega)]
    · simp only [h, h', decide_true, decide_false, if_true, if_false, Bool.false_eq_true, tailR, and_self, and_false]
  · simp only [h, decide_false, if_false, Bool.false_eq_true, tailR]
    rw [if_neg (by omega)]
theorem rune4 {a b c d : UInt8} {t : List UInt8} (h1 : 240 ≤ a.toNat) (h2 : a.toNat ≤ 244) :
    rune1T (a :: b :: c :: d :: t) = if ((if a.toNat = 240 then 144 else 128) ≤ b.toNat ∧ b.toNat ≤ (if a.toNat = 244 then 143 else 191)) ∧ (128 ≤ c.toNat ∧ c.toNat ≤ 191) ∧ 128 ≤ d.toNat ∧ d.toNat ≤ 191 then 4 else 0 := by
  have hb := b.toNat_lt
  have hc := c.toNat_lt
  rw [rune1T, if_neg (by omega)]
  simp only [headR, if_neg (show ¬ (194 ≤ a.toNat ∧ a.toNat ≤ 223) by omega), if_neg (show ¬ (224 ≤ a.toNat ∧ a.toNat ≤ 239) by omega), if_pos (And.intro h1 h2), List.length_cons]
  rw [if_neg (by omega)]
  simp only [Nat.reduceSub, List.take_succ_cons, List.take_zero, acc, cont]
  obtain ⟨lo, hlo⟩ : ∃ lo, (if a.toNat = 240 then 144 else 128) = lo := ⟨_, rfl⟩
  obtain ⟨hi, hhi⟩ : ∃ hi, (if a.toNat = 244 then 143 else 191) = hi := ⟨_, rfl⟩
  rw [hlo, hhi]
  have hlo' : (a.toNat = 240 ∧ lo = 144) ∨ (¬ a.toNat = 240 ∧ lo = 128) := by
    by_cases h : a.toNat = 240
    · rw [if_pos h] at hlo; exact .inl ⟨h, hlo.symm⟩
    · rw [if_neg h] at hlo; exact .inr ⟨h, hlo.symm⟩
  have hhi' : (a.toNat = 244 ∧ hi = 143) ∨ (¬ a.toNat = 244 ∧ hi = 191) := by
    by_cases h : a.toNat = 244
    · rw [if_pos h] at hhi; exact .inl ⟨h, hhi.symm⟩
    · rw [if_neg h] at hhi; exact .inr ⟨h, hhi.symm⟩
  by_cases h : 128 ≤ b.toNat ∧ b.toNat ≤ 191
  · by_cases h' : 128 ≤ c.toNat ∧ c.toNat ≤ 191
    · by_cases h'' : 128 ≤ d.toNat ∧ d.toNat ≤ 191
      · simp only [h, h', h'', decide_true, if_true, tailR, and_self, and_true]
        by_cases p : lo ≤ b.toNat ∧ b.toNat ≤ hi
        · rw [if_pos p, if_neg (by omega)]
        · rw [if_neg p, if_pos (by omega)]
      · simp only [h, h', h'', decide_true, decide_false, if_true, if_false, Bool.false_eq_true, tailR, and_self, and_false]
    · simp only [h, h', decide_true, decide_false, if_true, if_false, Bool.false_eq_true, tailR, and_self, and_false, false_and]
  · simp only [h, decide_false, if_false, Bool.false_eq_true, tailR]
    rw [if_neg (by omega)]
theorem runeBad {a : UInt8} {t : List UInt8} (h : 128 ≤ a.toNat) (h' : a.toNat < 194 ∨ 244 < a.toNat) : rune1T (a :: t) = 0 := by
  rw [rune1T, if_neg (by omega)]
  have : headR a.toNat = none := by
    rw [headR, if_neg (by omega), if_neg (by omega), if_neg (by omega)]
  rw [this]
theorem runeAscii {a : UInt8} {t : List UInt8} (h : a.toNat < 128) : rune1T (a :: t) = 1 := by rw [rune1T, if_pos h]
theorem runeShort {a : UInt8} {t : List UInt8} {n c low : Nat} (h : 128 ≤ a.toNat) (hh : headR a.toNat = some (n, c, low)) (hs : t.length + 1 < n) : rune1T (a :: t) = 0 := by
  rw [rune1T, if_neg (by omega), hh]
  simp only [if_pos hs]
end Go.Proofs.YtlmefkhglooepaaGreatDoor
namespace Go.Proofs.YtlmefkhglooepaaGreatDoor
open Go
set_option linter.unusedSimpArgs false
set_option linter.unusedVariables false
section
variable {P : Program} {n : Nat} {G : Nat → Option Obj} {ops : Array Oper} {Q : Post} {rest : List Oper} {L : Loc} {H R H' : List Res}
variable {d : Nat} {x y ix c : Operand} {ty t t' s s' : TypeId} {p : String} {e : Array Edge} {k k' : IntKind} {a b z : Int} {v va vb : Value} {ms : Array (String × TypeId)}
theorem eqR {va vb : Value} {r : Bool} {w : World} (h : ∀ d, (Op.equalIn (d + 1) t va vb).run P w = .ok r w) : (Op.equal t va vb).run P w = .ok r w := h 9999
theorem x_inil (hi : P.underlying t = some (.interface ms)) (hx : ∀ g, evl L g x = .nilIface := by intro g; rfl) (hn : d < n := by decide) :
    Ex P n G ops L H ⟨some d, .binOp .neq t x (.const .nilIface) t', ty, p, e, none⟩ d (.bool false) :=
  .mk hn (fun _ _ g w _ => by
    have h0 := eqR (P := P) (t := t) (va := .nilIface) (vb := .nilIface) (r := true) (w := w) (fun d => by simp [Op.equalIn, run_underlying hi])
    simp [execOp, hx g, show ∀ z, evl L g (.const z) = z from fun _ => rfl, eqGuard, binOp, h0])
theorem x_isome {u : TypeId} (hi : P.underlying t = some (.interface ms)) (hx : ∀ g, evl L g x = .iface u v := by intro g; rfl) (hn : d < n := by decide) :
    Ex P n G ops L H ⟨some d, .binOp .neq t x (.const .nilIface) t', ty, p, e, none⟩ d (.bool true) :=
  .mk hn (fun _ _ g w _ => by
    have h0 := eqR (P := P) (t := t) (va := .iface u v) (vb := .nilIface) (r := false) (w := w) (fun d => by simp [Op.equalIn, run_underlying hi])
    simp [execOp, hx g, show ∀ z, evl L g (.const z) = z from fun _ => rfl, eqGuard, binOp, h0])
theorem x_inil' (hi : P.underlying t = some (.interface ms)) (hx : ∀ g, evl L g x = .nilIface := by intro g; rfl) (hn : d < n := by decide) :
    Ex P n G ops L H ⟨some d, .binOp .eql t x (.const .nilIface) t', ty, p, e, none⟩ d (.bool true) :=
  .mk hn (fun _ _ g w _ => by
    have h0 := eqR (P := P) (t := t) (va := .nilIface) (vb := .nilIface) (r := true) (w := w) (fun d => by simp [Op.equalIn, run_underlying hi])
    simp [execOp, hx g, show ∀ z, evl L g (.const z) = z from fun _ => rfl, eqGuard, binOp, h0])
theorem x_isome' {u : TypeId} (hi : P.underlying t = some (.interface ms)) (hx : ∀ g, evl L g x = .iface u v := by intro g; rfl) (hn : d < n := by decide) :
    Ex P n G ops L H ⟨some d, .binOp .eql t x (.const .nilIface) t', ty, p, e, none⟩ d (.bool false) :=
  .mk hn (fun _ _ g w _ => by
    have h0 := eqR (P := P) (t := t) (va := .iface u v) (vb := .nilIface) (r := false) (w := w) (fun d => by simp [Op.equalIn, run_underlying hi])
    simp [execOp, hx g, show ∀ z, evl L g (.const z) = z from fun _ => rfl, eqGuard, binOp, h0])
theorem x_pnil {E : TypeId} (hi : P.underlying t = some (.pointer E)) (hx : ∀ g, evl L g x = .pointer none := by intro g; rfl) (hn : d < n := by decide) :
    Ex P n G ops L H ⟨some d, .binOp .neq t x (.const (.pointer none)) t', ty, p, e, none⟩ d (.bool false) :=
  .mk hn (fun _ _ g w _ => by
    have h0 := eqR (P := P) (t := t) (va := .pointer none) (vb := .pointer none) (r := true) (w := w) (fun d => by simp [Op.equalIn, run_underlying hi])
    simp [execOp, hx g, show ∀ z, evl L g (.const z) = z from fun _ => rfl, eqGuard, binOp, h0])
theorem x_psome {E : TypeId} {ad : Addr} (hi : P.underlying t = some (.pointer E)) (hx : ∀ g, evl L g x = .pointer (some ad) := by intro g; rfl) (hn : d < n := by decide) :
    Ex P n G ops L H ⟨some d, .binOp .neq t x (.const (.pointer none)) t', ty, p, e, none⟩ d (.bool true) :=
  .mk hn (fun _ _ g w _ => by
    have h0 := eqR (P := P) (t := t) (va := .pointer (some ad)) (vb := .pointer none) (r := false) (w := w) (fun d => by simp [Op.equalIn, run_underlying hi])
    simp [execOp, hx g, show ∀ z, evl L g (.const z) = z from fun _ => rfl, eqGuard, binOp, h0])
theorem x_pnil' {E : TypeId} (hi : P.underlying t = some (.pointer E)) (hx : ∀ g, evl L g x = .pointer none := by intro g; rfl) (hn : d < n := by decide) :
    Ex P n G ops L H ⟨some d, .binOp .eql t x (.const (.pointer none)) t', ty, p, e, none⟩ d (.bool true) :=
  .mk hn (fun _ _ g w _ => by
    have h0 := eqR (P := P) (t := t) (va := .pointer none) (vb := .pointer none) (r := true) (w := w) (fun d => by simp [Op.equalIn, run_underlying hi])
    simp [execOp, hx g, show ∀ z, evl L g (.const z) = z from fun _ => rfl, eqGuard, binOp, h0])
theorem x_psome' {E : TypeId} {ad : Addr} (hi : P.underlying t = some (.pointer E)) (hx : ∀ g, evl L g x = .pointer (some ad) := by intro g; rfl) (hn : d < n := by decide) :
    Ex P n G ops L H ⟨some d, .binOp .eql t x (.const (.pointer none)) t', ty, p, e, none⟩ d (.bool false) :=
  .mk hn (fun _ _ g w _ => by
    have h0 := eqR (P := P) (t := t) (va := .pointer (some ad)) (vb := .pointer none) (r := false) (w := w) (fun d => by simp [Op.equalIn, run_underlying hi])
    simp [execOp, hx g, show ∀ z, evl L g (.const z) = z from fun _ => rfl, eqGuard, binOp, h0])
/-- Two pointers into blocks of ours. -/
theorem x_pne {E b1 b2 o1 o2 : Nat} {cs1 cs2 : List Value} {T1 T2 : TypeId} {k : Nat} (hi : P.underlying t = some (.pointer E)) (hsz : szOf P E = some (k + 1)) (hp : Pull (pt b1 cs1 T1) H R) (hp2 : Pull (pt b2 cs2 T2) R H')
    (hx : ∀ g, evl L g x = .pointer (some ⟨b1, o1, none⟩) := by intro g; rfl) (hy : ∀ g, evl L g y = .pointer (some ⟨b2, o2, none⟩) := by intro g; rfl) (hn : d < n := by decide) :
    Ex P n G ops L H ⟨some d, .binOp .eql t x y t', ty, p, e, none⟩ d (.bool false) :=
  .mk hn (fun _ _ g w hs => by
    have h1 := hs.perm hp
    have hb1 := Sat.block h1
    have hb2 := Sat.block (h1.drop.perm hp2)
    have hne : (⟨b1, o1, none⟩ : Addr) ≠ ⟨b2, o2, none⟩ := by
      intro h
      have hbb : b1 = b2 := congrArg Addr.block h
      have hnd := (h1.perm (List.Perm.cons _ hp2)).nd
      subst hbb
      simp [pt] at hnd
    have h3 := run_sameAddr_other (P := P) w hne hb1 hb2
    have h0 := eqR (P := P) (t := t) (va := .pointer (some ⟨b1, o1, none⟩)) (vb := .pointer (some ⟨b2, o2, none⟩)) (r := false) (w := w) (fun d => by simp [Op.equalIn, run_underlying hi, run_size_of hsz, h3])
    simp [execOp, hx g, hy g, eqGuard, binOp, h0])
end
/-- The package's errors: where they lie. -/
structure Glob (G : Nat → Option Obj) (ea : Nat → Addr) : Prop where
  cell : ∀ k, k ≤ 10 ∨ k = 13 → ∃ T fz, G k = some (.cells #[.iface 174 (.pointer (some (ea k)))] T fz)
  blk : ∀ k, k ≤ 10 ∨ k = 13 → ∃ c T, G (ea k).block = some (.cells c T (0, 0))
  first : ∃ cs T fz, G 11 = some (.cells cs T fz) ∧ ∀ a : Nat, a < 256 → cs[a]? = some (.int .u8 (fstT a))
  acc : ∃ cs T fz, G 12 = some (.cells cs T fz) ∧ ∀ i : Nat, i < 5 → cs[2 * i]? = some (.int .u8 (accLo i)) ∧ cs[2 * i + 1]? = some (.int .u8 (accHi i))
  inj : ∀ i j, (i ≤ 10 ∨ i = 13) → (j ≤ 10 ∨ j = 13) → ea i = ea j → i = j
abbrev errV (ea : Nat → Addr) (k : Nat) : Value := .iface 174 (.pointer (some (ea k)))
section
variable {n : Nat} {G : Nat → Option Obj} {ea : Nat → Addr} {ops : Array Oper} {L : Loc} {H : List Res} {d : Nat} {x y : Operand} {ty t' : TypeId} {p : String} {e : Array Edge}
theorem nn_t {a b : Nat} (h : a ≠ b) : (!decide (a = b)) = true := by simp [h]
theorem nn_f {a b : Nat} (h : a = b) : (!decide (a = b)) = false := by simp [h]
theorem x_err (k : Nat) (gl : Glob G ea) (hk : k ≤ 10 ∨ k = 13 := by decide) (hn : d < n := by decide) :
    Ex P n G ops L H ⟨some d, .load 58 (.global k), ty, p, e, none⟩ d (errV ea k) := by
  obtain ⟨T, fz, h⟩ := gl.cell k hk
  exact x_ldG (i := 0) k58 h rfl (fun g => rfl) hn
theorem c174 : (P.info? 174).map (·.comparable) = some true := by kernel_rfl
theorem s176 : (P.info? 176).map (·.size) = some 1 := by kernel_rfl
theorem x_eqe (i j : Nat) {r : Bool} (gl : Glob G ea) (hr : decide (i = j) = r := by first | exact decide_eq_true (by decide) | exact decide_eq_false (by decide)) (hx : ∀ g, evl L g x = errV ea i := by intro g; rfl) (hy : ∀ g, evl L g y = errV ea j := by intro g; rfl)
    (hi : i ≤ 10 ∨ i = 13 := by decide) (hj : j ≤ 10 ∨ j = 13 := by decide) (hn : d < n := by decide) :
    Ex P n G ops L H ⟨some d, .binOp .eql 58 x y t', ty, p, e, none⟩ d (.bool r) :=
  .mk hn (fun F hF g w hs => by
    obtain ⟨i1, h1, c1⟩ := Option.map_eq_some_iff.1 c174
    obtain ⟨i2, h2, c2⟩ := Option.map_eq_some_iff.1 s176
    by_cases hij : i = j
    · subst hij
      have := run_eql_iface_ptr_same (P := P) w (ea i) Tryz.underlying58 Tryz.underlying174 h1 c1 h2
      obtain rfl : r = true := by rw [← hr]; simp
      simp [execOp, hx g, hy g, eqGuard, this]
    · obtain ⟨ca, ta, ha⟩ := gl.blk i hi
      obtain ⟨cb, tb, hb⟩ := gl.blk j hj
      have := run_eql_iface_ptr_other (P := P) w Tryz.underlying58 Tryz.underlying174 h1 c1 h2 (by omega) (fun h => hij (gl.inj i j hi hj h)) (hs.frame _ _ (hF _ _ ha)) (hs.frame _ _ (hF _ _ hb))
      obtain rfl : r = false := by rw [← hr]; simp [hij]
      simp [execOp, hx g, hy g, eqGuard, this])
theorem x_nee (i j : Nat) {r : Bool} (gl : Glob G ea) (hr : (!decide (i = j)) = r := by first | exact nn_t (by decide) | exact nn_f (by decide)) (hx : ∀ g, evl L g x = errV ea i := by intro g; rfl) (hy : ∀ g, evl L g y = errV ea j := by intro g; rfl)
    (hi : i ≤ 10 ∨ i = 13 := by decide) (hj : j ≤ 10 ∨ j = 13 := by decide) (hn : d < n := by decide) :
    Ex P n G ops L H ⟨some d, .binOp .neq 58 x y t', ty, p, e, none⟩ d (.bool r) :=
  .mk hn (fun F hF g w hs => by
    obtain ⟨i1, h1, c1⟩ := Option.map_eq_some_iff.1 c174
    obtain ⟨i2, h2, c2⟩ := Option.map_eq_some_iff.1 s176
    by_cases hij : i = j
    · subst hij
      have := run_equalIn_iface_ptr_same (P := P) w 9998 (ea i) Tryz.underlying58 Tryz.underlying174 h1 c1 h2
      obtain rfl : r = false := by rw [← hr]; simp
      simp [execOp, hx g, hy g, eqGuard, binOp, Op.equal, Op.maxDepth, this]
    · obtain ⟨ca, ta, ha⟩ := gl.blk i hi
      obtain ⟨cb, tb, hb⟩ := gl.blk j hj
      have := run_equalIn_iface_ptr_other (P := P) w 9998 Tryz.underlying58 Tryz.underlying174 h1 c1 h2 (by omega) (fun h => hij (gl.inj i j hi hj h)) (hs.frame _ _ (hF _ _ ha)) (hs.frame _ _ (hF _ _ hb))
      obtain rfl : r = true := by rw [← hr]; simp [hij]
      simp [execOp, hx g, hy g, eqGuard, binOp, Op.equal, Op.maxDepth, this])
/-- nil against an error. -/
theorem x_eqn (j : Nat) (hx : ∀ g, evl L g x = .nilIface := by intro g; rfl) (hy : ∀ g, evl L g y = errV ea j := by intro g; rfl) (hn : d < n := by decide) :
    Ex P n G ops L H ⟨some d, .binOp .eql 58 x y t', ty, p, e, none⟩ d (.bool false) :=
  .mk hn (fun _ _ g w _ => by
    have h0 := eqR (P := P) (t := 58) (va := .nilIface) (vb := errV ea j) (r := false) (w := w) (fun d => by simp [Op.equalIn, run_underlying Tryz.underlying58])
    simp [execOp, hx g, hy g, eqGuard, binOp, h0])
theorem x_nen (j : Nat) (hx : ∀ g, evl L g x = .nilIface := by intro g; rfl) (hy : ∀ g, evl L g y = errV ea j := by intro g; rfl) (hn : d < n := by decide) :
    Ex P n G ops L H ⟨some d, .binOp .neq 58 x y t', ty, p, e, none⟩ d (.bool true) :=
  .mk hn (fun _ _ g w _ => by
    have h0 := eqR (P := P) (t := 58) (va := .nilIface) (vb := errV ea j) (r := false) (w := w) (fun d => by simp [Op.equalIn, run_underlying Tryz.underlying58])
    simp [execOp, hx g, hy g, eqGuard, binOp, h0])
end
end Go.Proofs.YtlmefkhglooepaaGreatDoor
