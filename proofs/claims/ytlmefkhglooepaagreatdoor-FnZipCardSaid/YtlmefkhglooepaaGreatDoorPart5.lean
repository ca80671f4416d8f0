/- The time functions: they return; their values are never looked at. The time functions, the rest of them. Package utf8: the decoding of a rune. detectUTF8. The directory's headers: helpers. -/
import Derived.Test.YtlmefkhglooepaaGreatDoorPart4
set_option linter.unusedSimpArgs false
set_option linter.unusedVariables false
namespace Go.Proofs.YtlmefkhglooepaaGreatDoor
open Go
set_option linter.unusedSimpArgs false
set_option linter.unusedVariables false
variable {G : Nat → Option Obj} {ea : Nat → Addr}
theorem cNorm (hi lo base : Int) (hb : base ≠ 0) : Fn P G 134 #[.int .i64 hi, .int .i64 lo, .int .i64 base] [] fun v H => ∃ a b, v = .tuple #[.int .i64 a, .int .i64 b] ∧ H = [] := by
  refine fn_intro (args := [_,_,_]) Tryz.func134 Tryz.ntmps134 rfl ?_
  refine w_seq ?_
  refine w_region ?_
  refine o_t x_as ?_
  refine o_t x_as ?_
  refine o_nil ?_
  refine w_cut (α := Int × Int) (fun x => [(0, .int .i64 x.1), (1, .int .i64 x.2), (2, .int .i64 base)]) (fun _ => []) (fun _ => True) ?_ ?_
  · refine w_seq ?_
    refine w_region ?_
    refine o_t x_mv ?_
    refine o_t (x_cmp (hr := rfl)) ?_
    refine o_nil ?_
    refine w_cond (fun g => rfl) (fun hc => ?_) (fun hc => ?_) -- ('Go.Operand.tmp', 11)
    · --
      refine w_seq ?_
      refine w_region ?_
      refine o_t x_mv ?_
      refine o_t x_p ?_
      refine o_t (x_sub (hz := rfl)) ?_
      refine o_t x_mv ?_
      refine o_t (x_quo (hb := hb) (hz := rfl)) ?_
      refine o_t (x_add (hz := rfl)) ?_
      refine o_t x_as ?_
      refine o_nil ?_
      refine w_seq ?_
      refine w_region ?_
      refine o_t x_mv ?_
      refine o_t x_mv ?_
      refine o_t (x_sub (hz := rfl)) ?_
      refine o_t x_as ?_
      refine o_nil ?_
      refine w_region ?_
      refine o_t x_mv ?_
      refine o_t x_mv ?_
      refine o_t x_mv ?_
      refine o_t (x_mul (hz := rfl)) ?_
      refine o_t (x_add (hz := rfl)) ?_
      refine o_t x_as ?_
      refine o_nil ?_
      exact ⟨(_, _), .cons (fun _ => rfl) (.cons (fun _ => rfl) (.cons (fun _ => rfl) (.nil _))), hka, trivial⟩
    · --
      refine w_skip ?_
      exact ⟨(_, _), .cons (fun _ => rfl) (.cons (fun _ => rfl) (.cons (fun _ => rfl) (.nil _))), hka, trivial⟩
  rintro ⟨hi, lo⟩ _
  dsimp only
  refine w_cut (α := Int × Int) (fun x => [(0, .int .i64 x.1), (1, .int .i64 x.2), (2, .int .i64 base)]) (fun _ => []) (fun _ => True) ?_ ?_
  · refine w_seq ?_
    refine w_region ?_
    refine o_t x_mv ?_
    refine o_t x_mv ?_
    refine o_t (x_cmp (hr := rfl)) ?_
    refine o_nil ?_
    refine w_cond (fun g => rfl) (fun hc => ?_) (fun hc => ?_) -- ('Go.Operand.tmp', 28)
    · --
      refine w_seq ?_
      refine w_region ?_
      refine o_t x_mv ?_
      refine o_t x_mv ?_
      refine o_t (x_quo (hb := hb) (hz := rfl)) ?_
      refine o_t x_as ?_
      refine o_nil ?_
      refine w_seq ?_
      refine w_region ?_
      refine o_t x_mv ?_
      refine o_t x_mv ?_
      refine o_t (x_add (hz := rfl)) ?_
      refine o_t x_as ?_
      refine o_nil ?_
      refine w_region ?_
      refine o_t x_mv ?_
      refine o_t x_mv ?_
      refine o_t x_mv ?_
      refine o_t (x_mul (hz := rfl)) ?_
      refine o_t (x_sub (hz := rfl)) ?_
      refine o_t x_as ?_
      refine o_nil ?_
      exact ⟨(_, _), .cons (fun _ => rfl) (.cons (fun _ => rfl) (.cons (fun _ => rfl) (.nil _))), hka, trivial⟩
    · --
      refine w_skip ?_
      exact ⟨(_, _), .cons (fun _ => rfl) (.cons (fun _ => rfl) (.cons (fun _ => rfl) (.nil _))), hka, trivial⟩
  rintro ⟨hi, lo⟩ _
  dsimp only
  refine w_seq ?_
  refine w_region ?_
  refine o_t x_mv ?_
  refine o_t x_mv ?_
  refine o_t x_as ?_
  refine o_t x_as ?_
  refine o_nil ?_
  refine w_ret (r_2 rfl ⟨_, _, rfl, rfl⟩)
theorem cAbsDays (y m d : Int) : Fn P G 135 #[.int .i64 y, .int .i64 m, .int .i64 d] [] fun v H => ∃ a, v = .int .u64 a ∧ H = [] := by
  refine fn_intro (args := [_,_,_]) Tryz.func135 Tryz.ntmps135 rfl ?_
  refine w_seq ?_
  refine w_region ?_
  refine o_t x_as ?_
  refine o_nil ?_
  refine w_seq ?_
  refine w_region ?_
  refine o_t x_mv ?_
  refine o_t (x_cv ⟨_, Tryz.underlying191⟩ Tryz.underlying77 (hz := rfl)) ?_
  refine o_t x_as ?_
  refine o_nil ?_
  refine w_seq ?_
  refine w_region ?_
  refine o_t x_as ?_
  refine o_nil ?_
  refine w_cut (α := Int × Int) (fun x => [(0, .int .i64 y), (2, .int .i64 d), (7, .int .u32 x.1), (8, .int .u32 x.2)]) (fun _ => []) (fun _ => True) ?_ ?_
  · refine w_seq ?_
    refine w_region ?_
    refine o_t x_mv ?_
    refine o_t (x_cmp (hr := rfl)) ?_
    refine o_nil ?_
    refine w_cond (fun g => rfl) (fun hc => ?_) (fun hc => ?_) -- ('Go.Operand.tmp', 18)
    · --
      refine w_region ?_
      refine o_t x_as ?_
      refine o_nil ?_
      exact ⟨(_, _), .cons (fun _ => rfl) (.cons (fun _ => rfl) (.cons (fun _ => rfl) (.cons (fun _ => rfl) (.nil _)))), hka, trivial⟩
    · --
      refine w_skip ?_
      exact ⟨(_, _), .cons (fun _ => rfl) (.cons (fun _ => rfl) (.cons (fun _ => rfl) (.cons (fun _ => rfl) (.nil _)))), hka, trivial⟩
  rintro ⟨a, b⟩ _
  dsimp only
  refine w_seq ?_
  refine w_region ?_
  refine o_t x_mv ?_
  refine o_t x_mv ?_
  refine o_t (x_mul (hz := rfl)) ?_
  refine o_t (x_add (hz := rfl)) ?_
  refine o_t x_as ?_
  refine o_nil ?_
  refine w_seq ?_
  refine w_region ?_
  refine o_t x_mv ?_
  refine o_t (x_cv ⟨_, Tryz.underlying2⟩ Tryz.underlying73 (hz := rfl)) ?_
  refine o_t x_mv ?_
  refine o_t (x_cv ⟨_, Tryz.underlying77⟩ Tryz.underlying73 (hz := rfl)) ?_
  refine o_t (x_sub (hz := rfl)) ?_
  refine o_t (x_add (hz := rfl)) ?_
  refine o_t x_as ?_
  refine o_nil ?_
  refine w_seq ?_
  refine w_region ?_
  refine o_t x_mv ?_
  refine o_t (x_mul (hz := rfl)) ?_
  refine o_t (x_sub (hz := rfl)) ?_
  refine o_t (x_shr (hz := rfl)) ?_
  refine o_t x_as ?_
  refine o_nil ?_
  refine w_seq ?_
  refine w_region ?_
  refine o_t x_mv ?_
  refine o_t (x_quo (hz := rfl)) ?_
  refine o_t x_as ?_
  refine o_nil ?_
  refine w_seq ?_
  refine w_region ?_
  refine o_t x_mv ?_
  refine o_t (x_rem (hz := rfl)) ?_
  refine o_t (x_cv ⟨_, Tryz.underlying73⟩ Tryz.underlying77 (hz := rfl)) ?_
  refine o_t x_as ?_
  refine o_nil ?_
  refine w_seq ?_
  refine w_region ?_
  refine o_t x_mv ?_
  refine o_t (x_mul (hz := rfl)) ?_
  refine o_t (x_quo (hz := rfl)) ?_
  refine o_t x_as ?_
  refine o_nil ?_
  refine w_seq ?_
  refine w_region ?_
  refine o_t x_mv ?_
  refine o_t (x_mul (hz := rfl)) ?_
  refine o_t (x_quo (hz := rfl)) ?_
  refine o_t x_as ?_
  refine o_nil ?_
  refine w_seq ?_
  refine w_region ?_
  refine o_t x_mv ?_
  refine o_t x_mv ?_
  refine o_t x_mv ?_
  refine o_t (x_add (hz := rfl)) ?_
  refine o_t (x_cv ⟨_, Tryz.underlying77⟩ Tryz.underlying2 (hz := rfl)) ?_
  refine o_t x_mv ?_
  refine o_t (x_add (hz := rfl)) ?_
  refine o_t (x_sub (hz := rfl)) ?_
  refine o_t (x_cv ⟨_, Tryz.underlying2⟩ Tryz.underlying73 (hz := rfl)) ?_
  refine o_t (x_add (hz := rfl)) ?_
  refine o_t x_as ?_
  refine o_nil ?_
  refine w_ret (r_1 rfl ⟨_, rfl, rfl⟩)
theorem cUnixTime (a b : Int) : Fn P G 137 #[.int .i64 a, .int .i32 b] [] fun v H => ∃ w e, v = .agg #[.int .u64 w, .int .i64 e, .pointer none] ∧ H = [] := by
  refine fn_intro (args := [_,_]) Tryz.func137 Tryz.ntmps137 rfl ?_
  refine w_seq ?_
  refine w_region ?_
  refine o_al z76 (fun b4 => ?_)
  refine o_nil ?_
  refine w_seq ?_
  refine w_region ?_
  refine o_t x_mv ?_
  refine o_t (x_cv ⟨_, Tryz.underlying21⟩ Tryz.underlying73 (hz := rfl)) ?_
  refine o_t x_mv ?_
  refine o_t (x_add (hz := rfl)) ?_
  refine o_t (x_bd hla bd76_0_1_2) ?_
  refine o_sta g76 ?_
  refine o_nil ?_
  refine w_ret (r_cell rfl g76 ⟨_, _, rfl, rfl⟩)
theorem cUTC : Fn P G 107 #[] [] fun v H => ∃ b, v = .pointer (some ⟨b, 0, none⟩) ∧ H = [pt b [.bool true, .string (str [85, 84, 67]), .slice none 0 0, .slice none 0 0, .string (str []), .int .i64 0, .int .i64 0, .pointer none] 271] := by
  refine fn_intro (args := []) Tryz.func107 Tryz.ntmps107 rfl ?_
  refine w_seq ?_
  refine w_region ?_
  refine o_t x_as ?_
  refine o_nil ?_
  refine w_seq ?_
  refine w_region ?_
  refine o_t (x_bd hla bd271_1_0) ?_
  refine o_bx (fun b2 => ?_)
  refine o_t x_as ?_
  refine o_nil ?_
  refine w_ret (r_1 rfl ⟨_, rfl, rfl⟩)
abbrev tmB (b : Nat) (w e : Int) (l : Value) : Res := pt b [.int .u64 w, .int .i64 e, l] 76
theorem cSec (b : Nat) (w e : Int) (l : Value) : Fn P G 125 #[.pointer (some ⟨b, 0, none⟩)] [tmB b w e l] fun v H => ∃ z, v = .int .i64 z ∧ H = [tmB b w e l] := by
  refine fn_intro (args := [_]) Tryz.func125 Tryz.ntmps125 rfl ?_
  refine w_seq ?_
  refine w_region ?_
  refine o_t x_as ?_
  refine o_nil ?_
  refine w_seq ?_
  refine w_seq ?_
  refine w_region ?_
  refine o_t x_mv ?_
  refine o_t x_nc ?_
  refine o_t (x_fa f76_0) ?_
  refine o_t (x_ld k73) ?_
  refine o_t y_bits ?_
  refine o_t (x_ne (hr := rfl)) ?_
  refine o_nil ?_
  refine w_cond (fun g => rfl) (fun hc => ?_) (fun hc => ?_) -- ('Go.Operand.tmp', 8)
  · --
    refine w_seq ?_
    refine w_region ?_
    refine o_t x_mv ?_
    refine o_t x_nc ?_
    refine o_t (x_fa f76_0) ?_
    refine o_t (x_ld k73) ?_
    refine o_t (x_shl (hz := rfl)) ?_
    refine o_t (x_shr (hz := rfl)) ?_
    refine o_t (x_cv ⟨_, Tryz.underlying73⟩ Tryz.underlying2 (hz := rfl)) ?_
    refine o_t (x_add (hz := rfl)) ?_
    refine o_t x_as ?_
    refine o_nil ?_
    refine w_ret (r_1 rfl ⟨_, rfl, rfl⟩)
  · --
    refine w_skip ?_
    refine w_seq ?_
    refine w_region ?_
    refine o_t x_mv ?_
    refine o_t x_nc ?_
    refine o_t (x_fa f76_1) ?_
    refine o_t (x_ld k2) ?_
    refine o_t x_as ?_
    refine o_nil ?_
    refine w_ret (r_1 rfl ⟨_, rfl, rfl⟩)
theorem cStrip (b : Nat) (w e : Int) (l : Value) : Fn P G 149 #[.pointer (some ⟨b, 0, none⟩)] [tmB b w e l] fun v H => ∃ w' e', H = [tmB b w' e' l] := by
  refine fn_intro (args := [_]) Tryz.func149 Tryz.ntmps149 rfl ?_
  refine w_seq ?_
  refine w_region ?_
  refine o_t x_mv ?_
  refine o_t x_nc ?_
  refine o_t (x_fa f76_0) ?_
  refine o_t (x_ld k73) ?_
  refine o_t y_bits ?_
  refine o_t (x_ne (hr := rfl)) ?_
  refine o_nil ?_
  refine w_cond (fun g => rfl) (fun hc => ?_) (fun hc => ?_) -- ('Go.Operand.tmp', 7)
  · --
    refine w_seq ?_
    refine w_region ?_
    refine o_t x_mv ?_
    refine o_t x_mv ?_
    refine o_call Tryz.call125 haa spla (cSec b w e l) ?_
    rintro _ _ HH ⟨z, rfl, rfl⟩ hHH
    simp only [List.cons_append, List.nil_append, List.append_nil] at hHH; subst hHH
    refine o_t x_nc ?_
    refine o_t (x_fa f76_1) ?_
    refine o_st k2 ?_
    refine o_nil ?_
    refine w_region ?_
    refine o_t x_mv ?_
    refine o_t x_nc ?_
    refine o_t (x_fa f76_0) ?_
    refine o_t (x_ld k73) ?_
    refine o_t y_bits ?_
    refine o_t x_nc ?_
    refine o_t (x_fa f76_0) ?_
    refine o_st k73 ?_
    refine o_nil ?_
    exact r_0n rfl ⟨_, _, rfl⟩
  · --
    refine w_skip ?_
    exact r_0n rfl ⟨_, _, rfl⟩
/-- A location's block: whether it is UTC, and what else it holds. -/
abbrev locB (b : Nat) (u : Bool) (nm : Value) (z t x : Value) (s e : Value) (q : Value) : Res := pt b [.bool u, nm, z, t, x, s, e, q] 271
theorem cSetLoc (b lb : Nat) (w e : Int) (l : Value) (u : Bool) (nm z t x s e' q : Value) : Fn P G 138 #[.pointer (some ⟨b, 0, none⟩), .pointer (some ⟨lb, 0, none⟩)] [tmB b w e l, locB lb u nm z t x s e' q] fun v H => ∃ w2 e2 l2, l2.oneCell' = true ∧ H = [tmB b w2 e2 l2, locB lb u nm z t x s e' q] := by
  refine fn_intro (args := [_,_]) Tryz.func138 Tryz.ntmps138 rfl ?_
  refine w_cut (α := Option Nat) (fun o => [(0, .pointer (some ⟨b, 0, none⟩)), (1, .pointer (o.map fun k => ⟨k, 0, none⟩))]) (fun _ => [tmB b w e l, locB lb u nm z t x s e' q]) (fun _ => True) ?_ ?_
  · refine w_seq ?_
    refine w_region ?_
    refine o_t x_mv ?_
    refine o_t (x_psome Tryz.underlying74) ?_
    refine o_t x_mv ?_
    first | refine o_t (x_g x_mv) ?_ | refine o_t x_gs ?_ | refine o_t x_gu ?_
    first | refine o_t (x_g x_nc) ?_ | refine o_t x_gs ?_ | refine o_t x_gu ?_
    first | refine o_t (x_g (x_fa f271_0)) ?_ | refine o_t x_gs ?_ | refine o_t x_gu ?_
    first | refine o_t (x_g (x_ld k4)) ?_ | refine o_t x_gs ?_ | refine o_t x_gu ?_
    refine o_t x_pick ?_
    refine o_nil ?_
    cases u with
    | true =>
      refine w_cond (t := true) (fun g => rfl) (fun hc => ?_) (fun hc => ?_) -- ('Go.Operand.tmp', 11)
      · --
        refine w_region ?_
        refine o_t x_as ?_
        refine o_nil ?_
        exact ⟨none, .cons (fun _ => rfl) (.cons (fun _ => rfl) (.nil _)), hka, trivial⟩
      · cases hc
    | false =>
      refine w_cond (t := false) (fun g => rfl) (fun hc => ?_) (fun hc => ?_) -- ('Go.Operand.tmp', 11)
      · cases hc
      · refine w_skip ?_
        exact ⟨some lb, .cons (fun _ => rfl) (.cons (fun _ => rfl) (.nil _)), hka, trivial⟩
  rintro o _
  refine w_seq ?_
  refine w_region ?_
  refine o_t x_mv ?_
  refine o_call Tryz.call149 haa spla (cStrip b w e l) ?_
  rintro _ _ HH ⟨w2, e2, rfl⟩ hHH
  simp only [List.cons_append, List.nil_append, List.append_nil] at hHH; subst hHH
  refine o_nil ?_
  refine w_region ?_
  refine o_t x_mv ?_
  refine o_t x_mv ?_
  refine o_t x_nc ?_
  refine o_t (x_fa f76_2) ?_
  refine o_st k74 ?_
  refine o_nil ?_
  exact r_0n rfl ⟨w2, e2, .pointer (o.map fun k => ⟨k, 0, none⟩), rfl, rfl⟩
abbrev utcB (b : Nat) : Res := pt b [.bool true, .string (str [85, 84, 67]), .slice none 0 0, .slice none 0 0, .string (str []), .int .i64 0, .int .i64 0, .pointer none] 271
theorem cGet (b : Nat) : Fn P G 146 #[.pointer (some ⟨b, 0, none⟩)] [] fun v H => v = .pointer (some ⟨b, 0, none⟩) ∧ H = [] := by
  refine fn_intro (args := [_]) Tryz.func146 Tryz.ntmps146 rfl ?_
  refine w_seq ?_
  refine w_region ?_
  refine o_t x_as ?_
  refine o_nil ?_
  refine w_seq ?_
  refine w_seq ?_
  refine w_region ?_
  refine o_t x_mv ?_
  first | refine o_t (x_pnil' Tryz.underlying74) ?_ | refine o_t (x_psome' Tryz.underlying74) ?_
  refine o_nil ?_
  refine w_cond (t := false) (fun g => rfl) (fun hc => ?_) (fun hc => ?_)
  · cases hc
  refine w_skip ?_
  refine w_seq ?_
  refine w_region ?_
  refine o_t x_mv ?_
  refine o_t x_as ?_
  refine o_nil ?_
  refine w_ret (r_1 rfl ⟨rfl, rfl⟩)
theorem cLookup (b : Nat) (z : Int) : Fn P G 136 #[.pointer (some ⟨b, 0, none⟩), .int .i64 z] [utcB b] fun v H => v = .tuple #[.string (str [85, 84, 67]), .int .i64 0, .int .i64 (-9223372036854775808), .int .i64 9223372036854775807, .bool false] ∧ H = [utcB b] := by
  refine fn_intro (args := [_,_]) Tryz.func136 Tryz.ntmps136 rfl ?_
  refine w_seq ?_
  refine w_region ?_
  refine o_t x_as ?_
  refine o_t x_as ?_
  refine o_t x_as ?_
  refine o_t x_as ?_
  refine o_t x_as ?_
  refine o_nil ?_
  refine w_seq ?_
  refine w_region ?_
  refine o_t x_mv ?_
  refine o_call Tryz.call146 haa spla (cGet b) ?_
  rintro _ _ HH ⟨rfl, rfl⟩ hHH
  simp only [List.cons_append, List.nil_append, List.append_nil] at hHH; subst hHH
  refine o_t x_as ?_
  refine o_nil ?_
  refine w_seq ?_
  refine w_seq ?_
  refine w_region ?_
  refine o_t x_mv ?_
  refine o_t x_nc ?_
  refine o_t (x_fa f271_2) ?_
  refine o_t (x_ld k267) ?_
  refine o_t (x_lenb Tryz.underlying267) ?_
  refine o_t x_cmp ?_
  refine o_nil ?_
  refine w_cond (t := true) (fun g => rfl) (fun hc => ?_) (fun hc => ?_) -- ('Go.Operand.tmp', 24)
  · --
    refine w_seq ?_
    refine w_region ?_
    refine o_t x_as ?_
    refine o_nil ?_
    refine w_seq ?_
    refine w_region ?_
    refine o_t x_as ?_
    refine o_nil ?_
    refine w_seq ?_
    refine w_region ?_
    refine o_t x_as ?_
    refine o_nil ?_
    refine w_seq ?_
    refine w_region ?_
    refine o_t x_as ?_
    refine o_nil ?_
    refine w_seq ?_
    refine w_region ?_
    refine o_t x_as ?_
    refine o_nil ?_
    exact w_ret (r_5 rfl (fun _ => rfl) (fun _ => rfl) (fun _ => rfl) (fun _ => rfl) (fun _ => rfl) hka ⟨rfl, rfl⟩)
  · cases hc
def tmV (v : Value) : Prop := ∃ w e l, l.oneCell' = true ∧ v = .agg #[.int .u64 w, .int .i64 e, l]
theorem cDate (y m d h mi s ns : Int) (b : Nat) : Fn P G 106 #[.int .i64 y, .int .i64 m, .int .i64 d, .int .i64 h, .int .i64 mi, .int .i64 s, .int .i64 ns, .pointer (some ⟨b, 0, none⟩)] [utcB b] fun v H => tmV v ∧ H = [] := by
  refine fn_intro (args := [_,_,_,_,_,_,_,_]) Tryz.func106 Tryz.ntmps106 rfl ?_
  refine w_seq ?_
  refine w_region ?_
  refine o_al z76 (fun b16 => ?_)
  refine o_nil ?_
  refine w_seq ?_
  refine w_seq ?_
  refine w_region ?_
  refine o_t x_mv ?_
  first | refine o_t (x_pnil' Tryz.underlying74) ?_ | refine o_t (x_psome' Tryz.underlying74) ?_
  refine o_nil ?_
  refine w_cond (t := false) (fun g => rfl) (fun hc => ?_) (fun hc => ?_) -- ('Go.Operand.tmp', 27)
  · cases hc
  refine w_skip ?_
  refine w_seq ?_
  refine w_region ?_
  refine o_t x_mv ?_
  refine o_t (x_sub (hz := rfl)) ?_
  refine o_t x_as ?_
  refine o_nil ?_
  refine w_seq ?_
  refine w_region ?_
  refine o_t x_mv ?_
  refine o_t x_mv ?_
  refine o_call Tryz.call134 haa spla (cNorm _ _ _ (by decide)) ?_
  rintro _ _ HH ⟨a1, a2, rfl, rfl⟩ hHH
  simp only [List.cons_append, List.nil_append, List.append_nil] at hHH; subst hHH
  refine o_t x_mv ?_
  refine o_t x_ex ?_
  refine o_t x_ex ?_
  refine o_t x_as ?_
  refine o_t x_as ?_
  refine o_nil ?_
  refine w_seq ?_
  refine w_region ?_
  refine o_t x_mv ?_
  refine o_t (x_add (hz := rfl)) ?_
  refine o_t x_as ?_
  refine o_nil ?_
  refine w_seq ?_
  refine w_region ?_
  refine o_t x_mv ?_
  refine o_t x_mv ?_
  refine o_call Tryz.call134 haa spla (cNorm _ _ _ (by decide)) ?_
  rintro _ _ HH ⟨a3, a4, rfl, rfl⟩ hHH
  simp only [List.cons_append, List.nil_append, List.append_nil] at hHH; subst hHH
  refine o_t x_mv ?_
  refine o_t x_ex ?_
  refine o_t x_ex ?_
  refine o_t x_as ?_
  refine o_t x_as ?_
  refine o_nil ?_
  refine w_seq ?_
  refine w_region ?_
  refine o_t x_mv ?_
  refine o_t x_mv ?_
  refine o_call Tryz.call134 haa spla (cNorm _ _ _ (by decide)) ?_
  rintro _ _ HH ⟨a5, a6, rfl, rfl⟩ hHH
  simp only [List.cons_append, List.nil_append, List.append_nil] at hHH; subst hHH
  refine o_t x_mv ?_
  refine o_t x_ex ?_
  refine o_t x_ex ?_
  refine o_t x_as ?_
  refine o_t x_as ?_
  refine o_nil ?_
  refine w_seq ?_
  refine w_region ?_
  refine o_t x_mv ?_
  refine o_t x_mv ?_
  refine o_call Tryz.call134 haa spla (cNorm _ _ _ (by decide)) ?_
  rintro _ _ HH ⟨a7, a8, rfl, rfl⟩ hHH
  simp only [List.cons_append, List.nil_append, List.append_nil] at hHH; subst hHH
  refine o_t x_mv ?_
  refine o_t x_ex ?_
  refine o_t x_ex ?_
  refine o_t x_as ?_
  refine o_t x_as ?_
  refine o_nil ?_
  refine w_seq ?_
  refine w_region ?_
  refine o_t x_mv ?_
  refine o_t x_mv ?_
  refine o_call Tryz.call134 haa spla (cNorm _ _ _ (by decide)) ?_
  rintro _ _ HH ⟨a9, a10, rfl, rfl⟩ hHH
  simp only [List.cons_append, List.nil_append, List.append_nil] at hHH; subst hHH
  refine o_t x_mv ?_
  refine o_t x_ex ?_
  refine o_t x_ex ?_
  refine o_t x_as ?_
  refine o_t x_as ?_
  refine o_nil ?_
  refine w_seq ?_
  refine w_region ?_
  refine o_t x_mv ?_
  refine o_t x_mv ?_
  refine o_t x_mv ?_
  refine o_call Tryz.call135 haa spla (cAbsDays _ _ _) ?_
  rintro _ _ HH ⟨a11, rfl, rfl⟩ hHH
  simp only [List.cons_append, List.nil_append, List.append_nil] at hHH; subst hHH
  refine o_t (x_cv ⟨_, Tryz.underlying234⟩ Tryz.underlying2 (hz := rfl)) ?_
  refine o_t (x_mul (hz := rfl)) ?_
  refine o_t x_mv ?_
  refine o_t (x_mul (hz := rfl)) ?_
  refine o_t x_mv ?_
  refine o_t (x_mul (hz := rfl)) ?_
  refine o_t (x_add (hz := rfl)) ?_
  refine o_t x_mv ?_
  refine o_t (x_add (hz := rfl)) ?_
  refine o_t (x_add (hz := rfl)) ?_
  refine o_t (x_add (hz := rfl)) ?_
  refine o_t x_as ?_
  refine o_nil ?_
  refine w_seq ?_
  refine w_region ?_
  refine o_t x_mv ?_
  refine o_t x_mv ?_
  refine o_call Tryz.call136 haa spla (cLookup b _) ?_
  rintro _ _ HH ⟨rfl, rfl⟩ hHH
  simp only [List.cons_append, List.nil_append, List.append_nil] at hHH; subst hHH
  refine o_t x_mv ?_
  refine o_t x_ex ?_
  refine o_t x_ex ?_
  refine o_t x_ex ?_
  refine o_t x_ex ?_
  refine o_t x_ex ?_
  refine o_t x_as ?_
  refine o_t x_as ?_
  refine o_t x_as ?_
  refine o_t x_as ?_
  refine o_t x_as ?_
  refine o_nil ?_
  refine w_seq ?_
  refine w_seq ?_
  refine w_region ?_
  refine o_t x_mv ?_
  refine o_t x_ne ?_
  refine o_nil ?_
  refine w_cond (t := false) (fun g => rfl) (fun hc => ?_) (fun hc => ?_) -- ('Go.Operand.tmp', 88)
  · cases hc
  refine w_skip ?_
  refine w_seq ?_
  refine w_region ?_
  refine o_t x_mv ?_
  refine o_t x_mv ?_
  refine o_t (x_cv ⟨_, Tryz.underlying3⟩ Tryz.underlying21 (hz := rfl)) ?_
  refine o_call Tryz.call137 haa spla (cUnixTime _ _) ?_
  rintro _ _ HH ⟨w1, e1, rfl, rfl⟩ hHH
  simp only [List.cons_append, List.nil_append, List.append_nil] at hHH; subst hHH
  refine o_al z76 (fun b25 => ?_)
  refine o_sta g76 ?_
  refine o_nil ?_
  refine w_seq ?_
  refine w_region ?_
  refine o_t x_mv ?_
  refine o_call Tryz.call138 haa spla (cSetLoc _ _ _ _ _ _ _ _ _ _ _ _ _) ?_
  rintro _ _ HH ⟨w2, e2, l2, hl2, rfl⟩ hHH
  simp only [List.cons_append, List.nil_append, List.append_nil] at hHH; subst hHH
  refine o_nil ?_
  refine w_seq ?_
  refine w_region ?_
  refine o_t (x_lda g76) ?_
  refine o_sta g76 ?_ (h1 := by intro u hu; simp only [List.mem_cons, List.not_mem_nil, or_false] at hu; rcases hu with rfl | rfl | rfl <;> first | rfl | exact hl2)
  refine o_nil ?_
  refine w_ret (r_cell rfl g76 ⟨⟨w2, e2, l2, hl2, rfl⟩, rfl⟩)
theorem cDosTime (d t : Int) : Fn P G 110 #[.int .u16 d, .int .u16 t] [] fun v H => tmV v ∧ H = [] := by
  refine fn_intro (args := [_,_]) Tryz.func110 Tryz.ntmps110 rfl ?_
  refine w_seq ?_
  refine w_region ?_
  refine o_al z76 (fun b4 => ?_)
  refine o_nil ?_
  refine w_seq ?_
  refine w_region ?_
  refine o_t x_mv ?_
  refine o_t (x_shr (hz := rfl)) ?_
  refine o_t (x_add (hz := rfl)) ?_
  refine o_t (x_cv ⟨_, Tryz.underlying72⟩ Tryz.underlying3 (hz := rfl)) ?_
  refine o_t x_mv ?_
  refine o_t (x_shr (hz := rfl)) ?_
  refine o_t y_bits ?_
  refine o_t (x_cv ⟨_, Tryz.underlying72⟩ Tryz.underlying191 (hz := rfl)) ?_
  refine o_t x_mv ?_
  refine o_t y_bits ?_
  refine o_t (x_cv ⟨_, Tryz.underlying72⟩ Tryz.underlying3 (hz := rfl)) ?_
  refine o_t x_mv ?_
  refine o_t (x_shr (hz := rfl)) ?_
  refine o_t (x_cv ⟨_, Tryz.underlying72⟩ Tryz.underlying3 (hz := rfl)) ?_
  refine o_t x_mv ?_
  refine o_t (x_shr (hz := rfl)) ?_
  refine o_t y_bits ?_
  refine o_t (x_cv ⟨_, Tryz.underlying72⟩ Tryz.underlying3 (hz := rfl)) ?_
  refine o_t x_mv ?_
  refine o_t y_bits ?_
  refine o_t (x_mul (hz := rfl)) ?_
  refine o_t (x_cv ⟨_, Tryz.underlying72⟩ Tryz.underlying3 (hz := rfl)) ?_
  refine o_call Tryz.call107 haa spla (cUTC) ?_
  rintro _ _ HH ⟨bu, rfl, rfl⟩ hHH
  simp only [List.cons_append, List.nil_append, List.append_nil] at hHH; subst hHH
  refine o_call Tryz.call106 haa spla (cDate _ _ _ _ _ _ _ bu) ?_
  rintro _ _ HH ⟨⟨w2, e2, l2, hl2, rfl⟩, rfl⟩ hHH
  simp only [List.cons_append, List.nil_append, List.append_nil] at hHH; subst hHH
  refine o_sta g76 ?_ (h1 := by intro u hu; simp only [List.mem_cons, List.not_mem_nil, or_false] at hu; rcases hu with rfl | rfl | rfl <;> first | rfl | exact hl2)
  refine o_nil ?_
  refine w_ret (r_cell rfl g76 ⟨⟨w2, e2, l2, hl2, rfl⟩, rfl⟩)
theorem cUnix (a n : Int) : Fn P G 108 #[.int .i64 a, .int .i64 n] [] fun v H => tmV v ∧ H = [] := by
  refine fn_intro (args := [_,_]) Tryz.func108 Tryz.ntmps108 rfl ?_
  refine w_seq ?_
  refine w_region ?_
  refine o_al z76 (fun b4 => ?_)
  refine o_nil ?_
  refine w_cut (α := Int × Int) (fun x => [(0, .int .i64 x.1), (1, .int .i64 x.2), (4, .pointer (some ⟨b4, 0, none⟩))]) (fun _ => [pt b4 [.int .u64 0, .int .i64 0, .pointer none] 76]) (fun _ => True) ?_ ?_
  · refine w_cut (α := Bool) (fun x => [(0, .int .i64 a), (1, .int .i64 n), (4, .pointer (some ⟨b4, 0, none⟩)), (11, .bool x)]) (fun _ => [pt b4 [.int .u64 0, .int .i64 0, .pointer none] 76]) (fun _ => True) ?_ ?_
    · by_cases h : n < 0
      · refine w_region ?_
        refine o_t x_mv ?_
        refine o_t x_cmp ?_
        refine o_t x_mv ?_
        first | refine o_t (x_g x_mv) ?_ | refine o_t x_gs ?_ | refine o_t x_gu ?_
        first | refine o_t (x_g x_cmp) ?_ | refine o_t x_gs ?_ | refine o_t x_gu ?_
        refine o_t x_pick ?_
        refine o_nil ?_
        exact ⟨true, .cons (fun _ => rfl) (.cons (fun _ => rfl) (.cons (fun _ => rfl) (.cons (fun _ => rfl) (.nil _)))), hka, trivial⟩
      · refine w_region ?_
        refine o_t x_mv ?_
        refine o_t x_cmp ?_
        refine o_t x_mv ?_
        first | refine o_t (x_g x_mv) ?_ | refine o_t x_gs ?_ | refine o_t x_gu ?_
        first | refine o_t (x_g x_cmp) ?_ | refine o_t x_gs ?_ | refine o_t x_gu ?_
        refine o_t x_pick ?_
        refine o_nil ?_
        exact ⟨_, .cons (fun _ => rfl) (.cons (fun _ => rfl) (.cons (fun _ => rfl) (.cons (fun _ => rfl) (.nil _)))), hka, trivial⟩
    rintro q _
    refine w_cond (t := q) (fun g => rfl) (fun hc => ?_) (fun hc => ?_) -- ('Go.Operand.tmp', 11)
    · --
      refine w_seq ?_
      refine w_region ?_
      refine o_t x_mv ?_
      refine o_t (x_quo (hz := rfl)) ?_
      refine o_t x_as ?_
      refine o_nil ?_
      refine w_seq ?_
      refine w_region ?_
      refine o_t x_mv ?_
      refine o_t x_mv ?_
      refine o_t (x_add (hz := rfl)) ?_
      refine o_t x_as ?_
      refine o_nil ?_
      refine w_seq ?_
      refine w_region ?_
      refine o_t x_mv ?_
      refine o_t x_mv ?_
      refine o_t (x_mul (hz := rfl)) ?_
      refine o_t (x_sub (hz := rfl)) ?_
      refine o_t x_as ?_
      refine o_nil ?_
      refine w_seq ?_
      refine w_region ?_
      refine o_t x_mv ?_
      refine o_t (x_cmp (hr := rfl)) ?_
      refine o_nil ?_
      refine w_cond (fun g => rfl) (fun hc => ?_) (fun hc => ?_) -- ('Go.Operand.tmp', 22)
      · --
        refine w_seq ?_
        refine w_region ?_
        refine o_t x_mv ?_
        refine o_t (x_add (hz := rfl)) ?_
        refine o_t x_as ?_
        refine o_nil ?_
        refine w_region ?_
        refine o_t x_mv ?_
        refine o_t (x_sub (hz := rfl)) ?_
        refine o_t x_as ?_
        refine o_nil ?_
        exact ⟨(_, _), .cons (fun _ => rfl) (.cons (fun _ => rfl) (.cons (fun _ => rfl) (.nil _))), hka, trivial⟩
      · --
        refine w_skip ?_
        exact ⟨(_, _), .cons (fun _ => rfl) (.cons (fun _ => rfl) (.cons (fun _ => rfl) (.nil _))), hka, trivial⟩
    · --
      refine w_skip ?_
      exact ⟨(_, _), .cons (fun _ => rfl) (.cons (fun _ => rfl) (.cons (fun _ => rfl) (.nil _))), hka, trivial⟩
  rintro ⟨a, n⟩ _
  dsimp only
  refine w_seq ?_
  refine w_region ?_
  refine o_t x_mv ?_
  refine o_t x_mv ?_
  refine o_t (x_cv ⟨_, Tryz.underlying2⟩ Tryz.underlying21 (hz := rfl)) ?_
  refine o_call Tryz.call137 haa spla (cUnixTime _ _) ?_
  rintro _ _ HH ⟨w1, e1, rfl, rfl⟩ hHH
  simp only [List.cons_append, List.nil_append, List.append_nil] at hHH; subst hHH
  refine o_sta g76 ?_
  refine o_nil ?_
  refine w_ret (r_cell rfl g76 ⟨⟨w1, e1, _, rfl, rfl⟩, rfl⟩)
theorem cTimeUTC (w e : Int) (l : Value) (hl : l.oneCell' = true) : Fn P G 111 #[.agg #[.int .u64 w, .int .i64 e, l]] [] fun v H => tmV v ∧ H = [] := by
  refine fn_intro (args := [_]) Tryz.func111 Tryz.ntmps111 rfl ?_
  refine w_seq ?_
  refine w_region ?_
  refine o_bx (fun b1 => ?_)
  refine o_al z76 (fun b2 => ?_)
  refine o_nil ?_
  refine w_seq ?_
  refine w_region ?_
  refine o_call Tryz.call107 haa spla (cUTC) ?_
  rintro _ _ HH ⟨bu, rfl, rfl⟩ hHH
  simp only [List.cons_append, List.nil_append, List.append_nil] at hHH; subst hHH
  refine o_call Tryz.call138 haa spla (cSetLoc _ _ _ _ _ _ _ _ _ _ _ _ _) ?_
  rintro _ _ HH ⟨w2, e2, l2, hl2, rfl⟩ hHH
  simp only [List.cons_append, List.nil_append, List.append_nil] at hHH; subst hHH
  refine o_nil ?_
  refine w_seq ?_
  refine w_region ?_
  refine o_t (x_lda g76) ?_
  refine o_sta g76 ?_ (h1 := by intro u hu; simp only [List.mem_cons, List.not_mem_nil, or_false] at hu; rcases hu with rfl | rfl | rfl <;> first | rfl | assumption)
  refine o_nil ?_
  refine w_ret (r_cell rfl g76 ⟨⟨w2, e2, l2, hl2, rfl⟩, rfl⟩)
theorem cTimeIn (w e : Int) (l : Value) (hl : l.oneCell' = true) (lb : Nat) (u : Bool) (nm z t x s e' q : Value) : Fn P G 112 #[.agg #[.int .u64 w, .int .i64 e, l], .pointer (some ⟨lb, 0, none⟩)] [locB lb u nm z t x s e' q] fun v H => tmV v ∧ H = [] := by
  refine fn_intro (args := [_,_]) Tryz.func112 Tryz.ntmps112 rfl ?_
  refine w_seq ?_
  refine w_region ?_
  refine o_bx (fun b2 => ?_)
  refine o_al z76 (fun b4 => ?_)
  refine o_nil ?_
  refine w_seq ?_
  refine w_seq ?_
  refine w_region ?_
  refine o_t x_mv ?_
  first | refine o_t (x_pnil' Tryz.underlying74) ?_ | refine o_t (x_psome' Tryz.underlying74) ?_
  refine o_nil ?_
  refine w_cond (t := false) (fun g => rfl) (fun hc => ?_) (fun hc => ?_) -- ('Go.Operand.tmp', 6)
  · cases hc
  refine w_skip ?_
  refine w_seq ?_
  refine w_region ?_
  refine o_t x_mv ?_
  refine o_call Tryz.call138 haa spla (cSetLoc _ _ _ _ _ _ _ _ _ _ _ _ _) ?_
  rintro _ _ HH ⟨w2, e2, l2, hl2, rfl⟩ hHH
  simp only [List.cons_append, List.nil_append, List.append_nil] at hHH; subst hHH
  refine o_nil ?_
  refine w_seq ?_
  refine w_region ?_
  refine o_t (x_lda g76) ?_
  refine o_sta g76 ?_ (h1 := by intro u hu; simp only [List.mem_cons, List.not_mem_nil, or_false] at hu; rcases hu with rfl | rfl | rfl <;> first | rfl | assumption)
  refine o_nil ?_
  refine w_ret (r_cell rfl g76 ⟨⟨w2, e2, l2, hl2, rfl⟩, rfl⟩)
theorem cIsZero (w e : Int) (l : Value) (hl : l.oneCell' = true) : Fn P G 55 #[.agg #[.int .u64 w, .int .i64 e, l]] [] fun v H => v = .bool (decide (w = 0 ∧ e = 0)) ∧ H = [] := by
  refine fn_intro (args := [_]) Tryz.func55 Tryz.ntmps55 rfl ?_
  refine w_seq ?_
  refine w_region ?_
  refine o_bx (fun b1 => ?_)
  refine o_t x_as ?_
  refine o_nil ?_
  refine w_seq ?_
  by_cases h : w = 0
  · refine w_region ?_
    refine o_t (x_fa f76_0) ?_
    refine o_t (x_ld k73) ?_
    refine o_t x_cmp ?_
    refine o_t x_mv ?_
    first | refine o_t (x_g (x_fa f76_1)) ?_ | refine o_t x_gs ?_ | refine o_t x_gu ?_
    first | refine o_t (x_g (x_ld k2)) ?_ | refine o_t x_gs ?_ | refine o_t x_gu ?_
    first | refine o_t (x_g x_cmp) ?_ | refine o_t x_gs ?_ | refine o_t x_gu ?_
    refine o_t x_pick ?_
    refine o_t x_as ?_
    refine o_nil ?_
    refine w_ret (r_1 rfl ⟨?_, rfl⟩)
    simp [h, cmpI]
  · refine w_region ?_
    refine o_t (x_fa f76_0) ?_
    refine o_t (x_ld k73) ?_
    refine o_t x_cmp ?_
    refine o_t x_mv ?_
    first | refine o_t (x_g (x_fa f76_1)) ?_ | refine o_t x_gs ?_ | refine o_t x_gu ?_
    first | refine o_t (x_g (x_ld k2)) ?_ | refine o_t x_gs ?_ | refine o_t x_gu ?_
    first | refine o_t (x_g x_cmp) ?_ | refine o_t x_gs ?_ | refine o_t x_gu ?_
    refine o_t x_pick ?_
    refine o_t x_as ?_
    refine o_nil ?_
    refine w_ret (r_1 rfl ⟨?_, rfl⟩)
    simp [h]
end Go.Proofs.YtlmefkhglooepaaGreatDoor
namespace Go.Proofs.YtlmefkhglooepaaGreatDoor
open Go
set_option linter.unusedSimpArgs false
set_option linter.unusedVariables false
variable {G : Nat → Option Obj} {ea : Nat → Addr}
theorem cHalf (a b : Int) : Fn P G 150 #[.int .i64 a, .int .i64 b] [] fun v H => ∃ q, v = .bool q ∧ H = [] := by
  refine fn_intro (args := [_,_]) Tryz.func150 Tryz.ntmps150 rfl ?_
  refine w_seq ?_
  refine w_region ?_
  refine o_t x_as ?_
  refine o_nil ?_
  refine w_seq ?_
  refine w_region ?_
  refine o_t x_mv ?_
  refine o_t (x_cv ⟨_, Tryz.underlying225⟩ Tryz.underlying73 (hz := rfl)) ?_
  refine o_t x_mv ?_
  refine o_t (x_cv ⟨_, Tryz.underlying225⟩ Tryz.underlying73 (hz := rfl)) ?_
  refine o_t (x_add (hz := rfl)) ?_
  refine o_t x_mv ?_
  refine o_t (x_cv ⟨_, Tryz.underlying225⟩ Tryz.underlying73 (hz := rfl)) ?_
  refine o_t (x_cmp (hr := rfl)) ?_
  refine o_t x_as ?_
  refine o_nil ?_
  refine w_ret (r_1 rfl ⟨_, rfl, rfl⟩)
theorem cRound (a b : Int) (hb : 0 < b) : Fn P G 139 #[.int .i64 a, .int .i64 b] [] fun v H => ∃ z, v = .int .i64 z ∧ H = [] := by
  refine fn_intro (args := [_,_]) Tryz.func139 Tryz.ntmps139 rfl ?_
  refine w_seq ?_
  refine w_region ?_
  refine o_t x_as ?_
  refine o_nil ?_
  refine w_seq ?_
  refine w_seq ?_
  refine w_region ?_
  refine o_t x_mv ?_
  refine o_t x_cmp ?_
  refine o_nil ?_
  refine w_cond (t := false) (fun g => rfl) (fun hc => ?_) (fun hc => ?_) -- ('Go.Operand.tmp', 9)
  · cases hc
  refine w_skip ?_
  refine w_seq ?_
  refine w_region ?_
  refine o_t x_mv ?_
  refine o_t x_mv ?_
  refine o_t (x_rem (hz := rfl)) ?_
  refine o_t x_as ?_
  refine o_nil ?_
  refine w_seq ?_
  refine w_seq ?_
  refine w_region ?_
  refine o_t x_mv ?_
  refine o_t (x_cmp (hr := rfl)) ?_
  refine o_nil ?_
  refine w_cond (fun g => rfl) (fun hc => ?_) (fun hc => ?_) -- ('Go.Operand.tmp', 15)
  · --
    refine w_seq ?_
    refine w_region ?_
    refine o_t x_mv ?_
    refine o_t x_p ?_
    refine o_t x_as ?_
    refine o_nil ?_
    refine w_seq ?_
    refine w_seq ?_
    refine w_region ?_
    refine o_t x_mv ?_
    refine o_t x_mv ?_
    refine o_call Tryz.call150 haa spla (cHalf _ _) ?_
    rintro _ _ HH ⟨q, rfl, rfl⟩ hHH
    simp only [List.cons_append, List.nil_append, List.append_nil] at hHH; subst hHH
    refine o_nil ?_
    refine w_cond (t := q) (fun g => rfl) (fun hc => ?_) (fun hc => ?_) -- ('Go.Operand.tmp', 20)
    · --
      refine w_seq ?_
      refine w_region ?_
      refine o_t x_mv ?_
      refine o_t x_mv ?_
      refine o_t (x_add (hz := rfl)) ?_
      refine o_t x_as ?_
      refine o_nil ?_
      refine w_ret (r_1 rfl ⟨_, rfl, rfl⟩)
    refine w_skip ?_
    refine w_seq ?_
    refine w_seq ?_
    refine w_region ?_
    refine o_t x_mv ?_
    refine o_t x_mv ?_
    refine o_t (x_sub (hz := rfl)) ?_
    refine o_t x_mv ?_
    refine o_t (x_add (hz := rfl)) ?_
    refine o_t x_as ?_
    refine o_nil ?_
    refine w_seq ?_
    refine w_region ?_
    refine o_t x_mv ?_
    refine o_t x_mv ?_
    refine o_t (x_cmp (hr := rfl)) ?_
    refine o_nil ?_
    refine w_cond (fun g => rfl) (fun hc => ?_) (fun hc => ?_) -- ('Go.Operand.tmp', 31)
    · --
      refine w_seq ?_
      refine w_region ?_
      refine o_t x_mv ?_
      refine o_t x_as ?_
      refine o_nil ?_
      refine w_ret (r_1 rfl ⟨_, rfl, rfl⟩)
    refine w_skip ?_
    refine w_seq ?_
    refine w_region ?_
    refine o_t x_as ?_
    refine o_nil ?_
    refine w_ret (r_1 rfl ⟨_, rfl, rfl⟩)
  refine w_skip ?_
  refine w_seq ?_
  refine w_seq ?_
  refine w_region ?_
  refine o_t x_mv ?_
  refine o_t x_mv ?_
  refine o_call Tryz.call150 haa spla (cHalf _ _) ?_
  rintro _ _ HH ⟨q, rfl, rfl⟩ hHH
  simp only [List.cons_append, List.nil_append, List.append_nil] at hHH; subst hHH
  refine o_nil ?_
  refine w_cond (t := q) (fun g => rfl) (fun hc => ?_) (fun hc => ?_) -- ('Go.Operand.tmp', 35)
  · --
    refine w_seq ?_
    refine w_region ?_
    refine o_t x_mv ?_
    refine o_t x_mv ?_
    refine o_t (x_sub (hz := rfl)) ?_
    refine o_t x_as ?_
    refine o_nil ?_
    refine w_ret (r_1 rfl ⟨_, rfl, rfl⟩)
  refine w_skip ?_
  refine w_seq ?_
  refine w_seq ?_
  refine w_region ?_
  refine o_t x_mv ?_
  refine o_t x_mv ?_
  refine o_t (x_add (hz := rfl)) ?_
  refine o_t x_mv ?_
  refine o_t (x_sub (hz := rfl)) ?_
  refine o_t x_as ?_
  refine o_nil ?_
  refine w_seq ?_
  refine w_region ?_
  refine o_t x_mv ?_
  refine o_t x_mv ?_
  refine o_t (x_cmp (hr := rfl)) ?_
  refine o_nil ?_
  refine w_cond (fun g => rfl) (fun hc => ?_) (fun hc => ?_) -- ('Go.Operand.tmp', 46)
  · --
    refine w_seq ?_
    refine w_region ?_
    refine o_t x_mv ?_
    refine o_t x_as ?_
    refine o_nil ?_
    refine w_ret (r_1 rfl ⟨_, rfl, rfl⟩)
  refine w_skip ?_
  refine w_seq ?_
  refine w_region ?_
  refine o_t x_as ?_
  refine o_nil ?_
  refine w_ret (r_1 rfl ⟨_, rfl, rfl⟩)
theorem cNsec (b : Nat) (w e : Int) (l : Value) : Fn P G 142 #[.pointer (some ⟨b, 0, none⟩)] [tmB b w e l] fun v H => ∃ z, v = .int .i32 z ∧ H = [tmB b w e l] := by
  refine fn_intro (args := [_]) Tryz.func142 Tryz.ntmps142 rfl ?_
  refine w_seq ?_
  refine w_region ?_
  refine o_t x_as ?_
  refine o_nil ?_
  refine w_seq ?_
  refine w_region ?_
  refine o_t x_mv ?_
  refine o_t x_nc ?_
  refine o_t (x_fa f76_0) ?_
  refine o_t (x_ld k73) ?_
  refine o_t y_bits ?_
  refine o_t (x_cv ⟨_, Tryz.underlying73⟩ Tryz.underlying21 (hz := rfl)) ?_
  refine o_t x_as ?_
  refine o_nil ?_
  refine w_ret (r_1 rfl ⟨_, rfl, rfl⟩)
theorem cSubMono (a b : Int) : Fn P G 141 #[.int .i64 a, .int .i64 b] [] fun v H => ∃ z, v = .int .i64 z ∧ H = [] := by
  refine fn_intro (args := [_,_]) Tryz.func141 Tryz.ntmps141 rfl ?_
  refine w_seq ?_
  refine w_region ?_
  refine o_t x_as ?_
  refine o_nil ?_
  refine w_cut (α := Int) (fun x => [(0, .int .i64 a), (1, .int .i64 b), (5, .int .i64 x)]) (fun _ => []) (fun _ => True) ?_ ?_
  · refine w_region ?_
    refine o_t x_mv ?_
    refine o_t x_mv ?_
    refine o_t (x_sub (hz := rfl)) ?_
    refine o_t x_as ?_
    refine o_nil ?_
    exact ⟨_, .cons (fun _ => rfl) (.cons (fun _ => rfl) (.cons (fun _ => rfl) (.nil _))), hka, trivial⟩
  rintro x _
  have key : ∀ q : Bool, True := fun _ => trivial
  refine w_seq ?_
  refine w_cut (α := Bool) (fun q => [(0, .int .i64 a), (1, .int .i64 b), (5, .int .i64 x), (15, .bool q)]) (fun _ => []) (fun _ => True) ?_ ?_
  · by_cases h : x < 0
    · refine w_region ?_
      refine o_t x_mv ?_
      refine o_t x_cmp ?_
      refine o_t x_mv ?_
      first | refine o_t (x_g x_mv) ?_ | refine o_t x_gs ?_ | refine o_t x_gu ?_
      first | refine o_t (x_g x_mv) ?_ | refine o_t x_gs ?_ | refine o_t x_gu ?_
      first | refine o_t (x_g x_cmp) ?_ | refine o_t x_gs ?_ | refine o_t x_gu ?_
      refine o_t x_pick ?_
      refine o_nil ?_
      exact ⟨_, .cons (fun _ => rfl) (.cons (fun _ => rfl) (.cons (fun _ => rfl) (.cons (fun _ => rfl) (.nil _)))), hka, trivial⟩
    · refine w_region ?_
      refine o_t x_mv ?_
      refine o_t x_cmp ?_
      refine o_t x_mv ?_
      first | refine o_t (x_g x_mv) ?_ | refine o_t x_gs ?_ | refine o_t x_gu ?_
      first | refine o_t (x_g x_mv) ?_ | refine o_t x_gs ?_ | refine o_t x_gu ?_
      first | refine o_t (x_g x_cmp) ?_ | refine o_t x_gs ?_ | refine o_t x_gu ?_
      refine o_t x_pick ?_
      refine o_nil ?_
      exact ⟨false, .cons (fun _ => rfl) (.cons (fun _ => rfl) (.cons (fun _ => rfl) (.cons (fun _ => rfl) (.nil _)))), hka, trivial⟩
  rintro q _
  refine w_cond (t := q) (fun g => rfl) (fun hc => ?_) (fun hc => ?_) -- ('Go.Operand.tmp', 15)
  · --
    refine w_seq ?_
    refine w_region ?_
    refine o_t x_as ?_
    refine o_nil ?_
    refine w_ret (r_1 rfl ⟨_, rfl, rfl⟩)
  refine w_skip ?_
  refine w_seq ?_
  refine w_cut (α := Bool) (fun q => [(0, .int .i64 a), (1, .int .i64 b), (5, .int .i64 x), (22, .bool q)]) (fun _ => []) (fun _ => True) ?_ ?_
  · by_cases h : 0 < x
    · refine w_region ?_
      refine o_t x_mv ?_
      refine o_t x_cmp ?_
      refine o_t x_mv ?_
      first | refine o_t (x_g x_mv) ?_ | refine o_t x_gs ?_ | refine o_t x_gu ?_
      first | refine o_t (x_g x_mv) ?_ | refine o_t x_gs ?_ | refine o_t x_gu ?_
      first | refine o_t (x_g x_cmp) ?_ | refine o_t x_gs ?_ | refine o_t x_gu ?_
      refine o_t x_pick ?_
      refine o_nil ?_
      exact ⟨_, .cons (fun _ => rfl) (.cons (fun _ => rfl) (.cons (fun _ => rfl) (.cons (fun _ => rfl) (.nil _)))), hka, trivial⟩
    · refine w_region ?_
      refine o_t x_mv ?_
      refine o_t x_cmp ?_
      refine o_t x_mv ?_
      first | refine o_t (x_g x_mv) ?_ | refine o_t x_gs ?_ | refine o_t x_gu ?_
      first | refine o_t (x_g x_mv) ?_ | refine o_t x_gs ?_ | refine o_t x_gu ?_
      first | refine o_t (x_g x_cmp) ?_ | refine o_t x_gs ?_ | refine o_t x_gu ?_
      refine o_t x_pick ?_
      refine o_nil ?_
      exact ⟨false, .cons (fun _ => rfl) (.cons (fun _ => rfl) (.cons (fun _ => rfl) (.cons (fun _ => rfl) (.nil _)))), hka, trivial⟩
  rintro q _
  refine w_cond (t := q) (fun g => rfl) (fun hc => ?_) (fun hc => ?_) -- ('Go.Operand.tmp', 22)
  · --
    refine w_seq ?_
    refine w_region ?_
    refine o_t x_as ?_
    refine o_nil ?_
    refine w_ret (r_1 rfl ⟨_, rfl, rfl⟩)
  refine w_skip ?_
  refine w_seq ?_
  refine w_region ?_
  refine o_t x_mv ?_
  refine o_t x_as ?_
  refine o_nil ?_
  refine w_ret (r_1 rfl ⟨_, rfl, rfl⟩)
theorem cEqual (w1 e1 : Int) (l1 : Value) (h1 : l1.oneCell' = true) (w2 e2 : Int) (l2 : Value) (h2 : l2.oneCell' = true) : Fn P G 144 #[.agg #[.int .u64 w1, .int .i64 e1, l1], .agg #[.int .u64 w2, .int .i64 e2, l2]] [] fun v H => ∃ q, v = .bool q ∧ H = [] := by
  refine fn_intro (args := [_,_]) Tryz.func144 Tryz.ntmps144 rfl ?_
  refine w_seq ?_
  refine w_region ?_
  refine o_bx (fun b2 => ?_)
  refine o_bx (fun b3 => ?_)
  refine o_t x_as ?_
  refine o_nil ?_
  refine w_seq ?_
  refine w_seq ?_
  refine w_region ?_
  refine o_t (x_fa f76_0) ?_
  refine o_t (x_ld k73) ?_
  refine o_t (x_fa f76_0) ?_
  refine o_t (x_ld k73) ?_
  refine o_t y_bits ?_
  refine o_t y_bits ?_
  refine o_t (x_ne (hr := rfl)) ?_
  refine o_nil ?_
  refine w_cond (fun g => rfl) (fun hc => ?_) (fun hc => ?_) -- ('Go.Operand.tmp', 11)
  · --
    refine w_seq ?_
    refine w_region ?_
    refine o_t (x_fa f76_1) ?_
    refine o_t (x_ld k2) ?_
    refine o_t (x_fa f76_1) ?_
    refine o_t (x_ld k2) ?_
    refine o_t (x_cmp (hr := rfl)) ?_
    refine o_t x_as ?_
    refine o_nil ?_
    refine w_ret (r_1 rfl ⟨_, rfl, rfl⟩)
  refine w_skip ?_
  refine w_seq ?_
  refine w_region ?_
  refine o_call Tryz.call125 haa spla (cSec _ _ _ _) ?_
  rintro _ _ HH ⟨z1, rfl, rfl⟩ hHH
  simp only [List.cons_append, List.nil_append, List.append_nil] at hHH; subst hHH
  refine o_call Tryz.call125 haa spla (cSec _ _ _ _) ?_
  rintro _ _ HH ⟨z2, rfl, rfl⟩ hHH
  simp only [List.cons_append, List.nil_append, List.append_nil] at hHH; subst hHH
  by_cases h : z1 = z2
  · refine o_t x_cmp ?_
    refine o_t x_mv ?_
    refine o_gy ?_
    refine o_call Tryz.call142 haa spla (cNsec _ _ _ _) ?_
    rintro _ _ HH ⟨n1, rfl, rfl⟩ hHH
    simp only [List.cons_append, List.nil_append, List.append_nil] at hHH; subst hHH
    refine o_gy ?_
    refine o_call Tryz.call142 haa spla (cNsec _ _ _ _) ?_
    rintro _ _ HH ⟨n2, rfl, rfl⟩ hHH
    simp only [List.cons_append, List.nil_append, List.append_nil] at hHH; subst hHH
    refine o_t (x_g (x_cmp (hr := rfl))) ?_
    refine o_t x_pick ?_
    refine o_t x_as ?_
    refine o_nil ?_
    refine w_ret (r_1 rfl ⟨_, rfl, rfl⟩)
  · refine o_t x_cmp ?_
    refine o_t x_mv ?_
    refine o_t x_gs ?_
    refine o_t x_gs ?_
    refine o_t x_gs ?_
    refine o_t x_pick ?_
    refine o_t x_as ?_
    refine o_nil ?_
    refine w_ret (r_1 rfl ⟨false, rfl, rfl⟩)
theorem cBefore (w1 e1 : Int) (l1 : Value) (h1 : l1.oneCell' = true) (w2 e2 : Int) (l2 : Value) (h2 : l2.oneCell' = true) : Fn P G 145 #[.agg #[.int .u64 w1, .int .i64 e1, l1], .agg #[.int .u64 w2, .int .i64 e2, l2]] [] fun v H => ∃ q, v = .bool q ∧ H = [] := by
  refine fn_intro (args := [_,_]) Tryz.func145 Tryz.ntmps145 rfl ?_
  refine w_seq ?_
  refine w_region ?_
  refine o_bx (fun b2 => ?_)
  refine o_bx (fun b3 => ?_)
  refine o_t x_as ?_
  refine o_nil ?_
  refine w_seq ?_
  refine w_seq ?_
  refine w_region ?_
  refine o_t (x_fa f76_0) ?_
  refine o_t (x_ld k73) ?_
  refine o_t (x_fa f76_0) ?_
  refine o_t (x_ld k73) ?_
  refine o_t y_bits ?_
  refine o_t y_bits ?_
  refine o_t (x_ne (hr := rfl)) ?_
  refine o_nil ?_
  refine w_cond (fun g => rfl) (fun hc => ?_) (fun hc => ?_) -- ('Go.Operand.tmp', 13)
  · --
    refine w_seq ?_
    refine w_region ?_
    refine o_t (x_fa f76_1) ?_
    refine o_t (x_ld k2) ?_
    refine o_t (x_fa f76_1) ?_
    refine o_t (x_ld k2) ?_
    refine o_t (x_cmp (hr := rfl)) ?_
    refine o_t x_as ?_
    refine o_nil ?_
    refine w_ret (r_1 rfl ⟨_, rfl, rfl⟩)
  refine w_skip ?_
  refine w_seq ?_
  refine w_region ?_
  refine o_call Tryz.call125 haa spla (cSec _ _ _ _) ?_
  rintro _ _ HH ⟨z1, rfl, rfl⟩ hHH
  simp only [List.cons_append, List.nil_append, List.append_nil] at hHH; subst hHH
  refine o_t x_as ?_
  refine o_nil ?_
  refine w_seq ?_
  refine w_region ?_
  refine o_call Tryz.call125 haa spla (cSec _ _ _ _) ?_
  rintro _ _ HH ⟨z2, rfl, rfl⟩ hHH
  simp only [List.cons_append, List.nil_append, List.append_nil] at hHH; subst hHH
  refine o_t x_as ?_
  refine o_nil ?_
  refine w_seq ?_
  by_cases h : z1 < z2
  · refine w_region ?_
    refine o_t x_mv ?_
    refine o_t x_mv ?_
    refine o_t x_cmp ?_
    refine o_t x_mv ?_
    first | refine o_t (x_g x_mv) ?_ | refine o_t x_gs ?_ | refine o_t x_gu ?_
    first | refine o_t (x_g x_mv) ?_ | refine o_t x_gs ?_ | refine o_t x_gu ?_
    first | refine o_t (x_g x_cmp) ?_ | refine o_t x_gs ?_ | refine o_t x_gu ?_
    first | refine o_t (x_g x_mv) ?_ | refine o_t x_gs ?_ | refine o_t x_gu ?_
    first | refine o_t x_gs ?_ | refine o_t x_gu ?_
    first | refine o_t x_gs ?_ | refine o_t x_gu ?_
    first | refine o_t (x_g x_cmp) ?_ | refine o_t x_gs ?_ | refine o_t x_gu ?_
    first | refine o_t (x_g x_pick) ?_ | refine o_t x_gs ?_ | refine o_t x_gu ?_
    refine o_t x_pick ?_
    refine o_t x_as ?_
    refine o_nil ?_
    refine w_ret (r_1 rfl ⟨true, rfl, rfl⟩)
  · by_cases h' : z1 = z2
    · refine w_region ?_
      refine o_t x_mv ?_
      refine o_t x_mv ?_
      refine o_t x_cmp ?_
      refine o_t x_mv ?_
      first | refine o_t (x_g x_mv) ?_ | refine o_t x_gs ?_ | refine o_t x_gu ?_
      first | refine o_t (x_g x_mv) ?_ | refine o_t x_gs ?_ | refine o_t x_gu ?_
      first | refine o_t (x_g x_cmp) ?_ | refine o_t x_gs ?_ | refine o_t x_gu ?_
      first | refine o_t (x_g x_mv) ?_ | refine o_t x_gs ?_ | refine o_t x_gu ?_
      first | (refine o_gy (?_); refine o_call Tryz.call142 haa spla (cNsec _ _ _ _) ?_; rintro _ _ HH ⟨n1, rfl, rfl⟩ hHH; simp only [List.cons_append, List.nil_append, List.append_nil] at hHH; subst hHH) | refine o_t x_gs ?_ | refine o_t x_gu ?_
      first | (refine o_gy (?_); refine o_call Tryz.call142 haa spla (cNsec _ _ _ _) ?_; rintro _ _ HH ⟨n2, rfl, rfl⟩ hHH; simp only [List.cons_append, List.nil_append, List.append_nil] at hHH; subst hHH) | refine o_t x_gs ?_ | refine o_t x_gu ?_
      first | refine o_t (x_g (x_cmp (hr := rfl))) ?_ | refine o_t x_gs ?_ | refine o_t x_gu ?_
      first | refine o_t (x_g x_pick) ?_ | refine o_t x_gs ?_ | refine o_t x_gu ?_
      refine o_t x_pick ?_
      refine o_t x_as ?_
      refine o_nil ?_
      refine w_ret (r_1 rfl ⟨_, rfl, rfl⟩)
    · refine w_region ?_
      refine o_t x_mv ?_
      refine o_t x_mv ?_
      refine o_t x_cmp ?_
      refine o_t x_mv ?_
      first | refine o_t (x_g x_mv) ?_ | refine o_t x_gs ?_ | refine o_t x_gu ?_
      first | refine o_t (x_g x_mv) ?_ | refine o_t x_gs ?_ | refine o_t x_gu ?_
      first | refine o_t (x_g x_cmp) ?_ | refine o_t x_gs ?_ | refine o_t x_gu ?_
      first | refine o_t (x_g x_mv) ?_ | refine o_t x_gs ?_ | refine o_t x_gu ?_
      first | refine o_t x_gs ?_ | refine o_t x_gu ?_
      first | refine o_t x_gs ?_ | refine o_t x_gu ?_
      first | refine o_t (x_g x_cmp) ?_ | refine o_t x_gs ?_ | refine o_t x_gu ?_
      first | refine o_t (x_g x_pick) ?_ | refine o_t x_gs ?_ | refine o_t x_gu ?_
      refine o_t x_pick ?_
      refine o_t x_as ?_
      refine o_nil ?_
      refine w_ret (r_1 rfl ⟨false, rfl, rfl⟩)
theorem bool_eq_run (a b : Bool) (w : World) : (binOp .eql 4 (.bool a) (.bool b)).run P w = .ok (.bool (a == b)) w := by
  have h0 := eqR (P := P) (t := 4) (va := .bool a) (vb := .bool b) (r := (a == b)) (w := w) (fun d => by simp [Op.equalIn, run_underlying Tryz.underlying4])
  simp [binOp, h0]
section
variable {n : Nat} {ops : Array Oper} {L : Loc} {H : List Res} {d : Nat} {x y : Operand} {ty t' : TypeId} {p : String} {e : Array Edge}
theorem x_eqb (a b : Bool) (hx : ∀ g, evl L g x = .bool a := by intro g; rfl) (hy : ∀ g, evl L g y = .bool b := by intro g; rfl) (hn : d < n := by decide) :
    Ex P n G ops L H ⟨some d, .binOp .eql 4 x y t', ty, p, e, none⟩ d (.bool (a == b)) :=
  .mk hn (fun _ _ g w _ => by simp [execOp, hx g, hy g, eqGuard, bool_eq_run])
end
theorem cAddSec (b : Nat) (w e : Int) (l : Value) (z : Int) : Fn P G 152 #[.pointer (some ⟨b, 0, none⟩), .int .i64 z] [tmB b w e l] fun v H => ∃ w' e', H = [tmB b w' e' l] := by
  refine fn_intro (args := [_,_]) Tryz.func152 Tryz.ntmps152 rfl ?_
  refine w_cut (α := Int × Int) (fun _ => [(0, .pointer (some ⟨b, 0, none⟩)), (1, .int .i64 z)]) (fun x => [tmB b x.1 x.2 l]) (fun _ => True) ?_ ?_
  · refine w_seq ?_
    refine w_region ?_
    refine o_t x_mv ?_
    refine o_t x_nc ?_
    refine o_t (x_fa f76_0) ?_
    refine o_t (x_ld k73) ?_
    refine o_t y_bits ?_
    refine o_t (x_ne (hr := rfl)) ?_
    refine o_nil ?_
    refine w_cond (fun g => rfl) (fun hc => ?_) (fun hc => ?_) -- ('Go.Operand.tmp', 12)
    · --
      refine w_seq ?_
      refine w_region ?_
      refine o_t x_mv ?_
      refine o_t x_nc ?_
      refine o_t (x_fa f76_0) ?_
      refine o_t (x_ld k73) ?_
      refine o_t (x_shl (hz := rfl)) ?_
      refine o_t (x_shr (hz := rfl)) ?_
      refine o_t (x_cv ⟨_, Tryz.underlying73⟩ Tryz.underlying2 (hz := rfl)) ?_
      refine o_t x_as ?_
      refine o_nil ?_
      refine w_cut (α := Int) (fun x => [(0, .pointer (some ⟨b, 0, none⟩)), (1, .int .i64 z), (5, .int .i64 x)]) (fun _ => [tmB b w e l]) (fun _ => True) ?_ ?_
      · refine w_region ?_
        refine o_t x_mv ?_
        refine o_t x_mv ?_
        refine o_t (x_add (hz := rfl)) ?_
        refine o_t x_as ?_
        refine o_nil ?_
        exact ⟨_, .cons (fun _ => rfl) (.cons (fun _ => rfl) (.cons (fun _ => rfl) (.nil _))), hka, trivial⟩
      rintro x _
      refine w_seq ?_
      refine w_cut (α := Bool) (fun q => [(0, .pointer (some ⟨b, 0, none⟩)), (1, .int .i64 z), (5, .int .i64 x), (28, .bool q)]) (fun _ => [tmB b w e l]) (fun _ => True) ?_ ?_
      · by_cases h : 0 ≤ x
        · refine w_region ?_
          refine o_t x_mv ?_
          refine o_t x_cmp ?_
          refine o_t x_mv ?_
          first | refine o_t (x_g x_mv) ?_ | refine o_t x_gs ?_ | refine o_t x_gu ?_
          first | refine o_t (x_g x_cmp) ?_ | refine o_t x_gs ?_ | refine o_t x_gu ?_
          refine o_t x_pick ?_
          refine o_nil ?_
          exact ⟨_, .cons (fun _ => rfl) (.cons (fun _ => rfl) (.cons (fun _ => rfl) (.cons (fun _ => rfl) (.nil _)))), hka, trivial⟩
        · refine w_region ?_
          refine o_t x_mv ?_
          refine o_t x_cmp ?_
          refine o_t x_mv ?_
          first | refine o_t (x_g x_mv) ?_ | refine o_t x_gs ?_ | refine o_t x_gu ?_
          first | refine o_t (x_g x_cmp) ?_ | refine o_t x_gs ?_ | refine o_t x_gu ?_
          refine o_t x_pick ?_
          refine o_nil ?_
          exact ⟨false, .cons (fun _ => rfl) (.cons (fun _ => rfl) (.cons (fun _ => rfl) (.cons (fun _ => rfl) (.nil _)))), hka, trivial⟩
      rintro q _
      refine w_cond (t := q) (fun g => rfl) (fun hc => ?_) (fun hc => ?_) -- ('Go.Operand.tmp', 28)
      · --
        refine w_seq ?_
        refine w_region ?_
        refine o_t x_mv ?_
        refine o_t x_mv ?_
        refine o_t x_nc ?_
        refine o_t (x_fa f76_0) ?_
        refine o_t (x_ld k73) ?_
        refine o_t y_bits ?_
        refine o_t x_mv ?_
        refine o_t (x_cv ⟨_, Tryz.underlying2⟩ Tryz.underlying73 (hz := rfl)) ?_
        refine o_t (x_shl (hz := rfl)) ?_
        refine o_t y_bits ?_
        refine o_t y_bits ?_
        refine o_t x_nc ?_
        refine o_t (x_fa f76_0) ?_
        refine o_st k73 ?_
        refine o_nil ?_
        exact w_ret (r_0 rfl ⟨_, _, rfl⟩)
      refine w_skip ?_
      refine w_region ?_
      refine o_t x_mv ?_
      refine o_call Tryz.call149 haa spla (cStrip b w e l) ?_
      rintro _ _ HH ⟨w2, e2, rfl⟩ hHH
      simp only [List.cons_append, List.nil_append, List.append_nil] at hHH; subst hHH
      refine o_nil ?_
      exact ⟨(w2, e2), wka, hka, trivial⟩
    · --
      refine w_skip ?_
      exact ⟨(w, e), wka, hka, trivial⟩
  rintro ⟨w, e⟩ _
  dsimp only
  refine w_seq ?_
  refine w_region ?_
  refine o_t x_mv ?_
  refine o_t x_nc ?_
  refine o_t (x_fa f76_1) ?_
  refine o_t (x_ld k2) ?_
  refine o_t x_mv ?_
  refine o_t (x_add (hz := rfl)) ?_
  refine o_t x_as ?_
  refine o_nil ?_
  refine w_seq ?_
  refine w_region ?_
  refine o_t x_mv ?_
  refine o_t x_mv ?_
  refine o_t x_nc ?_
  refine o_t (x_fa f76_1) ?_
  refine o_t (x_ld k2) ?_
  refine o_t (x_cmp (hr := rfl)) ?_
  refine o_t x_mv ?_
  refine o_t (x_cmp (hr := rfl)) ?_
  refine o_t (x_eqb _ _) ?_
  refine o_nil ?_
  refine w_cond (fun g => rfl) (fun hc => ?_) (fun hc => ?_) -- ('Go.Operand.tmp', 58)
  · --
    refine w_region ?_
    refine o_t x_mv ?_
    refine o_t x_mv ?_
    refine o_t x_nc ?_
    refine o_t (x_fa f76_1) ?_
    refine o_st k2 ?_
    refine o_nil ?_
    exact r_0n rfl ⟨_, _, rfl⟩
  · --
    refine w_seq ?_
    refine w_region ?_
    refine o_t x_mv ?_
    refine o_t (x_cmp (hr := rfl)) ?_
    refine o_nil ?_
    refine w_cond (fun g => rfl) (fun hc => ?_) (fun hc => ?_) -- ('Go.Operand.tmp', 64)
    · --
      refine w_region ?_
      refine o_t x_mv ?_
      refine o_t x_nc ?_
      refine o_t (x_fa f76_1) ?_
      refine o_st k2 ?_
      refine o_nil ?_
      exact r_0n rfl ⟨_, _, rfl⟩
    · --
      refine w_region ?_
      refine o_t x_mv ?_
      refine o_t x_nc ?_
      refine o_t (x_fa f76_1) ?_
      refine o_st k2 ?_
      refine o_nil ?_
      exact r_0n rfl ⟨_, _, rfl⟩
theorem cAdd (w e : Int) (l : Value) (hl : l.oneCell' = true) (z : Int) : Fn P G 143 #[.agg #[.int .u64 w, .int .i64 e, l], .int .i64 z] [] fun v H => tmV v ∧ H = [] := by
  refine fn_intro (args := [_,_]) Tryz.func143 Tryz.ntmps143 rfl ?_
  refine w_seq ?_
  refine w_region ?_
  refine o_bx (fun b2 => ?_)
  refine o_al z76 (fun b4 => ?_)
  refine o_nil ?_
  refine w_seq ?_
  refine w_region ?_
  refine o_t x_mv ?_
  refine o_t (x_quo (hz := rfl)) ?_
  refine o_t x_as ?_
  refine o_nil ?_
  refine w_seq ?_
  refine w_region ?_
  refine o_call Tryz.call142 haa spla (cNsec _ _ _ _) ?_
  rintro _ _ HH ⟨ns, rfl, rfl⟩ hHH
  simp only [List.cons_append, List.nil_append, List.append_nil] at hHH; subst hHH
  refine o_t x_mv ?_
  refine o_t (x_rem (hz := rfl)) ?_
  refine o_t (x_cv ⟨_, Tryz.underlying225⟩ Tryz.underlying21 (hz := rfl)) ?_
  refine o_t (x_add (hz := rfl)) ?_
  refine o_t x_as ?_
  refine o_nil ?_
  refine w_cut (α := Int × Int) (fun x => [(1, .int .i64 z), (2, .pointer (some ⟨b2, 0, none⟩)), (4, .pointer (some ⟨b4, 0, none⟩)), (5, .int .i64 x.1), (6, .int .i32 x.2)]) (fun _ => [tmB b2 w e l, tmB b4 0 0 (.pointer none)]) (fun _ => True) ?_ ?_
  · refine w_seq ?_
    refine w_region ?_
    refine o_t x_mv ?_
    refine o_t (x_cmp (hr := rfl)) ?_
    refine o_nil ?_
    refine w_cond (fun g => rfl) (fun hc => ?_) (fun hc => ?_) -- ('Go.Operand.tmp', 16)
    · --
      refine w_seq ?_
      refine w_region ?_
      refine o_t x_mv ?_
      refine o_t (x_add (hz := rfl)) ?_
      refine o_t x_as ?_
      refine o_nil ?_
      refine w_region ?_
      refine o_t x_mv ?_
      refine o_t (x_sub (hz := rfl)) ?_
      refine o_t x_as ?_
      refine o_nil ?_
      exact ⟨(_, _), .cons (fun _ => rfl) (.cons (fun _ => rfl) (.cons (fun _ => rfl) (.cons (fun _ => rfl) (.cons (fun _ => rfl) (.nil _))))), hka, trivial⟩
    · --
      refine w_seq ?_
      refine w_region ?_
      refine o_t x_mv ?_
      refine o_t (x_cmp (hr := rfl)) ?_
      refine o_nil ?_
      refine w_cond (fun g => rfl) (fun hc => ?_) (fun hc => ?_) -- ('Go.Operand.tmp', 22)
      · --
        refine w_seq ?_
        refine w_region ?_
        refine o_t x_mv ?_
        refine o_t (x_sub (hz := rfl)) ?_
        refine o_t x_as ?_
        refine o_nil ?_
        refine w_region ?_
        refine o_t x_mv ?_
        refine o_t (x_add (hz := rfl)) ?_
        refine o_t x_as ?_
        refine o_nil ?_
        exact ⟨(_, _), .cons (fun _ => rfl) (.cons (fun _ => rfl) (.cons (fun _ => rfl) (.cons (fun _ => rfl) (.cons (fun _ => rfl) (.nil _))))), hka, trivial⟩
      · --
        refine w_skip ?_
        exact ⟨(_, _), .cons (fun _ => rfl) (.cons (fun _ => rfl) (.cons (fun _ => rfl) (.cons (fun _ => rfl) (.cons (fun _ => rfl) (.nil _))))), hka, trivial⟩
  rintro ⟨ds, ns⟩ _
  dsimp only
  refine w_seq ?_
  refine w_region ?_
  refine o_t (x_fa f76_0) ?_
  refine o_t (x_ld k73) ?_
  refine o_t y_bits ?_
  refine o_t x_mv ?_
  refine o_t (x_cv ⟨_, Tryz.underlying21⟩ Tryz.underlying73 (hz := rfl)) ?_
  refine o_t y_bits ?_
  refine o_t (x_fa f76_0) ?_
  refine o_st k73 ?_
  refine o_nil ?_
  refine w_seq ?_
  refine w_region ?_
  refine o_t x_mv ?_
  refine o_call Tryz.call152 haa spla (cAddSec b2 _ _ _ _) ?_
  rintro _ _ HH ⟨w3, e3, rfl⟩ hHH
  simp only [List.cons_append, List.nil_append, List.append_nil] at hHH; subst hHH
  refine o_nil ?_
  refine w_cut (α := Int × Int) (fun x => [(2, .pointer (some ⟨b2, 0, none⟩)), (4, .pointer (some ⟨b4, 0, none⟩))]) (fun x => [tmB b2 x.1 x.2 l, tmB b4 0 0 (.pointer none)]) (fun _ => True) ?_ ?_
  · refine w_seq ?_
    refine w_region ?_
    refine o_t (x_fa f76_0) ?_
    refine o_t (x_ld k73) ?_
    refine o_t y_bits ?_
    refine o_t (x_ne (hr := rfl)) ?_
    refine o_nil ?_
    refine w_cond (fun g => rfl) (fun hc => ?_) (fun hc => ?_) -- ('Go.Operand.tmp', 39)
    · --
      refine w_cut (α := Int) (fun x => [(1, .int .i64 z), (2, .pointer (some ⟨b2, 0, none⟩)), (4, .pointer (some ⟨b4, 0, none⟩)), (7, .int .i64 x)]) (fun _ => [tmB b2 w3 e3 l, tmB b4 0 0 (.pointer none)]) (fun _ => True) ?_ ?_
      · refine w_region ?_
        refine o_t (x_fa f76_1) ?_
        refine o_t (x_ld k2) ?_
        refine o_t x_mv ?_
        refine o_t (x_add (hz := rfl)) ?_
        refine o_t x_as ?_
        refine o_nil ?_
        exact ⟨_, .cons (fun _ => rfl) (.cons (fun _ => rfl) (.cons (fun _ => rfl) (.cons (fun _ => rfl) (.nil _)))), hka, trivial⟩
      rintro te _
      refine w_cut (α := Bool) (fun q => [(2, .pointer (some ⟨b2, 0, none⟩)), (4, .pointer (some ⟨b4, 0, none⟩)), (7, .int .i64 te), (61, .bool q)]) (fun _ => [tmB b2 w3 e3 l, tmB b4 0 0 (.pointer none)]) (fun _ => True) ?_ ?_
      · by_cases h1 : z < 0
        · by_cases h2 : e3 < te
          · refine w_region ?_
            refine o_t x_mv ?_
            refine o_t x_cmp ?_
            refine o_t x_mv ?_
            first | refine o_t (x_g x_mv) ?_ | refine o_t x_gs ?_ | refine o_t x_gu ?_
            first | refine o_t (x_g (x_fa f76_1)) ?_ | refine o_t x_gs ?_ | refine o_t x_gu ?_
            first | refine o_t (x_g (x_ld k2)) ?_ | refine o_t x_gs ?_ | refine o_t x_gu ?_
            first | refine o_t (x_g x_cmp) ?_ | refine o_t x_gs ?_ | refine o_t x_gu ?_
            refine o_t x_pick ?_
            refine o_t x_mv ?_
            first | refine o_t (x_g x_mv) ?_ | refine o_t x_gs ?_ | refine o_t x_gu ?_
            first | refine o_t (x_g x_cmp) ?_ | refine o_t x_gs ?_ | refine o_t x_gu ?_
            first | refine o_t (x_g x_mv) ?_ | refine o_t x_gs ?_ | refine o_t x_gu ?_
            first | refine o_t (x_g x_mv) ?_ | refine o_t x_gs ?_ | refine o_t x_gu ?_
            first | refine o_t (x_g (x_fa f76_1)) ?_ | refine o_t x_gs ?_ | refine o_t x_gu ?_
            first | refine o_t (x_g (x_ld k2)) ?_ | refine o_t x_gs ?_ | refine o_t x_gu ?_
            first | refine o_t (x_g x_cmp) ?_ | refine o_t x_gs ?_ | refine o_t x_gu ?_
            first | refine o_t (x_g x_pick) ?_ | refine o_t x_gs ?_ | refine o_t x_gu ?_
            refine o_t x_pick ?_
            refine o_nil ?_
            exact ⟨true, .cons (fun _ => rfl) (.cons (fun _ => rfl) (.cons (fun _ => rfl) (.cons (fun _ => rfl) (.nil _)))), hka, trivial⟩
          · refine w_region ?_
            refine o_t x_mv ?_
            refine o_t x_cmp ?_
            refine o_t x_mv ?_
            first | refine o_t (x_g x_mv) ?_ | refine o_t x_gs ?_ | refine o_t x_gu ?_
            first | refine o_t (x_g (x_fa f76_1)) ?_ | refine o_t x_gs ?_ | refine o_t x_gu ?_
            first | refine o_t (x_g (x_ld k2)) ?_ | refine o_t x_gs ?_ | refine o_t x_gu ?_
            first | refine o_t (x_g x_cmp) ?_ | refine o_t x_gs ?_ | refine o_t x_gu ?_
            refine o_t x_pick ?_
            refine o_t x_mv ?_
            first | refine o_t (x_g x_mv) ?_ | refine o_t x_gs ?_ | refine o_t x_gu ?_
            first | refine o_t (x_g x_cmp) ?_ | refine o_t x_gs ?_ | refine o_t x_gu ?_
            first | refine o_t (x_g x_mv) ?_ | refine o_t x_gs ?_ | refine o_t x_gu ?_
            first | refine o_t (x_g x_mv) ?_ | refine o_t x_gs ?_ | refine o_t x_gu ?_
            first | refine o_t (x_g (x_fa f76_1)) ?_ | refine o_t x_gs ?_ | refine o_t x_gu ?_
            first | refine o_t (x_g (x_ld k2)) ?_ | refine o_t x_gs ?_ | refine o_t x_gu ?_
            first | refine o_t (x_g x_cmp) ?_ | refine o_t x_gs ?_ | refine o_t x_gu ?_
            first | refine o_t (x_g x_pick) ?_ | refine o_t x_gs ?_ | refine o_t x_gu ?_
            refine o_t x_pick ?_
            refine o_nil ?_
            exact ⟨false, .cons (fun _ => rfl) (.cons (fun _ => rfl) (.cons (fun _ => rfl) (.cons (fun _ => rfl) (.nil _)))), hka, trivial⟩
        · by_cases h2 : 0 < z
          · refine w_region ?_
            refine o_t x_mv ?_
            refine o_t x_cmp ?_
            refine o_t x_mv ?_
            first | refine o_t (x_g x_mv) ?_ | refine o_t x_gs ?_ | refine o_t x_gu ?_
            first | refine o_t (x_g (x_fa f76_1)) ?_ | refine o_t x_gs ?_ | refine o_t x_gu ?_
            first | refine o_t (x_g (x_ld k2)) ?_ | refine o_t x_gs ?_ | refine o_t x_gu ?_
            first | refine o_t (x_g x_cmp) ?_ | refine o_t x_gs ?_ | refine o_t x_gu ?_
            refine o_t x_pick ?_
            refine o_t x_mv ?_
            first | refine o_t (x_g x_mv) ?_ | refine o_t x_gs ?_ | refine o_t x_gu ?_
            first | refine o_t (x_g x_cmp) ?_ | refine o_t x_gs ?_ | refine o_t x_gu ?_
            first | refine o_t (x_g x_mv) ?_ | refine o_t x_gs ?_ | refine o_t x_gu ?_
            first | refine o_t (x_g x_mv) ?_ | refine o_t x_gs ?_ | refine o_t x_gu ?_
            first | refine o_t (x_g (x_fa f76_1)) ?_ | refine o_t x_gs ?_ | refine o_t x_gu ?_
            first | refine o_t (x_g (x_ld k2)) ?_ | refine o_t x_gs ?_ | refine o_t x_gu ?_
            first | refine o_t (x_g x_cmp) ?_ | refine o_t x_gs ?_ | refine o_t x_gu ?_
            first | refine o_t (x_g x_pick) ?_ | refine o_t x_gs ?_ | refine o_t x_gu ?_
            refine o_t x_pick ?_
            refine o_nil ?_
            exact ⟨_, .cons (fun _ => rfl) (.cons (fun _ => rfl) (.cons (fun _ => rfl) (.cons (fun _ => rfl) (.nil _)))), hka, trivial⟩
          · refine w_region ?_
            refine o_t x_mv ?_
            refine o_t x_cmp ?_
            refine o_t x_mv ?_
            first | refine o_t (x_g x_mv) ?_ | refine o_t x_gs ?_ | refine o_t x_gu ?_
            first | refine o_t (x_g (x_fa f76_1)) ?_ | refine o_t x_gs ?_ | refine o_t x_gu ?_
            first | refine o_t (x_g (x_ld k2)) ?_ | refine o_t x_gs ?_ | refine o_t x_gu ?_
            first | refine o_t (x_g x_cmp) ?_ | refine o_t x_gs ?_ | refine o_t x_gu ?_
            refine o_t x_pick ?_
            refine o_t x_mv ?_
            first | refine o_t (x_g x_mv) ?_ | refine o_t x_gs ?_ | refine o_t x_gu ?_
            first | refine o_t (x_g x_cmp) ?_ | refine o_t x_gs ?_ | refine o_t x_gu ?_
            first | refine o_t (x_g x_mv) ?_ | refine o_t x_gs ?_ | refine o_t x_gu ?_
            first | refine o_t (x_g x_mv) ?_ | refine o_t x_gs ?_ | refine o_t x_gu ?_
            first | refine o_t (x_g (x_fa f76_1)) ?_ | refine o_t x_gs ?_ | refine o_t x_gu ?_
            first | refine o_t (x_g (x_ld k2)) ?_ | refine o_t x_gs ?_ | refine o_t x_gu ?_
            first | refine o_t (x_g x_cmp) ?_ | refine o_t x_gs ?_ | refine o_t x_gu ?_
            first | refine o_t (x_g x_pick) ?_ | refine o_t x_gs ?_ | refine o_t x_gu ?_
            refine o_t x_pick ?_
            refine o_nil ?_
            exact ⟨false, .cons (fun _ => rfl) (.cons (fun _ => rfl) (.cons (fun _ => rfl) (.cons (fun _ => rfl) (.nil _)))), hka, trivial⟩
      rintro q _
      refine w_cond (t := q) (fun g => rfl) (fun hc => ?_) (fun hc => ?_) -- ('Go.Operand.tmp', 61)
      · --
        refine w_region ?_
        refine o_call Tryz.call149 haa spla (cStrip b2 _ _ _) ?_
        rintro _ _ HH ⟨w4, e4, rfl⟩ hHH
        simp only [List.cons_append, List.nil_append, List.append_nil] at hHH; subst hHH
        refine o_nil ?_
        exact ⟨(w4, e4), wka, hka, trivial⟩
      · --
        refine w_region ?_
        refine o_t x_mv ?_
        refine o_t (x_fa f76_1) ?_
        refine o_st k2 ?_
        refine o_nil ?_
        exact ⟨(w3, te), wka, hka, trivial⟩
    · --
      refine w_skip ?_
      exact ⟨(w3, e3), wka, hka, trivial⟩
  rintro ⟨w3, e3⟩ _
  dsimp only
  refine w_seq ?_
  refine w_region ?_
  refine o_t (x_lda g76) ?_
  refine o_sta g76 ?_ (h1 := by intro u hu; simp only [List.mem_cons, List.not_mem_nil, or_false] at hu; rcases hu with rfl | rfl | rfl <;> first | rfl | assumption)
  refine o_nil ?_
  refine w_ret (r_cell rfl g76 ⟨⟨w3, e3, l, hl, rfl⟩, rfl⟩)
theorem cSub (w1 e1 : Int) (l1 : Value) (h1 : l1.oneCell' = true) (w2 e2 : Int) (l2 : Value) (h2 : l2.oneCell' = true) : Fn P G 114 #[.agg #[.int .u64 w1, .int .i64 e1, l1], .agg #[.int .u64 w2, .int .i64 e2, l2]] [] fun v H => ∃ z, v = .int .i64 z ∧ H = [] := by
  refine fn_intro (args := [_,_]) Tryz.func114 Tryz.ntmps114 rfl ?_
  refine w_seq ?_
  refine w_region ?_
  refine o_bx (fun b2 => ?_)
  refine o_bx (fun b3 => ?_)
  refine o_t x_as ?_
  refine o_nil ?_
  refine w_seq ?_
  refine w_seq ?_
  refine w_region ?_
  refine o_t (x_fa f76_0) ?_
  refine o_t (x_ld k73) ?_
  refine o_t (x_fa f76_0) ?_
  refine o_t (x_ld k73) ?_
  refine o_t y_bits ?_
  refine o_t y_bits ?_
  refine o_t (x_ne (hr := rfl)) ?_
  refine o_nil ?_
  refine w_cond (fun g => rfl) (fun hc => ?_) (fun hc => ?_) -- ('Go.Operand.tmp', 12)
  · --
    refine w_seq ?_
    refine w_region ?_
    refine o_t (x_fa f76_1) ?_
    refine o_t (x_ld k2) ?_
    refine o_t (x_fa f76_1) ?_
    refine o_t (x_ld k2) ?_
    refine o_call Tryz.call141 haa spla (cSubMono _ _) ?_
    rintro _ _ HH ⟨z, rfl, rfl⟩ hHH
    simp only [List.cons_append, List.nil_append, List.append_nil] at hHH; subst hHH
    refine o_t x_as ?_
    refine o_nil ?_
    refine w_ret (r_1 rfl ⟨_, rfl, rfl⟩)
  refine w_skip ?_
  refine w_seq ?_
  refine w_region ?_
  refine o_call Tryz.call125 haa spla (cSec b2 _ _ _) ?_
  rintro _ _ HH ⟨z1, rfl, rfl⟩ hHH
  simp only [List.cons_append, List.nil_append, List.append_nil] at hHH; subst hHH
  refine o_call Tryz.call125 haa spla (cSec b3 _ _ _) ?_
  rintro _ _ HH ⟨z2, rfl, rfl⟩ hHH
  simp only [List.cons_append, List.nil_append, List.append_nil] at hHH; subst hHH
  refine o_t (x_sub (hz := rfl)) ?_
  refine o_t (x_mul (hz := rfl)) ?_
  refine o_call Tryz.call142 haa spla (cNsec b2 _ _ _) ?_
  rintro _ _ HH ⟨z3, rfl, rfl⟩ hHH
  simp only [List.cons_append, List.nil_append, List.append_nil] at hHH; subst hHH
  refine o_call Tryz.call142 haa spla (cNsec b3 _ _ _) ?_
  rintro _ _ HH ⟨z4, rfl, rfl⟩ hHH
  simp only [List.cons_append, List.nil_append, List.append_nil] at hHH; subst hHH
  refine o_t (x_sub (hz := rfl)) ?_
  refine o_t (x_cv ⟨_, Tryz.underlying21⟩ Tryz.underlying225 (hz := rfl)) ?_
  refine o_t (x_add (hz := rfl)) ?_
  refine o_t x_as ?_
  refine o_nil ?_
  refine w_block ?_ -- 0
  refine w_seq ?_
  refine w_draw mixed ?_
  refine a_seg (k := 4) _ [(1, 0), (1, 1), (1, 3), (0, 2)] (by kernel_rfl) hka ?_
  refine h_t rfl (x_lda g76) ?_
  refine h_t rfl x_mv ?_
  refine h_t rfl (x_lda g76) ?_
  refine h_one rfl (fun Q' hQ => ?_)
  refine o_call Tryz.call143 haa spla (cAdd _ _ _ h2 _) ?_
  rintro _ _ HH ⟨⟨w4, e4, l4, h4, rfl⟩, rfl⟩ hHH
  simp only [List.cons_append, List.nil_append, List.append_nil] at hHH; subst hHH
  refine o_nil (hQ _ _ (h_keep ?_))
  refine h_end ?_
  refine a_seg (k := 5) _ [(0, 4)] (by kernel_rfl) hwk_nil ?_
  refine h_one rfl (fun Q' hQ => ?_)
  refine o_call Tryz.call144 haa spla (cEqual _ _ _ h4 _ _ _ h1) ?_
  rintro _ _ HH ⟨q, rfl, rfl⟩ hHH
  simp only [List.cons_append, List.nil_append, List.append_nil] at hHH; subst hHH
  refine o_nil (hQ _ _ (h_keep ?_))
  refine h_end ?_
  refine a_seg (k := 6) _ [(1, 5)] (by kernel_rfl) (HWk.refl _) ?_
  refine h_t rfl x_as ?_
  refine h_end ?_
  refine a_done rfl ?_
  refine w_cond (t := q) (fun g => rfl) (fun hc => ?_) (fun hc => ?_) -- ('Go.Operand.tmp', 27)
  · --
    refine w_seq ?_
    refine w_region ?_
    refine o_t x_mv ?_
    refine o_t x_as ?_
    refine o_nil ?_
    refine w_ret (r_1 rfl ⟨_, rfl, rfl⟩)
  · --
    refine w_seq ?_
    refine w_region ?_
    refine o_t (x_lda g76) ?_
    refine o_t (x_lda g76) ?_
    refine o_call Tryz.call145 haa spla (cBefore _ _ _ h1 _ _ _ h2) ?_
    rintro _ _ HH ⟨q2, rfl, rfl⟩ hHH
    simp only [List.cons_append, List.nil_append, List.append_nil] at hHH; subst hHH
    refine o_t x_as ?_
    refine o_nil ?_
    refine w_cond (t := q2) (fun g => rfl) (fun hc => ?_) (fun hc => ?_) -- ('Go.Operand.tmp', 34)
    · --
      refine w_seq ?_
      refine w_region ?_
      refine o_t x_as ?_
      refine o_nil ?_
      refine w_ret (r_1 rfl ⟨_, rfl, rfl⟩)
    · --
      refine w_seq ?_
      refine w_region ?_
      refine o_t x_as ?_
      refine o_nil ?_
      refine w_ret (r_1 rfl ⟨_, rfl, rfl⟩)
theorem cFixedZone (nm : ByteArray) (off : Int) : Fn P G 151 #[.string nm, .int .i64 off] [] fun v H => ∃ lb u nm z t x s e q, v = .pointer (some ⟨lb, 0, none⟩) ∧ H = [locB lb u nm z t x s e q] := by
  refine fn_intro (args := [_,_]) Tryz.func151 Tryz.ntmps151 rfl ?_
  refine w_seq ?_
  refine w_region ?_
  refine o_t x_as ?_
  refine o_nil ?_
  refine w_seq ?_
  refine w_region ?_
  refine o_t x_mv ?_
  refine o_t x_mv ?_
  refine o_t x_mv ?_
  refine o_t (x_bd hla bd283_0_1_2) ?_
  refine o_bs1 Tryz.underlying267 z283 (fun b10 => ?_)
  refine o_t (x_bd hla bd293_0_1_2_3) ?_
  refine o_bs1 Tryz.underlying268 z293 (fun b12 => ?_)
  refine o_t (x_bd hla bd271_1_2_3_5_6) ?_
  refine o_bx (fun b14 => ?_)
  refine o_t x_as ?_
  refine o_nil ?_
  refine w_seq ?_
  refine w_region ?_
  refine o_t x_mv ?_
  refine o_t x_mv ?_
  refine o_t x_nc ?_
  refine o_t (x_fa f271_2) ?_
  refine o_t (x_ld k267) ?_
  refine o_t (x_ia Tryz.underlying267 e267) ?_
  refine o_t x_nc ?_
  refine o_t (x_fa f271_7) ?_
  refine o_st k269 ?_
  refine o_nil ?_
  refine w_seq ?_
  refine w_region ?_
  refine o_t x_mv ?_
  refine o_t x_as ?_
  refine o_nil ?_
  refine w_ret (r_1 rfl ⟨_, _, _, _, _, _, _, _, _, rfl, rfl⟩)
theorem cFixedZone' (nm : ByteArray) (off : Int) : Fn P G 140 #[.string nm, .int .i64 off] [] fun v H => ∃ lb u nm z t x s e q, v = .pointer (some ⟨lb, 0, none⟩) ∧ H = [locB lb u nm z t x s e q] := by
  refine fn_intro (args := [_,_]) Tryz.func140 Tryz.ntmps140 rfl ?_
  refine w_seq ?_
  refine w_region ?_
  refine o_t x_as ?_
  refine o_nil ?_
  refine w_seq ?_
  refine w_region ?_
  refine o_t x_mv ?_
  refine o_t x_mv ?_
  refine o_call Tryz.call151 haa spla (cFixedZone nm off) ?_
  rintro _ _ HH ⟨lb, u, nm2, z, t, x, s, e, q, rfl, rfl⟩ hHH
  simp only [List.cons_append, List.nil_append, List.append_nil] at hHH; subst hHH
  refine o_t x_as ?_
  refine o_nil ?_
  refine w_ret (r_1 rfl ⟨_, _, _, _, _, _, _, _, _, rfl, rfl⟩)
theorem cTimeZone (a : Int) : Fn P G 113 #[.int .i64 a] [] fun v H => ∃ lb u nm z t x s e q, v = .pointer (some ⟨lb, 0, none⟩) ∧ H = [locB lb u nm z t x s e q] := by
  refine fn_intro (args := [_]) Tryz.func113 Tryz.ntmps113 rfl ?_
  refine w_seq ?_
  refine w_region ?_
  refine o_t x_as ?_
  refine o_nil ?_
  refine w_seq ?_
  refine w_region ?_
  refine o_t x_mv ?_
  refine o_call Tryz.call139 haa spla (cRound _ _ (by decide)) ?_
  rintro _ _ HH ⟨r, rfl, rfl⟩ hHH
  simp only [List.cons_append, List.nil_append, List.append_nil] at hHH; subst hHH
  refine o_t x_as ?_
  refine o_nil ?_
  refine w_cut (α := Int) (fun x => [(0, .int .i64 x)]) (fun _ => []) (fun _ => True) ?_ ?_
  · refine w_cut (α := Bool) (fun q => [(0, .int .i64 r), (10, .bool q)]) (fun _ => []) (fun _ => True) ?_ ?_
    · by_cases h : r < -43200000000000
      · refine w_region ?_
        refine o_t x_mv ?_
        refine o_t x_cmp ?_
        refine o_t x_mv ?_
        first | refine o_t (x_g x_mv) ?_ | refine o_t x_gs ?_ | refine o_t x_gu ?_
        first | refine o_t (x_g x_cmp) ?_ | refine o_t x_gs ?_ | refine o_t x_gu ?_
        refine o_t x_pick ?_
        refine o_nil ?_
        exact ⟨true, .cons (fun _ => rfl) (.cons (fun _ => rfl) (.nil _)), hka, trivial⟩
      · refine w_region ?_
        refine o_t x_mv ?_
        refine o_t x_cmp ?_
        refine o_t x_mv ?_
        first | refine o_t (x_g x_mv) ?_ | refine o_t x_gs ?_ | refine o_t x_gu ?_
        first | refine o_t (x_g x_cmp) ?_ | refine o_t x_gs ?_ | refine o_t x_gu ?_
        refine o_t x_pick ?_
        refine o_nil ?_
        exact ⟨_, .cons (fun _ => rfl) (.cons (fun _ => rfl) (.nil _)), hka, trivial⟩
    rintro q _
    refine w_cond (t := q) (fun g => rfl) (fun hc => ?_) (fun hc => ?_)
    · refine w_region ?_
      refine o_t x_as ?_
      refine o_nil ?_
      exact ⟨0, .cons (fun _ => rfl) (.nil _), hka, trivial⟩
    · refine w_skip ?_
      exact ⟨r, .cons (fun _ => rfl) (.nil _), hka, trivial⟩
  rintro x _
  refine w_seq ?_
  refine w_region ?_
  refine o_t x_mv ?_
  refine o_t (x_quo (hz := rfl)) ?_
  refine o_call Tryz.call140 haa spla (cFixedZone' _ _) ?_
  rintro _ _ HH ⟨lb, u, nm2, z, t, x, s, e, q, rfl, rfl⟩ hHH
  simp only [List.cons_append, List.nil_append, List.append_nil] at hHH; subst hHH
  refine o_t x_as ?_
  refine o_nil ?_
  refine w_ret (r_1 rfl ⟨_, _, _, _, _, _, _, _, _, rfl, rfl⟩)
end Go.Proofs.YtlmefkhglooepaaGreatDoor
namespace Go.Proofs.YtlmefkhglooepaaGreatDoor
open Go
set_option linter.unusedSimpArgs false
set_option linter.unusedVariables false
variable {G : Nat → Option Obj} {ea : Nat → Addr}
theorem or_mul (x y k : Nat) (h : y < 2 ^ k) : x * 2 ^ k ||| y = x * 2 ^ k + y := by
  have := Nat.shiftLeft_add_eq_or_of_lt h x
  rw [Nat.shiftLeft_eq] at this; exact this.symm
theorem and31 (a : Nat) : a &&& 31 = a % 32 := Nat.and_two_pow_sub_one_eq_mod a 5
theorem and15 (a : Nat) : a &&& 15 = a % 16 := Nat.and_two_pow_sub_one_eq_mod a 4
theorem and7 (a : Nat) : a &&& 7 = a % 8 := Nat.and_two_pow_sub_one_eq_mod a 3
theorem and63 (a : Nat) : a &&& 63 = a % 64 := Nat.and_two_pow_sub_one_eq_mod a 6
theorem val2 (a b : Nat) : ((a &&& 31) * 64 ||| (b &&& 63)) = a % 32 * 64 + b % 64 := by
  rw [and31, and63]; exact or_mul _ _ 6 (by omega)
theorem val3 (a b c : Nat) : (((a &&& 15) * 4096 ||| (b &&& 63) * 64) ||| (c &&& 63)) = a % 16 * 4096 + b % 64 * 64 + c % 64 := by
  rw [and15, and63, and63, or_mul _ _ 12 (by omega), show a % 16 * 2 ^ 12 + b % 64 * 64 = (a % 16 * 64 + b % 64) * 2 ^ 6 by omega, or_mul _ _ 6 (by omega)]
theorem val4 (a b c d : Nat) : ((((a &&& 7) * 262144 ||| (b &&& 63) * 4096) ||| (c &&& 63) * 64) ||| (d &&& 63)) = a % 8 * 262144 + b % 64 * 4096 + c % 64 * 64 + d % 64 := by
  rw [and7, and63, and63, and63, or_mul _ _ 18 (by omega), show a % 8 * 2 ^ 18 + b % 64 * 4096 = (a % 8 * 64 + b % 64) * 2 ^ 12 by omega, or_mul _ _ 12 (by omega),
    show (a % 8 * 64 + b % 64) * 2 ^ 12 + c % 64 * 64 = ((a % 8 * 64 + b % 64) * 64 + c % 64) * 2 ^ 6 by omega, or_mul _ _ 6 (by omega)]
/-- The class of a first byte: how many bytes, and between what the second one lies. -/
structure Cls (a sz i : Nat) : Prop where
  tab : fstT a = sz + 16 * i
  which : (sz = 2 ∧ i = 0 ∧ 194 ≤ a ∧ a ≤ 223) ∨ (sz = 3 ∧ i = 1 ∧ a = 224) ∨ (sz = 3 ∧ i = 0 ∧ 225 ≤ a ∧ a ≤ 239 ∧ a ≠ 237) ∨ (sz = 3 ∧ i = 2 ∧ a = 237) ∨ (sz = 4 ∧ i = 3 ∧ a = 240) ∨ (sz = 4 ∧ i = 0 ∧ 241 ≤ a ∧ a ≤ 243) ∨ (sz = 4 ∧ i = 4 ∧ a = 244)
theorem cls {a : Nat} (h : 194 ≤ a) (h' : a ≤ 244) : ∃ sz i, Cls a sz i := by
  by_cases c1 : a ≤ 223
  · exact ⟨2, 0, by simp only [fstT]; rw [if_neg (by omega), if_neg (by omega), if_pos (by omega)], by omega⟩
  · by_cases c2 : a = 224
    · exact ⟨3, 1, by rw [c2]; rfl, by omega⟩
    · by_cases c3 : a = 237
      · exact ⟨3, 2, by rw [c3]; rfl, by omega⟩
      · by_cases c4 : a ≤ 239
        · exact ⟨3, 0, by simp only [fstT]; rw [if_neg (by omega), if_neg (by omega), if_neg (by omega), if_neg (by omega), if_neg (by omega), if_pos (by omega)], by omega⟩
        · by_cases c5 : a = 240
          · exact ⟨4, 3, by rw [c5]; rfl, by omega⟩
          · by_cases c6 : a = 244
            · exact ⟨4, 4, by rw [c6]; rfl, by omega⟩
            · exact ⟨4, 0, by simp only [fstT]; rw [if_neg (by omega), if_neg (by omega), if_neg (by omega), if_neg (by omega), if_neg (by omega), if_neg (by omega), if_neg (by omega), if_pos (by omega)], by omega⟩
section
variable {n : Nat} {G : Nat → Option Obj} {ops : Array Oper} {L : Loc} {H : List Res}
variable {d : Nat} {x y : Operand} {ty t t' : TypeId} {p : String} {e : Array Edge} {k : IntKind}
theorem x_am {a : Nat} (j : Nat) (hx : ∀ g, evl L g x = .int k (a : Nat) := by intro g; rfl) (hy : ∀ g, evl L g y = .int k ((2 ^ j - 1 : Nat) : Int) := by intro g; rfl)
    (hf : a < 2 ^ k.bits ∧ (k.signed = true → a < 2 ^ (k.bits - 1)) := by exact ⟨by simp only [IntKind.bits]; omega, by simp [IntKind.signed, IntKind.bits]⟩) (hf2 : fitB k (2 ^ j - 1) := by exact ⟨by decide, by decide⟩) (hn : d < n := by decide) :
    Ex P n G ops L H ⟨some d, .binOp .and t x y t', ty, p, e, none⟩ d (.int k ((a % 2 ^ j : Nat) : Int)) :=
  Ex.cast (congrArg (Value.int k) (by simp only [Int.toNat_natCast]; rw [Nat.and_two_pow_sub_one_eq_mod])) (x_and hx hy ⟨by omega, by simpa [fitB] using hf⟩ ⟨by omega, by simpa using hf2⟩ hn)
theorem x_om {A B z : Int} {p' q : Nat} (j : Nat) (hx : ∀ g, evl L g x = .int k A) (hy : ∀ g, evl L g y = .int k B) (hA : A = ((p' * 2 ^ j : Nat) : Int)) (hB : B = (q : Int)) (hq : q < 2 ^ j) (hf : fitB k (p' * 2 ^ j + q)) (hz : ((p' * 2 ^ j + q : Nat) : Int) = z)
    (hn : d < n := by decide) :
    Ex P n G ops L H ⟨some d, .binOp .or t x y t', ty, p, e, none⟩ d (.int k z) := by
  subst hA; subst hB; subst hz
  refine Ex.cast (congrArg (Value.int k) (by simp only [Int.toNat_natCast]; rw [or_mul _ _ _ hq])) (x_or hx hy ⟨by omega, ?_⟩ ⟨by omega, ?_⟩ hn)
  · simp only [Int.toNat_natCast]; exact ⟨by have := hf.1; omega, fun h => by have := hf.2 h; omega⟩
  · simp only [Int.toNat_natCast]; exact ⟨by have := hf.1; omega, fun h => by have := hf.2 h; omega⟩
theorem fit32 {m : Nat} (h : m < 2147483648) : fitB .i32 m := ⟨by simp only [IntKind.bits]; omega, fun _ => by simp only [IntKind.bits]; omega⟩
theorem andnot_ones (a : Int) : bitsW .andNot .i32 a (-1) = 0 := by
  have this : ~~~ (BitVec.ofInt 32 (-1)) = 0#32 := by decide
  have e : (BitVec.ofInt 32 a &&& ~~~ (BitVec.ofInt 32 (-1))) = 0#32 := by rw [this, BitVec.and_zero]
  show IntKind.wrap .i32 ((BitVec.ofInt 32 a &&& ~~~ BitVec.ofInt 32 (-1)).toNat : Int) = 0
  rw [e]; rfl
end
def decSz (s : List UInt8) : Nat := if rune1T s = 0 then 1 else rune1T s
def DecR (s : List UInt8) (a : Nat) (v : Value) : Prop := ∃ r : Int, v = .tuple #[.int .i32 r, .int .i64 (decSz s)] ∧ DecOK s a r
theorem decR0 {s : List UInt8} {a : Nat} (h : rune1T s = 0) : DecR s a (.tuple #[.int .i32 65533, .int .i64 1]) :=
  ⟨65533, by simp [decSz, h], fun _ => rfl, fun h' => by omega, fun h' => by omega⟩
theorem decRn {s : List UInt8} {a m : Nat} {r : Int} (h : rune1T s = m) (hm : 1 < m) (hr : 128 ≤ r ∧ r ≤ 1114111 ∧ ¬ (55296 ≤ r ∧ r ≤ 57343)) : DecR s a (.tuple #[.int .i32 r, .int .i64 m]) :=
  ⟨r, by rw [decSz, if_neg (by omega), h], fun h' => by omega, fun h' => by omega, fun _ => hr⟩
theorem two_get {u1 u2 : Value} {cs : Array Value} {m : Nat} (h1 : cs[m]? = some u1) (h2 : cs[m + 1]? = some u2) : ∀ j v, [u1, u2][j]? = some v → cs[m + j]? = some v
  | 0, v, h => by simp at h; subst h; exact h1
  | 1, v, h => by simp at h; subst h; exact h2
  | j + 2, v, h => by simp at h
theorem cDecBad (gl : Glob G ea) (a : UInt8) (t : List UInt8) (ha : 128 ≤ a.toNat) (hb : a.toNat < 194 ∨ 244 < a.toNat) (hl : t.length < 4611686018427387904) :
    Fn P G 117 #[.string (str (a :: t))] [] fun v H => DecR (a :: t) a.toNat v ∧ H = [] := by
  have hr := runeBad (t := t) ha hb
  have ha8 := a.toNat_lt
  obtain ⟨cs, T, fz, hG, hf⟩ := gl.first
  have hfa := hf a.toNat ha8
  rw [show fstT a.toNat = 241 by simp only [fstT]; rcases hb with h | h <;> (repeat' split) <;> omega] at hfa
  obtain ⟨s, hs⟩ : ∃ s, a :: t = s := ⟨_, rfl⟩
  have hsl : s.length = t.length + 1 := by rw [← hs]; rfl
  have h0 : s[0]? = some a := by rw [← hs]; rfl
  rw [hs] at hr ⊢
  refine fn_intro (args := [_]) Tryz.func117 Tryz.ntmps117 rfl ?_
  refine w_seq ?_
  refine w_region ?_
  refine o_t x_as ?_
  refine o_t x_as ?_
  refine o_nil ?_
  refine w_seq ?_
  refine w_region ?_
  refine o_t x_mv ?_
  refine o_t (x_lens Tryz.underlying9) ?_
  refine o_t x_as ?_
  refine o_nil ?_
  refine w_seq ?_
  refine w_seq ?_
  refine w_region ?_
  refine o_t x_mv ?_
  refine o_t x_cmp ?_
  refine o_nil ?_
  refine w_cond (t := false) (fun g => rfl) (fun hc => ?_) (fun hc => ?_) -- ('Go.Operand.tmp', 16)
  · cases hc
  refine w_skip ?_
  refine w_seq ?_
  refine w_region ?_
  refine o_t x_mv ?_
  refine o_t (x_ixs (j := 0) Tryz.underlying9 h0) ?_
  refine o_t x_as ?_
  refine o_nil ?_
  refine w_seq ?_
  refine w_region ?_
  refine o_t x_mv ?_
  refine o_t (x_iaa (m := a.toNat) Tryz.underlying278 e278 (hm := by omega)) ?_
  refine o_t (x_ldG (i := a.toNat) k5 hG hfa (fun g => rfl)) ?_
  refine o_t x_as ?_
  refine o_nil ?_
  refine w_seq ?_
  refine w_seq ?_
  refine w_region ?_
  refine o_t x_mv ?_
  refine o_t x_cmp ?_
  refine o_nil ?_
  refine w_cond (t := true) (fun g => rfl) (fun hc => ?_) (fun hc => ?_) -- ('Go.Operand.tmp', 23)
  · --
    refine w_seq ?_
    refine w_region ?_
    refine o_t x_mv ?_
    refine o_t (x_cv ⟨_, Tryz.underlying5⟩ Tryz.underlying21) ?_
    refine o_t (x_shl (z := -2147483648) (hz := by rfl)) ?_
    refine o_t (x_p (v := .int .i32 (-1)) (by intro g w; rfl)) ?_
    refine o_t x_as ?_
    refine o_nil ?_
    refine w_seq ?_
    refine w_region ?_
    refine o_t x_mv ?_
    refine o_t (x_ixs (j := 0) Tryz.underlying9 h0) ?_
    refine o_t (x_cv ⟨_, Tryz.underlying5⟩ Tryz.underlying21) ?_
    refine o_t x_mv ?_
    refine o_t (Ex.cast (congrArg (Value.int .i32) (andnot_ones _)) y_bits) ?_
    refine o_t x_mv ?_
    refine o_t (x_p (v := .int .i32 65533) (by intro g w; rfl)) ?_
    refine o_t (x_p (v := .int .i32 65533) (by intro g w; rfl)) ?_
    refine o_t x_as ?_
    refine o_t x_as ?_
    refine o_nil ?_
    refine w_ret (r_2 rfl ⟨decR0 hr, rfl⟩)
  · cases hc
theorem cls_lo {a sz i : Nat} (h : Cls a sz i) : accLo i = (if a = 224 then 160 else if a = 240 then 144 else 128) ∧ accHi i = (if a = 237 then 159 else if a = 244 then 143 else 191) := by
  rcases h.which with ⟨rfl, rfl, h1, h2⟩ | ⟨rfl, rfl, rfl⟩ | ⟨rfl, rfl, h1, h2, h3⟩ | ⟨rfl, rfl, rfl⟩ | ⟨rfl, rfl, rfl⟩ | ⟨rfl, rfl, h1, h2⟩ | ⟨rfl, rfl, rfl⟩ <;> simp only [accLo, accHi] <;> constructor <;> (repeat' split) <;> omega
theorem cls_head {a sz i : Nat} (h : Cls a sz i) : ∃ c low, headR a = some (sz, c, low) := by
  rcases h.which with ⟨rfl, rfl, h1, h2⟩ | ⟨rfl, rfl, rfl⟩ | ⟨rfl, rfl, h1, h2, h3⟩ | ⟨rfl, rfl, rfl⟩ | ⟨rfl, rfl, rfl⟩ | ⟨rfl, rfl, h1, h2⟩ | ⟨rfl, rfl, rfl⟩ <;> simp only [headR] <;> (repeat' split) <;> first | exact ⟨_, _, rfl⟩ | omega
theorem rune_sz2 {a b : UInt8} {t : List UInt8} {sz i : Nat} (h : Cls a.toNat sz i) (hs : sz = 2) : rune1T (a :: b :: t) = if accLo i ≤ b.toNat ∧ b.toNat ≤ accHi i then 2 else 0 := by
  rcases h.which with h | h | h | h | h | h | h <;> first | omega | skip
  obtain ⟨_, rfl, h1, h2⟩ := h
  rw [rune2 h1 h2]; rfl
theorem rune_sz3 {a b c : UInt8} {t : List UInt8} {sz i : Nat} (h : Cls a.toNat sz i) (hs : sz = 3) : rune1T (a :: b :: c :: t) = if (accLo i ≤ b.toNat ∧ b.toNat ≤ accHi i) ∧ 128 ≤ c.toNat ∧ c.toNat ≤ 191 then 3 else 0 := by
  obtain ⟨e1, e2⟩ := cls_lo h
  have h3 : 224 ≤ a.toNat ∧ a.toNat ≤ 239 := by rcases h.which with h | h | h | h | h | h | h <;> omega
  rw [rune3 h3.1 h3.2, e1, e2, if_neg (show ¬ a.toNat = 240 by omega), if_neg (show ¬ a.toNat = 244 by omega)]
theorem rune_sz4 {a b c d : UInt8} {t : List UInt8} {sz i : Nat} (h : Cls a.toNat sz i) (hs : sz = 4) : rune1T (a :: b :: c :: d :: t) = if (accLo i ≤ b.toNat ∧ b.toNat ≤ accHi i) ∧ (128 ≤ c.toNat ∧ c.toNat ≤ 191) ∧ 128 ≤ d.toNat ∧ d.toNat ≤ 191 then 4 else 0 := by
  obtain ⟨e1, e2⟩ := cls_lo h
  have h3 : 240 ≤ a.toNat ∧ a.toNat ≤ 244 := by rcases h.which with h | h | h | h | h | h | h <;> omega
  rw [rune4 h3.1 h3.2, e1, e2, if_neg (show ¬ a.toNat = 224 by omega), if_neg (show ¬ a.toNat = 237 by omega)]
theorem rune_bad2 {a b : UInt8} {t : List UInt8} {sz i : Nat} (h : Cls a.toNat sz i) (hl : sz ≤ t.length + 2) (hb : ¬ (accLo i ≤ b.toNat ∧ b.toNat ≤ accHi i)) : rune1T (a :: b :: t) = 0 := by
  have hz : sz = 2 ∨ sz = 3 ∨ sz = 4 := by rcases h.which with h | h | h | h | h | h | h <;> omega
  rcases hz with rfl | rfl | rfl
  · rw [rune_sz2 h rfl, if_neg hb]
  · match t with
    | [] => simp at hl
    | c :: t => rw [rune_sz3 h rfl, if_neg (fun x => hb x.1)]
  · match t with
    | [] => simp at hl
    | [c] => simp at hl
    | c :: d :: t => rw [rune_sz4 h rfl, if_neg (fun x => hb x.1)]
theorem rune_bad3 {a b c : UInt8} {t : List UInt8} {sz i : Nat} (h : Cls a.toNat sz i) (h3 : 3 ≤ sz) (hl : sz ≤ t.length + 3) (hb : ¬ (128 ≤ c.toNat ∧ c.toNat ≤ 191)) : rune1T (a :: b :: c :: t) = 0 := by
  have hz : sz = 3 ∨ sz = 4 := by rcases h.which with h | h | h | h | h | h | h <;> omega
  rcases hz with rfl | rfl
  · rw [rune_sz3 h rfl, if_neg (fun x => hb x.2)]
  · match t with
    | [] => simp at hl
    | d :: t => rw [rune_sz4 h rfl, if_neg (fun x => hb x.2.1)]
theorem cDecGood (gl : Glob G ea) (a : UInt8) (t : List UInt8) (h1 : 194 ≤ a.toNat) (h2 : a.toNat ≤ 244) (hl : t.length < 4611686018427387904) :
    Fn P G 117 #[.string (str (a :: t))] [] fun v H => DecR (a :: t) a.toNat v ∧ H = [] := by
  have ha8 := a.toNat_lt
  obtain ⟨sz, i, hcl⟩ := cls h1 h2
  obtain ⟨elo, ehi⟩ := cls_lo hcl
  obtain ⟨hc0, hlow, hhead⟩ := cls_head hcl
  have hsz : 2 ≤ sz ∧ sz ≤ 4 ∧ i ≤ 4 := by rcases hcl.which with h | h | h | h | h | h | h <;> omega
  obtain ⟨cs, T, fz, hG, hf⟩ := gl.first
  obtain ⟨cs2, T2, fz2, hG2, hf2⟩ := gl.acc
  have hacc := hf2 i (by omega)
  have hfa := hf a.toNat ha8
  rw [hcl.tab] at hfa
  obtain ⟨lo, hlo⟩ : ∃ lo, accLo i = lo := ⟨_, rfl⟩
  obtain ⟨hi, hhi⟩ : ∃ hi, accHi i = hi := ⟨_, rfl⟩
  rw [hlo, hhi] at hacc
  rw [hlo] at elo; rw [hhi] at ehi
  have hlob : 128 ≤ lo ∧ lo ≤ 160 ∧ 143 ≤ hi ∧ hi ≤ 191 := by
    rw [elo, ehi]; refine ⟨?_, ?_, ?_, ?_⟩ <;> (repeat' split) <;> omega
  obtain ⟨s, hs⟩ : ∃ s, a :: t = s := ⟨_, rfl⟩
  have hsl : s.length = t.length + 1 := by rw [← hs]; rfl
  have h0 : s[0]? = some a := by rw [← hs]; rfl
  have hshort : s.length < sz → rune1T s = 0 := fun h => by rw [← hs]; exact runeShort (by omega) hhead (by omega)
  rw [hs]
  refine fn_intro (args := [_]) Tryz.func117 Tryz.ntmps117 rfl ?_
  refine w_seq ?_
  refine w_region ?_
  refine o_t x_as ?_
  refine o_t x_as ?_
  refine o_nil ?_
  refine w_seq ?_
  refine w_region ?_
  refine o_t x_mv ?_
  refine o_t (x_lens Tryz.underlying9) ?_
  refine o_t x_as ?_
  refine o_nil ?_
  refine w_seq ?_
  refine w_seq ?_
  refine w_region ?_
  refine o_t x_mv ?_
  refine o_t x_cmp ?_
  refine o_nil ?_
  refine w_cond (t := false) (fun g => rfl) (fun hc => ?_) (fun hc => ?_) -- ('Go.Operand.tmp', 16)
  · cases hc
  refine w_skip ?_
  refine w_seq ?_
  refine w_region ?_
  refine o_t x_mv ?_
  refine o_t (x_ixs (j := 0) Tryz.underlying9 h0) ?_
  refine o_t x_as ?_
  refine o_nil ?_
  refine w_seq ?_
  refine w_region ?_
  refine o_t x_mv ?_
  refine o_t (x_iaa (m := a.toNat) Tryz.underlying278 e278 (hm := by omega)) ?_
  refine o_t (x_ldG (i := a.toNat) k5 hG hfa (fun g => rfl)) ?_
  refine o_t x_as ?_
  refine o_nil ?_
  refine w_seq ?_
  refine w_seq ?_
  refine w_region ?_
  refine o_t x_mv ?_
  refine o_t x_cmp ?_
  refine o_nil ?_
  refine w_cond (t := false) (fun g => rfl) (fun hc => ?_) (fun hc => ?_) -- ('Go.Operand.tmp', 23)
  · cases hc
  refine w_skip ?_
  refine w_seq ?_
  refine w_region ?_
  refine o_t x_mv ?_
  refine o_t (x_am 3) ?_
  refine o_t (x_cv (z := (sz : Int)) ⟨_, Tryz.underlying5⟩ Tryz.underlying3 (hz := (w_i64 (by omega)).trans (by omega))) ?_
  refine o_t x_as ?_
  refine o_nil ?_
  refine w_seq ?_
  refine w_region ?_
  refine o_t x_mv ?_
  refine o_t (x_shr (z := (i : Int)) (hz := by omega)) ?_
  refine o_t (x_iaa (m := 2 * i) Tryz.underlying281 e281 (hm := by omega)) ?_
  refine o_t (x_ldaG (i := 2 * i) (vs := [.int .u8 lo, .int .u8 hi]) g280 hG2 (two_get hacc.1 hacc.2) (fun g => rfl)) ?_
  refine o_al z280 (fun b9 => ?_)
  refine o_sta g280 ?_
  refine o_nil ?_
  refine w_seq ?_
  refine w_seq ?_
  by_cases hshort' : s.length < sz
  · refine w_region ?_
    refine o_t x_mv ?_
    refine o_t x_mv ?_
    refine o_t x_cmp ?_
    refine o_nil ?_
    refine w_cond (t := true) (fun g => rfl) (fun hc => ?_) (fun hc => ?_) -- ('Go.Operand.tmp', 45)
    · --
      refine w_seq ?_
      refine w_region ?_
      refine o_t x_as ?_
      refine o_t x_as ?_
      refine o_nil ?_
      refine w_ret (r_2 rfl ⟨decR0 (hshort hshort'), rfl⟩)
    · cases hc
  refine w_region ?_
  refine o_t x_mv ?_
  refine o_t x_mv ?_
  refine o_t x_cmp ?_
  refine o_nil ?_
  refine w_cond (t := false) (fun g => rfl) (fun hc => ?_) (fun hc => ?_) -- ('Go.Operand.tmp', 45)
  · cases hc
  refine w_skip ?_
  refine w_seq ?_
  obtain ⟨b, t2, rfl⟩ : ∃ b t2, t = b :: t2 := by
    cases t with
    | nil => simp at hsl; omega
    | cons b t2 => exact ⟨b, t2, rfl⟩
  have g1 : s[1]? = some b := by rw [← hs]; rfl
  have hb8 := b.toNat_lt
  simp only [List.length_cons] at hsl
  refine w_region ?_
  refine o_t x_mv ?_
  refine o_t (x_ixs (j := 1) Tryz.underlying9 g1) ?_
  refine o_t x_as ?_
  refine o_nil ?_
  have fin : ∀ (m : Nat) (r : Int), rune1T s = m → 1 < m → 128 ≤ r → r ≤ 1114111 → ¬ (55296 ≤ r ∧ r ≤ 57343) → DecR s a.toNat (.tuple #[.int .i32 r, .int .i64 m]) := fun m r e1 e2 e3 e4 e5 => decRn e1 e2 ⟨e3, e4, e5⟩
  refine w_seq ?_
  refine w_seq ?_
  by_cases hb1 : lo ≤ b.toNat
  case neg =>
    refine w_region ?_
    refine o_t x_mv ?_
    refine o_t (x_fa f280_0) ?_
    refine o_t (x_ld k5) ?_
    refine o_t x_cmp ?_
    refine o_t x_mv ?_
    first | (refine o_gy (?_); refine o_t x_gs ?_) | refine o_t x_gs ?_ | refine o_t x_gu ?_
    first | (refine o_gy (?_); refine o_t x_gs ?_) | refine o_t x_gs ?_ | refine o_t x_gu ?_
    first | refine o_t (x_g x_mv) ?_ | refine o_t x_gs ?_ | refine o_t x_gu ?_
    first | refine o_t (x_g x_cmp) ?_ | refine o_t x_gs ?_ | refine o_t x_gu ?_
    refine o_t x_pick ?_
    refine o_nil ?_
    refine w_cond (t := true) (fun g => rfl) (fun hc => ?_) (fun hc => ?_) -- ('Go.Operand.tmp', 57)
    · --
      refine w_seq ?_
      refine w_region ?_
      refine o_t x_as ?_
      refine o_t x_as ?_
      refine o_nil ?_
      refine w_ret (r_2 rfl ⟨decR0 ?_, rfl⟩)
      rw [← hs]
      exact rune_bad2 hcl (by omega) (by rw [hlo, hhi]; omega)
    · cases hc
  by_cases hb2 : b.toNat ≤ hi
  case neg =>
    refine w_region ?_
    refine o_t x_mv ?_
    refine o_t (x_fa f280_0) ?_
    refine o_t (x_ld k5) ?_
    refine o_t x_cmp ?_
    refine o_t x_mv ?_
    first | refine o_t (x_g (x_fa f280_1)) ?_ | refine o_t x_gs ?_ | refine o_t x_gu ?_
    first | refine o_t (x_g (x_ld k5)) ?_ | refine o_t x_gs ?_ | refine o_t x_gu ?_
    first | refine o_t (x_g x_mv) ?_ | refine o_t x_gs ?_ | refine o_t x_gu ?_
    first | refine o_t (x_g x_cmp) ?_ | refine o_t x_gs ?_ | refine o_t x_gu ?_
    refine o_t x_pick ?_
    refine o_nil ?_
    refine w_cond (t := true) (fun g => rfl) (fun hc => ?_) (fun hc => ?_) -- ('Go.Operand.tmp', 57)
    · --
      refine w_seq ?_
      refine w_region ?_
      refine o_t x_as ?_
      refine o_t x_as ?_
      refine o_nil ?_
      refine w_ret (r_2 rfl ⟨decR0 ?_, rfl⟩)
      rw [← hs]
      exact rune_bad2 hcl (by omega) (by rw [hlo, hhi]; omega)
    · cases hc
  refine w_region ?_
  refine o_t x_mv ?_
  refine o_t (x_fa f280_0) ?_
  refine o_t (x_ld k5) ?_
  refine o_t x_cmp ?_
  refine o_t x_mv ?_
  first | refine o_t (x_g (x_fa f280_1)) ?_ | refine o_t x_gs ?_ | refine o_t x_gu ?_
  first | refine o_t (x_g (x_ld k5)) ?_ | refine o_t x_gs ?_ | refine o_t x_gu ?_
  first | refine o_t (x_g x_mv) ?_ | refine o_t x_gs ?_ | refine o_t x_gu ?_
  first | refine o_t (x_g x_cmp) ?_ | refine o_t x_gs ?_ | refine o_t x_gu ?_
  refine o_t x_pick ?_
  refine o_nil ?_
  refine w_cond (t := false) (fun g => rfl) (fun hc => ?_) (fun hc => ?_) -- ('Go.Operand.tmp', 57)
  · cases hc
  refine w_skip ?_
  refine w_seq ?_
  refine w_seq ?_
  by_cases hs2 : sz = 2
  · refine w_region ?_
    refine o_t x_mv ?_
    refine o_t x_cmp ?_
    refine o_nil ?_
    refine w_cond (t := true) (fun g => rfl) (fun hc => ?_) (fun hc => ?_) -- ('Go.Operand.tmp', 59)
    · --
      refine w_seq ?_
      refine w_region ?_
      refine o_t x_mv ?_
      refine o_t (x_am 5) ?_
      refine o_t (x_cv ⟨_, Tryz.underlying5⟩ Tryz.underlying21) ?_
      refine o_t x_shl ?_
      refine o_t x_mv ?_
      refine o_t (x_am 6) ?_
      refine o_t (x_cv ⟨_, Tryz.underlying5⟩ Tryz.underlying21) ?_
      refine o_t (x_om (p' := a.toNat % 32) (q := b.toNat % 64) (z := ((a.toNat % 32 * 64 + b.toNat % 64 : Nat) : Int)) 6 (fun g => rfl) (fun g => rfl) (by omega) (by omega) (by omega) (fit32 (by omega)) (by omega)) ?_
      refine o_t x_as ?_
      refine o_t x_as ?_
      refine o_nil ?_
      refine w_ret (r_2 rfl ⟨fin 2 _ ?_ (by omega) ?_ ?_ ?_, rfl⟩)
      · rw [← hs, rune_sz2 hcl hs2, if_pos (by rw [hlo, hhi]; omega)]
      all_goals (rcases hcl.which with h | h | h | h | h | h | h <;> omega)
    · cases hc
  refine w_region ?_
  refine o_t x_mv ?_
  refine o_t x_cmp ?_
  refine o_nil ?_
  refine w_cond (t := false) (fun g => rfl) (fun hc => ?_) (fun hc => ?_) -- ('Go.Operand.tmp', 59)
  · cases hc
  refine w_skip ?_
  refine w_seq ?_
  obtain ⟨c, t3, rfl⟩ : ∃ c t3, t2 = c :: t3 := by
    cases t2 with
    | nil => simp at hsl; omega
    | cons c t3 => exact ⟨c, t3, rfl⟩
  have g2 : s[2]? = some c := by rw [← hs]; rfl
  have hc8 := c.toNat_lt
  simp only [List.length_cons] at hsl
  refine w_region ?_
  refine o_t x_mv ?_
  refine o_t (x_ixs (j := 2) Tryz.underlying9 g2) ?_
  refine o_t x_as ?_
  refine o_nil ?_
  refine w_seq ?_
  refine w_seq ?_
  by_cases hc1 : 128 ≤ c.toNat
  case neg =>
    refine w_region ?_
    refine o_t x_mv ?_
    refine o_t x_cmp ?_
    refine o_t x_mv ?_
    first | refine o_t (x_g x_mv) ?_ | refine o_t x_gs ?_ | refine o_t x_gu ?_
    first | refine o_t (x_g x_cmp) ?_ | refine o_t x_gs ?_ | refine o_t x_gu ?_
    refine o_t x_pick ?_
    refine o_nil ?_
    refine w_cond (t := true) (fun g => rfl) (fun hc => ?_) (fun hc => ?_) -- ('Go.Operand.tmp', 75)
    · --
      refine w_seq ?_
      refine w_region ?_
      refine o_t x_as ?_
      refine o_t x_as ?_
      refine o_nil ?_
      refine w_ret (r_2 rfl ⟨decR0 ?_, rfl⟩)
      rw [← hs]
      exact rune_bad3 hcl (by omega) (by omega) (by omega)
    · cases hc
  by_cases hc2 : c.toNat ≤ 191
  case neg =>
    refine w_region ?_
    refine o_t x_mv ?_
    refine o_t x_cmp ?_
    refine o_t x_mv ?_
    first | refine o_t (x_g x_mv) ?_ | refine o_t x_gs ?_ | refine o_t x_gu ?_
    first | refine o_t (x_g x_cmp) ?_ | refine o_t x_gs ?_ | refine o_t x_gu ?_
    refine o_t x_pick ?_
    refine o_nil ?_
    refine w_cond (t := true) (fun g => rfl) (fun hc => ?_) (fun hc => ?_) -- ('Go.Operand.tmp', 75)
    · --
      refine w_seq ?_
      refine w_region ?_
      refine o_t x_as ?_
      refine o_t x_as ?_
      refine o_nil ?_
      refine w_ret (r_2 rfl ⟨decR0 ?_, rfl⟩)
      rw [← hs]
      exact rune_bad3 hcl (by omega) (by omega) (by omega)
    · cases hc
  refine w_region ?_
  refine o_t x_mv ?_
  refine o_t x_cmp ?_
  refine o_t x_mv ?_
  first | refine o_t (x_g x_mv) ?_ | refine o_t x_gs ?_ | refine o_t x_gu ?_
  first | refine o_t (x_g x_cmp) ?_ | refine o_t x_gs ?_ | refine o_t x_gu ?_
  refine o_t x_pick ?_
  refine o_nil ?_
  refine w_cond (t := false) (fun g => rfl) (fun hc => ?_) (fun hc => ?_) -- ('Go.Operand.tmp', 75)
  · cases hc
  refine w_skip ?_
  refine w_seq ?_
  refine w_seq ?_
  by_cases hs3 : sz = 3
  · refine w_region ?_
    refine o_t x_mv ?_
    refine o_t x_cmp ?_
    refine o_nil ?_
    refine w_cond (t := true) (fun g => rfl) (fun hc => ?_) (fun hc => ?_) -- ('Go.Operand.tmp', 77)
    · --
      refine w_seq ?_
      refine w_region ?_
      refine o_t x_mv ?_
      refine o_t (x_am 4) ?_
      refine o_t (x_cv ⟨_, Tryz.underlying5⟩ Tryz.underlying21) ?_
      refine o_t x_shl ?_
      refine o_t x_mv ?_
      refine o_t (x_am 6) ?_
      refine o_t (x_cv ⟨_, Tryz.underlying5⟩ Tryz.underlying21) ?_
      refine o_t x_shl ?_
      refine o_t (x_om (p' := a.toNat % 16) (q := b.toNat % 64 * 64) (z := ((a.toNat % 16 * 4096 + b.toNat % 64 * 64 : Nat) : Int)) 12 (fun g => rfl) (fun g => rfl) (by omega) (by omega) (by omega) (fit32 (by omega)) (by omega)) ?_
      refine o_t x_mv ?_
      refine o_t (x_am 6) ?_
      refine o_t (x_cv ⟨_, Tryz.underlying5⟩ Tryz.underlying21) ?_
      refine o_t (x_om (p' := a.toNat % 16 * 64 + b.toNat % 64) (q := c.toNat % 64) (z := ((a.toNat % 16 * 4096 + b.toNat % 64 * 64 + c.toNat % 64 : Nat) : Int)) 6 (fun g => rfl) (fun g => rfl) (by omega) (by omega) (by omega) (fit32 (by omega)) (by omega)) ?_
      refine o_t x_as ?_
      refine o_t x_as ?_
      refine o_nil ?_
      refine w_ret (r_2 rfl ⟨fin 3 _ ?_ (by omega) ?_ ?_ ?_, rfl⟩)
      · rw [← hs, rune_sz3 hcl hs3, if_pos (by rw [hlo, hhi]; omega)]
      all_goals (rcases hcl.which with h | h | h | h | h | h | h <;> first | omega | (obtain ⟨_, rfl, h⟩ := h; simp [accLo, accHi] at hlo hhi; omega))
    · cases hc
  refine w_region ?_
  refine o_t x_mv ?_
  refine o_t x_cmp ?_
  refine o_nil ?_
  refine w_cond (t := false) (fun g => rfl) (fun hc => ?_) (fun hc => ?_) -- ('Go.Operand.tmp', 77)
  · cases hc
  refine w_skip ?_
  refine w_seq ?_
  obtain ⟨x, t4, rfl⟩ : ∃ x t4, t3 = x :: t4 := by
    cases t3 with
    | nil => simp at hsl; omega
    | cons x t4 => exact ⟨x, t4, rfl⟩
  have g3 : s[3]? = some x := by rw [← hs]; rfl
  have hx8 := x.toNat_lt
  refine w_region ?_
  refine o_t x_mv ?_
  refine o_t (x_ixs (j := 3) Tryz.underlying9 g3) ?_
  refine o_t x_as ?_
  refine o_nil ?_
  refine w_seq ?_
  refine w_seq ?_
  by_cases hx1 : 128 ≤ x.toNat
  case neg =>
    refine w_region ?_
    refine o_t x_mv ?_
    refine o_t x_cmp ?_
    refine o_t x_mv ?_
    first | refine o_t (x_g x_mv) ?_ | refine o_t x_gs ?_ | refine o_t x_gu ?_
    first | refine o_t (x_g x_cmp) ?_ | refine o_t x_gs ?_ | refine o_t x_gu ?_
    refine o_t x_pick ?_
    refine o_nil ?_
    refine w_cond (t := true) (fun g => rfl) (fun hc => ?_) (fun hc => ?_) -- ('Go.Operand.tmp', 98)
    · --
      refine w_seq ?_
      refine w_region ?_
      refine o_t x_as ?_
      refine o_t x_as ?_
      refine o_nil ?_
      refine w_ret (r_2 rfl ⟨decR0 ?_, rfl⟩)
      rw [← hs, rune_sz4 hcl (by omega), if_neg (by omega)]
    · cases hc
  by_cases hx2 : x.toNat ≤ 191
  case neg =>
    refine w_region ?_
    refine o_t x_mv ?_
    refine o_t x_cmp ?_
    refine o_t x_mv ?_
    first | refine o_t (x_g x_mv) ?_ | refine o_t x_gs ?_ | refine o_t x_gu ?_
    first | refine o_t (x_g x_cmp) ?_ | refine o_t x_gs ?_ | refine o_t x_gu ?_
    refine o_t x_pick ?_
    refine o_nil ?_
    refine w_cond (t := true) (fun g => rfl) (fun hc => ?_) (fun hc => ?_) -- ('Go.Operand.tmp', 98)
    · --
      refine w_seq ?_
      refine w_region ?_
      refine o_t x_as ?_
      refine o_t x_as ?_
      refine o_nil ?_
      refine w_ret (r_2 rfl ⟨decR0 ?_, rfl⟩)
      rw [← hs, rune_sz4 hcl (by omega), if_neg (by omega)]
    · cases hc
  refine w_region ?_
  refine o_t x_mv ?_
  refine o_t x_cmp ?_
  refine o_t x_mv ?_
  first | refine o_t (x_g x_mv) ?_ | refine o_t x_gs ?_ | refine o_t x_gu ?_
  first | refine o_t (x_g x_cmp) ?_ | refine o_t x_gs ?_ | refine o_t x_gu ?_
  refine o_t x_pick ?_
  refine o_nil ?_
  refine w_cond (t := false) (fun g => rfl) (fun hc => ?_) (fun hc => ?_) -- ('Go.Operand.tmp', 98)
  · cases hc
  refine w_skip ?_
  refine w_seq ?_
  refine w_region ?_
  refine o_t x_mv ?_
  refine o_t (x_am 3) ?_
  refine o_t (x_cv ⟨_, Tryz.underlying5⟩ Tryz.underlying21) ?_
  refine o_t x_shl ?_
  refine o_t x_mv ?_
  refine o_t (x_am 6) ?_
  refine o_t (x_cv ⟨_, Tryz.underlying5⟩ Tryz.underlying21) ?_
  refine o_t x_shl ?_
  refine o_t (x_om (p' := a.toNat % 8) (q := b.toNat % 64 * 4096) (z := ((a.toNat % 8 * 262144 + b.toNat % 64 * 4096 : Nat) : Int)) 18 (fun g => rfl) (fun g => rfl) (by omega) (by omega) (by omega) (fit32 (by omega)) (by omega)) ?_
  refine o_t x_mv ?_
  refine o_t (x_am 6) ?_
  refine o_t (x_cv ⟨_, Tryz.underlying5⟩ Tryz.underlying21) ?_
  refine o_t x_shl ?_
  refine o_t (x_om (p' := a.toNat % 8 * 64 + b.toNat % 64) (q := c.toNat % 64 * 64) (z := ((a.toNat % 8 * 262144 + b.toNat % 64 * 4096 + c.toNat % 64 * 64 : Nat) : Int)) 12 (fun g => rfl) (fun g => rfl) (by omega) (by omega) (by omega) (fit32 (by omega)) (by omega)) ?_
  refine o_t x_mv ?_
  refine o_t (x_am 6) ?_
  refine o_t (x_cv ⟨_, Tryz.underlying5⟩ Tryz.underlying21) ?_
  refine o_t (x_om (p' := a.toNat % 8 * 4096 + b.toNat % 64 * 64 + c.toNat % 64) (q := x.toNat % 64) (z := ((a.toNat % 8 * 262144 + b.toNat % 64 * 4096 + c.toNat % 64 * 64 + x.toNat % 64 : Nat) : Int)) 6 (fun g => rfl) (fun g => rfl) (by omega) (by omega) (by omega) (fit32 (by omega)) (by omega)) ?_
  refine o_t x_as ?_
  refine o_t x_as ?_
  refine o_nil ?_
  refine w_ret (r_2 rfl ⟨fin 4 _ ?_ (by omega) ?_ ?_ ?_, rfl⟩)
  · rw [← hs, rune_sz4 hcl (by omega), if_pos (by rw [hlo, hhi]; omega)]
  all_goals (rcases hcl.which with h | h | h | h | h | h | h <;> first | omega | (obtain ⟨_, rfl, h⟩ := h; simp [accLo, accHi] at hlo hhi; omega))
theorem cDec (gl : Glob G ea) (a : UInt8) (t : List UInt8) (hl : t.length < 4611686018427387904) :
    Fn P G 80 #[.string (str (a :: t))] [] fun v H => DecR (a :: t) a.toNat v ∧ H = [] := by
  have ha8 := a.toNat_lt
  obtain ⟨s, hs⟩ : ∃ s, a :: t = s := ⟨_, rfl⟩
  have hsl : s.length = t.length + 1 := by rw [← hs]; rfl
  have h0 : s[0]? = some a := by rw [← hs]; rfl
  have hne : s ≠ [] := by rw [← hs]; simp
  by_cases h : a.toNat < 128
  · have hr := runeAscii (t := t) h
    rw [hs] at hr ⊢
    refine fn_intro (args := [_]) Tryz.func80 Tryz.ntmps80 rfl ?_
    refine w_seq ?_
    refine w_region ?_
    refine o_t x_as ?_
    refine o_t x_as ?_
    refine o_nil ?_
    refine w_seq ?_
    refine w_seq ?_
    refine w_region ?_
    refine o_t x_mv ?_
    refine o_t (x_nes (l := s) (m := []) (r := true) (hr := by simp [hne])) ?_
    refine o_t x_mv ?_
    first | refine o_t (x_g x_mv) ?_ | refine o_t x_gs ?_ | refine o_t x_gu ?_
    first | refine o_t (x_g (x_ixs (j := 0) Tryz.underlying9 h0)) ?_ | refine o_t x_gs ?_ | refine o_t x_gu ?_
    first | refine o_t (x_g x_cmp) ?_ | refine o_t x_gs ?_ | refine o_t x_gu ?_
    refine o_t x_pick ?_
    refine o_nil ?_
    refine w_cond (t := true) (fun g => rfl) (fun hc => ?_) (fun hc => ?_) -- ('Go.Operand.tmp', 10)
    · --
      refine w_seq ?_
      refine w_region ?_
      refine o_t x_mv ?_
      refine o_t (x_ixs (j := 0) Tryz.underlying9 h0) ?_
      refine o_t (x_cv ⟨_, Tryz.underlying5⟩ Tryz.underlying21) ?_
      refine o_t x_as ?_
      refine o_t x_as ?_
      refine o_nil ?_
      refine w_ret (r_2 rfl ⟨⟨a.toNat, by rw [decSz, hr], by omega, fun _ => rfl, by omega⟩, rfl⟩)
    · cases hc
  · have hd : Fn P G 117 #[.string (str (a :: t))] [] fun v H => DecR (a :: t) a.toNat v ∧ H = [] := by
      by_cases h' : 194 ≤ a.toNat ∧ a.toNat ≤ 244
      · exact cDecGood gl a t h'.1 h'.2 hl
      · exact cDecBad gl a t (by omega) (by omega) hl
    rw [hs] at hd ⊢
    refine fn_intro (args := [_]) Tryz.func80 Tryz.ntmps80 rfl ?_
    refine w_seq ?_
    refine w_region ?_
    refine o_t x_as ?_
    refine o_t x_as ?_
    refine o_nil ?_
    refine w_seq ?_
    refine w_seq ?_
    refine w_region ?_
    refine o_t x_mv ?_
    refine o_t (x_nes (l := s) (m := []) (r := true) (hr := by simp [hne])) ?_
    refine o_t x_mv ?_
    first | refine o_t (x_g x_mv) ?_ | refine o_t x_gs ?_ | refine o_t x_gu ?_
    first | refine o_t (x_g (x_ixs (j := 0) Tryz.underlying9 h0)) ?_ | refine o_t x_gs ?_ | refine o_t x_gu ?_
    first | refine o_t (x_g x_cmp) ?_ | refine o_t x_gs ?_ | refine o_t x_gu ?_
    refine o_t x_pick ?_
    refine o_nil ?_
    refine w_cond (t := false) (fun g => rfl) (fun hc => ?_) (fun hc => ?_) -- ('Go.Operand.tmp', 10)
    · cases hc
    · --
      refine w_region ?_
      refine o_t x_mv ?_
      refine o_call Tryz.call117 haa spla (hd) ?_
      rintro _ _ HH ⟨⟨r, rfl, hr⟩, rfl⟩ hHH
      simp only [List.cons_append, List.nil_append, List.append_nil] at hHH; subst hHH
      refine o_t x_mv ?_
      refine o_t x_ex ?_
      refine o_t x_ex ?_
      refine o_t x_as ?_
      refine o_t x_as ?_
      refine o_nil ?_
      refine w_ret (r_2 rfl ⟨⟨r, rfl, hr⟩, rfl⟩)
theorem cValidRune (r : Int) (h0 : 0 ≤ r) (h1 : r ≤ 1114111) (h2 : ¬ (55296 ≤ r ∧ r ≤ 57343)) : Fn P G 81 #[.int .i32 r] [] fun v H => v = .bool true ∧ H = [] := by
  refine fn_intro (args := [_]) Tryz.func81 Tryz.ntmps81 rfl ?_
  refine w_seq ?_
  refine w_region ?_
  refine o_t x_as ?_
  refine o_nil ?_
  refine w_seq ?_
  refine w_block ?_ -- 0
  refine w_seq ?_
  by_cases h : r < 55296
  · refine w_region ?_
    refine o_t x_mv ?_
    refine o_t x_cmp ?_
    refine o_t x_mv ?_
    first | refine o_t (x_g x_mv) ?_ | refine o_t x_gs ?_ | refine o_t x_gu ?_
    first | refine o_t (x_g x_cmp) ?_ | refine o_t x_gs ?_ | refine o_t x_gu ?_
    refine o_t x_pick ?_
    refine o_t x_as ?_
    refine o_nil ?_
    refine w_cond (t := true) (fun g => rfl) (fun hc => ?_) (fun hc => ?_) -- ('Go.Operand.tmp', 3)
    · --
      refine w_seq ?_
      refine w_region ?_
      refine o_t x_as ?_
      refine o_nil ?_
      refine w_ret (r_1 rfl ⟨rfl, rfl⟩)
    · cases hc
  · refine w_region ?_
    refine o_t x_mv ?_
    refine o_t x_cmp ?_
    refine o_t x_mv ?_
    first | refine o_t (x_g x_mv) ?_ | refine o_t x_gs ?_ | refine o_t x_gu ?_
    first | refine o_t (x_g x_cmp) ?_ | refine o_t x_gs ?_ | refine o_t x_gu ?_
    refine o_t x_pick ?_
    refine o_t x_as ?_
    refine o_nil ?_
    refine w_cond (t := false) (fun g => rfl) (fun hc => ?_) (fun hc => ?_) -- ('Go.Operand.tmp', 3)
    · cases hc
    · --
      refine w_seq ?_
      refine w_region ?_
      refine o_t x_mv ?_
      refine o_t x_cmp ?_
      refine o_t x_mv ?_
      first | refine o_t (x_g x_mv) ?_ | refine o_t x_gs ?_ | refine o_t x_gu ?_
      first | refine o_t (x_g x_cmp) ?_ | refine o_t x_gs ?_ | refine o_t x_gu ?_
      refine o_t x_pick ?_
      refine o_t x_as ?_
      refine o_nil ?_
      refine w_cond (t := true) (fun g => rfl) (fun hc => ?_) (fun hc => ?_) -- ('Go.Operand.tmp', 10)
      · --
        refine w_seq ?_
        refine w_region ?_
        refine o_t x_as ?_
        refine o_nil ?_
        refine w_ret (r_1 rfl ⟨rfl, rfl⟩)
      · cases hc
end Go.Proofs.YtlmefkhglooepaaGreatDoor
namespace Go.Proofs.YtlmefkhglooepaaGreatDoor
open Go
set_option linter.unusedSimpArgs false
set_option linter.unusedVariables false
variable {G : Nat → Option Obj} {ea : Nat → Addr}
theorem validG_step (q : Bool) (m : Nat) (s : List UInt8) (i : Nat) (hi : i < s.length) (hm : s.length - i ≤ m) (h : rune1T (s.drop i) ≠ 0) :
    validG m q (s.drop i) = validG m (q || decide (1 < rune1T (s.drop i)) || needs (s[i])) (s.drop (i + rune1T (s.drop i))) := by
  obtain ⟨m, rfl⟩ : ∃ m', m = m' + 1 := ⟨m - 1, by omega⟩
  have he := List.drop_eq_getElem_cons hi
  have hle := rune1T_le (s.drop i)
  rw [← List.drop_drop]
  generalize hr : rune1T (s.drop i) = r at h hle ⊢
  rw [he] at hr ⊢
  simp only [List.length_cons, List.length_drop] at hle
  rw [validG]
  simp only [hr, if_neg h]
  exact validG_fuel _ _ _ _ (by simp; omega) (by simp; omega)
theorem validG_bad (q : Bool) (m : Nat) (s : List UInt8) (i : Nat) (hi : i < s.length) (hm : s.length - i ≤ m) (h : rune1T (s.drop i) = 0) :
    validG m q (s.drop i) = (false, false) := by
  obtain ⟨m, rfl⟩ : ∃ m', m = m' + 1 := ⟨m - 1, by omega⟩
  rw [List.drop_eq_getElem_cons hi] at h ⊢
  show (if rune1T _ = 0 then _ else _) = _
  rw [if_pos h]
/-- detectUTF8 is the reference's test. -/
theorem cDetect (gl : Glob G ea) (s : List UInt8) (hs : s.length < 4611686018427387904) : Fn P G 54 #[.string (str s)] [] fun v H => v = .tuple #[.bool (validT s).1, .bool (validT s).2] ∧ H = [] := by
  refine fn_intro (args := [_]) Tryz.func54 Tryz.ntmps54 rfl ?_
  refine w_seq ?_
  refine w_region ?_
  refine o_t x_as ?_
  refine o_t x_as ?_
  refine o_nil ?_
  refine w_seq ?_
  refine w_seq ?_
  refine w_region ?_
  refine o_t x_as ?_
  refine o_nil ?_
  refine w_block ?_ -- 0
  refine w_loop (α := Nat × Bool) (fun x => [(0, .string (str s)), (3, .bool x.2), (4, .int .i64 x.1)]) (fun x => []) (fun x => x.1 ≤ s.length ∧ validG s.length x.2 (s.drop x.1) = validT s) (fun x => s.length - x.1) (0, false) (wka) (hka) ⟨by simp, rfl⟩ ?_
  rintro ⟨i, q⟩ ⟨hi, hv⟩
  dsimp only at hi hv ⊢
  refine w_seq ?_
  refine w_seq ?_
  by_cases hil : i < s.length
  case neg =>
    obtain rfl : i = s.length := by omega
    refine w_region ?_
    refine o_t x_mv ?_
    refine o_t x_mv ?_
    refine o_t (x_lens Tryz.underlying9) ?_
    refine o_t x_cmp ?_
    refine o_nil ?_
    refine w_cond (t := false) (fun g => rfl) (fun hc => ?_) (fun hc => ?_) -- ('Go.Operand.tmp', 10)
    · cases hc
    refine w_exit ?_ -- 0
    refine w_seq ?_
    refine w_region ?_
    refine o_t x_mv ?_
    refine o_t x_as ?_
    refine o_t x_as ?_
    refine o_nil ?_
    refine w_ret (r_2 rfl ⟨?_, rfl⟩)
    rw [← hv, List.drop_length]
    cases s.length <;> rfl
  refine w_region ?_
  refine o_t x_mv ?_
  refine o_t x_mv ?_
  refine o_t (x_lens Tryz.underlying9) ?_
  refine o_t x_cmp ?_
  refine o_nil ?_
  refine w_cond (t := true) (fun g => rfl) (fun hc => ?_) (fun hc => ?_) -- ('Go.Operand.tmp', 10)
  · --
    refine w_skip ?_
    refine w_block ?_ -- 1
    have he := List.drop_eq_getElem_cons hil
    obtain ⟨a, ha⟩ : ∃ a, s[i] = a := ⟨_, rfl⟩
    obtain ⟨t, ht⟩ : ∃ t, s.drop (i + 1) = t := ⟨_, rfl⟩
    have htl : t.length < s.length := by rw [← ht, List.length_drop]; omega
    have hdec := cDec (G := G) gl a t (by omega)
    have hd : s.drop i = a :: t := by rw [he, ha, ht]
    have hle := rune1T_le (s.drop i)
    have hfull : (s.drop i).take (s.length - i) = a :: t := by rw [← hd]; exact List.take_of_length_le (by simp)
    rw [List.length_drop] at hle
    have hstep := validG_step q s.length s i hil (by omega)
    have hbad := validG_bad q s.length s i hil (by omega)
    rw [hv] at hstep hbad
    rw [ha] at hstep
    rw [hd] at hle
    have ha8 := a.toNat_lt
    refine w_seq ?_
    refine w_region ?_
    refine o_t x_mv ?_
    refine o_t x_mv ?_
    refine o_t (Ex.cast (congrArg (fun z => Value.string (str z)) hfull) (x_sls (lo := i) (hi := s.length) Tryz.underlying9)) ?_
    refine o_call Tryz.call80 haa spla (hdec) ?_
    rintro _ _ HH ⟨⟨r, rfl, hr⟩, rfl⟩ hHH
    simp only [List.cons_append, List.nil_append, List.append_nil] at hHH; subst hHH
    refine o_t x_mv ?_
    refine o_t x_ex ?_
    refine o_t x_ex ?_
    refine o_t x_as ?_
    refine o_t x_as ?_
    refine o_nil ?_
    obtain ⟨n, hn⟩ : ∃ n, rune1T (a :: t) = n := ⟨_, rfl⟩
    obtain ⟨hr0, hr1, hr2⟩ := hr
    rw [hd] at hstep hbad
    rw [decSz]
    rw [hn] at hr0 hr1 hr2 hstep hbad hle ⊢
    refine w_seq ?_
    by_cases hn0 : n = 0
    · obtain rfl := hr0 hn0
      rw [if_pos hn0]
      refine w_region ?_
      refine o_t x_mv ?_
      refine o_t x_mv ?_
      refine o_t x_add ?_
      refine o_t x_as ?_
      refine o_nil ?_
      refine w_seq ?_
      refine w_region ?_
      refine o_t x_mv ?_
      refine o_t x_cmp ?_
      refine o_t x_mv ?_
      first | refine o_t (x_g x_mv) ?_ | refine o_t x_gs ?_ | refine o_t x_gu ?_
      first | refine o_t (x_g x_cmp) ?_ | refine o_t x_gs ?_ | refine o_t x_gu ?_
      refine o_t x_pick ?_
      refine o_t x_mv ?_
      first | refine o_t (x_g x_mv) ?_ | refine o_t x_gs ?_ | refine o_t x_gu ?_
      first | refine o_t (x_g x_cmp) ?_ | refine o_t x_gs ?_ | refine o_t x_gu ?_
      refine o_t x_pick ?_
      refine o_nil ?_
      refine w_cond (t := true) (fun g => rfl) (fun hc => ?_) (fun hc => ?_) -- ('Go.Operand.tmp', 30)
      · --
        refine w_seq ?_
        refine w_seq ?_
        refine w_region ?_
        refine o_t x_mv ?_
        refine o_call Tryz.call81 haa spla (cValidRune 65533 (by omega) (by omega) (by omega)) ?_
        rintro _ _ HH ⟨rfl, rfl⟩ hHH
        simp only [List.cons_append, List.nil_append, List.append_nil] at hHH; subst hHH
        refine o_t x_not ?_
        refine o_t x_mv ?_
        first | refine o_t (x_g x_mv) ?_ | refine o_t x_gs ?_ | refine o_t x_gu ?_
        first | refine o_t (x_g x_cmp) ?_ | refine o_t x_gs ?_ | refine o_t x_gu ?_
        first | refine o_t (x_g x_mv) ?_ | refine o_t x_gs ?_ | refine o_t x_gu ?_
        first | refine o_t (x_g x_mv) ?_ | refine o_t x_gs ?_ | refine o_t x_gu ?_
        first | refine o_t (x_g x_cmp) ?_ | refine o_t x_gs ?_ | refine o_t x_gu ?_
        first | refine o_t (x_g x_pick) ?_ | refine o_t x_gs ?_ | refine o_t x_gu ?_
        refine o_t x_pick ?_
        refine o_nil ?_
        refine w_cond (t := true) (fun g => rfl) (fun hc => ?_) (fun hc => ?_) -- ('Go.Operand.tmp', 41)
        · --
          refine w_seq ?_
          refine w_region ?_
          refine o_t x_as ?_
          refine o_t x_as ?_
          refine o_nil ?_
          refine w_ret (r_2 rfl ⟨?_, rfl⟩)
          rw [hbad hn0]
        · cases hc
      · cases hc
    · rw [if_neg hn0]
      have hst := hstep hn0
      refine w_region ?_
      refine o_t x_mv ?_
      refine o_t x_mv ?_
      refine o_t x_add ?_
      refine o_t x_as ?_
      refine o_nil ?_
      refine w_seq ?_
      by_cases hn1 : n = 1
      · obtain rfl := hr1 hn1
        by_cases hnd : a.toNat < 32 ∨ 125 < a.toNat ∨ a.toNat = 92
        · have hneed : needs a = true := decide_eq_true hnd
          by_cases q1 : a.toNat < 32
          · refine w_region ?_
            refine o_t x_mv ?_
            refine o_t x_cmp ?_
            refine o_t x_mv ?_
            first | refine o_t (x_g x_mv) ?_ | refine o_t x_gs ?_ | refine o_t x_gu ?_
            first | refine o_t (x_g x_cmp) ?_ | refine o_t x_gs ?_ | refine o_t x_gu ?_
            refine o_t x_pick ?_
            refine o_t x_mv ?_
            first | refine o_t (x_g x_mv) ?_ | refine o_t x_gs ?_ | refine o_t x_gu ?_
            first | refine o_t (x_g x_cmp) ?_ | refine o_t x_gs ?_ | refine o_t x_gu ?_
            refine o_t x_pick ?_
            refine o_nil ?_
            refine w_cond (t := true) (fun g => rfl) (fun hc => ?_) (fun hc => ?_) -- ('Go.Operand.tmp', 30)
            · --
              refine w_seq ?_
              refine w_seq ?_
              refine w_region ?_
              refine o_t x_mv ?_
              refine o_call Tryz.call81 haa spla (cValidRune a.toNat (by omega) (by omega) (by omega)) ?_
              rintro _ _ HH ⟨rfl, rfl⟩ hHH
              simp only [List.cons_append, List.nil_append, List.append_nil] at hHH; subst hHH
              refine o_t x_not ?_
              refine o_t x_mv ?_
              first | refine o_t (x_g x_mv) ?_ | refine o_t x_gs ?_ | refine o_t x_gu ?_
              first | refine o_t (x_g x_cmp) ?_ | refine o_t x_gs ?_ | refine o_t x_gu ?_
              first | refine o_t (x_g x_mv) ?_ | refine o_t x_gs ?_ | refine o_t x_gu ?_
              first | refine o_t (x_g x_mv) ?_ | refine o_t x_gs ?_ | refine o_t x_gu ?_
              first | refine o_t (x_g x_cmp) ?_ | refine o_t x_gs ?_ | refine o_t x_gu ?_
              first | refine o_t (x_g x_pick) ?_ | refine o_t x_gs ?_ | refine o_t x_gu ?_
              refine o_t x_pick ?_
              refine o_nil ?_
              refine w_cond (t := false) (fun g => rfl) (fun hc => ?_) (fun hc => ?_) -- ('Go.Operand.tmp', 41)
              · cases hc
              refine w_skip ?_
              refine w_region ?_
              refine o_t x_as ?_
              refine o_nil ?_
              exact ⟨(i + n, true), wka, hka, ⟨by dsimp only; omega, by dsimp only; rw [hst, hneed]; simp⟩, by dsimp only; omega⟩
            · cases hc
          · by_cases q2 : 125 < a.toNat
            · refine w_region ?_
              refine o_t x_mv ?_
              refine o_t x_cmp ?_
              refine o_t x_mv ?_
              first | refine o_t (x_g x_mv) ?_ | refine o_t x_gs ?_ | refine o_t x_gu ?_
              first | refine o_t (x_g x_cmp) ?_ | refine o_t x_gs ?_ | refine o_t x_gu ?_
              refine o_t x_pick ?_
              refine o_t x_mv ?_
              first | refine o_t (x_g x_mv) ?_ | refine o_t x_gs ?_ | refine o_t x_gu ?_
              first | refine o_t (x_g x_cmp) ?_ | refine o_t x_gs ?_ | refine o_t x_gu ?_
              refine o_t x_pick ?_
              refine o_nil ?_
              refine w_cond (t := true) (fun g => rfl) (fun hc => ?_) (fun hc => ?_) -- ('Go.Operand.tmp', 30)
              · --
                refine w_seq ?_
                refine w_seq ?_
                refine w_region ?_
                refine o_t x_mv ?_
                refine o_call Tryz.call81 haa spla (cValidRune a.toNat (by omega) (by omega) (by omega)) ?_
                rintro _ _ HH ⟨rfl, rfl⟩ hHH
                simp only [List.cons_append, List.nil_append, List.append_nil] at hHH; subst hHH
                refine o_t x_not ?_
                refine o_t x_mv ?_
                first | refine o_t (x_g x_mv) ?_ | refine o_t x_gs ?_ | refine o_t x_gu ?_
                first | refine o_t (x_g x_cmp) ?_ | refine o_t x_gs ?_ | refine o_t x_gu ?_
                first | refine o_t (x_g x_mv) ?_ | refine o_t x_gs ?_ | refine o_t x_gu ?_
                first | refine o_t (x_g x_mv) ?_ | refine o_t x_gs ?_ | refine o_t x_gu ?_
                first | refine o_t (x_g x_cmp) ?_ | refine o_t x_gs ?_ | refine o_t x_gu ?_
                first | refine o_t (x_g x_pick) ?_ | refine o_t x_gs ?_ | refine o_t x_gu ?_
                refine o_t x_pick ?_
                refine o_nil ?_
                refine w_cond (t := false) (fun g => rfl) (fun hc => ?_) (fun hc => ?_) -- ('Go.Operand.tmp', 41)
                · cases hc
                refine w_skip ?_
                refine w_region ?_
                refine o_t x_as ?_
                refine o_nil ?_
                exact ⟨(i + n, true), wka, hka, ⟨by dsimp only; omega, by dsimp only; rw [hst, hneed]; simp⟩, by dsimp only; omega⟩
              · cases hc
            · refine w_region ?_
              refine o_t x_mv ?_
              refine o_t x_cmp ?_
              refine o_t x_mv ?_
              first | refine o_t (x_g x_mv) ?_ | refine o_t x_gs ?_ | refine o_t x_gu ?_
              first | refine o_t (x_g x_cmp) ?_ | refine o_t x_gs ?_ | refine o_t x_gu ?_
              refine o_t x_pick ?_
              refine o_t x_mv ?_
              first | refine o_t (x_g x_mv) ?_ | refine o_t x_gs ?_ | refine o_t x_gu ?_
              first | refine o_t (x_g x_cmp) ?_ | refine o_t x_gs ?_ | refine o_t x_gu ?_
              refine o_t x_pick ?_
              refine o_nil ?_
              refine w_cond (t := true) (fun g => rfl) (fun hc => ?_) (fun hc => ?_) -- ('Go.Operand.tmp', 30)
              · --
                refine w_seq ?_
                refine w_seq ?_
                refine w_region ?_
                refine o_t x_mv ?_
                refine o_call Tryz.call81 haa spla (cValidRune a.toNat (by omega) (by omega) (by omega)) ?_
                rintro _ _ HH ⟨rfl, rfl⟩ hHH
                simp only [List.cons_append, List.nil_append, List.append_nil] at hHH; subst hHH
                refine o_t x_not ?_
                refine o_t x_mv ?_
                first | refine o_t (x_g x_mv) ?_ | refine o_t x_gs ?_ | refine o_t x_gu ?_
                first | refine o_t (x_g x_cmp) ?_ | refine o_t x_gs ?_ | refine o_t x_gu ?_
                first | refine o_t (x_g x_mv) ?_ | refine o_t x_gs ?_ | refine o_t x_gu ?_
                first | refine o_t (x_g x_mv) ?_ | refine o_t x_gs ?_ | refine o_t x_gu ?_
                first | refine o_t (x_g x_cmp) ?_ | refine o_t x_gs ?_ | refine o_t x_gu ?_
                first | refine o_t (x_g x_pick) ?_ | refine o_t x_gs ?_ | refine o_t x_gu ?_
                refine o_t x_pick ?_
                refine o_nil ?_
                refine w_cond (t := false) (fun g => rfl) (fun hc => ?_) (fun hc => ?_) -- ('Go.Operand.tmp', 41)
                · cases hc
                refine w_skip ?_
                refine w_region ?_
                refine o_t x_as ?_
                refine o_nil ?_
                exact ⟨(i + n, true), wka, hka, ⟨by dsimp only; omega, by dsimp only; rw [hst, hneed]; simp⟩, by dsimp only; omega⟩
              · cases hc
        · have hneed : needs a = false := decide_eq_false hnd
          refine w_region ?_
          refine o_t x_mv ?_
          refine o_t x_cmp ?_
          refine o_t x_mv ?_
          first | refine o_t (x_g x_mv) ?_ | refine o_t x_gs ?_ | refine o_t x_gu ?_
          first | refine o_t (x_g x_cmp) ?_ | refine o_t x_gs ?_ | refine o_t x_gu ?_
          refine o_t x_pick ?_
          refine o_t x_mv ?_
          first | refine o_t (x_g x_mv) ?_ | refine o_t x_gs ?_ | refine o_t x_gu ?_
          first | refine o_t (x_g x_cmp) ?_ | refine o_t x_gs ?_ | refine o_t x_gu ?_
          refine o_t x_pick ?_
          refine o_nil ?_
          refine w_cond (t := false) (fun g => rfl) (fun hc => ?_) (fun hc => ?_) -- ('Go.Operand.tmp', 30)
          · cases hc
          refine w_skip ?_
          exact ⟨(i + n, q), wka, hka, ⟨by dsimp only; omega, by dsimp only; rw [hst, hneed, hn1]; simp⟩, by dsimp only; omega⟩
      · obtain ⟨h3, h4, h5⟩ := hr2 (by omega)
        refine w_region ?_
        refine o_t x_mv ?_
        refine o_t x_cmp ?_
        refine o_t x_mv ?_
        first | refine o_t (x_g x_mv) ?_ | refine o_t x_gs ?_ | refine o_t x_gu ?_
        first | refine o_t (x_g x_cmp) ?_ | refine o_t x_gs ?_ | refine o_t x_gu ?_
        refine o_t x_pick ?_
        refine o_t x_mv ?_
        first | refine o_t (x_g x_mv) ?_ | refine o_t x_gs ?_ | refine o_t x_gu ?_
        first | refine o_t (x_g x_cmp) ?_ | refine o_t x_gs ?_ | refine o_t x_gu ?_
        refine o_t x_pick ?_
        refine o_nil ?_
        refine w_cond (t := true) (fun g => rfl) (fun hc => ?_) (fun hc => ?_) -- ('Go.Operand.tmp', 30)
        · --
          refine w_seq ?_
          refine w_seq ?_
          by_cases hff : r = 65533
          · refine w_region ?_
            refine o_t x_mv ?_
            refine o_call Tryz.call81 haa spla (cValidRune r (by omega) (by omega) (by omega)) ?_
            rintro _ _ HH ⟨rfl, rfl⟩ hHH
            simp only [List.cons_append, List.nil_append, List.append_nil] at hHH; subst hHH
            refine o_t x_not ?_
            refine o_t x_mv ?_
            first | refine o_t (x_g x_mv) ?_ | refine o_t x_gs ?_ | refine o_t x_gu ?_
            first | refine o_t (x_g x_cmp) ?_ | refine o_t x_gs ?_ | refine o_t x_gu ?_
            first | refine o_t (x_g x_mv) ?_ | refine o_t x_gs ?_ | refine o_t x_gu ?_
            first | refine o_t (x_g x_mv) ?_ | refine o_t x_gs ?_ | refine o_t x_gu ?_
            first | refine o_t (x_g x_cmp) ?_ | refine o_t x_gs ?_ | refine o_t x_gu ?_
            first | refine o_t (x_g x_pick) ?_ | refine o_t x_gs ?_ | refine o_t x_gu ?_
            refine o_t x_pick ?_
            refine o_nil ?_
            refine w_cond (t := false) (fun g => rfl) (fun hc => ?_) (fun hc => ?_) -- ('Go.Operand.tmp', 41)
            · cases hc
            refine w_skip ?_
            refine w_region ?_
            refine o_t x_as ?_
            refine o_nil ?_
            exact ⟨(i + n, true), wka, hka, ⟨by dsimp only; omega, by dsimp only; rw [hst, decide_eq_true (show 1 < n by omega)]; simp⟩, by dsimp only; omega⟩
          · refine w_region ?_
            refine o_t x_mv ?_
            refine o_call Tryz.call81 haa spla (cValidRune r (by omega) (by omega) (by omega)) ?_
            rintro _ _ HH ⟨rfl, rfl⟩ hHH
            simp only [List.cons_append, List.nil_append, List.append_nil] at hHH; subst hHH
            refine o_t x_not ?_
            refine o_t x_mv ?_
            first | refine o_t (x_g x_mv) ?_ | refine o_t x_gs ?_ | refine o_t x_gu ?_
            first | refine o_t (x_g x_cmp) ?_ | refine o_t x_gs ?_ | refine o_t x_gu ?_
            first | refine o_t (x_g x_mv) ?_ | refine o_t x_gs ?_ | refine o_t x_gu ?_
            first | refine o_t (x_g x_mv) ?_ | refine o_t x_gs ?_ | refine o_t x_gu ?_
            first | refine o_t (x_g x_cmp) ?_ | refine o_t x_gs ?_ | refine o_t x_gu ?_
            first | refine o_t (x_g x_pick) ?_ | refine o_t x_gs ?_ | refine o_t x_gu ?_
            refine o_t x_pick ?_
            refine o_nil ?_
            refine w_cond (t := false) (fun g => rfl) (fun hc => ?_) (fun hc => ?_) -- ('Go.Operand.tmp', 41)
            · cases hc
            refine w_skip ?_
            refine w_region ?_
            refine o_t x_as ?_
            refine o_nil ?_
            exact ⟨(i + n, true), wka, hka, ⟨by dsimp only; omega, by dsimp only; rw [hst, decide_eq_true (show 1 < n by omega)]; simp⟩, by dsimp only; omega⟩
        · cases hc
  · cases hc
end Go.Proofs.YtlmefkhglooepaaGreatDoor
namespace Go.Proofs.YtlmefkhglooepaaGreatDoor
open Go
set_option linter.unusedSimpArgs false
set_option linter.unusedVariables false
variable {G : Nat → Option Obj} {ea : Nat → Addr}
theorem cUnixSec (b : Nat) (w e : Int) (l : Value) : Fn P G 88 #[.pointer (some ⟨b, 0, none⟩)] [tmB b w e l] fun v H => ∃ z, v = .int .i64 z ∧ H = [tmB b w e l] := by
  refine fn_intro (args := [_]) Tryz.func88 Tryz.ntmps88 rfl ?_
  refine w_seq ?_
  refine w_region ?_
  refine o_t x_as ?_
  refine o_nil ?_
  refine w_seq ?_
  refine w_region ?_
  refine o_t x_mv ?_
  refine o_call Tryz.call125 haa spla (cSec _ _ _ _) ?_
  rintro _ _ HH ⟨z, rfl, rfl⟩ hHH
  simp only [List.cons_append, List.nil_append, List.append_nil] at hHH; subst hHH
  refine o_t (x_add (hz := rfl)) ?_
  refine o_t x_as ?_
  refine o_nil ?_
  refine w_ret (r_1 rfl ⟨_, rfl, rfl⟩)
theorem cTimeUnix (w e : Int) (l : Value) (hl : l.oneCell' = true) : Fn P G 57 #[.agg #[.int .u64 w, .int .i64 e, l]] [] fun v H => ∃ z, v = .int .i64 z ∧ H = [] := by
  refine fn_intro (args := [_]) Tryz.func57 Tryz.ntmps57 rfl ?_
  refine w_seq ?_
  refine w_region ?_
  refine o_bx (fun b1 => ?_)
  refine o_t x_as ?_
  refine o_nil ?_
  refine w_seq ?_
  refine w_region ?_
  refine o_call Tryz.call88 haa spla (cUnixSec _ _ _ _) ?_
  rintro _ _ HH ⟨z, rfl, rfl⟩ hHH
  simp only [List.cons_append, List.nil_append, List.append_nil] at hHH; subst hHH
  refine o_t x_as ?_
  refine o_nil ?_
  refine w_ret (r_1 rfl ⟨_, rfl, rfl⟩)
theorem Sl.mid {r : Res} {b o cap lo hi : Nat} {l : List UInt8} (h1 : lo ≤ hi) (h2 : hi ≤ l.length) (hc : l.length ≤ cap) (hr : Rd G [r] b o (l.map u8)) : Sl G r (slV b o l.length cap lo hi 1) ((l.drop lo).take (hi - lo)) := by
  have hlen : ((l.drop lo).take (hi - lo)).length = hi - lo := by simp; omega
  refine ⟨b, if cap = lo then o else o + lo * 1, cap - lo, by simp only [slV, hlen], by rw [hlen]; omega, ?_⟩
  split
  · rw [show hi - lo = 0 by omega, List.take_zero]
    intro F w _ _ i v hi; simp at hi
  · rw [Nat.mul_one, List.map_take, List.map_drop]; exact (hr.drop lo).take (hi - lo)
section
variable {n : Nat} {ops : Array Oper} {L : Loc} {H R : List Res} {d : Nat} {x : Operand} {ty s s' t : TypeId} {p : String} {e : Array Edge}
theorem x_b2S {r : Res} {v : Value} {l : List UInt8} (hs : P.underlying s = some (.slice t)) (he : P.underlying t = some (.int .u8)) (hd : P.underlying s' = some .string) (h : Sl G r v l) (hp : Pull r H R := by exact pulla)
    (hx : ∀ g, evl L g x = v := by intro g; rfl) (hn : d < n := by decide) : Ex P n G ops L H ⟨some d, .convert s s' x, ty, p, e, none⟩ d (.string (str l)) := by
  obtain ⟨b, o, cap, rfl, hc, hr⟩ := h
  exact x_b2s hs he hd (hr.pull hp) rfl hx hn
end
theorem putB_all {cs : List Value} {l : List UInt8} (h : cs.length = l.length) : putB cs 0 l = l.map u8 := by
  simp only [putB, List.take_zero, List.nil_append, Nat.zero_add]
  rw [List.drop_eq_nil_of_le (by omega), List.append_nil]
/-- A number at a place. -/
theorem cRb16H (p : Nat) (v : Value) (r : Res) (l : List UInt8) (a : Nat) (t : List UInt8) (z : Int) (h : Sl G r v (l.drop a)) (hh : Has l a t) (ht : t.length = 2) (hz : (num t : Int) = z) :
    Fn P G 97 #[.pointer (some ⟨p, 0, none⟩)] [pt p [v] 204, r] fun v' H => v' = .int .u16 z ∧ ∃ v2, Sl G r v2 (l.drop (a + 2)) ∧ H = [pt p [v2] 204, r] := by
  have hl := hh.len
  refine (cRb16 p v r _ h (by simp; omega)).post ?_
  rintro v' H ⟨rfl, v2, h2, rfl⟩
  rw [hh.eq 2 ht.symm, hz]
  exact ⟨rfl, v2, by rw [← List.drop_drop]; exact h2, rfl⟩
theorem cRb32H (p : Nat) (v : Value) (r : Res) (l : List UInt8) (a : Nat) (t : List UInt8) (z : Int) (h : Sl G r v (l.drop a)) (hh : Has l a t) (ht : t.length = 4) (hz : (num t : Int) = z) :
    Fn P G 96 #[.pointer (some ⟨p, 0, none⟩)] [pt p [v] 204, r] fun v' H => v' = .int .u32 z ∧ ∃ v2, Sl G r v2 (l.drop (a + 4)) ∧ H = [pt p [v2] 204, r] := by
  have hl := hh.len
  refine (cRb32 p v r _ h (by simp; omega)).post ?_
  rintro v' H ⟨rfl, v2, h2, rfl⟩
  rw [hh.eq 4 ht.symm, hz]
  exact ⟨rfl, v2, by rw [← List.drop_drop]; exact h2, rfl⟩
/-- A file's block. -/
abbrev fileB (fb : Nat) (nm cm non cr rd fl me tw te tl ti da crc ps us p64 u64 xt ex zp zi ho : Value) : Res :=
  pt fb [nm, cm, non, cr, rd, fl, me, tw, te, tl, ti, da, crc, ps, us, p64, u64, xt, ex, zp, zi, ho] 82
theorem and2048 {z : Int} (h : 0 ≤ z) : decide (((z.toNat &&& (2048 : Int).toNat : Nat) : Int) = 0) = decide (z / 2048 % 2 = 0) := by
  obtain ⟨m, rfl⟩ := Int.eq_ofNat_of_zero_le h
  rw [show (2048 : Int).toNat = 2 ^ 11 from rfl, Int.toNat_natCast]
  have hb : (m &&& 2 ^ 11).testBit 11 = m.testBit 11 := by rw [Nat.testBit_and, Nat.testBit_two_pow]; simp
  have ht : m.testBit 11 = decide (m / 2 ^ 11 % 2 = 1) := Nat.testBit_eq_decide_div_mod_eq
  by_cases hq : m / 2 ^ 11 % 2 = 1
  · have h1 : m &&& 2 ^ 11 ≠ 0 := by intro h0; rw [h0, ht, decide_eq_true hq] at hb; simp at hb
    rw [decide_eq_false (by omega), decide_eq_false (by omega)]
  · have h1 : m &&& 2 ^ 11 = 0 := by
      apply Nat.eq_of_testBit_eq
      intro i
      rw [Nat.testBit_and, Nat.testBit_two_pow]
      by_cases hi : 11 = i
      · subst hi; rw [ht, decide_eq_false hq]; simp
      · simp [hi]
    rw [decide_eq_true (by omega), decide_eq_true (by omega)]
end Go.Proofs.YtlmefkhglooepaaGreatDoor
