/- The archive's writer is closed. -/
import Derived.Test.YtlmefkhglooepaaGreatDoorPart10
set_option linter.unusedSimpArgs false
set_option linter.unusedVariables false
namespace Go.Proofs.YtlmefkhglooepaaGreatDoor
open Go
set_option linter.unusedSimpArgs false
set_option linter.unusedVariables false
variable {G : Nat → Option Obj} {ea : Nat → Addr}
abbrev wrC (wp cw : Nat) (dv lv : Value) (c : List UInt8) : Res := wrB wp cw dv lv true c
abbrev fhX (fh : Nat) (e : En) (x fl crc n : Nat) : Res :=
  pt fh [.string (str e.h.name), .string (str e.h.comment), .bool e.h.non, .int .u16 (20 : Nat), .int .u16 (20 : Nat), .int .u16 fl, .int .u16 0, .int .u64 0, .int .i64 0, .pointer none, .int .u16 0, .int .u16 0, .int .u32 crc, .int .u32 n, .int .u32 n, .int .u64 n, .int .u64 n, .slice none 0 0, .int .u32 x] 80
theorem cClose (wp cw wb bb : Nat) (l : List En) (hw : ∀ e ∈ l, WOK e) (hl : l.length ≤ 1000) (c : List UInt8) (hc : c.length ≤ 65535) (r : Res) (h : WstC wp cw wb bb l c r) :
    Fn P G 65 #[.pointer (some ⟨wp, 0, none⟩)] [r] fun v H => v = .nilIface ∧ ∃ bk k2, BldS bb (writeT l c) bk ∧ H = [bk, k2] := by
  have hbl := bodyW_len hw
  have hdl := dirW_len hw 0
  refine fn_intro (args := [_]) Tryz.func65 Tryz.ntmps65 rfl ?_
  refine w_seq ?_
  refine w_region ?_
  refine o_t x_as ?_
  refine o_nil ?_
  refine w_cut (α := Value × List Value × Res × Res × Res × Value × Res) (fun x => [(0, .pointer (some ⟨wp, 0, none⟩))]) (fun x => [wrB wp cw x.1 x.2.2.2.2.2.1 false c, x.2.2.1, x.2.2.2.1, x.2.2.2.2.1])
    (fun x => Rdy cw wb bb l x.1 x.2.1 x.2.2.1 x.2.2.2.1 x.2.2.2.2.1 x.2.2.2.2.2.1 x.2.2.2.2.2.2) ?_ ?_
  · refine w_seq ?_
    rcases h with ⟨dv, ps, ro, hr, k, lv, lr, hR, rfl⟩ | ⟨l', e, fl, hd, fh, fw, rc, nb, cc, cb, dv, ps, ro, hr, k, rfl, hO, rfl⟩
    · rcases hR.last with ⟨rfl, rfl⟩ | ⟨fw, hd, rc, nb, cc, cb, rfl, rfl⟩
      · refine w_weak (L' := [(0, .pointer (some ⟨wp, 0, none⟩))]) (H' := [wrB wp cw dv (.pointer none) false c, ro, hr, k]) wka (hflat (by simp)) ?_
        refine w_region ?_
        refine o_t x_mv ?_
        refine o_t x_nc ?_
        refine o_t (x_fa f127_2) ?_
        refine o_t (x_ld k123) ?_
        first | refine o_t (x_pnil Tryz.underlying123) ?_ | refine o_t (x_psome Tryz.underlying123) ?_
        refine o_t x_mv ?_
        first | refine o_t (x_g x_mv) ?_ | refine o_t x_gs ?_ | refine o_t x_gu ?_
        first | refine o_t (x_g x_nc) ?_ | refine o_t x_gs ?_ | refine o_t x_gu ?_
        first | refine o_t (x_g (x_fa f127_2)) ?_ | refine o_t x_gs ?_ | refine o_t x_gu ?_
        first | refine o_t (x_g (x_ld k123)) ?_ | refine o_t x_gs ?_ | refine o_t x_gu ?_
        first | refine o_t (x_g x_nc) ?_ | refine o_t x_gs ?_ | refine o_t x_gu ?_
        first | refine o_t (x_g (x_fa f149_6)) ?_ | refine o_t x_gs ?_ | refine o_t x_gu ?_
        first | refine o_t (x_g (x_ld k4)) ?_ | refine o_t x_gs ?_ | refine o_t x_gu ?_
        first | refine o_t (x_g x_not) ?_ | refine o_t x_gs ?_ | refine o_t x_gu ?_
        refine o_t x_pick ?_
        refine o_nil ?_
        refine w_cond (t := false) (fun g => rfl) (fun hc => ?_) (fun hc => ?_) -- ('Go.Operand.tmp', 52)
        · cases hc
        refine w_skip ?_
        exact ⟨(dv, ps, ro, hr, k, _, _), wka, hka, hR⟩
      · refine w_weak (L' := [(0, .pointer (some ⟨wp, 0, none⟩))]) (H' := [wrB wp cw dv (.pointer (some ⟨fw, 0, none⟩)) false c, fwB fw hd cw rc nb cc cb true, ro, hr, k]) wka (HWk.trans (B := [wrB wp cw dv (.pointer (some ⟨fw, 0, none⟩)) false c, ro, hr, k, fwB fw hd cw rc nb cc cb true]) (hflat (by simp)) hka) ?_
        refine w_region ?_
        refine o_t x_mv ?_
        refine o_t x_nc ?_
        refine o_t (x_fa f127_2) ?_
        refine o_t (x_ld k123) ?_
        first | refine o_t (x_pnil Tryz.underlying123) ?_ | refine o_t (x_psome Tryz.underlying123) ?_
        refine o_t x_mv ?_
        first | refine o_t (x_g x_mv) ?_ | refine o_t x_gs ?_ | refine o_t x_gu ?_
        first | refine o_t (x_g x_nc) ?_ | refine o_t x_gs ?_ | refine o_t x_gu ?_
        first | refine o_t (x_g (x_fa f127_2)) ?_ | refine o_t x_gs ?_ | refine o_t x_gu ?_
        first | refine o_t (x_g (x_ld k123)) ?_ | refine o_t x_gs ?_ | refine o_t x_gu ?_
        first | refine o_t (x_g x_nc) ?_ | refine o_t x_gs ?_ | refine o_t x_gu ?_
        first | refine o_t (x_g (x_fa f149_6)) ?_ | refine o_t x_gs ?_ | refine o_t x_gu ?_
        first | refine o_t (x_g (x_ld k4)) ?_ | refine o_t x_gs ?_ | refine o_t x_gu ?_
        first | refine o_t (x_g x_not) ?_ | refine o_t x_gs ?_ | refine o_t x_gu ?_
        refine o_t x_pick ?_
        refine o_nil ?_
        refine w_cond (t := false) (fun g => rfl) (fun hc => ?_) (fun hc => ?_) -- ('Go.Operand.tmp', 52)
        · cases hc
        refine w_skip ?_
        exact ⟨(dv, ps, ro, hr, k, _, _), wka, hka, hR⟩
    · have hwe := hw e (by simp)
      have hfl := hO.flag
      have hd3 := flags_desc e.h hO.dir
      rw [← hfl] at hd3
      have hfb := flagsW_le e.h
      rw [← hfl] at hfb
      have hlen : (bodyW l' ++ localT (lhW e) ++ e.data).length + 16 = (bodyW (l' ++ [e])).length := by
        rw [bodyW_append]
        simp only [bodyW, partW_open e hO.dir, List.length_append, List.length_nil, descT_length]; omega
      have cc1 := cFwClose (G := G) fw hd fh (bodyW l').length cw rc nb cc cb wb bb (bodyW l' ++ localT (lhW e)).length e hwe.data fl (by omega) hd3 _ k hO.out (by simp only [List.length_append]) (by omega)
      refine w_weak (L' := [(0, .pointer (some ⟨wp, 0, none⟩))]) (H' := [wrB wp cw dv (.pointer (some ⟨fw, 0, none⟩)) false c, fwB fw hd cw rc nb cc cb false, hdB hd fh (bodyW l').length, fhB fh e 20 20 fl 0 0, crcB cb e.data, k, ro ++ hr]) wka (HWk.trans (B := [wrB wp cw dv (.pointer (some ⟨fw, 0, none⟩)) false c, ro ++ hr, hdB hd fh (bodyW l').length, fhB fh e 20 20 fl 0 0, fwB fw hd cw rc nb cc cb false, crcB cb e.data, k]) (hflat (by simp)) hka) ?_
      refine w_region ?_
      refine o_t x_mv ?_
      refine o_t x_nc ?_
      refine o_t (x_fa f127_2) ?_
      refine o_t (x_ld k123) ?_
      first | refine o_t (x_pnil Tryz.underlying123) ?_ | refine o_t (x_psome Tryz.underlying123) ?_
      refine o_t x_mv ?_
      first | refine o_t (x_g x_mv) ?_ | refine o_t x_gs ?_ | refine o_t x_gu ?_
      first | refine o_t (x_g x_nc) ?_ | refine o_t x_gs ?_ | refine o_t x_gu ?_
      first | refine o_t (x_g (x_fa f127_2)) ?_ | refine o_t x_gs ?_ | refine o_t x_gu ?_
      first | refine o_t (x_g (x_ld k123)) ?_ | refine o_t x_gs ?_ | refine o_t x_gu ?_
      first | refine o_t (x_g x_nc) ?_ | refine o_t x_gs ?_ | refine o_t x_gu ?_
      first | refine o_t (x_g (x_fa f149_6)) ?_ | refine o_t x_gs ?_ | refine o_t x_gu ?_
      first | refine o_t (x_g (x_ld k4)) ?_ | refine o_t x_gs ?_ | refine o_t x_gu ?_
      first | refine o_t (x_g x_not) ?_ | refine o_t x_gs ?_ | refine o_t x_gu ?_
      refine o_t x_pick ?_
      refine o_nil ?_
      refine w_cond (t := true) (fun g => rfl) (fun hc => ?_) (fun hc => ?_) -- ('Go.Operand.tmp', 52)
      case refine_2 => cases hc
      refine w_seq ?_
      refine w_seq ?_
      refine w_region ?_
      refine o_t x_mv ?_
      refine o_t x_nc ?_
      refine o_t (x_fa f127_2) ?_
      refine o_t (x_ld k123) ?_
      refine o_call Tryz.call79 haa spla (cc1) ?_
      rintro _ _ HH ⟨rfl, k', hk', rfl⟩ hHH
      simp only [List.cons_append, List.nil_append, List.append_nil] at hHH; subst hHH
      refine o_t x_as ?_
      refine o_nil ?_
      refine w_seq ?_
      refine w_region ?_
      refine o_t x_mv ?_
      first | refine o_t (x_inil Tryz.underlying58) ?_ | refine o_t (x_isome Tryz.underlying58) ?_
      refine o_nil ?_
      refine w_cond (t := false) (fun g => rfl) (fun hc => ?_) (fun hc => ?_) -- ('Go.Operand.tmp', 59)
      · cases hc
      refine w_skip ?_
      refine w_region ?_
      refine o_t x_mv ?_
      refine o_t x_nc ?_
      refine o_t (x_fa f127_2) ?_
      refine o_st k123 ?_
      refine o_nil ?_
      refine ⟨(dv, ps ++ [.pointer (some ⟨hd, 0, none⟩)], ro, hr ++ (hdB hd fh (bodyW l').length ++ fhB fh e 20 20 fl (crcT e.data) e.data.length), k', .pointer none, []), wka, ?_, ?_⟩
      · exact HWk.trans (B := [wrB wp cw dv (.pointer none) false c, ro ++ hr, hdB hd fh (bodyW l').length, fhB fh e 20 20 fl (crcT e.data) e.data.length, k']) hka (hflat (by simp))
      · refine ⟨by rw [List.length_append]; exact hO.own, hO.hds.snoc ⟨hd, fh, rfl, by rw [← hfl, Nat.zero_add]⟩, ?_, .inl ⟨rfl, rfl⟩⟩
        rw [bodyW_append]
        simp only [bodyW, partW_open e hO.dir, List.append_nil]
        rw [List.append_assoc, List.append_assoc] at hk'
        rw [List.append_assoc]
        exact hk'
  rintro ⟨dv, ps, ro, hr, k, lv, lr⟩ hR
  dsimp only at hR ⊢
  have hO := hR.own
  have hout := hR.out
  have hhds := hR.hds
  clear hR h
  obtain ⟨n0, hn0⟩ : ∃ n, (bodyW l).length = n := ⟨_, rfl⟩
  obtain ⟨n1, hn1⟩ : ∃ n, (dirG (recsW l 0)).length = n := ⟨_, rfl⟩
  rw [hn0] at hbl
  rw [hn1] at hdl
  refine w_seq ?_
  refine w_seq ?_
  refine w_region ?_
  refine o_t x_mv ?_
  refine o_t x_nc ?_
  refine o_t (x_fa f127_3) ?_
  refine o_t (x_ld k4) ?_
  refine o_nil ?_
  refine w_cond (t := false) (fun g => rfl) (fun hc => ?_) (fun hc => ?_) -- ('Go.Operand.tmp', 67)
  · cases hc
  refine w_skip ?_
  refine w_seq ?_
  refine w_region ?_
  refine o_t x_mv ?_
  refine o_t x_nc ?_
  refine o_t (x_fa f127_3) ?_
  refine o_st k4 ?_
  refine o_nil ?_
  obtain ⟨n, k0, hn, hS, rfl⟩ := id hout
  obtain rfl : n = n0 := by omega
  refine w_weak (L' := [(0, .pointer (some ⟨wp, 0, none⟩))]) (H' := [wrB wp cw dv lv true c, cwB cw 118 (.pointer (some ⟨wb, 0, none⟩)) n, k0, ro, hr]) wka (HWk.trans (B := [wrB wp cw dv lv true c, ro, hr, cwB cw 118 (.pointer (some ⟨wb, 0, none⟩)) n ++ k0]) hka (HWk.trans (B := [wrB wp cw dv lv true c, ro, hr, cwB cw 118 (.pointer (some ⟨wb, 0, none⟩)) n, k0]) (hflat (by simp)) hka)) ?_
  refine w_seq ?_
  refine w_region ?_
  refine o_t x_mv ?_
  refine o_t x_nc ?_
  refine o_t (x_fa f127_0) ?_
  refine o_t (x_ld k117) ?_
  refine o_t x_nc ?_
  refine o_t (x_fa f121_1) ?_
  refine o_t (x_ld k2) ?_
  refine o_t x_as ?_
  refine o_nil ?_
  refine w_seq ?_
  refine w_region ?_
  refine o_t x_as ?_
  refine o_nil ?_
  obtain ⟨fa, fc, hdv⟩ := hO.len
  have hdv1 := hO.one
  refine w_weak (L' := [(0, .pointer (some ⟨wp, 0, none⟩)), (4, .int .i64 n), (5, .bool false)]) (H' := [wrB wp cw dv lv true c, ro, hr, cwB cw 118 (.pointer (some ⟨wb, 0, none⟩)) n ++ k0]) wka (HWk.trans (B := [wrB wp cw dv lv true c, ro, hr, cwB cw 118 (.pointer (some ⟨wb, 0, none⟩)) n, k0]) hka (hflat (by simp))) ?_
  refine w_seq ?_
  refine w_seq ?_
  refine w_region ?_
  refine o_t x_mv ?_
  refine o_t x_nc ?_
  refine o_t (x_fa f127_1) ?_
  refine o_t (x_ld k122) ?_
  refine o_t (x_lenb (a' := fa) (cap := fc) Tryz.underlying122 (hx := fun g => hdv)) ?_
  refine o_t x_mv ?_
  refine o_nil ?_
  refine w_block ?_ -- 0
  refine w_loop (α := Nat × Res) (fun x => [(0, .pointer (some ⟨wp, 0, none⟩)), (4, .int .i64 n), (5, .bool false), (82, dv), (83, .int .i64 l.length), (84, .int .i64 x.1)]) (fun x => [wrB wp cw dv lv true c, ro, hr, x.2]) (fun x => x.1 ≤ l.length ∧ Scw cw wb bb (bodyW l ++ dirG ((recsW l 0).take x.1)) x.2) (fun x => l.length - x.1) (0, _) (wka) (hka) ⟨Nat.zero_le _, by simpa [dirG] using hout⟩ ?_
  rintro ⟨i, ki⟩ ⟨hi, hki⟩
  dsimp only at hi hki ⊢
  refine w_seq ?_
  by_cases hil : i < l.length
  case neg =>
    obtain rfl : i = l.length := by omega
    refine w_region ?_
    refine o_t x_cmp ?_
    refine o_nil ?_
    refine w_seq ?_
    refine w_cond (t := false) (fun g => rfl) (fun hc => ?_) (fun hc => ?_) -- ('Go.Operand.tmp', 85)
    · cases hc
    refine w_exit ?_ -- 0
    have htk : (recsW l 0).take l.length = recsW l 0 := List.take_of_length_le (by rw [recsW_length]; omega)
    rw [htk] at hki
    obtain ⟨out, hout2⟩ : ∃ out, bodyW l ++ dirG (recsW l 0) = out := ⟨_, rfl⟩
    have hol : out.length = n + n1 := by rw [← hout2, List.length_append, hn0, hn1]
    rw [hout2] at hki
    obtain ⟨m, kk2, hm, hS2, rfl⟩ := id hki
    obtain rfl : m = n + n1 := by omega
    refine w_weak (L' := [(0, .pointer (some ⟨wp, 0, none⟩)), (4, .int .i64 n), (5, .bool false)]) (H' := [wrB wp cw dv lv true c, cwB cw 118 (.pointer (some ⟨wb, 0, none⟩)) (n + n1), kk2]) wka (HWk.trans (B := [wrB wp cw dv lv true c, cwB cw 118 (.pointer (some ⟨wb, 0, none⟩)) (n + n1) ++ kk2]) hka (hflat (by simp))) ?_
    refine w_seq ?_
    refine w_region ?_
    refine o_t x_mv ?_
    refine o_t x_nc ?_
    refine o_t (x_fa f127_0) ?_
    refine o_t (x_ld k117) ?_
    refine o_t x_nc ?_
    refine o_t (x_fa f121_1) ?_
    refine o_t (x_ld k2) ?_
    refine o_t x_as ?_
    refine o_nil ?_
    refine w_seq ?_
    refine w_region ?_
    refine o_t x_mv ?_
    refine o_t x_nc ?_
    refine o_t (x_fa f127_1) ?_
    refine o_t (x_ld k122) ?_
    refine o_t (x_lenb (a' := fa) (len := l.length) (cap := fc) Tryz.underlying122 (hx := fun g => hdv)) ?_
    refine o_t (x_cv ⟨_, Tryz.underlying3⟩ Tryz.underlying73) ?_
    refine o_t x_as ?_
    refine o_nil ?_
    refine w_seq ?_
    refine w_region ?_
    refine o_t x_mv ?_
    refine o_t x_mv ?_
    refine o_t (x_sub (z := (n1 : Int)) (hz := (w_i64 (by omega)).trans (by omega))) ?_
    refine o_t (x_cv ⟨_, Tryz.underlying2⟩ Tryz.underlying73) ?_
    refine o_t x_as ?_
    refine o_nil ?_
    refine w_seq ?_
    refine w_region ?_
    refine o_t x_mv ?_
    refine o_t (x_cv ⟨_, Tryz.underlying2⟩ Tryz.underlying73) ?_
    refine o_t x_as ?_
    refine o_nil ?_
    refine w_seq ?_
    refine w_seq ?_
    refine w_region ?_
    refine o_t x_mv ?_
    refine o_t x_nc ?_
    refine o_t (x_fa f127_6) ?_
    refine o_t (x_ld k125) ?_
    refine o_t x_as ?_
    refine o_nil ?_
    refine w_seq ?_
    refine w_region ?_
    refine o_t x_mv ?_
    refine o_t (x_fnilN Tryz.underlying125) ?_
    refine o_nil ?_
    refine w_cond (t := false) (fun g => rfl) (fun hc => ?_) (fun hc => ?_) -- ('Go.Operand.tmp', 405)
    · cases hc
    refine w_skip ?_
    refine w_seq ?_
    refine w_seq ?_
    refine w_region ?_
    refine o_t x_mv ?_
    refine o_t x_mv ?_
    first | refine o_t (x_g x_mv) ?_ | refine o_t x_gs ?_ | refine o_t x_gu ?_
    first | refine o_t (x_g x_cmp) ?_ | refine o_t x_gs ?_ | refine o_t x_gu ?_
    refine o_t x_pick ?_
    refine o_t x_mv ?_
    first | refine o_t (x_g x_mv) ?_ | refine o_t x_gs ?_ | refine o_t x_gu ?_
    first | refine o_t (x_g x_cmp) ?_ | refine o_t x_gs ?_ | refine o_t x_gu ?_
    refine o_t x_pick ?_
    refine o_t x_mv ?_
    first | refine o_t (x_g x_mv) ?_ | refine o_t x_gs ?_ | refine o_t x_gu ?_
    first | refine o_t (x_g x_cmp) ?_ | refine o_t x_gs ?_ | refine o_t x_gu ?_
    refine o_t x_pick ?_
    refine o_nil ?_
    refine w_cond (t := false) (fun g => rfl) (fun hc => ?_) (fun hc => ?_) -- ('Go.Operand.tmp', 422)
    · cases hc
    refine w_skip ?_
    refine w_weak (L' := [(0, .pointer (some ⟨wp, 0, none⟩)), (24, .int .u64 l.length), (25, .int .u64 n1), (26, .int .u64 n)]) (H' := [wrB wp cw dv lv true c, cwB cw 118 (.pointer (some ⟨wb, 0, none⟩)) (n + n1) ++ kk2]) wka (HWk.trans (B := [wrB wp cw dv lv true c, cwB cw 118 (.pointer (some ⟨wb, 0, none⟩)) (n + n1), kk2]) hka (hflat (by simp))) ?_
    refine w_seq ?_
    refine w_region ?_
    refine o_al z201 (fun b32 => ?_)
    refine o_nil ?_
    refine w_seq ?_
    refine w_region ?_
    refine o_t (x_sla Tryz.underlying201 e201) ?_
    refine o_al z133 (fun b33 => ?_)
    refine o_st k133 ?_
    refine o_nil ?_
    refine w_weak (L' := [(0, .pointer (some ⟨wp, 0, none⟩)), (24, .int .u64 l.length), (25, .int .u64 n1), (26, .int .u64 n), (32, .pointer (some ⟨b32, 0, none⟩)), (33, .pointer (some ⟨b33, 0, none⟩))]) (H' := [pt b33 [.slice (some ⟨b32, 0, none⟩) 22 22] 133, pt b32 (wbC 22 []) 201, wrB wp cw dv lv true c, cwB cw 118 (.pointer (some ⟨wb, 0, none⟩)) (n + n1) ++ kk2]) wka hka ?_
    refine w_seq ?_
    refine w_region ?_
    refine o_call Tryz.call60 haa spla (cWb32 b33 b32 201 22 [] _ 101010256 (by decide) ⟨rfl, fun _ => rfl⟩ (by decide)) ?_
    rintro _ _ HH ⟨v1, hv1, rfl⟩ hHH
    simp only [List.cons_append, List.nil_append, List.append_nil] at hHH; subst hHH
    refine o_nil ?_
    obtain ⟨-, hv1⟩ := hv1
    have hv1' := hv1 (by simp [le_length])
    have hl4 : ([] ++ le 4 101010256).length = 4 := by simp [le_length]
    rw [hl4] at hv1'
    subst hv1'
    have hl8 : (le 4 101010256 ++ List.replicate 4 (0 : UInt8)).length = 8 := by rw [List.length_append, List.length_replicate, le_length]
    have hw8 : WbV b32 22 (le 4 101010256 ++ List.replicate 4 0).length (.slice (some ⟨b32, 8, none⟩) 14 14) := by
      rw [hl8]
      exact ⟨rfl, fun _ => rfl⟩
    refine w_seq ?_
    refine w_region ?_
    refine o_t (x_ld k133) ?_
    refine o_t (x_sl (lo := 4) (hi := 18) (v := .slice (some ⟨b32, 8, none⟩) 14 14) Tryz.underlying133 e133 (hv := by rfl)) ?_
    refine o_st k133 ?_
    refine o_nil ?_
    have hz8 : wbC 22 (le 4 101010256) = wbC 22 (le 4 101010256 ++ List.replicate 4 0) := (wbC_zero 4 (by rw [le_length]; omega)).symm
    rw [hz8]
    obtain ⟨p8, hp8⟩ : ∃ p, le 4 101010256 ++ List.replicate 4 (0 : UInt8) = p := ⟨_, rfl⟩
    rw [hp8] at hw8 hl8 ⊢
    refine w_seq ?_
    refine w_region ?_
    refine o_t x_mv ?_
    refine o_t (x_min (z := (l.length : Int)) (hz := min_r (by omega))) ?_
    refine o_t (x_cv (z := (l.length : Int)) ⟨_, Tryz.underlying73⟩ Tryz.underlying72 (hz := w_u16 (by omega))) ?_
    refine o_call Tryz.call58 haa spla (cWb16 b33 b32 201 22 p8 _ l.length (by omega) hw8 (by omega)) ?_
    rintro _ _ HH ⟨v2, hv2, rfl⟩ hHH
    simp only [List.cons_append, List.nil_append, List.append_nil] at hHH; subst hHH
    refine o_nil ?_
    refine w_seq ?_
    refine w_region ?_
    refine o_t x_mv ?_
    refine o_t (x_min (z := (l.length : Int)) (hz := min_r (by omega))) ?_
    refine o_t (x_cv (z := (l.length : Int)) ⟨_, Tryz.underlying73⟩ Tryz.underlying72 (hz := w_u16 (by omega))) ?_
    refine o_call Tryz.call58 haa spla (cWb16 b33 b32 201 22 _ v2 l.length (by omega) hv2 (by simp only [List.length_append, le_length, hl8]; omega)) ?_
    rintro _ _ HH ⟨v3, hv3, rfl⟩ hHH
    simp only [List.cons_append, List.nil_append, List.append_nil] at hHH; subst hHH
    refine o_nil ?_
    refine w_seq ?_
    refine w_region ?_
    refine o_t x_mv ?_
    refine o_t (x_min (z := (n1 : Int)) (hz := min_r (by omega))) ?_
    refine o_t (x_cv (z := (n1 : Int)) ⟨_, Tryz.underlying73⟩ Tryz.underlying77 (hz := w_u32 (by omega))) ?_
    refine o_call Tryz.call60 haa spla (cWb32 b33 b32 201 22 _ v3 n1 (by omega) hv3 (by simp only [List.length_append, le_length, hl8]; omega)) ?_
    rintro _ _ HH ⟨v4, hv4, rfl⟩ hHH
    simp only [List.cons_append, List.nil_append, List.append_nil] at hHH; subst hHH
    refine o_nil ?_
    refine w_seq ?_
    refine w_region ?_
    refine o_t x_mv ?_
    refine o_t (x_min (z := (n : Int)) (hz := min_r (by omega))) ?_
    refine o_t (x_cv (z := (n : Int)) ⟨_, Tryz.underlying73⟩ Tryz.underlying77 (hz := w_u32 (by omega))) ?_
    refine o_call Tryz.call60 haa spla (cWb32 b33 b32 201 22 _ v4 n (by omega) hv4 (by simp only [List.length_append, le_length, hl8]; omega)) ?_
    rintro _ _ HH ⟨v5, hv5, rfl⟩ hHH
    simp only [List.cons_append, List.nil_append, List.append_nil] at hHH; subst hHH
    refine o_nil ?_
    refine w_seq ?_
    refine w_region ?_
    refine o_t x_mv ?_
    refine o_t x_nc ?_
    refine o_t (x_fa f127_5) ?_
    refine o_t (x_ld k9) ?_
    refine o_t (x_lens Tryz.underlying9) ?_
    refine o_t (x_cv (z := (c.length : Int)) ⟨_, Tryz.underlying3⟩ Tryz.underlying72 (hz := w_u16 (by omega))) ?_
    refine o_call Tryz.call58 haa spla (cWb16 b33 b32 201 22 _ v5 c.length (by omega) hv5 (by simp only [List.length_append, le_length, hl8]; omega)) ?_
    rintro _ _ HH ⟨v6, hv6, rfl⟩ hHH
    simp only [List.cons_append, List.nil_append, List.append_nil] at hHH; subst hHH
    refine o_nil ?_
    have hfin : p8 ++ le 2 l.length ++ le 2 l.length ++ le 4 n1 ++ le 4 n ++ le 2 c.length = hdr22 l.length n1 n c.length := by rw [← hp8]; rfl
    rw [hfin, wbC_full (hdr22_len _ _ _ _)]
    have hsl : Sl G (pt b32 ((hdr22 l.length n1 n c.length).map u8) 201) (.slice (some ⟨b32, 0, none⟩) 22 22) (hdr22 l.length n1 n c.length) := ⟨b32, 0, 22, by rw [hdr22_len], by rw [hdr22_len]; decide, Rd.all⟩
    have cw1 := (scwWrt (G := G) cw wb bb).write out _ hki _ _ _ hsl (by rw [hdr22_len]; omega)
    rw [hdr22_len] at cw1
    refine w_weak (L' := [(0, .pointer (some ⟨wp, 0, none⟩)), (32, .pointer (some ⟨b32, 0, none⟩))]) (H' := [wrB wp cw dv lv true c, pt b32 ((hdr22 l.length n1 n c.length).map u8) 201, cwB cw 118 (.pointer (some ⟨wb, 0, none⟩)) (n + n1) ++ kk2]) wka hka ?_
    refine w_seq ?_
    refine w_seq ?_
    refine w_draw mixed ?_
    refine a_seg (k := 5) _ [(1, 0), (1, 1), (1, 2), (1, 3), (1, 4)] (by kernel_rfl) (hwk (.cons .head .nil)) ?_
    refine h_t rfl x_mv ?_
    refine h_t rfl x_nc ?_
    refine h_t rfl (x_fa f127_0) ?_
    refine h_t rfl (x_ld k117) ?_
    refine h_t rfl (x_sla (lo := 0) (hi := 22) (v := .slice (some ⟨b32, 0, none⟩) 22 22) Tryz.underlying201 e201) ?_
    refine h_end ?_
    refine a_seg (k := 6) _ [(0, 5)] (by kernel_rfl) hwk_nil ?_
    refine h_one rfl (fun Q' hQ => ?_)
    refine o_call Tryz.call94 haa spla (cw1) ?_
    rintro _ _ HH ⟨rfl, k1', hk1, rfl⟩ hHH
    simp only [List.cons_append, List.nil_append, List.append_nil] at hHH; subst hHH
    refine o_nil (hQ _ _ (h_keep ?_))
    refine h_end ?_
    refine a_seg (k := 7) _ [(1, 6)] (by kernel_rfl) (HWk.refl _) ?_
    refine h_t rfl x_mv ?_
    refine h_end ?_
    refine a_seg (k := 10) _ [(1, 7), (1, 8), (1, 9)] (by kernel_rfl) (HWk.refl _) ?_
    refine h_t rfl x_ex ?_
    refine h_t rfl x_ex ?_
    refine h_t rfl x_as ?_
    refine h_end ?_
    refine a_seg (k := 11) _ [(1, 10)] (by kernel_rfl) (HWk.refl _) ?_
    refine h_t rfl x_as ?_
    refine h_end ?_
    refine a_done rfl ?_
    refine w_seq ?_
    refine w_region ?_
    refine o_t x_mv ?_
    first | refine o_t (x_inil Tryz.underlying58) ?_ | refine o_t (x_isome Tryz.underlying58) ?_
    refine o_nil ?_
    refine w_cond (t := false) (fun g => rfl) (fun hc => ?_) (fun hc => ?_) -- ('Go.Operand.tmp', 493)
    · cases hc
    refine w_skip ?_
    refine w_weak (L' := [(0, .pointer (some ⟨wp, 0, none⟩))]) (H' := [wrB wp cw dv lv true c, k1']) wka hka ?_
    have ho1' : (out ++ hdr22 l.length n1 n c.length).length = out.length + 22 := by rw [List.length_append, hdr22_len]
    have cw2 := fun b cap r (hrd : Rd G [r] b 0 (c.map u8)) (hcap : c.length ≤ cap) => (scwWrt (G := G) cw wb bb).write _ k1' hk1 (.slice (some ⟨b, 0, none⟩) c.length cap) r c ⟨b, 0, cap, rfl, hcap, hrd⟩ (by rw [ho1']; omega)
    refine w_seq ?_
    refine w_seq ?_
    refine w_draw mixed ?_
    refine a_seg (k := 9) _ [(1, 0), (1, 1), (1, 2), (1, 3), (1, 4), (1, 5), (1, 6), (1, 7), (0, 8)] (by kernel_rfl) (hwk (.cons .head .nil)) ?_
    refine h_t rfl x_mv ?_
    refine h_t rfl x_nc ?_
    refine h_t rfl (x_fa f127_0) ?_
    refine h_t rfl (x_ld k117) ?_
    refine h_t rfl x_mv ?_
    refine h_t rfl x_nc ?_
    refine h_t rfl (x_fa f127_5) ?_
    refine h_t rfl (x_ld k9) ?_
    refine h_one rfl (fun Q' hQ => ?_)
    refine o_s2b Tryz.underlying9 Tryz.underlying78 Tryz.underlying5 (fun nb ncap nr hrd hcap => ?_)
    refine o_nil (hQ _ _ (h_keep ?_))
    refine h_end ?_
    refine a_seg (k := 10) _ [(0, 9)] (by kernel_rfl) hwk_nil ?_
    refine h_one rfl (fun Q' hQ => ?_)
    refine o_call Tryz.call94 haa spla ((cw2 nb ncap nr hrd hcap)) ?_
    rintro _ _ HH ⟨rfl, k2', hk2, rfl⟩ hHH
    simp only [List.cons_append, List.nil_append, List.append_nil] at hHH; subst hHH
    refine o_nil (hQ _ _ (h_keep ?_))
    refine h_end ?_
    refine a_seg (k := 11) _ [(1, 10)] (by kernel_rfl) (HWk.refl _) ?_
    refine h_t rfl x_mv ?_
    refine h_end ?_
    refine a_seg (k := 14) _ [(1, 11), (1, 12), (1, 13)] (by kernel_rfl) (HWk.refl _) ?_
    refine h_t rfl x_ex ?_
    refine h_t rfl x_ex ?_
    refine h_t rfl x_as ?_
    refine h_end ?_
    refine a_seg (k := 15) _ [(1, 14)] (by kernel_rfl) (HWk.refl _) ?_
    refine h_t rfl x_as ?_
    refine h_end ?_
    refine a_done rfl ?_
    refine w_seq ?_
    refine w_region ?_
    refine o_t x_mv ?_
    first | refine o_t (x_inil Tryz.underlying58) ?_ | refine o_t (x_isome Tryz.underlying58) ?_
    refine o_nil ?_
    refine w_cond (t := false) (fun g => rfl) (fun hc => ?_) (fun hc => ?_) -- ('Go.Operand.tmp', 509)
    · cases hc
    refine w_skip ?_
    have hwT : out ++ hdr22 l.length n1 n c.length ++ c = writeT l c := by rw [writeT, hn0, hn1, hdr22_end, ← hout2]; simp only [List.append_assoc]
    rw [hwT] at hk2
    have hTl : (writeT l c).length ≤ 2147483647 := by rw [← hwT, List.length_append, ho1']; omega
    obtain ⟨m3, k4, hm3, hS4, rfl⟩ := hk2
    have cf := cFlushW (G := G) wb bb _ k4 hS4 hTl
    refine w_weak (L' := [(0, .pointer (some ⟨wp, 0, none⟩))]) (H' := [wrB wp cw dv lv true c, cwB cw 118 (.pointer (some ⟨wb, 0, none⟩)) m3, k4]) wka (HWk.trans (B := [wrB wp cw dv lv true c, cwB cw 118 (.pointer (some ⟨wb, 0, none⟩)) m3 ++ k4]) hka (hflat (by simp))) ?_
    refine w_seq ?_
    refine w_region ?_
    refine o_t x_mv ?_
    refine o_t x_nc ?_
    refine o_t (x_fa f127_0) ?_
    refine o_t (x_ld k117) ?_
    refine o_t x_nc ?_
    refine o_t (x_fa f121_0) ?_
    refine o_t (x_ld k89) ?_
    refine o_t (x_ta (ta118 wb)) ?_
    refine o_call Tryz.call95 haa spla (cf) ?_
    rintro _ _ HH ⟨rfl, bk, k5, hb5, rfl⟩ hHH
    simp only [List.cons_append, List.nil_append, List.append_nil] at hHH; subst hHH
    refine o_t x_as ?_
    refine o_nil ?_
    refine w_ret (r_1 rfl ⟨rfl, bk, k5, hb5, rfl⟩)
  refine w_region ?_
  refine o_t x_cmp ?_
  refine o_nil ?_
  refine w_seq ?_
  refine w_cond (t := true) (fun g => rfl) (fun hc => ?_) (fun hc => ?_) -- ('Go.Operand.tmp', 85)
  case refine_2 => cases hc
  refine w_skip ?_
  have he : l[i]? = some l[i] := List.getElem?_eq_getElem hil
  obtain ⟨e, hee⟩ : ∃ e, l[i] = e := ⟨_, rfl⟩
  rw [hee] at he
  have hwe := hw e (List.mem_of_getElem? he)
  have hstep := dirG_step l i e he
  have hle1 := dirG_takeLe (recsW l 0) (i + 1)
  have hle2 := bodyW_take_le l i
  obtain ⟨p, a, pre, post, hp, ⟨hd, fh, rfl, rfl⟩, rfl⟩ := hhds.get he
  obtain ⟨bo, oo, co, rfl, hco, hrd⟩ := hO.arr.some (by omega)
  rw [Nat.zero_add]
  obtain ⟨out, hout2⟩ : ∃ out, bodyW l ++ dirG ((recsW l 0).take i) = out := ⟨_, rfl⟩
  rw [hout2] at hki
  obtain ⟨x, hx⟩ := Int.eq_ofNat_of_zero_le hwe.ext.1
  have hxl := hwe.ext.2
  rw [hx] at hxl
  rw [hdr46_central e x _ hx] at hstep
  have hfb := flagsW_le e.h
  have hcl := crcT_lt e.data
  have hnl := hwe.name
  have hml := hwe.comment
  have hzl := hwe.data
  obtain ⟨fl, hfl⟩ : ∃ fl, flagsW e.h = fl := ⟨_, rfl⟩
  obtain ⟨c1, hc1⟩ : ∃ c1, crcT e.data = c1 := ⟨_, rfl⟩
  obtain ⟨z, hz⟩ : ∃ z, e.data.length = z := ⟨_, rfl⟩
  obtain ⟨o1, ho1⟩ : ∃ o1, (bodyW (l.take i)).length = o1 := ⟨_, rfl⟩
  rw [hfl, hc1, hz, ho1] at hstep ⊢
  have hfx : fhB fh e 20 20 fl c1 z = fhX fh e x fl c1 z := by simp only [fhB, fhX, hx]
  rw [hfx]
  rw [hfl] at hfb
  rw [hc1] at hcl
  rw [hz] at hzl
  rw [ho1, hn0] at hle2
  have hol : out.length + 46 + e.h.name.length + e.h.comment.length ≤ n + n1 := by
    rw [hstep] at hle1
    simp only [List.length_append, hdr46_len] at hle1
    rw [← hout2, List.length_append, ← hn1]; omega
  refine w_weak (L' := [(0, .pointer (some ⟨wp, 0, none⟩)), (4, .int .i64 n), (5, .bool false), (82, .slice (some ⟨bo, oo, none⟩) l.length co), (83, .int .i64 l.length), (84, .int .i64 i)]) (H' := [wrB wp cw (.slice (some ⟨bo, oo, none⟩) l.length co) lv true c, hdB hd fh o1, fhX fh e x fl c1 z, ki, ro, pre ++ post]) wka (HWk.trans (B := [wrB wp cw (.slice (some ⟨bo, oo, none⟩) l.length co) lv true c, ro, pre, hdB hd fh o1, fhX fh e x fl c1 z, post, ki]) (hflat (by simp)) (HWk.trans (B := [wrB wp cw (.slice (some ⟨bo, oo, none⟩) l.length co) lv true c, hdB hd fh o1, fhX fh e x fl c1 z, ki, ro, pre, post]) hka (hflat (by simp)))) ?_
  refine w_seq ?_
  refine w_block ?_ -- 1
  refine w_seq ?_
  refine w_region ?_
  refine o_t (x_ia (m := oo + i) Tryz.underlying122 e122 (hm := by omega)) ?_
  refine o_t (x_ldR k137 (hrd.pull (pulla)) hp) ?_
  refine o_t x_as ?_
  refine o_nil ?_
  refine w_seq ?_
  refine w_region ?_
  refine o_t x_mv ?_
  refine o_t x_nc ?_
  refine o_t (x_fa f139_0) ?_
  refine o_t (x_ld k71) ?_
  refine o_t x_nc ?_
  refine o_t (x_fa f80_4) ?_
  refine o_t (x_ld k72) ?_
  refine o_t x_as ?_
  refine o_nil ?_
  refine w_seq ?_
  refine w_seq ?_
  refine w_region ?_
  refine o_t x_mv ?_
  refine o_t x_nc ?_
  refine o_t (x_fa f139_0) ?_
  refine o_t (x_ld k71) ?_
  refine o_t x_nc ?_
  refine o_t (x_fa f80_13) ?_
  refine o_t (x_ld k73) ?_
  refine o_t x_cmp ?_
  refine o_t x_mv ?_
  first | refine o_t (x_g x_mv) ?_ | refine o_t x_gs ?_ | refine o_t x_gu ?_
  first | refine o_t (x_g x_nc) ?_ | refine o_t x_gs ?_ | refine o_t x_gu ?_
  first | refine o_t (x_g (x_fa f139_0)) ?_ | refine o_t x_gs ?_ | refine o_t x_gu ?_
  first | refine o_t (x_g (x_ld k71)) ?_ | refine o_t x_gs ?_ | refine o_t x_gu ?_
  first | refine o_t (x_g x_nc) ?_ | refine o_t x_gs ?_ | refine o_t x_gu ?_
  first | refine o_t (x_g (x_fa f80_14)) ?_ | refine o_t x_gs ?_ | refine o_t x_gu ?_
  first | refine o_t (x_g (x_ld k73)) ?_ | refine o_t x_gs ?_ | refine o_t x_gu ?_
  first | refine o_t (x_g x_cmp) ?_ | refine o_t x_gs ?_ | refine o_t x_gu ?_
  refine o_t x_pick ?_
  refine o_t x_mv ?_
  first | refine o_t (x_g x_mv) ?_ | refine o_t x_gs ?_ | refine o_t x_gu ?_
  first | refine o_t (x_g x_nc) ?_ | refine o_t x_gs ?_ | refine o_t x_gu ?_
  first | refine o_t (x_g (x_fa f139_1)) ?_ | refine o_t x_gs ?_ | refine o_t x_gu ?_
  first | refine o_t (x_g (x_ld k73)) ?_ | refine o_t x_gs ?_ | refine o_t x_gu ?_
  first | refine o_t (x_g x_cmp) ?_ | refine o_t x_gs ?_ | refine o_t x_gu ?_
  refine o_t x_pick ?_
  refine o_nil ?_
  refine w_cond (t := false) (fun g => rfl) (fun hc => ?_) (fun hc => ?_) -- ('Go.Operand.tmp', 119)
  · cases hc
  refine w_skip ?_
  refine w_weak (L' := [(0, .pointer (some ⟨wp, 0, none⟩)), (4, .int .i64 n), (5, .bool false), (82, .slice (some ⟨bo, oo, none⟩) l.length co), (83, .int .i64 l.length), (84, .int .i64 i), (7, .pointer (some ⟨hd, 0, none⟩)), (8, .int .u16 (20 : Nat))]) (H' := [wrB wp cw (.slice (some ⟨bo, oo, none⟩) l.length co) lv true c, hdB hd fh o1, fhX fh e x fl c1 z, ki, ro ++ (pre ++ post)]) wka (HWk.trans (B := [wrB wp cw (.slice (some ⟨bo, oo, none⟩) l.length co) lv true c, hdB hd fh o1, fhX fh e x fl c1 z, ki, ro, pre ++ post]) hka (hflat (by simp))) ?_
  refine w_seq ?_
  refine w_region ?_
  refine o_al z199 (fun b13 => ?_)
  refine o_nil ?_
  rw [← wbC_nil]
  refine w_seq ?_
  refine w_region ?_
  refine o_t (x_sla Tryz.underlying199 e199) ?_
  refine o_al z133 (fun b14 => ?_)
  refine o_st k133 ?_
  refine o_nil ?_
  refine w_weak (L' := [(0, .pointer (some ⟨wp, 0, none⟩)), (4, .int .i64 n), (5, .bool false), (82, .slice (some ⟨bo, oo, none⟩) l.length co), (83, .int .i64 l.length), (84, .int .i64 i), (7, .pointer (some ⟨hd, 0, none⟩)), (8, .int .u16 (20 : Nat)), (13, .pointer (some ⟨b13, 0, none⟩)), (14, .pointer (some ⟨b14, 0, none⟩))]) (H' := [pt b14 [.slice (some ⟨b13, 0, none⟩) 46 46] 133, pt b13 (wbC 46 []) 199, wrB wp cw (.slice (some ⟨bo, oo, none⟩) l.length co) lv true c, hdB hd fh o1, fhX fh e x fl c1 z, ki, ro ++ (pre ++ post)]) wka hka ?_
  refine w_seq ?_
  refine w_region ?_
  refine o_call Tryz.call60 haa spla (cWb32 b14 b13 199 46 [] _ 33639248 (by decide) ⟨rfl, fun _ => rfl⟩ (by decide)) ?_
  rintro _ _ HH ⟨v1, hv1, rfl⟩ hHH
  simp only [List.cons_append, List.nil_append, List.append_nil] at hHH; subst hHH
  refine o_nil ?_
  refine w_seq ?_
  refine w_region ?_
  refine o_t x_mv ?_
  refine o_t x_nc ?_
  refine o_t (x_fa f139_0) ?_
  refine o_t (x_ld k71) ?_
  refine o_t x_nc ?_
  refine o_t (x_fa f80_3) ?_
  refine o_t (x_ld k72) ?_
  refine o_call Tryz.call58 haa spla (cWb16 b14 b13 199 46 _ v1 20 (by decide) hv1 (by simp [le_length])) ?_
  rintro _ _ HH ⟨v2, hv2, rfl⟩ hHH
  simp only [List.cons_append, List.nil_append, List.append_nil] at hHH; subst hHH
  refine o_nil ?_
  refine w_seq ?_
  refine w_region ?_
  refine o_t x_mv ?_
  refine o_call Tryz.call58 haa spla (cWb16 b14 b13 199 46 _ v2 20 (by decide) hv2 (by simp [le_length])) ?_
  rintro _ _ HH ⟨v3, hv3, rfl⟩ hHH
  simp only [List.cons_append, List.nil_append, List.append_nil] at hHH; subst hHH
  refine o_nil ?_
  refine w_seq ?_
  refine w_region ?_
  refine o_t x_mv ?_
  refine o_t x_nc ?_
  refine o_t (x_fa f139_0) ?_
  refine o_t (x_ld k71) ?_
  refine o_t x_nc ?_
  refine o_t (x_fa f80_5) ?_
  refine o_t (x_ld k72) ?_
  refine o_call Tryz.call58 haa spla (cWb16 b14 b13 199 46 _ v3 fl (by omega) hv3 (by simp [le_length])) ?_
  rintro _ _ HH ⟨v4, hv4, rfl⟩ hHH
  simp only [List.cons_append, List.nil_append, List.append_nil] at hHH; subst hHH
  refine o_nil ?_
  refine w_seq ?_
  refine w_region ?_
  refine o_t x_mv ?_
  refine o_t x_nc ?_
  refine o_t (x_fa f139_0) ?_
  refine o_t (x_ld k71) ?_
  refine o_t x_nc ?_
  refine o_t (x_fa f80_6) ?_
  refine o_t (x_ld k72) ?_
  refine o_call Tryz.call58 haa spla (cWb16 b14 b13 199 46 _ v4 0 (by decide) hv4 (by simp [le_length])) ?_
  rintro _ _ HH ⟨v5, hv5, rfl⟩ hHH
  simp only [List.cons_append, List.nil_append, List.append_nil] at hHH; subst hHH
  refine o_nil ?_
  refine w_seq ?_
  refine w_region ?_
  refine o_t x_mv ?_
  refine o_t x_nc ?_
  refine o_t (x_fa f139_0) ?_
  refine o_t (x_ld k71) ?_
  refine o_t x_nc ?_
  refine o_t (x_fa f80_8) ?_
  refine o_t (x_ld k72) ?_
  refine o_call Tryz.call58 haa spla (cWb16 b14 b13 199 46 _ v5 0 (by decide) hv5 (by simp [le_length])) ?_
  rintro _ _ HH ⟨v6, hv6, rfl⟩ hHH
  simp only [List.cons_append, List.nil_append, List.append_nil] at hHH; subst hHH
  refine o_nil ?_
  refine w_seq ?_
  refine w_region ?_
  refine o_t x_mv ?_
  refine o_t x_nc ?_
  refine o_t (x_fa f139_0) ?_
  refine o_t (x_ld k71) ?_
  refine o_t x_nc ?_
  refine o_t (x_fa f80_9) ?_
  refine o_t (x_ld k72) ?_
  refine o_call Tryz.call58 haa spla (cWb16 b14 b13 199 46 _ v6 0 (by decide) hv6 (by simp [le_length])) ?_
  rintro _ _ HH ⟨v7, hv7, rfl⟩ hHH
  simp only [List.cons_append, List.nil_append, List.append_nil] at hHH; subst hHH
  refine o_nil ?_
  refine w_seq ?_
  refine w_region ?_
  refine o_t x_mv ?_
  refine o_t x_nc ?_
  refine o_t (x_fa f139_0) ?_
  refine o_t (x_ld k71) ?_
  refine o_t x_nc ?_
  refine o_t (x_fa f80_10) ?_
  refine o_t (x_ld k77) ?_
  refine o_call Tryz.call60 haa spla (cWb32 b14 b13 199 46 _ v7 c1 (by omega) hv7 (by simp [le_length])) ?_
  rintro _ _ HH ⟨v8, hv8, rfl⟩ hHH
  simp only [List.cons_append, List.nil_append, List.append_nil] at hHH; subst hHH
  refine o_nil ?_
  refine w_seq ?_
  refine w_region ?_
  refine o_t x_mv ?_
  refine o_t x_nc ?_
  refine o_t (x_fa f139_0) ?_
  refine o_t (x_ld k71) ?_
  refine o_t x_nc ?_
  refine o_t (x_fa f80_13) ?_
  refine o_t (x_ld k73) ?_
  refine o_t (x_min (z := (z : Int)) (hz := min_l (by omega))) ?_
  refine o_t (x_cv (z := (z : Int)) ⟨_, Tryz.underlying73⟩ Tryz.underlying77 (hz := w_u32 (by omega))) ?_
  refine o_call Tryz.call60 haa spla (cWb32 b14 b13 199 46 _ v8 z (by omega) hv8 (by simp [le_length])) ?_
  rintro _ _ HH ⟨v9, hv9, rfl⟩ hHH
  simp only [List.cons_append, List.nil_append, List.append_nil] at hHH; subst hHH
  refine o_nil ?_
  refine w_seq ?_
  refine w_region ?_
  refine o_t x_mv ?_
  refine o_t x_nc ?_
  refine o_t (x_fa f139_0) ?_
  refine o_t (x_ld k71) ?_
  refine o_t x_nc ?_
  refine o_t (x_fa f80_14) ?_
  refine o_t (x_ld k73) ?_
  refine o_t (x_min (z := (z : Int)) (hz := min_l (by omega))) ?_
  refine o_t (x_cv (z := (z : Int)) ⟨_, Tryz.underlying73⟩ Tryz.underlying77 (hz := w_u32 (by omega))) ?_
  refine o_call Tryz.call60 haa spla (cWb32 b14 b13 199 46 _ v9 z (by omega) hv9 (by simp [le_length])) ?_
  rintro _ _ HH ⟨v10, hv10, rfl⟩ hHH
  simp only [List.cons_append, List.nil_append, List.append_nil] at hHH; subst hHH
  refine o_nil ?_
  refine w_seq ?_
  refine w_region ?_
  refine o_t x_mv ?_
  refine o_t x_nc ?_
  refine o_t (x_fa f139_0) ?_
  refine o_t (x_ld k71) ?_
  refine o_t x_nc ?_
  refine o_t (x_fa f80_0) ?_
  refine o_t (x_ld k9) ?_
  refine o_t (x_lens Tryz.underlying9) ?_
  refine o_t (x_cv (z := (e.h.name.length : Int)) ⟨_, Tryz.underlying3⟩ Tryz.underlying72 (hz := w_u16 (by omega))) ?_
  refine o_call Tryz.call58 haa spla (cWb16 b14 b13 199 46 _ v10 e.h.name.length (by omega) hv10 (by simp [le_length])) ?_
  rintro _ _ HH ⟨v11, hv11, rfl⟩ hHH
  simp only [List.cons_append, List.nil_append, List.append_nil] at hHH; subst hHH
  refine o_nil ?_
  refine w_seq ?_
  refine w_region ?_
  refine o_t x_mv ?_
  refine o_t x_nc ?_
  refine o_t (x_fa f139_0) ?_
  refine o_t (x_ld k71) ?_
  refine o_t x_nc ?_
  refine o_t (x_fa f80_15) ?_
  refine o_t (x_ld k78) ?_
  refine o_t (x_lenb Tryz.underlying78) ?_
  refine o_t (x_cv (z := 0) ⟨_, Tryz.underlying3⟩ Tryz.underlying72 (hz := by rfl)) ?_
  refine o_call Tryz.call58 haa spla (cWb16 b14 b13 199 46 _ v11 0 (by decide) hv11 (by simp [le_length])) ?_
  rintro _ _ HH ⟨v12, hv12, rfl⟩ hHH
  simp only [List.cons_append, List.nil_append, List.append_nil] at hHH; subst hHH
  refine o_nil ?_
  refine w_seq ?_
  refine w_region ?_
  refine o_t x_mv ?_
  refine o_t x_nc ?_
  refine o_t (x_fa f139_0) ?_
  refine o_t (x_ld k71) ?_
  refine o_t x_nc ?_
  refine o_t (x_fa f80_1) ?_
  refine o_t (x_ld k9) ?_
  refine o_t (x_lens Tryz.underlying9) ?_
  refine o_t (x_cv (z := (e.h.comment.length : Int)) ⟨_, Tryz.underlying3⟩ Tryz.underlying72 (hz := w_u16 (by omega))) ?_
  refine o_call Tryz.call58 haa spla (cWb16 b14 b13 199 46 _ v12 e.h.comment.length (by omega) hv12 (by simp [le_length])) ?_
  rintro _ _ HH ⟨v13, hv13, rfl⟩ hHH
  simp only [List.cons_append, List.nil_append, List.append_nil] at hHH; subst hHH
  refine o_nil ?_
  obtain ⟨pre34, hpre⟩ : ∃ p, le 4 33639248 ++ le 2 20 ++ le 2 20 ++ le 2 fl ++ le 2 0 ++ le 2 0 ++ le 2 0 ++ le 4 c1 ++ le 4 z ++ le 4 z ++ le 2 e.h.name.length ++ le 2 0 ++ le 2 e.h.comment.length = p := ⟨_, rfl⟩
  have hp34 : pre34.length = 34 := by rw [← hpre]; simp only [List.length_append, le_length]
  rw [List.nil_append] at hv13
  rw [hpre] at hv13 ⊢
  obtain ⟨-, hv13⟩ := hv13
  rw [hp34] at hv13
  have hv13' := hv13 (by decide)
  subst hv13'
  have hw38 : WbV b13 46 (pre34 ++ List.replicate 4 0).length (.slice (some ⟨b13, 38, none⟩) 8 8) := by
    have hl38 : (pre34 ++ List.replicate 4 (0 : UInt8)).length = 38 := by rw [List.length_append, List.length_replicate, hp34]
    rw [hl38]
    exact ⟨rfl, fun _ => rfl⟩
  refine w_seq ?_
  refine w_region ?_
  refine o_t (x_ld k133) ?_
  refine o_t (x_sl (lo := 4) (hi := 12) (v := .slice (some ⟨b13, 38, none⟩) 8 8) Tryz.underlying133 e133 (hv := by rfl)) ?_
  refine o_st k133 ?_
  refine o_nil ?_
  have hl38 : (pre34 ++ List.replicate 4 (0 : UInt8)).length = 38 := by rw [List.length_append, List.length_replicate, hp34]
  have hz46 : wbC 46 pre34 = wbC 46 (pre34 ++ List.replicate 4 0) := (wbC_zero 4 (by omega)).symm
  rw [hz46]
  obtain ⟨pre38, hpre8⟩ : ∃ p, pre34 ++ List.replicate 4 (0 : UInt8) = p := ⟨_, rfl⟩
  rw [hpre8] at hw38 hl38 ⊢
  refine w_seq ?_
  refine w_region ?_
  refine o_t x_mv ?_
  refine o_t x_nc ?_
  refine o_t (x_fa f139_0) ?_
  refine o_t (x_ld k71) ?_
  refine o_t x_nc ?_
  refine o_t (x_fa f80_16) ?_
  refine o_t (x_ld k77) ?_
  refine o_call Tryz.call60 haa spla (cWb32 b14 b13 199 46 pre38 _ x (by omega) hw38 (by omega)) ?_
  rintro _ _ HH ⟨v14, hv14, rfl⟩ hHH
  simp only [List.cons_append, List.nil_append, List.append_nil] at hHH; subst hHH
  refine o_nil ?_
  refine w_seq ?_
  refine w_region ?_
  refine o_t x_mv ?_
  refine o_t x_nc ?_
  refine o_t (x_fa f139_1) ?_
  refine o_t (x_ld k73) ?_
  refine o_t (x_min (z := (o1 : Int)) (hz := min_l (by omega))) ?_
  refine o_t (x_cv (z := (o1 : Int)) ⟨_, Tryz.underlying73⟩ Tryz.underlying77 (hz := w_u32 (by omega))) ?_
  refine o_call Tryz.call60 haa spla (cWb32 b14 b13 199 46 _ v14 o1 (by omega) hv14 (by rw [List.length_append, le_length, hl38]; omega)) ?_
  rintro _ _ HH ⟨v15, hv15, rfl⟩ hHH
  simp only [List.cons_append, List.nil_append, List.append_nil] at hHH; subst hHH
  refine o_nil ?_
  have hfin : pre38 ++ le 4 x ++ le 4 o1 = hdr46 fl c1 z e.h.name.length e.h.comment.length x o1 := by rw [← hpre8, ← hpre]; rfl
  rw [hfin, wbC_full (hdr46_len _ _ _ _ _ _ _)]
  have hsl : Sl G (pt b13 ((hdr46 fl c1 z e.h.name.length e.h.comment.length x o1).map u8) 199) (.slice (some ⟨b13, 0, none⟩) 46 46) (hdr46 fl c1 z e.h.name.length e.h.comment.length x o1) := ⟨b13, 0, 46, by rw [hdr46_len], by rw [hdr46_len]; decide, Rd.all⟩
  have cw1 := (scwWrt (G := G) cw wb bb).write out ki hki _ _ _ hsl (by rw [hdr46_len]; omega)
  rw [hdr46_len] at cw1
  refine w_weak (L' := [(0, .pointer (some ⟨wp, 0, none⟩)), (4, .int .i64 n), (5, .bool false), (82, .slice (some ⟨bo, oo, none⟩) l.length co), (83, .int .i64 l.length), (84, .int .i64 i), (7, .pointer (some ⟨hd, 0, none⟩)), (13, .pointer (some ⟨b13, 0, none⟩))]) (H' := [wrB wp cw (.slice (some ⟨bo, oo, none⟩) l.length co) lv true c, hdB hd fh o1, fhX fh e x fl c1 z, pt b13 ((hdr46 fl c1 z e.h.name.length e.h.comment.length x o1).map u8) 199, ki, ro ++ (pre ++ post)]) wka (HWk.trans (B := [pt b13 ((hdr46 fl c1 z e.h.name.length e.h.comment.length x o1).map u8) 199, wrB wp cw (.slice (some ⟨bo, oo, none⟩) l.length co) lv true c, hdB hd fh o1, fhX fh e x fl c1 z, ki, ro ++ (pre ++ post)]) hka (hwk (.cons (.tail .head) (.cons (.tail .head) (.cons (.tail .head) (.cons .head (.cons .head (.cons .head .nil)))))))) ?_
  refine w_seq ?_
  refine w_seq ?_
  refine w_draw mixed ?_
  refine a_seg (k := 5) _ [(1, 0), (1, 1), (1, 2), (1, 3), (1, 4)] (by kernel_rfl) (hwk (.cons .head (.cons .head (.cons .head .nil)))) ?_
  refine h_t rfl x_mv ?_
  refine h_t rfl x_nc ?_
  refine h_t rfl (x_fa f127_0) ?_
  refine h_t rfl (x_ld k117) ?_
  refine h_t rfl (x_sla (lo := 0) (hi := 46) (v := .slice (some ⟨b13, 0, none⟩) 46 46) Tryz.underlying199 e199) ?_
  refine h_end ?_
  refine a_seg (k := 6) _ [(0, 5)] (by kernel_rfl) hwk_nil ?_
  refine h_one rfl (fun Q' hQ => ?_)
  refine o_call Tryz.call94 haa spla (cw1) ?_
  rintro _ _ HH ⟨rfl, k1', hk1, rfl⟩ hHH
  simp only [List.cons_append, List.nil_append, List.append_nil] at hHH; subst hHH
  refine o_nil (hQ _ _ (h_keep ?_))
  refine h_end ?_
  refine a_seg (k := 7) _ [(1, 6)] (by kernel_rfl) (HWk.refl _) ?_
  refine h_t rfl x_mv ?_
  refine h_end ?_
  refine a_seg (k := 10) _ [(1, 7), (1, 8), (1, 9)] (by kernel_rfl) (HWk.refl _) ?_
  refine h_t rfl x_ex ?_
  refine h_t rfl x_ex ?_
  refine h_t rfl x_as ?_
  refine h_end ?_
  refine a_seg (k := 11) _ [(1, 10)] (by kernel_rfl) (HWk.refl _) ?_
  refine h_t rfl x_as ?_
  refine h_end ?_
  refine a_done rfl ?_
  refine w_seq ?_
  refine w_region ?_
  refine o_t x_mv ?_
  first | refine o_t (x_inil Tryz.underlying58) ?_ | refine o_t (x_isome Tryz.underlying58) ?_
  refine o_nil ?_
  refine w_cond (t := false) (fun g => rfl) (fun hc => ?_) (fun hc => ?_) -- ('Go.Operand.tmp', 322)
  · cases hc
  refine w_skip ?_
  refine w_weak (L' := [(0, .pointer (some ⟨wp, 0, none⟩)), (4, .int .i64 n), (5, .bool false), (82, .slice (some ⟨bo, oo, none⟩) l.length co), (83, .int .i64 l.length), (84, .int .i64 i), (7, .pointer (some ⟨hd, 0, none⟩))]) (H' := [wrB wp cw (.slice (some ⟨bo, oo, none⟩) l.length co) lv true c, hdB hd fh o1, fhX fh e x fl c1 z, k1', ro ++ (pre ++ post)]) wka hka ?_
  have ho1' : (out ++ hdr46 fl c1 z e.h.name.length e.h.comment.length x o1).length = out.length + 46 := by rw [List.length_append, hdr46_len]
  have cw2 := fun b cap r (hrd : Rd G [r] b 0 (e.h.name.map u8)) (hcap : e.h.name.length ≤ cap) => (scwWrt (G := G) cw wb bb).write _ k1' hk1 (.slice (some ⟨b, 0, none⟩) e.h.name.length cap) r e.h.name ⟨b, 0, cap, rfl, hcap, hrd⟩ (by rw [ho1']; omega)
  refine w_seq ?_
  refine w_seq ?_
  refine w_draw mixed ?_
  refine a_seg (k := 12) _ [(1, 0), (1, 1), (1, 2), (1, 3), (1, 4), (1, 5), (1, 6), (1, 7), (1, 8), (1, 9), (1, 10), (0, 11)] (by kernel_rfl) (hwk (.cons .head (.cons .head (.cons .head .nil)))) ?_
  refine h_t rfl x_mv ?_
  refine h_t rfl x_nc ?_
  refine h_t rfl (x_fa f127_0) ?_
  refine h_t rfl (x_ld k117) ?_
  refine h_t rfl x_mv ?_
  refine h_t rfl x_nc ?_
  refine h_t rfl (x_fa f139_0) ?_
  refine h_t rfl (x_ld k71) ?_
  refine h_t rfl x_nc ?_
  refine h_t rfl (x_fa f80_0) ?_
  refine h_t rfl (x_ld k9) ?_
  refine h_one rfl (fun Q' hQ => ?_)
  refine o_s2b Tryz.underlying9 Tryz.underlying78 Tryz.underlying5 (fun nb ncap nr hrd hcap => ?_)
  refine o_nil (hQ _ _ (h_keep ?_))
  refine h_end ?_
  refine a_seg (k := 13) _ [(0, 12)] (by kernel_rfl) hwk_nil ?_
  refine h_one rfl (fun Q' hQ => ?_)
  refine o_call Tryz.call94 haa spla ((cw2 nb ncap nr hrd hcap)) ?_
  rintro _ _ HH ⟨rfl, k2', hk2, rfl⟩ hHH
  simp only [List.cons_append, List.nil_append, List.append_nil] at hHH; subst hHH
  refine o_nil (hQ _ _ (h_keep ?_))
  refine h_end ?_
  refine a_seg (k := 14) _ [(1, 13)] (by kernel_rfl) (HWk.refl _) ?_
  refine h_t rfl x_mv ?_
  refine h_end ?_
  refine a_seg (k := 17) _ [(1, 14), (1, 15), (1, 16)] (by kernel_rfl) (HWk.refl _) ?_
  refine h_t rfl x_ex ?_
  refine h_t rfl x_ex ?_
  refine h_t rfl x_as ?_
  refine h_end ?_
  refine a_seg (k := 18) _ [(1, 17)] (by kernel_rfl) (HWk.refl _) ?_
  refine h_t rfl x_as ?_
  refine h_end ?_
  refine a_done rfl ?_
  refine w_seq ?_
  refine w_region ?_
  refine o_t x_mv ?_
  first | refine o_t (x_inil Tryz.underlying58) ?_ | refine o_t (x_isome Tryz.underlying58) ?_
  refine o_nil ?_
  refine w_cond (t := false) (fun g => rfl) (fun hc => ?_) (fun hc => ?_) -- ('Go.Operand.tmp', 341)
  · cases hc
  refine w_skip ?_
  refine w_weak (L' := [(0, .pointer (some ⟨wp, 0, none⟩)), (4, .int .i64 n), (5, .bool false), (82, .slice (some ⟨bo, oo, none⟩) l.length co), (83, .int .i64 l.length), (84, .int .i64 i), (7, .pointer (some ⟨hd, 0, none⟩))]) (H' := [wrB wp cw (.slice (some ⟨bo, oo, none⟩) l.length co) lv true c, hdB hd fh o1, fhX fh e x fl c1 z, k2', ro ++ (pre ++ post)]) wka hka ?_
  obtain ⟨out2, ho2⟩ : ∃ o, out ++ hdr46 fl c1 z e.h.name.length e.h.comment.length x o1 ++ e.h.name = o := ⟨_, rfl⟩
  have ho2' : out2.length = out.length + 46 + e.h.name.length := by rw [← ho2, List.length_append, ho1']
  rw [ho2] at hk2
  have cw3 := cCwNil (G := G) cw wb bb _ k2' hk2 (by omega)
  refine w_seq ?_
  refine w_seq ?_
  refine w_draw mixed ?_
  refine a_seg (k := 11) _ [(1, 0), (1, 1), (1, 2), (1, 3), (1, 4), (1, 5), (1, 6), (1, 7), (1, 8), (1, 9), (1, 10)] (by kernel_rfl) (hwk (.cons .head (.cons .head (.cons .head .nil)))) ?_
  refine h_t rfl x_mv ?_
  refine h_t rfl x_nc ?_
  refine h_t rfl (x_fa f127_0) ?_
  refine h_t rfl (x_ld k117) ?_
  refine h_t rfl x_mv ?_
  refine h_t rfl x_nc ?_
  refine h_t rfl (x_fa f139_0) ?_
  refine h_t rfl (x_ld k71) ?_
  refine h_t rfl x_nc ?_
  refine h_t rfl (x_fa f80_15) ?_
  refine h_t rfl (x_ld k78) ?_
  refine h_end ?_
  refine a_seg (k := 12) _ [(0, 11)] (by kernel_rfl) hwk_nil ?_
  refine h_one rfl (fun Q' hQ => ?_)
  refine o_call Tryz.call94 haa spla (cw3) ?_
  rintro _ _ HH ⟨rfl, rfl⟩ hHH
  simp only [List.cons_append, List.nil_append, List.append_nil] at hHH; subst hHH
  refine o_nil (hQ _ _ (h_keep ?_))
  refine h_end ?_
  refine a_seg (k := 13) _ [(1, 12)] (by kernel_rfl) (HWk.refl _) ?_
  refine h_t rfl x_mv ?_
  refine h_end ?_
  refine a_seg (k := 16) _ [(1, 13), (1, 14), (1, 15)] (by kernel_rfl) (HWk.refl _) ?_
  refine h_t rfl x_ex ?_
  refine h_t rfl x_ex ?_
  refine h_t rfl x_as ?_
  refine h_end ?_
  refine a_seg (k := 17) _ [(1, 16)] (by kernel_rfl) (HWk.refl _) ?_
  refine h_t rfl x_as ?_
  refine h_end ?_
  refine a_done rfl ?_
  refine w_seq ?_
  refine w_region ?_
  refine o_t x_mv ?_
  first | refine o_t (x_inil Tryz.underlying58) ?_ | refine o_t (x_isome Tryz.underlying58) ?_
  refine o_nil ?_
  refine w_cond (t := false) (fun g => rfl) (fun hc => ?_) (fun hc => ?_) -- ('Go.Operand.tmp', 359)
  · cases hc
  refine w_skip ?_
  refine w_weak (L' := [(0, .pointer (some ⟨wp, 0, none⟩)), (4, .int .i64 n), (5, .bool false), (82, .slice (some ⟨bo, oo, none⟩) l.length co), (83, .int .i64 l.length), (84, .int .i64 i), (7, .pointer (some ⟨hd, 0, none⟩))]) (H' := [wrB wp cw (.slice (some ⟨bo, oo, none⟩) l.length co) lv true c, hdB hd fh o1, fhX fh e x fl c1 z, k2', ro ++ (pre ++ post)]) wka hka ?_
  have cw4 := fun b cap r (hrd : Rd G [r] b 0 (e.h.comment.map u8)) (hcap : e.h.comment.length ≤ cap) => (scwWrt (G := G) cw wb bb).write _ k2' hk2 (.slice (some ⟨b, 0, none⟩) e.h.comment.length cap) r e.h.comment ⟨b, 0, cap, rfl, hcap, hrd⟩ (by omega)
  refine w_seq ?_
  refine w_draw mixed ?_
  refine a_seg (k := 12) _ [(1, 0), (1, 1), (1, 2), (1, 3), (1, 4), (1, 5), (1, 6), (1, 7), (1, 8), (1, 9), (1, 10), (0, 11)] (by kernel_rfl) (hwk (.cons .head (.cons .head (.cons .head .nil)))) ?_
  refine h_t rfl x_mv ?_
  refine h_t rfl x_nc ?_
  refine h_t rfl (x_fa f127_0) ?_
  refine h_t rfl (x_ld k117) ?_
  refine h_t rfl x_mv ?_
  refine h_t rfl x_nc ?_
  refine h_t rfl (x_fa f139_0) ?_
  refine h_t rfl (x_ld k71) ?_
  refine h_t rfl x_nc ?_
  refine h_t rfl (x_fa f80_1) ?_
  refine h_t rfl (x_ld k9) ?_
  refine h_one rfl (fun Q' hQ => ?_)
  refine o_s2b Tryz.underlying9 Tryz.underlying78 Tryz.underlying5 (fun nb ncap nr hrd hcap => ?_)
  refine o_nil (hQ _ _ (h_keep ?_))
  refine h_end ?_
  refine a_seg (k := 13) _ [(0, 12)] (by kernel_rfl) hwk_nil ?_
  refine h_one rfl (fun Q' hQ => ?_)
  refine o_call Tryz.call94 haa spla ((cw4 nb ncap nr hrd hcap)) ?_
  rintro _ _ HH ⟨rfl, k3', hk3, rfl⟩ hHH
  simp only [List.cons_append, List.nil_append, List.append_nil] at hHH; subst hHH
  refine o_nil (hQ _ _ (h_keep ?_))
  refine h_end ?_
  refine a_seg (k := 14) _ [(1, 13)] (by kernel_rfl) (HWk.refl _) ?_
  refine h_t rfl x_mv ?_
  refine h_end ?_
  refine a_seg (k := 17) _ [(1, 14), (1, 15), (1, 16)] (by kernel_rfl) (HWk.refl _) ?_
  refine h_t rfl x_ex ?_
  refine h_t rfl x_ex ?_
  refine h_t rfl x_as ?_
  refine h_end ?_
  refine a_seg (k := 18) _ [(1, 17)] (by kernel_rfl) (HWk.refl _) ?_
  refine h_t rfl x_as ?_
  refine h_end ?_
  refine a_done rfl ?_
  refine w_seq ?_
  refine w_region ?_
  refine o_t x_mv ?_
  first | refine o_t (x_inil Tryz.underlying58) ?_ | refine o_t (x_isome Tryz.underlying58) ?_
  refine o_nil ?_
  refine w_cond (t := false) (fun g => rfl) (fun hc => ?_) (fun hc => ?_) -- ('Go.Operand.tmp', 378)
  · cases hc
  refine w_skip ?_
  refine w_region ?_
  refine o_t x_add ?_
  refine o_t x_mv ?_
  refine o_nil ?_
  refine ⟨(i + 1, k3'), wka, ?_, ⟨by omega, ?_⟩, by dsimp only; omega⟩
  · rw [← hfx]
    exact HWk.trans (B := [wrB wp cw (.slice (some ⟨bo, oo, none⟩) l.length co) lv true c, hdB hd fh o1, fhB fh e 20 20 fl c1 z, k3', ro ++ (pre ++ post)]) hka (HWk.trans (B := [wrB wp cw (.slice (some ⟨bo, oo, none⟩) l.length co) lv true c, hdB hd fh o1, fhB fh e 20 20 fl c1 z, k3', ro, pre, post]) (hflat (by simp)) (HWk.trans (B := [wrB wp cw (.slice (some ⟨bo, oo, none⟩) l.length co) lv true c, ro, pre, hdB hd fh o1, fhB fh e 20 20 fl c1 z, post, k3']) (hwk (.cons .head (.cons (.tail (.tail (.tail .head))) (.cons (.tail (.tail (.tail .head))) (.cons .head (.cons .head (.cons (.tail .head) (.cons .head .nil)))))))) (hflat (by simp))))
  · rw [hstep, ← List.append_assoc, hout2, ← List.append_assoc, ← List.append_assoc, ho2]
    exact hk3
end Go.Proofs.YtlmefkhglooepaaGreatDoor
