/- impl.Read. The checksum by tables, eight bytes at a time, in plain Lean. What the reference's archive and what the package writes hold, in plain Lean. -/
import Derived.Test.YtlmefkhglooepaaGreatDoorPart6
set_option linter.unusedSimpArgs false
set_option linter.unusedVariables false
namespace Go.Proofs.YtlmefkhglooepaaGreatDoor
open Go
set_option linter.unusedSimpArgs false
set_option linter.unusedVariables false
variable {G : Nat → Option Obj} {ea : Nat → Addr}
def readH (h : Hd) : Hd := { h with non := nonT h }
theorem cHeader (fb : Nat) (h : Hd) (ok : Ok h) (w e l xv zp zi : Value) (xr : Res) (pos : Nat) (hs : Sl G xr xv h.extra) : Fn P G 29 #[.pointer (some ⟨fb, 0, none⟩)] [fileH fb h (nonT h) w e l xv zp zi pos, xr] fun v H => v = hdV (readH h) ∧ H = [fileH fb h (nonT h) w e l xv zp zi pos, xr] := by
  have := ok.creator; have := ok.reader; have := ok.flags; have := ok.method; have := ok.time; have := ok.date; have := ok.crc; have := ok.packed; have := ok.size; have := ok.ext
  refine fn_intro (args := [_]) Tryz.func29 Tryz.ntmps29 rfl ?_
  refine w_seq ?_
  refine w_region ?_
  refine o_al z36 (fun b2 => ?_)
  refine o_nil ?_
  refine w_seq ?_
  refine w_draw mixed ?_
  refine a_seg (k := 67) _ [(1, 0), (1, 1), (1, 2), (1, 3), (1, 4), (1, 5), (1, 6), (1, 7), (1, 8), (1, 9), (1, 10), (1, 11), (1, 12), (1, 13), (1, 14), (1, 15), (1, 16), (1, 17), (1, 18), (1, 19), (1, 20), (1, 21), (1, 22), (1, 23), (1, 24), (1, 25), (1, 26), (1, 27), (1, 28), (1, 29), (1, 30), (1, 31), (1, 32), (1, 33), (1, 34), (1, 35), (1, 36), (1, 37), (1, 38), (1, 39), (1, 40), (1, 41), (1, 42), (1, 43), (1, 44), (1, 45), (1, 46), (1, 47), (1, 48), (1, 49), (1, 50), (1, 51), (1, 52), (1, 53), (1, 54), (1, 55), (1, 56), (1, 57), (1, 58), (1, 59), (1, 60), (1, 61), (1, 62), (1, 63), (1, 64), (1, 65), (1, 66)] (by kernel_rfl) (HWk.refl _) ?_
  refine h_t rfl x_mv ?_
  refine h_t rfl x_nc ?_
  refine h_t rfl (x_fa f80_0) ?_
  refine h_t rfl (x_ld k9) ?_
  refine h_t rfl x_mv ?_
  refine h_t rfl x_nc ?_
  refine h_t rfl (x_fa f80_1) ?_
  refine h_t rfl (x_ld k9) ?_
  refine h_t rfl x_mv ?_
  refine h_t rfl x_nc ?_
  refine h_t rfl (x_fa f80_15) ?_
  refine h_t rfl (x_ld k78) ?_
  refine h_t rfl (x_b2S Tryz.underlying78 Tryz.underlying5 Tryz.underlying9 hs) ?_
  refine h_t rfl x_mv ?_
  refine h_t rfl x_nc ?_
  refine h_t rfl (x_fa f80_2) ?_
  refine h_t rfl (x_ld k4) ?_
  refine h_t rfl x_mv ?_
  refine h_t rfl x_nc ?_
  refine h_t rfl (x_fa f80_3) ?_
  refine h_t rfl (x_ld k72) ?_
  refine h_t rfl (x_cv ⟨_, Tryz.underlying72⟩ Tryz.underlying3) ?_
  refine h_t rfl x_mv ?_
  refine h_t rfl x_nc ?_
  refine h_t rfl (x_fa f80_4) ?_
  refine h_t rfl (x_ld k72) ?_
  refine h_t rfl (x_cv ⟨_, Tryz.underlying72⟩ Tryz.underlying3) ?_
  refine h_t rfl x_mv ?_
  refine h_t rfl x_nc ?_
  refine h_t rfl (x_fa f80_5) ?_
  refine h_t rfl (x_ld k72) ?_
  refine h_t rfl (x_cv ⟨_, Tryz.underlying72⟩ Tryz.underlying3) ?_
  refine h_t rfl x_mv ?_
  refine h_t rfl x_nc ?_
  refine h_t rfl (x_fa f80_6) ?_
  refine h_t rfl (x_ld k72) ?_
  refine h_t rfl (x_cv ⟨_, Tryz.underlying72⟩ Tryz.underlying3) ?_
  refine h_t rfl x_mv ?_
  refine h_t rfl x_nc ?_
  refine h_t rfl (x_fa f80_8) ?_
  refine h_t rfl (x_ld k72) ?_
  refine h_t rfl (x_cv ⟨_, Tryz.underlying72⟩ Tryz.underlying3) ?_
  refine h_t rfl x_mv ?_
  refine h_t rfl x_nc ?_
  refine h_t rfl (x_fa f80_9) ?_
  refine h_t rfl (x_ld k72) ?_
  refine h_t rfl (x_cv ⟨_, Tryz.underlying72⟩ Tryz.underlying3) ?_
  refine h_t rfl x_mv ?_
  refine h_t rfl x_nc ?_
  refine h_t rfl (x_fa f80_10) ?_
  refine h_t rfl (x_ld k77) ?_
  refine h_t rfl (x_cv ⟨_, Tryz.underlying77⟩ Tryz.underlying3) ?_
  refine h_t rfl x_mv ?_
  refine h_t rfl x_nc ?_
  refine h_t rfl (x_fa f80_13) ?_
  refine h_t rfl (x_ld k73) ?_
  refine h_t rfl (x_cv ⟨_, Tryz.underlying73⟩ Tryz.underlying3) ?_
  refine h_t rfl x_mv ?_
  refine h_t rfl x_nc ?_
  refine h_t rfl (x_fa f80_14) ?_
  refine h_t rfl (x_ld k73) ?_
  refine h_t rfl (x_cv ⟨_, Tryz.underlying73⟩ Tryz.underlying3) ?_
  refine h_t rfl x_mv ?_
  refine h_t rfl x_nc ?_
  refine h_t rfl (x_fa f80_16) ?_
  refine h_t rfl (x_ld k77) ?_
  refine h_t rfl (x_cv ⟨_, Tryz.underlying77⟩ Tryz.underlying3) ?_
  refine h_end ?_
  refine a_seg (k := 68) _ [(1, 67)] (by kernel_rfl) (HWk.refl _) ?_
  refine h_t rfl (x_bd hla bd36_0_1_2_3_4_5_6_7_8_9_10_11_12_13) ?_
  refine h_end ?_
  refine a_seg (k := 69) _ [(0, 68)] (by kernel_rfl) hwk_nil ?_
  refine h_one rfl (fun Q' hQ => ?_)
  refine o_sta g36 ?_
  refine o_nil (hQ _ _ (h_keep ?_))
  refine h_end ?_
  refine a_done rfl ?_
  refine w_ret (r_cell rfl g36 ⟨rfl, rfl⟩)
theorem cRead (gl : Glob G ea) (s body : List UInt8) (rs : List ZR) (c : List UInt8) (z : Zip s body rs c) :
    Fn P G 12 #[.string (str s)] [] fun v H => ∃ v1 r1, v = .agg #[.bool true, .string (str c), v1] ∧ Own 36 14 v1 rs.length (hdsC (rs.map fun r => readH r.h)) r1 ∧ H = [r1] := by
  have hl := z.len
  have hmany := z.many
  refine fn_intro (args := [_]) Tryz.func12 Tryz.ntmps12 rfl ?_
  refine w_seq ?_
  refine w_region ?_
  refine o_al z31 (fun b2 => ?_)
  refine o_nil ?_
  refine w_seq ?_
  refine w_region ?_
  refine o_t x_mv ?_
  refine o_call Tryz.call28 haa spla (cStrNew s) ?_
  rintro _ _ HH ⟨rb, rfl, rfl⟩ hHH
  simp only [List.cons_append, List.nil_append, List.append_nil] at hHH; subst hHH
  refine o_t x_p ?_
  refine o_t x_mv ?_
  refine o_t (x_lens Tryz.underlying9) ?_
  refine o_call Tryz.call27 haa spla (cNewReader gl rb s body rs c z) ?_
  rintro _ _ HH ⟨zb, fv, ps, ro, fr, rfl, hO, hF, rfl⟩ hHH
  simp only [List.cons_append, List.nil_append, List.append_nil] at hHH; subst hHH
  refine o_t x_mv ?_
  refine o_t x_ex ?_
  refine o_t x_ex ?_
  refine o_t x_as ?_
  refine o_t x_as ?_
  refine o_nil ?_
  refine w_seq ?_
  refine w_seq ?_
  refine w_region ?_
  refine o_t x_mv ?_
  first | refine o_t (x_inil Tryz.underlying58) ?_ | refine o_t (x_isome Tryz.underlying58) ?_
  refine o_nil ?_
  refine w_cond (t := false) (fun g => rfl) (fun hc => ?_) (fun hc => ?_) -- ('Go.Operand.tmp', 18)
  · cases hc
  refine w_skip ?_
  refine w_seq ?_
  refine w_region ?_
  refine o_t x_mv ?_
  refine o_t x_nc ?_
  refine o_t (x_fa f68_2) ?_
  refine o_t (x_ld k9) ?_
  refine o_t (x_bd hla bd31_0_1) ?_
  refine o_al z31 (fun b5 => ?_)
  refine o_sta g31 ?_
  refine o_nil ?_
  obtain ⟨fa, fcap, hfv⟩ := hO.len
  have hfo := hO.one
  refine w_cut (α := Value × Res) (fun x => [(2, .pointer (some ⟨b2, 0, none⟩)), (5, .pointer (some ⟨b5, 0, none⟩))]) (fun x => [pt b2 [.bool false, .string ⟨#[]⟩, .slice none 0 0] 31, pt b5 [.bool true, .string (str c), x.1] 31, x.2]) (fun x => Own 36 14 x.1 rs.length (hdsC (rs.map fun r => readH r.h)) x.2) ?_ ?_
  · refine w_seq ?_
    refine w_region ?_
    refine o_t x_mv ?_
    refine o_t x_nc ?_
    refine o_t (x_fa f68_1) ?_
    refine o_t (x_ld k65) ?_
    refine o_t (x_lenb Tryz.underlying65 (hx := fun g => by subst hfv; rfl)) ?_
    refine o_t x_mv ?_
    refine o_nil ?_
    refine w_block ?_ -- 0
    refine w_loop (α := Nat × Value × Res) (fun x => [(2, .pointer (some ⟨b2, 0, none⟩)), (5, .pointer (some ⟨b5, 0, none⟩)), (28, fv), (29, .int .i64 rs.length), (30, .int .i64 x.1)]) (fun x => [pt b2 [.bool false, .string ⟨#[]⟩, .slice none 0 0] 31, pt b5 [.bool true, .string (str c), x.2.1] 31, x.2.2, ro, fr])
      (fun x => x.1 ≤ rs.length ∧ Own 36 14 x.2.1 x.1 (hdsC ((rs.take x.1).map fun r => readH r.h)) x.2.2) (fun x => rs.length - x.1) (0, .slice none 0 0, []) (wka) ?_ ⟨Nat.zero_le _, by simpa [hdsC] using Own.nil 36 14⟩ ?_
    · exact HWk.trans (B := [pt b2 [.bool false, .string ⟨#[]⟩, .slice none 0 0] 31, pt b5 [.bool true, .string (str c), .slice none 0 0] 31, ro, fr]) hka (hflat (by simp))
    rintro ⟨j, v, r⟩ ⟨hj, hV⟩
    dsimp only at hj hV ⊢
    have hV1 := hV.one
    refine w_seq ?_
    by_cases hjl : j < rs.length
    case neg =>
      obtain rfl : j = rs.length := by omega
      rw [List.take_length] at hV
      refine w_region ?_
      refine o_t x_cmp ?_
      refine o_nil ?_
      refine w_seq ?_
      refine w_cond (t := false) (fun g => rfl) (fun hc => ?_) (fun hc => ?_) -- ('Go.Operand.tmp', 31)
      · cases hc
      refine w_exit ?_ -- 0
      exact ⟨(v, r), wka, hka, hV⟩
    have hr := List.getElem?_eq_getElem (l := rs) (i := j) hjl
    generalize rs[j]'hjl = q at hr
    have hok := (z.recs q (List.mem_of_getElem? hr)).ok
    obtain ⟨p, a, pre, post, hp, ⟨fb, w, e, l, xv, xr, rfl, hxs, rfl⟩, rfl⟩ := hF.get hr
    obtain ⟨bo, oo, co, hfe, hco, hrd⟩ := hO.arr.some (by omega)
    refine w_region ?_
    refine o_t x_cmp ?_
    refine o_nil ?_
    refine w_seq ?_
    refine w_cond (t := true) (fun g => rfl) (fun hc => ?_) (fun hc => ?_) -- ('Go.Operand.tmp', 31)
    case refine_2 => cases hc
    refine w_skip ?_
    refine w_weak (L' := [(2, .pointer (some ⟨b2, 0, none⟩)), (5, .pointer (some ⟨b5, 0, none⟩)), (28, .slice (some ⟨bo, oo, none⟩) rs.length co), (29, .int .i64 rs.length), (30, .int .i64 j)]) (H' := [pt b5 [.bool true, .string (str c), v] 31, pt b2 [.bool false, .string ⟨#[]⟩, .slice none 0 0] 31, r, ro, pre, fileH fb q.h (nonT q.h) w e l xv (.pointer (some ⟨zb, 0, none⟩)) (.iface 61 (.pointer (some ⟨rb, 0, none⟩))) q.pos, xr, post]) (by rw [← hfe]; exact wka) (HWk.trans (B := [pt b5 [.bool true, .string (str c), v] 31, pt b2 [.bool false, .string ⟨#[]⟩, .slice none 0 0] 31, r, ro, pre ++ (fileH fb q.h (nonT q.h) w e l xv (.pointer (some ⟨zb, 0, none⟩)) (.iface 61 (.pointer (some ⟨rb, 0, none⟩))) q.pos ++ xr ++ post)]) hka (hflat (by simp))) ?_
    have ch := cHeader (G := G) fb q.h hok w e l xv (.pointer (some ⟨zb, 0, none⟩)) (.iface 61 (.pointer (some ⟨rb, 0, none⟩))) xr q.pos hxs
    refine w_cut (α := Value × Res) (fun x => [(2, .pointer (some ⟨b2, 0, none⟩)), (5, .pointer (some ⟨b5, 0, none⟩)), (28, .slice (some ⟨bo, oo, none⟩) rs.length co), (29, .int .i64 rs.length), (30, .int .i64 j)]) (fun x => [pt b5 [.bool true, .string (str c), x.1] 31, pt b2 [.bool false, .string ⟨#[]⟩, .slice none 0 0] 31, x.2, ro, pre, fileH fb q.h (nonT q.h) w e l xv (.pointer (some ⟨zb, 0, none⟩)) (.iface 61 (.pointer (some ⟨rb, 0, none⟩))) q.pos, xr, post])
      (fun x => Own 36 14 x.1 (j + 1) (hdsC ((rs.take (j + 1)).map fun r => readH r.h)) x.2) ?_ ?_
    · refine w_block ?_ -- 1
      refine w_seq ?_
      refine w_region ?_
      refine o_t (x_ia (m := oo + j) Tryz.underlying65 e65 (hm := by omega)) ?_
      refine o_t (x_ldR k69 (hrd.pull (pulla)) hp) ?_
      refine o_t x_as ?_
      refine o_nil ?_
      refine w_draw mixed ?_
      refine a_seg (k := 7) _ [(1, 0), (1, 1), (1, 2), (1, 3), (1, 4), (0, 5), (0, 6)] (by kernel_rfl) (hwk (.cons .head .nil)) ?_
      refine h_t rfl (x_fa f31_2) ?_
      refine h_t rfl (x_ld k29) ?_
      refine h_t rfl x_mv ?_
      refine h_t rfl x_nc ?_
      refine h_t rfl (x_fa f82_0) ?_
      refine h_one rfl (fun Q' hQ => ?_)
      refine o_call Tryz.call29 haa spla (ch) ?_
      rintro _ _ HH ⟨rfl, rfl⟩ hHH
      simp only [List.cons_append, List.nil_append, List.append_nil] at hHH; subst hHH
      refine o_nil (hQ _ _ (h_keep ?_))
      refine h_one rfl (fun Q' hQ => ?_)
      refine o_bs1 Tryz.underlying29 z36 (fun b1 => ?_)
      refine o_nil (hQ _ _ (h_keep ?_))
      refine h_end ?_
      refine a_seg (k := 8) _ [(0, 7)] (by kernel_rfl) hwk_nil ?_
      refine h_one rfl (fun Q' hQ => ?_)
      refine o_app info36 Tryz.underlying29 rfl hV (pulla) (Rd.all.pull .head) rfl (by simp [Value.oneCell']) (by simp [maxLen]; omega) (by omega) (fun v' r' hV' => ?_)
      refine o_nil (hQ _ _ (h_keep ?_))
      refine h_end ?_
      refine a_seg (k := 9) _ [(1, 8)] (by kernel_rfl) (HWk.refl _) ?_
      refine h_t rfl (x_fa f31_2) ?_
      refine h_end ?_
      refine a_seg (k := 10) _ [(0, 9)] (by kernel_rfl) hwk_nil ?_
      refine h_one rfl (fun Q' hQ => ?_)
      refine o_st k29 ?_ (h1 := hV'.one)
      refine o_nil (hQ _ _ (h_keep ?_))
      refine h_end ?_
      refine a_done rfl ?_
      refine ⟨(v', r'), wka, (by first | exact hwk (.cons (by first | exact .head | exact .tail .head | exact .tail (.tail .head) | exact .tail (.tail (.tail .head)) | exact .tail (.tail (.tail (.tail .head))) | exact .tail (.tail (.tail (.tail (.tail .head)))) | exact .tail (.tail (.tail (.tail (.tail (.tail .head))))) | exact .tail (.tail (.tail (.tail (.tail (.tail (.tail .head)))))) | exact .tail (.tail (.tail (.tail (.tail (.tail (.tail (.tail .head))))))) | exact .tail (.tail (.tail (.tail (.tail (.tail (.tail (.tail (.tail .head)))))))) | exact .tail (.tail (.tail (.tail (.tail (.tail (.tail (.tail (.tail (.tail .head))))))))) | exact .tail (.tail (.tail (.tail (.tail (.tail (.tail (.tail (.tail (.tail (.tail .head)))))))))) | exact .tail (.tail (.tail (.tail (.tail (.tail (.tail (.tail (.tail (.tail (.tail (.tail .head))))))))))) | exact .tail (.tail (.tail (.tail (.tail (.tail (.tail (.tail (.tail (.tail (.tail (.tail (.tail .head)))))))))))) | exact .tail (.tail (.tail (.tail (.tail (.tail (.tail (.tail (.tail (.tail (.tail (.tail (.tail (.tail .head))))))))))))) | exact .tail (.tail (.tail (.tail (.tail (.tail (.tail (.tail (.tail (.tail (.tail (.tail (.tail (.tail (.tail .head))))))))))))))) (.cons (by first | exact .head | exact .tail .head | exact .tail (.tail .head) | exact .tail (.tail (.tail .head)) | exact .tail (.tail (.tail (.tail .head))) | exact .tail (.tail (.tail (.tail (.tail .head)))) | exact .tail (.tail (.tail (.tail (.tail (.tail .head))))) | exact .tail (.tail (.tail (.tail (.tail (.tail (.tail .head)))))) | exact .tail (.tail (.tail (.tail (.tail (.tail (.tail (.tail .head))))))) | exact .tail (.tail (.tail (.tail (.tail (.tail (.tail (.tail (.tail .head)))))))) | exact .tail (.tail (.tail (.tail (.tail (.tail (.tail (.tail (.tail (.tail .head))))))))) | exact .tail (.tail (.tail (.tail (.tail (.tail (.tail (.tail (.tail (.tail (.tail .head)))))))))) | exact .tail (.tail (.tail (.tail (.tail (.tail (.tail (.tail (.tail (.tail (.tail (.tail .head))))))))))) | exact .tail (.tail (.tail (.tail (.tail (.tail (.tail (.tail (.tail (.tail (.tail (.tail (.tail .head)))))))))))) | exact .tail (.tail (.tail (.tail (.tail (.tail (.tail (.tail (.tail (.tail (.tail (.tail (.tail (.tail .head))))))))))))) | exact .tail (.tail (.tail (.tail (.tail (.tail (.tail (.tail (.tail (.tail (.tail (.tail (.tail (.tail (.tail .head))))))))))))))) (.cons (by first | exact .head | exact .tail .head | exact .tail (.tail .head) | exact .tail (.tail (.tail .head)) | exact .tail (.tail (.tail (.tail .head))) | exact .tail (.tail (.tail (.tail (.tail .head)))) | exact .tail (.tail (.tail (.tail (.tail (.tail .head))))) | exact .tail (.tail (.tail (.tail (.tail (.tail (.tail .head)))))) | exact .tail (.tail (.tail (.tail (.tail (.tail (.tail (.tail .head))))))) | exact .tail (.tail (.tail (.tail (.tail (.tail (.tail (.tail (.tail .head)))))))) | exact .tail (.tail (.tail (.tail (.tail (.tail (.tail (.tail (.tail (.tail .head))))))))) | exact .tail (.tail (.tail (.tail (.tail (.tail (.tail (.tail (.tail (.tail (.tail .head)))))))))) | exact .tail (.tail (.tail (.tail (.tail (.tail (.tail (.tail (.tail (.tail (.tail (.tail .head))))))))))) | exact .tail (.tail (.tail (.tail (.tail (.tail (.tail (.tail (.tail (.tail (.tail (.tail (.tail .head)))))))))))) | exact .tail (.tail (.tail (.tail (.tail (.tail (.tail (.tail (.tail (.tail (.tail (.tail (.tail (.tail .head))))))))))))) | exact .tail (.tail (.tail (.tail (.tail (.tail (.tail (.tail (.tail (.tail (.tail (.tail (.tail (.tail (.tail .head))))))))))))))) (.cons (by first | exact .head | exact .tail .head | exact .tail (.tail .head) | exact .tail (.tail (.tail .head)) | exact .tail (.tail (.tail (.tail .head))) | exact .tail (.tail (.tail (.tail (.tail .head)))) | exact .tail (.tail (.tail (.tail (.tail (.tail .head))))) | exact .tail (.tail (.tail (.tail (.tail (.tail (.tail .head)))))) | exact .tail (.tail (.tail (.tail (.tail (.tail (.tail (.tail .head))))))) | exact .tail (.tail (.tail (.tail (.tail (.tail (.tail (.tail (.tail .head)))))))) | exact .tail (.tail (.tail (.tail (.tail (.tail (.tail (.tail (.tail (.tail .head))))))))) | exact .tail (.tail (.tail (.tail (.tail (.tail (.tail (.tail (.tail (.tail (.tail .head)))))))))) | exact .tail (.tail (.tail (.tail (.tail (.tail (.tail (.tail (.tail (.tail (.tail (.tail .head))))))))))) | exact .tail (.tail (.tail (.tail (.tail (.tail (.tail (.tail (.tail (.tail (.tail (.tail (.tail .head)))))))))))) | exact .tail (.tail (.tail (.tail (.tail (.tail (.tail (.tail (.tail (.tail (.tail (.tail (.tail (.tail .head))))))))))))) | exact .tail (.tail (.tail (.tail (.tail (.tail (.tail (.tail (.tail (.tail (.tail (.tail (.tail (.tail (.tail .head))))))))))))))) (.cons (by first | exact .head | exact .tail .head | exact .tail (.tail .head) | exact .tail (.tail (.tail .head)) | exact .tail (.tail (.tail (.tail .head))) | exact .tail (.tail (.tail (.tail (.tail .head)))) | exact .tail (.tail (.tail (.tail (.tail (.tail .head))))) | exact .tail (.tail (.tail (.tail (.tail (.tail (.tail .head)))))) | exact .tail (.tail (.tail (.tail (.tail (.tail (.tail (.tail .head))))))) | exact .tail (.tail (.tail (.tail (.tail (.tail (.tail (.tail (.tail .head)))))))) | exact .tail (.tail (.tail (.tail (.tail (.tail (.tail (.tail (.tail (.tail .head))))))))) | exact .tail (.tail (.tail (.tail (.tail (.tail (.tail (.tail (.tail (.tail (.tail .head)))))))))) | exact .tail (.tail (.tail (.tail (.tail (.tail (.tail (.tail (.tail (.tail (.tail (.tail .head))))))))))) | exact .tail (.tail (.tail (.tail (.tail (.tail (.tail (.tail (.tail (.tail (.tail (.tail (.tail .head)))))))))))) | exact .tail (.tail (.tail (.tail (.tail (.tail (.tail (.tail (.tail (.tail (.tail (.tail (.tail (.tail .head))))))))))))) | exact .tail (.tail (.tail (.tail (.tail (.tail (.tail (.tail (.tail (.tail (.tail (.tail (.tail (.tail (.tail .head))))))))))))))) (.cons (by first | exact .head | exact .tail .head | exact .tail (.tail .head) | exact .tail (.tail (.tail .head)) | exact .tail (.tail (.tail (.tail .head))) | exact .tail (.tail (.tail (.tail (.tail .head)))) | exact .tail (.tail (.tail (.tail (.tail (.tail .head))))) | exact .tail (.tail (.tail (.tail (.tail (.tail (.tail .head)))))) | exact .tail (.tail (.tail (.tail (.tail (.tail (.tail (.tail .head))))))) | exact .tail (.tail (.tail (.tail (.tail (.tail (.tail (.tail (.tail .head)))))))) | exact .tail (.tail (.tail (.tail (.tail (.tail (.tail (.tail (.tail (.tail .head))))))))) | exact .tail (.tail (.tail (.tail (.tail (.tail (.tail (.tail (.tail (.tail (.tail .head)))))))))) | exact .tail (.tail (.tail (.tail (.tail (.tail (.tail (.tail (.tail (.tail (.tail (.tail .head))))))))))) | exact .tail (.tail (.tail (.tail (.tail (.tail (.tail (.tail (.tail (.tail (.tail (.tail (.tail .head)))))))))))) | exact .tail (.tail (.tail (.tail (.tail (.tail (.tail (.tail (.tail (.tail (.tail (.tail (.tail (.tail .head))))))))))))) | exact .tail (.tail (.tail (.tail (.tail (.tail (.tail (.tail (.tail (.tail (.tail (.tail (.tail (.tail (.tail .head))))))))))))))) (.cons (by first | exact .head | exact .tail .head | exact .tail (.tail .head) | exact .tail (.tail (.tail .head)) | exact .tail (.tail (.tail (.tail .head))) | exact .tail (.tail (.tail (.tail (.tail .head)))) | exact .tail (.tail (.tail (.tail (.tail (.tail .head))))) | exact .tail (.tail (.tail (.tail (.tail (.tail (.tail .head)))))) | exact .tail (.tail (.tail (.tail (.tail (.tail (.tail (.tail .head))))))) | exact .tail (.tail (.tail (.tail (.tail (.tail (.tail (.tail (.tail .head)))))))) | exact .tail (.tail (.tail (.tail (.tail (.tail (.tail (.tail (.tail (.tail .head))))))))) | exact .tail (.tail (.tail (.tail (.tail (.tail (.tail (.tail (.tail (.tail (.tail .head)))))))))) | exact .tail (.tail (.tail (.tail (.tail (.tail (.tail (.tail (.tail (.tail (.tail (.tail .head))))))))))) | exact .tail (.tail (.tail (.tail (.tail (.tail (.tail (.tail (.tail (.tail (.tail (.tail (.tail .head)))))))))))) | exact .tail (.tail (.tail (.tail (.tail (.tail (.tail (.tail (.tail (.tail (.tail (.tail (.tail (.tail .head))))))))))))) | exact .tail (.tail (.tail (.tail (.tail (.tail (.tail (.tail (.tail (.tail (.tail (.tail (.tail (.tail (.tail .head))))))))))))))) (.cons (by first | exact .head | exact .tail .head | exact .tail (.tail .head) | exact .tail (.tail (.tail .head)) | exact .tail (.tail (.tail (.tail .head))) | exact .tail (.tail (.tail (.tail (.tail .head)))) | exact .tail (.tail (.tail (.tail (.tail (.tail .head))))) | exact .tail (.tail (.tail (.tail (.tail (.tail (.tail .head)))))) | exact .tail (.tail (.tail (.tail (.tail (.tail (.tail (.tail .head))))))) | exact .tail (.tail (.tail (.tail (.tail (.tail (.tail (.tail (.tail .head)))))))) | exact .tail (.tail (.tail (.tail (.tail (.tail (.tail (.tail (.tail (.tail .head))))))))) | exact .tail (.tail (.tail (.tail (.tail (.tail (.tail (.tail (.tail (.tail (.tail .head)))))))))) | exact .tail (.tail (.tail (.tail (.tail (.tail (.tail (.tail (.tail (.tail (.tail (.tail .head))))))))))) | exact .tail (.tail (.tail (.tail (.tail (.tail (.tail (.tail (.tail (.tail (.tail (.tail (.tail .head)))))))))))) | exact .tail (.tail (.tail (.tail (.tail (.tail (.tail (.tail (.tail (.tail (.tail (.tail (.tail (.tail .head))))))))))))) | exact .tail (.tail (.tail (.tail (.tail (.tail (.tail (.tail (.tail (.tail (.tail (.tail (.tail (.tail (.tail .head))))))))))))))) .nil)))))))) | exact hwk (.cons (by first | exact .head | exact .tail .head | exact .tail (.tail .head) | exact .tail (.tail (.tail .head)) | exact .tail (.tail (.tail (.tail .head))) | exact .tail (.tail (.tail (.tail (.tail .head)))) | exact .tail (.tail (.tail (.tail (.tail (.tail .head))))) | exact .tail (.tail (.tail (.tail (.tail (.tail (.tail .head)))))) | exact .tail (.tail (.tail (.tail (.tail (.tail (.tail (.tail .head))))))) | exact .tail (.tail (.tail (.tail (.tail (.tail (.tail (.tail (.tail .head)))))))) | exact .tail (.tail (.tail (.tail (.tail (.tail (.tail (.tail (.tail (.tail .head))))))))) | exact .tail (.tail (.tail (.tail (.tail (.tail (.tail (.tail (.tail (.tail (.tail .head)))))))))) | exact .tail (.tail (.tail (.tail (.tail (.tail (.tail (.tail (.tail (.tail (.tail (.tail .head))))))))))) | exact .tail (.tail (.tail (.tail (.tail (.tail (.tail (.tail (.tail (.tail (.tail (.tail (.tail .head)))))))))))) | exact .tail (.tail (.tail (.tail (.tail (.tail (.tail (.tail (.tail (.tail (.tail (.tail (.tail (.tail .head))))))))))))) | exact .tail (.tail (.tail (.tail (.tail (.tail (.tail (.tail (.tail (.tail (.tail (.tail (.tail (.tail (.tail .head))))))))))))))) (.cons (by first | exact .head | exact .tail .head | exact .tail (.tail .head) | exact .tail (.tail (.tail .head)) | exact .tail (.tail (.tail (.tail .head))) | exact .tail (.tail (.tail (.tail (.tail .head)))) | exact .tail (.tail (.tail (.tail (.tail (.tail .head))))) | exact .tail (.tail (.tail (.tail (.tail (.tail (.tail .head)))))) | exact .tail (.tail (.tail (.tail (.tail (.tail (.tail (.tail .head))))))) | exact .tail (.tail (.tail (.tail (.tail (.tail (.tail (.tail (.tail .head)))))))) | exact .tail (.tail (.tail (.tail (.tail (.tail (.tail (.tail (.tail (.tail .head))))))))) | exact .tail (.tail (.tail (.tail (.tail (.tail (.tail (.tail (.tail (.tail (.tail .head)))))))))) | exact .tail (.tail (.tail (.tail (.tail (.tail (.tail (.tail (.tail (.tail (.tail (.tail .head))))))))))) | exact .tail (.tail (.tail (.tail (.tail (.tail (.tail (.tail (.tail (.tail (.tail (.tail (.tail .head)))))))))))) | exact .tail (.tail (.tail (.tail (.tail (.tail (.tail (.tail (.tail (.tail (.tail (.tail (.tail (.tail .head))))))))))))) | exact .tail (.tail (.tail (.tail (.tail (.tail (.tail (.tail (.tail (.tail (.tail (.tail (.tail (.tail (.tail .head))))))))))))))) (.cons (by first | exact .head | exact .tail .head | exact .tail (.tail .head) | exact .tail (.tail (.tail .head)) | exact .tail (.tail (.tail (.tail .head))) | exact .tail (.tail (.tail (.tail (.tail .head)))) | exact .tail (.tail (.tail (.tail (.tail (.tail .head))))) | exact .tail (.tail (.tail (.tail (.tail (.tail (.tail .head)))))) | exact .tail (.tail (.tail (.tail (.tail (.tail (.tail (.tail .head))))))) | exact .tail (.tail (.tail (.tail (.tail (.tail (.tail (.tail (.tail .head)))))))) | exact .tail (.tail (.tail (.tail (.tail (.tail (.tail (.tail (.tail (.tail .head))))))))) | exact .tail (.tail (.tail (.tail (.tail (.tail (.tail (.tail (.tail (.tail (.tail .head)))))))))) | exact .tail (.tail (.tail (.tail (.tail (.tail (.tail (.tail (.tail (.tail (.tail (.tail .head))))))))))) | exact .tail (.tail (.tail (.tail (.tail (.tail (.tail (.tail (.tail (.tail (.tail (.tail (.tail .head)))))))))))) | exact .tail (.tail (.tail (.tail (.tail (.tail (.tail (.tail (.tail (.tail (.tail (.tail (.tail (.tail .head))))))))))))) | exact .tail (.tail (.tail (.tail (.tail (.tail (.tail (.tail (.tail (.tail (.tail (.tail (.tail (.tail (.tail .head))))))))))))))) (.cons (by first | exact .head | exact .tail .head | exact .tail (.tail .head) | exact .tail (.tail (.tail .head)) | exact .tail (.tail (.tail (.tail .head))) | exact .tail (.tail (.tail (.tail (.tail .head)))) | exact .tail (.tail (.tail (.tail (.tail (.tail .head))))) | exact .tail (.tail (.tail (.tail (.tail (.tail (.tail .head)))))) | exact .tail (.tail (.tail (.tail (.tail (.tail (.tail (.tail .head))))))) | exact .tail (.tail (.tail (.tail (.tail (.tail (.tail (.tail (.tail .head)))))))) | exact .tail (.tail (.tail (.tail (.tail (.tail (.tail (.tail (.tail (.tail .head))))))))) | exact .tail (.tail (.tail (.tail (.tail (.tail (.tail (.tail (.tail (.tail (.tail .head)))))))))) | exact .tail (.tail (.tail (.tail (.tail (.tail (.tail (.tail (.tail (.tail (.tail (.tail .head))))))))))) | exact .tail (.tail (.tail (.tail (.tail (.tail (.tail (.tail (.tail (.tail (.tail (.tail (.tail .head)))))))))))) | exact .tail (.tail (.tail (.tail (.tail (.tail (.tail (.tail (.tail (.tail (.tail (.tail (.tail (.tail .head))))))))))))) | exact .tail (.tail (.tail (.tail (.tail (.tail (.tail (.tail (.tail (.tail (.tail (.tail (.tail (.tail (.tail .head))))))))))))))) (.cons (by first | exact .head | exact .tail .head | exact .tail (.tail .head) | exact .tail (.tail (.tail .head)) | exact .tail (.tail (.tail (.tail .head))) | exact .tail (.tail (.tail (.tail (.tail .head)))) | exact .tail (.tail (.tail (.tail (.tail (.tail .head))))) | exact .tail (.tail (.tail (.tail (.tail (.tail (.tail .head)))))) | exact .tail (.tail (.tail (.tail (.tail (.tail (.tail (.tail .head))))))) | exact .tail (.tail (.tail (.tail (.tail (.tail (.tail (.tail (.tail .head)))))))) | exact .tail (.tail (.tail (.tail (.tail (.tail (.tail (.tail (.tail (.tail .head))))))))) | exact .tail (.tail (.tail (.tail (.tail (.tail (.tail (.tail (.tail (.tail (.tail .head)))))))))) | exact .tail (.tail (.tail (.tail (.tail (.tail (.tail (.tail (.tail (.tail (.tail (.tail .head))))))))))) | exact .tail (.tail (.tail (.tail (.tail (.tail (.tail (.tail (.tail (.tail (.tail (.tail (.tail .head)))))))))))) | exact .tail (.tail (.tail (.tail (.tail (.tail (.tail (.tail (.tail (.tail (.tail (.tail (.tail (.tail .head))))))))))))) | exact .tail (.tail (.tail (.tail (.tail (.tail (.tail (.tail (.tail (.tail (.tail (.tail (.tail (.tail (.tail .head))))))))))))))) (.cons (by first | exact .head | exact .tail .head | exact .tail (.tail .head) | exact .tail (.tail (.tail .head)) | exact .tail (.tail (.tail (.tail .head))) | exact .tail (.tail (.tail (.tail (.tail .head)))) | exact .tail (.tail (.tail (.tail (.tail (.tail .head))))) | exact .tail (.tail (.tail (.tail (.tail (.tail (.tail .head)))))) | exact .tail (.tail (.tail (.tail (.tail (.tail (.tail (.tail .head))))))) | exact .tail (.tail (.tail (.tail (.tail (.tail (.tail (.tail (.tail .head)))))))) | exact .tail (.tail (.tail (.tail (.tail (.tail (.tail (.tail (.tail (.tail .head))))))))) | exact .tail (.tail (.tail (.tail (.tail (.tail (.tail (.tail (.tail (.tail (.tail .head)))))))))) | exact .tail (.tail (.tail (.tail (.tail (.tail (.tail (.tail (.tail (.tail (.tail (.tail .head))))))))))) | exact .tail (.tail (.tail (.tail (.tail (.tail (.tail (.tail (.tail (.tail (.tail (.tail (.tail .head)))))))))))) | exact .tail (.tail (.tail (.tail (.tail (.tail (.tail (.tail (.tail (.tail (.tail (.tail (.tail (.tail .head))))))))))))) | exact .tail (.tail (.tail (.tail (.tail (.tail (.tail (.tail (.tail (.tail (.tail (.tail (.tail (.tail (.tail .head))))))))))))))) (.cons (by first | exact .head | exact .tail .head | exact .tail (.tail .head) | exact .tail (.tail (.tail .head)) | exact .tail (.tail (.tail (.tail .head))) | exact .tail (.tail (.tail (.tail (.tail .head)))) | exact .tail (.tail (.tail (.tail (.tail (.tail .head))))) | exact .tail (.tail (.tail (.tail (.tail (.tail (.tail .head)))))) | exact .tail (.tail (.tail (.tail (.tail (.tail (.tail (.tail .head))))))) | exact .tail (.tail (.tail (.tail (.tail (.tail (.tail (.tail (.tail .head)))))))) | exact .tail (.tail (.tail (.tail (.tail (.tail (.tail (.tail (.tail (.tail .head))))))))) | exact .tail (.tail (.tail (.tail (.tail (.tail (.tail (.tail (.tail (.tail (.tail .head)))))))))) | exact .tail (.tail (.tail (.tail (.tail (.tail (.tail (.tail (.tail (.tail (.tail (.tail .head))))))))))) | exact .tail (.tail (.tail (.tail (.tail (.tail (.tail (.tail (.tail (.tail (.tail (.tail (.tail .head)))))))))))) | exact .tail (.tail (.tail (.tail (.tail (.tail (.tail (.tail (.tail (.tail (.tail (.tail (.tail (.tail .head))))))))))))) | exact .tail (.tail (.tail (.tail (.tail (.tail (.tail (.tail (.tail (.tail (.tail (.tail (.tail (.tail (.tail .head))))))))))))))) (.cons (by first | exact .head | exact .tail .head | exact .tail (.tail .head) | exact .tail (.tail (.tail .head)) | exact .tail (.tail (.tail (.tail .head))) | exact .tail (.tail (.tail (.tail (.tail .head)))) | exact .tail (.tail (.tail (.tail (.tail (.tail .head))))) | exact .tail (.tail (.tail (.tail (.tail (.tail (.tail .head)))))) | exact .tail (.tail (.tail (.tail (.tail (.tail (.tail (.tail .head))))))) | exact .tail (.tail (.tail (.tail (.tail (.tail (.tail (.tail (.tail .head)))))))) | exact .tail (.tail (.tail (.tail (.tail (.tail (.tail (.tail (.tail (.tail .head))))))))) | exact .tail (.tail (.tail (.tail (.tail (.tail (.tail (.tail (.tail (.tail (.tail .head)))))))))) | exact .tail (.tail (.tail (.tail (.tail (.tail (.tail (.tail (.tail (.tail (.tail (.tail .head))))))))))) | exact .tail (.tail (.tail (.tail (.tail (.tail (.tail (.tail (.tail (.tail (.tail (.tail (.tail .head)))))))))))) | exact .tail (.tail (.tail (.tail (.tail (.tail (.tail (.tail (.tail (.tail (.tail (.tail (.tail (.tail .head))))))))))))) | exact .tail (.tail (.tail (.tail (.tail (.tail (.tail (.tail (.tail (.tail (.tail (.tail (.tail (.tail (.tail .head))))))))))))))) (.cons (by first | exact .head | exact .tail .head | exact .tail (.tail .head) | exact .tail (.tail (.tail .head)) | exact .tail (.tail (.tail (.tail .head))) | exact .tail (.tail (.tail (.tail (.tail .head)))) | exact .tail (.tail (.tail (.tail (.tail (.tail .head))))) | exact .tail (.tail (.tail (.tail (.tail (.tail (.tail .head)))))) | exact .tail (.tail (.tail (.tail (.tail (.tail (.tail (.tail .head))))))) | exact .tail (.tail (.tail (.tail (.tail (.tail (.tail (.tail (.tail .head)))))))) | exact .tail (.tail (.tail (.tail (.tail (.tail (.tail (.tail (.tail (.tail .head))))))))) | exact .tail (.tail (.tail (.tail (.tail (.tail (.tail (.tail (.tail (.tail (.tail .head)))))))))) | exact .tail (.tail (.tail (.tail (.tail (.tail (.tail (.tail (.tail (.tail (.tail (.tail .head))))))))))) | exact .tail (.tail (.tail (.tail (.tail (.tail (.tail (.tail (.tail (.tail (.tail (.tail (.tail .head)))))))))))) | exact .tail (.tail (.tail (.tail (.tail (.tail (.tail (.tail (.tail (.tail (.tail (.tail (.tail (.tail .head))))))))))))) | exact .tail (.tail (.tail (.tail (.tail (.tail (.tail (.tail (.tail (.tail (.tail (.tail (.tail (.tail (.tail .head))))))))))))))) .nil))))))))) | exact hwk (.cons (by first | exact .head | exact .tail .head | exact .tail (.tail .head) | exact .tail (.tail (.tail .head)) | exact .tail (.tail (.tail (.tail .head))) | exact .tail (.tail (.tail (.tail (.tail .head)))) | exact .tail (.tail (.tail (.tail (.tail (.tail .head))))) | exact .tail (.tail (.tail (.tail (.tail (.tail (.tail .head)))))) | exact .tail (.tail (.tail (.tail (.tail (.tail (.tail (.tail .head))))))) | exact .tail (.tail (.tail (.tail (.tail (.tail (.tail (.tail (.tail .head)))))))) | exact .tail (.tail (.tail (.tail (.tail (.tail (.tail (.tail (.tail (.tail .head))))))))) | exact .tail (.tail (.tail (.tail (.tail (.tail (.tail (.tail (.tail (.tail (.tail .head)))))))))) | exact .tail (.tail (.tail (.tail (.tail (.tail (.tail (.tail (.tail (.tail (.tail (.tail .head))))))))))) | exact .tail (.tail (.tail (.tail (.tail (.tail (.tail (.tail (.tail (.tail (.tail (.tail (.tail .head)))))))))))) | exact .tail (.tail (.tail (.tail (.tail (.tail (.tail (.tail (.tail (.tail (.tail (.tail (.tail (.tail .head))))))))))))) | exact .tail (.tail (.tail (.tail (.tail (.tail (.tail (.tail (.tail (.tail (.tail (.tail (.tail (.tail (.tail .head))))))))))))))) (.cons (by first | exact .head | exact .tail .head | exact .tail (.tail .head) | exact .tail (.tail (.tail .head)) | exact .tail (.tail (.tail (.tail .head))) | exact .tail (.tail (.tail (.tail (.tail .head)))) | exact .tail (.tail (.tail (.tail (.tail (.tail .head))))) | exact .tail (.tail (.tail (.tail (.tail (.tail (.tail .head)))))) | exact .tail (.tail (.tail (.tail (.tail (.tail (.tail (.tail .head))))))) | exact .tail (.tail (.tail (.tail (.tail (.tail (.tail (.tail (.tail .head)))))))) | exact .tail (.tail (.tail (.tail (.tail (.tail (.tail (.tail (.tail (.tail .head))))))))) | exact .tail (.tail (.tail (.tail (.tail (.tail (.tail (.tail (.tail (.tail (.tail .head)))))))))) | exact .tail (.tail (.tail (.tail (.tail (.tail (.tail (.tail (.tail (.tail (.tail (.tail .head))))))))))) | exact .tail (.tail (.tail (.tail (.tail (.tail (.tail (.tail (.tail (.tail (.tail (.tail (.tail .head)))))))))))) | exact .tail (.tail (.tail (.tail (.tail (.tail (.tail (.tail (.tail (.tail (.tail (.tail (.tail (.tail .head))))))))))))) | exact .tail (.tail (.tail (.tail (.tail (.tail (.tail (.tail (.tail (.tail (.tail (.tail (.tail (.tail (.tail .head))))))))))))))) (.cons (by first | exact .head | exact .tail .head | exact .tail (.tail .head) | exact .tail (.tail (.tail .head)) | exact .tail (.tail (.tail (.tail .head))) | exact .tail (.tail (.tail (.tail (.tail .head)))) | exact .tail (.tail (.tail (.tail (.tail (.tail .head))))) | exact .tail (.tail (.tail (.tail (.tail (.tail (.tail .head)))))) | exact .tail (.tail (.tail (.tail (.tail (.tail (.tail (.tail .head))))))) | exact .tail (.tail (.tail (.tail (.tail (.tail (.tail (.tail (.tail .head)))))))) | exact .tail (.tail (.tail (.tail (.tail (.tail (.tail (.tail (.tail (.tail .head))))))))) | exact .tail (.tail (.tail (.tail (.tail (.tail (.tail (.tail (.tail (.tail (.tail .head)))))))))) | exact .tail (.tail (.tail (.tail (.tail (.tail (.tail (.tail (.tail (.tail (.tail (.tail .head))))))))))) | exact .tail (.tail (.tail (.tail (.tail (.tail (.tail (.tail (.tail (.tail (.tail (.tail (.tail .head)))))))))))) | exact .tail (.tail (.tail (.tail (.tail (.tail (.tail (.tail (.tail (.tail (.tail (.tail (.tail (.tail .head))))))))))))) | exact .tail (.tail (.tail (.tail (.tail (.tail (.tail (.tail (.tail (.tail (.tail (.tail (.tail (.tail (.tail .head))))))))))))))) (.cons (by first | exact .head | exact .tail .head | exact .tail (.tail .head) | exact .tail (.tail (.tail .head)) | exact .tail (.tail (.tail (.tail .head))) | exact .tail (.tail (.tail (.tail (.tail .head)))) | exact .tail (.tail (.tail (.tail (.tail (.tail .head))))) | exact .tail (.tail (.tail (.tail (.tail (.tail (.tail .head)))))) | exact .tail (.tail (.tail (.tail (.tail (.tail (.tail (.tail .head))))))) | exact .tail (.tail (.tail (.tail (.tail (.tail (.tail (.tail (.tail .head)))))))) | exact .tail (.tail (.tail (.tail (.tail (.tail (.tail (.tail (.tail (.tail .head))))))))) | exact .tail (.tail (.tail (.tail (.tail (.tail (.tail (.tail (.tail (.tail (.tail .head)))))))))) | exact .tail (.tail (.tail (.tail (.tail (.tail (.tail (.tail (.tail (.tail (.tail (.tail .head))))))))))) | exact .tail (.tail (.tail (.tail (.tail (.tail (.tail (.tail (.tail (.tail (.tail (.tail (.tail .head)))))))))))) | exact .tail (.tail (.tail (.tail (.tail (.tail (.tail (.tail (.tail (.tail (.tail (.tail (.tail (.tail .head))))))))))))) | exact .tail (.tail (.tail (.tail (.tail (.tail (.tail (.tail (.tail (.tail (.tail (.tail (.tail (.tail (.tail .head))))))))))))))) (.cons (by first | exact .head | exact .tail .head | exact .tail (.tail .head) | exact .tail (.tail (.tail .head)) | exact .tail (.tail (.tail (.tail .head))) | exact .tail (.tail (.tail (.tail (.tail .head)))) | exact .tail (.tail (.tail (.tail (.tail (.tail .head))))) | exact .tail (.tail (.tail (.tail (.tail (.tail (.tail .head)))))) | exact .tail (.tail (.tail (.tail (.tail (.tail (.tail (.tail .head))))))) | exact .tail (.tail (.tail (.tail (.tail (.tail (.tail (.tail (.tail .head)))))))) | exact .tail (.tail (.tail (.tail (.tail (.tail (.tail (.tail (.tail (.tail .head))))))))) | exact .tail (.tail (.tail (.tail (.tail (.tail (.tail (.tail (.tail (.tail (.tail .head)))))))))) | exact .tail (.tail (.tail (.tail (.tail (.tail (.tail (.tail (.tail (.tail (.tail (.tail .head))))))))))) | exact .tail (.tail (.tail (.tail (.tail (.tail (.tail (.tail (.tail (.tail (.tail (.tail (.tail .head)))))))))))) | exact .tail (.tail (.tail (.tail (.tail (.tail (.tail (.tail (.tail (.tail (.tail (.tail (.tail (.tail .head))))))))))))) | exact .tail (.tail (.tail (.tail (.tail (.tail (.tail (.tail (.tail (.tail (.tail (.tail (.tail (.tail (.tail .head))))))))))))))) (.cons (by first | exact .head | exact .tail .head | exact .tail (.tail .head) | exact .tail (.tail (.tail .head)) | exact .tail (.tail (.tail (.tail .head))) | exact .tail (.tail (.tail (.tail (.tail .head)))) | exact .tail (.tail (.tail (.tail (.tail (.tail .head))))) | exact .tail (.tail (.tail (.tail (.tail (.tail (.tail .head)))))) | exact .tail (.tail (.tail (.tail (.tail (.tail (.tail (.tail .head))))))) | exact .tail (.tail (.tail (.tail (.tail (.tail (.tail (.tail (.tail .head)))))))) | exact .tail (.tail (.tail (.tail (.tail (.tail (.tail (.tail (.tail (.tail .head))))))))) | exact .tail (.tail (.tail (.tail (.tail (.tail (.tail (.tail (.tail (.tail (.tail .head)))))))))) | exact .tail (.tail (.tail (.tail (.tail (.tail (.tail (.tail (.tail (.tail (.tail (.tail .head))))))))))) | exact .tail (.tail (.tail (.tail (.tail (.tail (.tail (.tail (.tail (.tail (.tail (.tail (.tail .head)))))))))))) | exact .tail (.tail (.tail (.tail (.tail (.tail (.tail (.tail (.tail (.tail (.tail (.tail (.tail (.tail .head))))))))))))) | exact .tail (.tail (.tail (.tail (.tail (.tail (.tail (.tail (.tail (.tail (.tail (.tail (.tail (.tail (.tail .head))))))))))))))) (.cons (by first | exact .head | exact .tail .head | exact .tail (.tail .head) | exact .tail (.tail (.tail .head)) | exact .tail (.tail (.tail (.tail .head))) | exact .tail (.tail (.tail (.tail (.tail .head)))) | exact .tail (.tail (.tail (.tail (.tail (.tail .head))))) | exact .tail (.tail (.tail (.tail (.tail (.tail (.tail .head)))))) | exact .tail (.tail (.tail (.tail (.tail (.tail (.tail (.tail .head))))))) | exact .tail (.tail (.tail (.tail (.tail (.tail (.tail (.tail (.tail .head)))))))) | exact .tail (.tail (.tail (.tail (.tail (.tail (.tail (.tail (.tail (.tail .head))))))))) | exact .tail (.tail (.tail (.tail (.tail (.tail (.tail (.tail (.tail (.tail (.tail .head)))))))))) | exact .tail (.tail (.tail (.tail (.tail (.tail (.tail (.tail (.tail (.tail (.tail (.tail .head))))))))))) | exact .tail (.tail (.tail (.tail (.tail (.tail (.tail (.tail (.tail (.tail (.tail (.tail (.tail .head)))))))))))) | exact .tail (.tail (.tail (.tail (.tail (.tail (.tail (.tail (.tail (.tail (.tail (.tail (.tail (.tail .head))))))))))))) | exact .tail (.tail (.tail (.tail (.tail (.tail (.tail (.tail (.tail (.tail (.tail (.tail (.tail (.tail (.tail .head))))))))))))))) (.cons (by first | exact .head | exact .tail .head | exact .tail (.tail .head) | exact .tail (.tail (.tail .head)) | exact .tail (.tail (.tail (.tail .head))) | exact .tail (.tail (.tail (.tail (.tail .head)))) | exact .tail (.tail (.tail (.tail (.tail (.tail .head))))) | exact .tail (.tail (.tail (.tail (.tail (.tail (.tail .head)))))) | exact .tail (.tail (.tail (.tail (.tail (.tail (.tail (.tail .head))))))) | exact .tail (.tail (.tail (.tail (.tail (.tail (.tail (.tail (.tail .head)))))))) | exact .tail (.tail (.tail (.tail (.tail (.tail (.tail (.tail (.tail (.tail .head))))))))) | exact .tail (.tail (.tail (.tail (.tail (.tail (.tail (.tail (.tail (.tail (.tail .head)))))))))) | exact .tail (.tail (.tail (.tail (.tail (.tail (.tail (.tail (.tail (.tail (.tail (.tail .head))))))))))) | exact .tail (.tail (.tail (.tail (.tail (.tail (.tail (.tail (.tail (.tail (.tail (.tail (.tail .head)))))))))))) | exact .tail (.tail (.tail (.tail (.tail (.tail (.tail (.tail (.tail (.tail (.tail (.tail (.tail (.tail .head))))))))))))) | exact .tail (.tail (.tail (.tail (.tail (.tail (.tail (.tail (.tail (.tail (.tail (.tail (.tail (.tail (.tail .head))))))))))))))) (.cons (by first | exact .head | exact .tail .head | exact .tail (.tail .head) | exact .tail (.tail (.tail .head)) | exact .tail (.tail (.tail (.tail .head))) | exact .tail (.tail (.tail (.tail (.tail .head)))) | exact .tail (.tail (.tail (.tail (.tail (.tail .head))))) | exact .tail (.tail (.tail (.tail (.tail (.tail (.tail .head)))))) | exact .tail (.tail (.tail (.tail (.tail (.tail (.tail (.tail .head))))))) | exact .tail (.tail (.tail (.tail (.tail (.tail (.tail (.tail (.tail .head)))))))) | exact .tail (.tail (.tail (.tail (.tail (.tail (.tail (.tail (.tail (.tail .head))))))))) | exact .tail (.tail (.tail (.tail (.tail (.tail (.tail (.tail (.tail (.tail (.tail .head)))))))))) | exact .tail (.tail (.tail (.tail (.tail (.tail (.tail (.tail (.tail (.tail (.tail (.tail .head))))))))))) | exact .tail (.tail (.tail (.tail (.tail (.tail (.tail (.tail (.tail (.tail (.tail (.tail (.tail .head)))))))))))) | exact .tail (.tail (.tail (.tail (.tail (.tail (.tail (.tail (.tail (.tail (.tail (.tail (.tail (.tail .head))))))))))))) | exact .tail (.tail (.tail (.tail (.tail (.tail (.tail (.tail (.tail (.tail (.tail (.tail (.tail (.tail (.tail .head))))))))))))))) (.cons (by first | exact .head | exact .tail .head | exact .tail (.tail .head) | exact .tail (.tail (.tail .head)) | exact .tail (.tail (.tail (.tail .head))) | exact .tail (.tail (.tail (.tail (.tail .head)))) | exact .tail (.tail (.tail (.tail (.tail (.tail .head))))) | exact .tail (.tail (.tail (.tail (.tail (.tail (.tail .head)))))) | exact .tail (.tail (.tail (.tail (.tail (.tail (.tail (.tail .head))))))) | exact .tail (.tail (.tail (.tail (.tail (.tail (.tail (.tail (.tail .head)))))))) | exact .tail (.tail (.tail (.tail (.tail (.tail (.tail (.tail (.tail (.tail .head))))))))) | exact .tail (.tail (.tail (.tail (.tail (.tail (.tail (.tail (.tail (.tail (.tail .head)))))))))) | exact .tail (.tail (.tail (.tail (.tail (.tail (.tail (.tail (.tail (.tail (.tail (.tail .head))))))))))) | exact .tail (.tail (.tail (.tail (.tail (.tail (.tail (.tail (.tail (.tail (.tail (.tail (.tail .head)))))))))))) | exact .tail (.tail (.tail (.tail (.tail (.tail (.tail (.tail (.tail (.tail (.tail (.tail (.tail (.tail .head))))))))))))) | exact .tail (.tail (.tail (.tail (.tail (.tail (.tail (.tail (.tail (.tail (.tail (.tail (.tail (.tail (.tail .head))))))))))))))) .nil)))))))))) | exact hwk (.cons (by first | exact .head | exact .tail .head | exact .tail (.tail .head) | exact .tail (.tail (.tail .head)) | exact .tail (.tail (.tail (.tail .head))) | exact .tail (.tail (.tail (.tail (.tail .head)))) | exact .tail (.tail (.tail (.tail (.tail (.tail .head))))) | exact .tail (.tail (.tail (.tail (.tail (.tail (.tail .head)))))) | exact .tail (.tail (.tail (.tail (.tail (.tail (.tail (.tail .head))))))) | exact .tail (.tail (.tail (.tail (.tail (.tail (.tail (.tail (.tail .head)))))))) | exact .tail (.tail (.tail (.tail (.tail (.tail (.tail (.tail (.tail (.tail .head))))))))) | exact .tail (.tail (.tail (.tail (.tail (.tail (.tail (.tail (.tail (.tail (.tail .head)))))))))) | exact .tail (.tail (.tail (.tail (.tail (.tail (.tail (.tail (.tail (.tail (.tail (.tail .head))))))))))) | exact .tail (.tail (.tail (.tail (.tail (.tail (.tail (.tail (.tail (.tail (.tail (.tail (.tail .head)))))))))))) | exact .tail (.tail (.tail (.tail (.tail (.tail (.tail (.tail (.tail (.tail (.tail (.tail (.tail (.tail .head))))))))))))) | exact .tail (.tail (.tail (.tail (.tail (.tail (.tail (.tail (.tail (.tail (.tail (.tail (.tail (.tail (.tail .head))))))))))))))) (.cons (by first | exact .head | exact .tail .head | exact .tail (.tail .head) | exact .tail (.tail (.tail .head)) | exact .tail (.tail (.tail (.tail .head))) | exact .tail (.tail (.tail (.tail (.tail .head)))) | exact .tail (.tail (.tail (.tail (.tail (.tail .head))))) | exact .tail (.tail (.tail (.tail (.tail (.tail (.tail .head)))))) | exact .tail (.tail (.tail (.tail (.tail (.tail (.tail (.tail .head))))))) | exact .tail (.tail (.tail (.tail (.tail (.tail (.tail (.tail (.tail .head)))))))) | exact .tail (.tail (.tail (.tail (.tail (.tail (.tail (.tail (.tail (.tail .head))))))))) | exact .tail (.tail (.tail (.tail (.tail (.tail (.tail (.tail (.tail (.tail (.tail .head)))))))))) | exact .tail (.tail (.tail (.tail (.tail (.tail (.tail (.tail (.tail (.tail (.tail (.tail .head))))))))))) | exact .tail (.tail (.tail (.tail (.tail (.tail (.tail (.tail (.tail (.tail (.tail (.tail (.tail .head)))))))))))) | exact .tail (.tail (.tail (.tail (.tail (.tail (.tail (.tail (.tail (.tail (.tail (.tail (.tail (.tail .head))))))))))))) | exact .tail (.tail (.tail (.tail (.tail (.tail (.tail (.tail (.tail (.tail (.tail (.tail (.tail (.tail (.tail .head))))))))))))))) (.cons (by first | exact .head | exact .tail .head | exact .tail (.tail .head) | exact .tail (.tail (.tail .head)) | exact .tail (.tail (.tail (.tail .head))) | exact .tail (.tail (.tail (.tail (.tail .head)))) | exact .tail (.tail (.tail (.tail (.tail (.tail .head))))) | exact .tail (.tail (.tail (.tail (.tail (.tail (.tail .head)))))) | exact .tail (.tail (.tail (.tail (.tail (.tail (.tail (.tail .head))))))) | exact .tail (.tail (.tail (.tail (.tail (.tail (.tail (.tail (.tail .head)))))))) | exact .tail (.tail (.tail (.tail (.tail (.tail (.tail (.tail (.tail (.tail .head))))))))) | exact .tail (.tail (.tail (.tail (.tail (.tail (.tail (.tail (.tail (.tail (.tail .head)))))))))) | exact .tail (.tail (.tail (.tail (.tail (.tail (.tail (.tail (.tail (.tail (.tail (.tail .head))))))))))) | exact .tail (.tail (.tail (.tail (.tail (.tail (.tail (.tail (.tail (.tail (.tail (.tail (.tail .head)))))))))))) | exact .tail (.tail (.tail (.tail (.tail (.tail (.tail (.tail (.tail (.tail (.tail (.tail (.tail (.tail .head))))))))))))) | exact .tail (.tail (.tail (.tail (.tail (.tail (.tail (.tail (.tail (.tail (.tail (.tail (.tail (.tail (.tail .head))))))))))))))) (.cons (by first | exact .head | exact .tail .head | exact .tail (.tail .head) | exact .tail (.tail (.tail .head)) | exact .tail (.tail (.tail (.tail .head))) | exact .tail (.tail (.tail (.tail (.tail .head)))) | exact .tail (.tail (.tail (.tail (.tail (.tail .head))))) | exact .tail (.tail (.tail (.tail (.tail (.tail (.tail .head)))))) | exact .tail (.tail (.tail (.tail (.tail (.tail (.tail (.tail .head))))))) | exact .tail (.tail (.tail (.tail (.tail (.tail (.tail (.tail (.tail .head)))))))) | exact .tail (.tail (.tail (.tail (.tail (.tail (.tail (.tail (.tail (.tail .head))))))))) | exact .tail (.tail (.tail (.tail (.tail (.tail (.tail (.tail (.tail (.tail (.tail .head)))))))))) | exact .tail (.tail (.tail (.tail (.tail (.tail (.tail (.tail (.tail (.tail (.tail (.tail .head))))))))))) | exact .tail (.tail (.tail (.tail (.tail (.tail (.tail (.tail (.tail (.tail (.tail (.tail (.tail .head)))))))))))) | exact .tail (.tail (.tail (.tail (.tail (.tail (.tail (.tail (.tail (.tail (.tail (.tail (.tail (.tail .head))))))))))))) | exact .tail (.tail (.tail (.tail (.tail (.tail (.tail (.tail (.tail (.tail (.tail (.tail (.tail (.tail (.tail .head))))))))))))))) (.cons (by first | exact .head | exact .tail .head | exact .tail (.tail .head) | exact .tail (.tail (.tail .head)) | exact .tail (.tail (.tail (.tail .head))) | exact .tail (.tail (.tail (.tail (.tail .head)))) | exact .tail (.tail (.tail (.tail (.tail (.tail .head))))) | exact .tail (.tail (.tail (.tail (.tail (.tail (.tail .head)))))) | exact .tail (.tail (.tail (.tail (.tail (.tail (.tail (.tail .head))))))) | exact .tail (.tail (.tail (.tail (.tail (.tail (.tail (.tail (.tail .head)))))))) | exact .tail (.tail (.tail (.tail (.tail (.tail (.tail (.tail (.tail (.tail .head))))))))) | exact .tail (.tail (.tail (.tail (.tail (.tail (.tail (.tail (.tail (.tail (.tail .head)))))))))) | exact .tail (.tail (.tail (.tail (.tail (.tail (.tail (.tail (.tail (.tail (.tail (.tail .head))))))))))) | exact .tail (.tail (.tail (.tail (.tail (.tail (.tail (.tail (.tail (.tail (.tail (.tail (.tail .head)))))))))))) | exact .tail (.tail (.tail (.tail (.tail (.tail (.tail (.tail (.tail (.tail (.tail (.tail (.tail (.tail .head))))))))))))) | exact .tail (.tail (.tail (.tail (.tail (.tail (.tail (.tail (.tail (.tail (.tail (.tail (.tail (.tail (.tail .head))))))))))))))) (.cons (by first | exact .head | exact .tail .head | exact .tail (.tail .head) | exact .tail (.tail (.tail .head)) | exact .tail (.tail (.tail (.tail .head))) | exact .tail (.tail (.tail (.tail (.tail .head)))) | exact .tail (.tail (.tail (.tail (.tail (.tail .head))))) | exact .tail (.tail (.tail (.tail (.tail (.tail (.tail .head)))))) | exact .tail (.tail (.tail (.tail (.tail (.tail (.tail (.tail .head))))))) | exact .tail (.tail (.tail (.tail (.tail (.tail (.tail (.tail (.tail .head)))))))) | exact .tail (.tail (.tail (.tail (.tail (.tail (.tail (.tail (.tail (.tail .head))))))))) | exact .tail (.tail (.tail (.tail (.tail (.tail (.tail (.tail (.tail (.tail (.tail .head)))))))))) | exact .tail (.tail (.tail (.tail (.tail (.tail (.tail (.tail (.tail (.tail (.tail (.tail .head))))))))))) | exact .tail (.tail (.tail (.tail (.tail (.tail (.tail (.tail (.tail (.tail (.tail (.tail (.tail .head)))))))))))) | exact .tail (.tail (.tail (.tail (.tail (.tail (.tail (.tail (.tail (.tail (.tail (.tail (.tail (.tail .head))))))))))))) | exact .tail (.tail (.tail (.tail (.tail (.tail (.tail (.tail (.tail (.tail (.tail (.tail (.tail (.tail (.tail .head))))))))))))))) (.cons (by first | exact .head | exact .tail .head | exact .tail (.tail .head) | exact .tail (.tail (.tail .head)) | exact .tail (.tail (.tail (.tail .head))) | exact .tail (.tail (.tail (.tail (.tail .head)))) | exact .tail (.tail (.tail (.tail (.tail (.tail .head))))) | exact .tail (.tail (.tail (.tail (.tail (.tail (.tail .head)))))) | exact .tail (.tail (.tail (.tail (.tail (.tail (.tail (.tail .head))))))) | exact .tail (.tail (.tail (.tail (.tail (.tail (.tail (.tail (.tail .head)))))))) | exact .tail (.tail (.tail (.tail (.tail (.tail (.tail (.tail (.tail (.tail .head))))))))) | exact .tail (.tail (.tail (.tail (.tail (.tail (.tail (.tail (.tail (.tail (.tail .head)))))))))) | exact .tail (.tail (.tail (.tail (.tail (.tail (.tail (.tail (.tail (.tail (.tail (.tail .head))))))))))) | exact .tail (.tail (.tail (.tail (.tail (.tail (.tail (.tail (.tail (.tail (.tail (.tail (.tail .head)))))))))))) | exact .tail (.tail (.tail (.tail (.tail (.tail (.tail (.tail (.tail (.tail (.tail (.tail (.tail (.tail .head))))))))))))) | exact .tail (.tail (.tail (.tail (.tail (.tail (.tail (.tail (.tail (.tail (.tail (.tail (.tail (.tail (.tail .head))))))))))))))) (.cons (by first | exact .head | exact .tail .head | exact .tail (.tail .head) | exact .tail (.tail (.tail .head)) | exact .tail (.tail (.tail (.tail .head))) | exact .tail (.tail (.tail (.tail (.tail .head)))) | exact .tail (.tail (.tail (.tail (.tail (.tail .head))))) | exact .tail (.tail (.tail (.tail (.tail (.tail (.tail .head)))))) | exact .tail (.tail (.tail (.tail (.tail (.tail (.tail (.tail .head))))))) | exact .tail (.tail (.tail (.tail (.tail (.tail (.tail (.tail (.tail .head)))))))) | exact .tail (.tail (.tail (.tail (.tail (.tail (.tail (.tail (.tail (.tail .head))))))))) | exact .tail (.tail (.tail (.tail (.tail (.tail (.tail (.tail (.tail (.tail (.tail .head)))))))))) | exact .tail (.tail (.tail (.tail (.tail (.tail (.tail (.tail (.tail (.tail (.tail (.tail .head))))))))))) | exact .tail (.tail (.tail (.tail (.tail (.tail (.tail (.tail (.tail (.tail (.tail (.tail (.tail .head)))))))))))) | exact .tail (.tail (.tail (.tail (.tail (.tail (.tail (.tail (.tail (.tail (.tail (.tail (.tail (.tail .head))))))))))))) | exact .tail (.tail (.tail (.tail (.tail (.tail (.tail (.tail (.tail (.tail (.tail (.tail (.tail (.tail (.tail .head))))))))))))))) (.cons (by first | exact .head | exact .tail .head | exact .tail (.tail .head) | exact .tail (.tail (.tail .head)) | exact .tail (.tail (.tail (.tail .head))) | exact .tail (.tail (.tail (.tail (.tail .head)))) | exact .tail (.tail (.tail (.tail (.tail (.tail .head))))) | exact .tail (.tail (.tail (.tail (.tail (.tail (.tail .head)))))) | exact .tail (.tail (.tail (.tail (.tail (.tail (.tail (.tail .head))))))) | exact .tail (.tail (.tail (.tail (.tail (.tail (.tail (.tail (.tail .head)))))))) | exact .tail (.tail (.tail (.tail (.tail (.tail (.tail (.tail (.tail (.tail .head))))))))) | exact .tail (.tail (.tail (.tail (.tail (.tail (.tail (.tail (.tail (.tail (.tail .head)))))))))) | exact .tail (.tail (.tail (.tail (.tail (.tail (.tail (.tail (.tail (.tail (.tail (.tail .head))))))))))) | exact .tail (.tail (.tail (.tail (.tail (.tail (.tail (.tail (.tail (.tail (.tail (.tail (.tail .head)))))))))))) | exact .tail (.tail (.tail (.tail (.tail (.tail (.tail (.tail (.tail (.tail (.tail (.tail (.tail (.tail .head))))))))))))) | exact .tail (.tail (.tail (.tail (.tail (.tail (.tail (.tail (.tail (.tail (.tail (.tail (.tail (.tail (.tail .head))))))))))))))) (.cons (by first | exact .head | exact .tail .head | exact .tail (.tail .head) | exact .tail (.tail (.tail .head)) | exact .tail (.tail (.tail (.tail .head))) | exact .tail (.tail (.tail (.tail (.tail .head)))) | exact .tail (.tail (.tail (.tail (.tail (.tail .head))))) | exact .tail (.tail (.tail (.tail (.tail (.tail (.tail .head)))))) | exact .tail (.tail (.tail (.tail (.tail (.tail (.tail (.tail .head))))))) | exact .tail (.tail (.tail (.tail (.tail (.tail (.tail (.tail (.tail .head)))))))) | exact .tail (.tail (.tail (.tail (.tail (.tail (.tail (.tail (.tail (.tail .head))))))))) | exact .tail (.tail (.tail (.tail (.tail (.tail (.tail (.tail (.tail (.tail (.tail .head)))))))))) | exact .tail (.tail (.tail (.tail (.tail (.tail (.tail (.tail (.tail (.tail (.tail (.tail .head))))))))))) | exact .tail (.tail (.tail (.tail (.tail (.tail (.tail (.tail (.tail (.tail (.tail (.tail (.tail .head)))))))))))) | exact .tail (.tail (.tail (.tail (.tail (.tail (.tail (.tail (.tail (.tail (.tail (.tail (.tail (.tail .head))))))))))))) | exact .tail (.tail (.tail (.tail (.tail (.tail (.tail (.tail (.tail (.tail (.tail (.tail (.tail (.tail (.tail .head))))))))))))))) (.cons (by first | exact .head | exact .tail .head | exact .tail (.tail .head) | exact .tail (.tail (.tail .head)) | exact .tail (.tail (.tail (.tail .head))) | exact .tail (.tail (.tail (.tail (.tail .head)))) | exact .tail (.tail (.tail (.tail (.tail (.tail .head))))) | exact .tail (.tail (.tail (.tail (.tail (.tail (.tail .head)))))) | exact .tail (.tail (.tail (.tail (.tail (.tail (.tail (.tail .head))))))) | exact .tail (.tail (.tail (.tail (.tail (.tail (.tail (.tail (.tail .head)))))))) | exact .tail (.tail (.tail (.tail (.tail (.tail (.tail (.tail (.tail (.tail .head))))))))) | exact .tail (.tail (.tail (.tail (.tail (.tail (.tail (.tail (.tail (.tail (.tail .head)))))))))) | exact .tail (.tail (.tail (.tail (.tail (.tail (.tail (.tail (.tail (.tail (.tail (.tail .head))))))))))) | exact .tail (.tail (.tail (.tail (.tail (.tail (.tail (.tail (.tail (.tail (.tail (.tail (.tail .head)))))))))))) | exact .tail (.tail (.tail (.tail (.tail (.tail (.tail (.tail (.tail (.tail (.tail (.tail (.tail (.tail .head))))))))))))) | exact .tail (.tail (.tail (.tail (.tail (.tail (.tail (.tail (.tail (.tail (.tail (.tail (.tail (.tail (.tail .head))))))))))))))) .nil)))))))))))), ?_⟩
      dsimp only
      rw [List.take_add_one, hr, List.map_append]
      simp only [hdsC, List.flatMap_append] at hV' ⊢
      simpa [hdC] using hV'
    rintro ⟨v', r'⟩ hV'
    dsimp only at hV' ⊢
    refine w_region ?_
    refine o_t x_add ?_
    refine o_t x_mv ?_
    refine o_nil ?_
    refine ⟨(j + 1, v', r'), (by rw [hfe]; exact wka), ?_, ⟨by dsimp only; omega, hV'⟩, by dsimp only; omega⟩
    dsimp only
    exact HWk.trans (B := [pt b2 [.bool false, .string ⟨#[]⟩, .slice none 0 0] 31, pt b5 [.bool true, .string (str c), v'] 31, r', ro, pre, fileH fb q.h (nonT q.h) w e l xv (.pointer (some ⟨zb, 0, none⟩)) (.iface 61 (.pointer (some ⟨rb, 0, none⟩))) q.pos, xr, post]) hka (hflat (by simp))
  rintro ⟨v, r⟩ hV
  dsimp only at hV ⊢
  refine w_seq ?_
  refine w_region ?_
  refine o_t (x_lda g31) ?_
  refine o_sta g31 ?_ (h1 := by intro u hu; simp only [List.mem_cons, List.not_mem_nil, or_false] at hu; rcases hu with rfl | rfl | rfl <;> first | rfl | exact hV.one)
  refine o_nil ?_
  refine w_ret (r_cell rfl g31 ⟨v, r, rfl, hV, rfl⟩)
end Go.Proofs.YtlmefkhglooepaaGreatDoor
namespace Go.Proofs.YtlmefkhglooepaaGreatDoor
open Go
def zk : Nat → Nat → Nat
  | 0, c => c
  | k + 1, c => zk k (cbits 8 c)
theorem cbit_lin (a b : Nat) : cbit (a ^^^ b) = cbit a ^^^ cbit b := by
  have h1 : (a ^^^ b) % 2 = (a + b) % 2 := by
    have := Nat.xor_mod_two_eq_one (a := a) (b := b)
    omega
  have h2 : (a ^^^ b) / 2 = a / 2 ^^^ b / 2 := Nat.xor_div_two
  unfold cbit
  rw [h1, h2]
  rcases Nat.mod_two_eq_zero_or_one a with ha | ha <;> rcases Nat.mod_two_eq_zero_or_one b with hb | hb
  · rw [if_neg (by omega), if_neg (by omega), if_neg (by omega)]
  · rw [if_pos (by omega), if_neg (by omega), if_pos (by omega), Nat.xor_assoc]
  · rw [if_pos (by omega), if_pos (by omega), if_neg (by omega)]; ac_rfl
  · rw [if_neg (by omega), if_pos (by omega), if_pos (by omega)]
    generalize a / 2 = x; generalize b / 2 = y
    rw [show x ^^^ 3988292384 ^^^ (y ^^^ 3988292384) = x ^^^ y ^^^ (3988292384 ^^^ 3988292384) by ac_rfl, Nat.xor_self, Nat.xor_zero]
theorem cbits_lin : ∀ (k a b : Nat), cbits k (a ^^^ b) = cbits k a ^^^ cbits k b
  | 0, _, _ => rfl
  | k + 1, a, b => by rw [cbits, cbit_lin, cbits_lin k]; rfl
theorem zk_lin : ∀ (k a b : Nat), zk k (a ^^^ b) = zk k a ^^^ zk k b
  | 0, _, _ => rfl
  | k + 1, a, b => by rw [zk, cbits_lin, zk_lin k]; rfl
theorem cbits_shift : ∀ (k m : Nat), cbits k (m * 2 ^ k) = m
  | 0, m => by simp [cbits]
  | k + 1, m => by
    have h1 : m * 2 ^ (k + 1) = 2 * (m * 2 ^ k) := by rw [Nat.pow_succ]; ac_rfl
    have h : cbit (m * 2 ^ (k + 1)) = m * 2 ^ k := by rw [cbit, h1, if_neg (by omega)]; omega
    rw [cbits, h, cbits_shift k m]
theorem xor_hi {a m : Nat} (h : a < 256) : a ^^^ m * 256 = a + m * 256 := by
  have h1 : a + m * 256 = m * 2 ^ 8 + a := by omega
  have h2 := Nat.two_pow_add_eq_or_of_lt (i := 8) h m
  rw [h1, Nat.mul_comm m (2 ^ 8), h2, Nat.mul_comm m 256]
  apply Nat.eq_of_testBit_eq
  intro i
  have h3 : (256 * m).testBit i = (decide (i ≥ 8) && m.testBit (i - 8)) := Nat.testBit_two_pow_mul (i := 8) (a := m) (j := i)
  rw [Nat.testBit_xor, Nat.testBit_or, h3]
  by_cases hi : 8 ≤ i
  · rw [Nat.testBit_lt_two_pow (Nat.lt_of_lt_of_le h (Nat.pow_le_pow_right (by decide) hi : 2 ^ 8 ≤ 2 ^ i))]; simp
  · simp [hi]
theorem split8 (c : Nat) : c % 256 ^^^ c / 256 * 256 = c := by rw [xor_hi (by omega)]; omega
theorem z_split (c : Nat) : cbits 8 c = cbits 8 (c % 256) ^^^ c / 256 := by
  conv => lhs; rw [← split8 c, cbits_lin, show (256 : Nat) = 2 ^ 8 from rfl, cbits_shift]
theorem zk_split (k c : Nat) : zk (k + 1) c = zk (k + 1) (c % 256) ^^^ zk k (c / 256) := by
  rw [zk, z_split, zk_lin]; rfl
/-- A byte, by the table. -/
theorem tab_byte (c : Nat) (b : UInt8) : cbits 8 (c % 256 ^^^ b.toNat) ^^^ c / 256 = cbyte c b := by
  have h1 : c % 256 ^^^ b.toNat < 256 := Nat.xor_lt_two_pow (n := 8) (by omega) b.toNat_lt
  have h2 : c ^^^ b.toNat = (c % 256 ^^^ b.toNat) ^^^ c / 256 * 256 := by
    conv => lhs; rw [← split8 c]
    ac_rfl
  rw [cbyte, h2, cbits_lin (b := c / 256 * 256), show c / 256 * 256 = c / 256 * 2 ^ 8 from rfl, cbits_shift]
theorem tab_next (j c : Nat) : cbits 8 (zk j c % 256) ^^^ zk j c / 256 = zk (j + 1) c := by
  rw [← z_split]
  have : ∀ (j c : Nat), cbits 8 (zk j c) = zk (j + 1) c := by
    intro j
    induction j with
    | zero => intro c; rfl
    | succ j ih => intro c; exact ih _
  exact this j c
theorem zk_lt : ∀ (k : Nat) {c : Nat}, c < 4294967296 → zk k c < 4294967296
  | 0, _, h => h
  | k + 1, _, h => zk_lt k (cbits_lt 8 h)
theorem zk_add (b m k : Nat) (h : b < 256) : zk (k + 1) (b + 256 * m) = zk (k + 1) b ^^^ zk k m := by
  rw [zk_split, show (b + 256 * m) % 256 = b by omega, show (b + 256 * m) / 256 = m by omega]
theorem zk_byte (k c b : Nat) : zk k (cbits 8 (c ^^^ b)) = zk (k + 1) c ^^^ zk (k + 1) b := by
  rw [cbits_lin, zk_lin]; rfl
/-- Eight bytes, by the tables. -/
theorem tab_eight (c d : Nat) (b0 b1 b2 b3 b4 b5 b6 b7 : UInt8) (hd : d = c ^^^ num [b0, b1, b2, b3]) :
    zk 1 b7.toNat ^^^ zk 2 b6.toNat ^^^ zk 3 b5.toNat ^^^ zk 4 b4.toNat ^^^ zk 5 (d / 16777216) ^^^ zk 6 (d / 65536 % 256) ^^^ zk 7 (d / 256 % 256) ^^^ zk 8 (d % 256) = crcFrom c [b0, b1, b2, b3, b4, b5, b6, b7] := by
  have e1 : zk 8 d = zk 8 (d % 256) ^^^ (zk 7 (d / 256 % 256) ^^^ (zk 6 (d / 65536 % 256) ^^^ zk 5 (d / 16777216))) := by
    rw [zk_split 7 d, zk_split 6 (d / 256), zk_split 5 (d / 256 / 256), Nat.div_div_eq_div_mul, Nat.div_div_eq_div_mul]
  have e2 : zk 8 (num [b0, b1, b2, b3]) = zk 8 b0.toNat ^^^ (zk 7 b1.toNat ^^^ (zk 6 b2.toNat ^^^ zk 5 b3.toNat)) := by
    simp only [num]
    rw [zk_add _ _ 7 b0.toNat_lt, zk_add _ _ 6 b1.toNat_lt, zk_add _ _ 5 b2.toNat_lt]
    rfl

  have e3 : zk 8 d = zk 8 c ^^^ zk 8 (num [b0, b1, b2, b3]) := by rw [hd, zk_lin]
  have z1 : ∀ x, cbits 8 x = zk 1 x := fun _ => rfl
  simp only [crcFrom, List.foldl, cbyte]
  rw [z1]
  have y : ∀ (k c b : Nat), zk k (cbits 8 c ^^^ b) = zk (k + 1) c ^^^ zk k b := fun k c b => zk_lin k _ b
  rw [y 1, y 2, y 3, y 4, y 5, y 6, y 7, zk_lin 8]
  rw [e1, e2] at e3
  generalize zk 8 (d % 256) = g1 at *
  generalize zk 7 (d / 256 % 256) = g2 at *
  generalize zk 6 (d / 65536 % 256) = g3 at *
  generalize zk 5 (d / 16777216) = g4 at *
  generalize zk 8 c = x0 at *
  generalize zk 8 b0.toNat = x1 at *
  generalize zk 7 b1.toNat = x2 at *
  generalize zk 6 b2.toNat = x3 at *
  generalize zk 5 b3.toNat = x4 at *
  generalize zk 4 b4.toNat = x5 at *
  generalize zk 3 b5.toNat = x6 at *
  generalize zk 2 b6.toNat = x7 at *
  generalize zk 1 b7.toNat = x8 at *
  have : x8 ^^^ x7 ^^^ x6 ^^^ x5 ^^^ g4 ^^^ g3 ^^^ g2 ^^^ g1 = x8 ^^^ x7 ^^^ x6 ^^^ x5 ^^^ (g1 ^^^ (g2 ^^^ (g3 ^^^ g4))) := by ac_rfl
  rw [this, e3]
  ac_rfl
end Go.Proofs.YtlmefkhglooepaaGreatDoor
namespace Go.Proofs.YtlmefkhglooepaaGreatDoor
open Go
def isDir (n : List UInt8) : Bool := decide (n.getLast? = some 47)
def descT (c n : Nat) : List UInt8 := [80, 75, 7, 8] ++ i4 c ++ i4 n ++ i4 n
@[simp] theorem descT_length (c n : Nat) : (descT c n).length = 16 := by simp [descT]
/-- A record whose content can be read. -/
structure Readable (s : List UInt8) (r : ZR) : Prop where
  ok : RecOK s r
  meth : r.h.method = 0
  crc : r.h.crc = crcT r.data
  size : r.h.size = r.data.length
  dir : isDir r.h.name = true → r.data = []
  small : r.data.length ≤ 1048576
  desc : isDir r.h.name = false → r.h.flags / 8 % 2 = 1 → Has s (r.pos + (localT r.lh ++ r.data).length) (descT (crcT r.data) r.data.length)
/-! The reference's archive. -/
def recsA : List En → Nat → List ZR
  | [], _ => []
  | e :: l, a => ⟨e.h, e.h, a, e.data⟩ :: recsA l (a + (fileT e).length)
theorem recsA_length : ∀ (l : List En) (a : Nat), (recsA l a).length = l.length
  | [], _ => rfl
  | e :: l, a => by simp [recsA, recsA_length l]
theorem recsA_dir : ∀ (l : List En) (a : Nat), dirG (recsA l a) = dirT l a
  | [], _ => rfl
  | e :: l, a => by simp [recsA, dirG, dirT, recsA_dir l]
theorem recsA_get : ∀ (l : List En) (a j : Nat) (e : En), l[j]? = some e → ∃ pos, (recsA l a)[j]? = some ⟨e.h, e.h, pos, e.data⟩
  | [], _, _, _, h => by simp at h
  | x :: l, a, 0, e, h => by simp at h; subst h; exact ⟨a, rfl⟩
  | x :: l, a, j + 1, e, h => by simpa [recsA] using recsA_get l _ j e (by simpa using h)
theorem recsA_map : ∀ (l : List En) (a : Nat), (recsA l a).map (·.h) = l.map (·.h)
  | [], _ => rfl
  | e :: l, a => by simp [recsA, recsA_map l]
theorem recsA_here : ∀ (l : List En) (p q : List UInt8) (r : ZR), r ∈ recsA l p.length → ∃ e ∈ l, r = ⟨e.h, e.h, r.pos, e.data⟩ ∧ r.pos ≤ p.length + (filesT l).length ∧ Has (p ++ (filesT l ++ q)) r.pos (localT e.h ++ e.data)
  | [], _, _, r, h => by simp [recsA] at h
  | e :: l, p, q, r, h => by
    simp only [recsA, List.mem_cons] at h
    rcases h with rfl | h
    · refine ⟨e, by simp, rfl, by simp, ?_⟩
      have := Has.mid' p (fileT e) (filesT l ++ q)
      simpa [filesT, fileT] using this
    · have h0 : p.length + (fileT e).length = (p ++ fileT e).length := by simp
      rw [h0] at h
      obtain ⟨x, hx, h1, h2, h3⟩ := recsA_here l (p ++ fileT e) q r h
      refine ⟨x, by simp [hx], h1, by simp only [filesT, List.length_append] at h2 ⊢; omega, ?_⟩
      simpa [filesT] using h3
/-! What the package writes. -/
def reqW (h : Hd) : Bool := (validT h.name).1 && (validT h.comment).1 && ((validT h.name).2 || (validT h.comment).2)
def flagsW (h : Hd) : Nat := (if h.non = false ∧ reqW h = true then 2048 else 0) + (if isDir h.name = true then 0 else 8)
def hdW (e : En) : Hd := ⟨e.h.name, e.h.comment, [], e.h.non, 20, 20, flagsW e.h, 0, 0, 0, crcT e.data, e.data.length, e.data.length, e.h.ext⟩
def lhW (e : En) : Hd := ⟨e.h.name, e.h.comment, [], e.h.non, 20, 20, flagsW e.h, 0, 0, 0, 0, 0, 0, e.h.ext⟩
def descW (e : En) : List UInt8 := if isDir e.h.name = true then [] else descT (crcT e.data) e.data.length
theorem descW_le (e : En) : (descW e).length ≤ 16 := by unfold descW; split <;> simp
def partW (e : En) : List UInt8 := localT (lhW e) ++ e.data ++ descW e
def bodyW : List En → List UInt8
  | [] => []
  | e :: l => partW e ++ bodyW l
theorem bodyW_append (a b : List En) : bodyW (a ++ b) = bodyW a ++ bodyW b := by
  induction a with
  | nil => rfl
  | cons e l ih => simp [bodyW, ih]
def recsW : List En → Nat → List ZR
  | [], _ => []
  | e :: l, a => ⟨hdW e, lhW e, a, e.data⟩ :: recsW l (a + (partW e).length)
theorem recsW_length : ∀ (l : List En) (a : Nat), (recsW l a).length = l.length
  | [], _ => rfl
  | e :: l, a => by simp [recsW, recsW_length l]
theorem recsW_append : ∀ (l m : List En) (a : Nat), recsW (l ++ m) a = recsW l a ++ recsW m (a + (bodyW l).length)
  | [], m, a => by simp [recsW, bodyW]
  | e :: l, m, a => by simp [recsW, bodyW, recsW_append l, Nat.add_assoc]
theorem recsW_get : ∀ (l : List En) (a j : Nat) (e : En), l[j]? = some e → ∃ pos, (recsW l a)[j]? = some ⟨hdW e, lhW e, pos, e.data⟩
  | [], _, _, _, h => by simp at h
  | x :: l, a, 0, e, h => by simp at h; subst h; exact ⟨a, rfl⟩
  | x :: l, a, j + 1, e, h => by simpa [recsW] using recsW_get l _ j e (by simpa using h)
theorem recsW_here : ∀ (l : List En) (p q : List UInt8) (r : ZR), r ∈ recsW l p.length → ∃ e ∈ l, r = ⟨hdW e, lhW e, r.pos, e.data⟩ ∧ r.pos ≤ p.length + (bodyW l).length ∧ Has (p ++ (bodyW l ++ q)) r.pos (partW e)
  | [], _, _, r, h => by simp [recsW] at h
  | e :: l, p, q, r, h => by
    simp only [recsW, List.mem_cons] at h
    rcases h with rfl | h
    · refine ⟨e, by simp, rfl, by simp, ?_⟩
      have := Has.mid' p (partW e) (bodyW l ++ q)
      simpa [bodyW] using this
    · have h0 : p.length + (partW e).length = (p ++ partW e).length := by simp
      rw [h0] at h
      obtain ⟨x, hx, h1, h2, h3⟩ := recsW_here l (p ++ partW e) q r h
      refine ⟨x, by simp [hx], h1, by simp only [bodyW, List.length_append] at h2 ⊢; omega, ?_⟩
      simpa [bodyW] using h3
def writeT (l : List En) (c : List UInt8) : List UInt8 := bodyW l ++ (dirG (recsW l 0) ++ endT l.length (dirG (recsW l 0)).length (bodyW l).length c)
/-- What the statement asks of an entry that is written. -/
structure WOK (e : En) : Prop where
  name : e.h.name.length ≤ 60000
  comment : e.h.comment.length ≤ 60000
  data : e.data.length ≤ 1048576
  ext : 0 ≤ e.h.ext ∧ e.h.ext ≤ 4294967295
  dir : e.h.name.getLast? = some 47 → e.data = []
theorem flagsW_le (h : Hd) : flagsW h ≤ 2056 := by unfold flagsW; split <;> split <;> omega
theorem partW_len (e : En) : (partW e).length = 30 + e.h.name.length + e.data.length + (descW e).length := by
  simp [partW, lhW]; omega
theorem bodyW_len {l : List En} (h : ∀ e ∈ l, WOK e) : (bodyW l).length ≤ l.length * 1108622 := by
  induction l with
  | nil => simp [bodyW]
  | cons e l ih =>
    have h1 := h e (by simp)
    have h2 := ih (fun x hx => h x (by simp [hx]))
    have := h1.name; have := h1.data; have := descW_le e
    simp only [bodyW, List.length_append, partW_len, List.length_cons]; omega
theorem dirW_len {l : List En} (h : ∀ e ∈ l, WOK e) : ∀ a, (dirG (recsW l a)).length ≤ l.length * 120046 := by
  induction l with
  | nil => simp [recsW, dirG]
  | cons e l ih =>
    intro a
    have h1 := h e (by simp)
    have h2 := ih (fun x hx => h x (by simp [hx])) (a + (partW e).length)
    have := h1.name; have := h1.comment
    simp only [recsW, dirG, List.length_append, centralT_length, List.length_cons]
    simp only [hdW, List.length_nil]; omega
theorem okW {e : En} (h : WOK e) : Ok (hdW e) := by
  have := h.data; have := flagsW_le e.h; have := crcT_lt e.data
  refine ⟨?_, ?_, ?_, ?_, ?_, ?_, ?_, ?_, ?_, h.ext, h.name, h.comment, ?_⟩ <;> simp only [hdW] <;> first | omega | simp
theorem readW {s : List UInt8} {e : En} {pos : Nat} (h : WOK e) (hpos : pos ≤ 4294967295) (hh : Has s pos (partW e)) : Readable s ⟨hdW e, lhW e, pos, e.data⟩ where
  ok := ⟨okW h, rfl, rfl, by simp [lhW], rfl, hpos, by
    rw [partW, Has.app] at hh; exact hh.1⟩
  meth := rfl
  crc := rfl
  size := rfl
  dir := fun hd => h.dir (of_decide_eq_true hd)
  small := h.data
  desc := fun hd _ => by
    rw [partW, Has.app, descW] at hh
    have hd' : isDir e.h.name = false := hd
    rw [if_neg (by rw [hd']; simp)] at hh
    exact hh.2
theorem zipW {l : List En} {c : List UInt8} (h : ∀ e ∈ l, WOK e) (hl : l.length ≤ 1000) (hc : c.length ≤ 65535) (h1 : ends (writeT l c) = 1) :
    Zip (writeT l c) (bodyW l) (recsW l 0) c ∧ ∀ r ∈ recsW l 0, Readable (writeT l c) r := by
  have hb := bodyW_len h
  have hd := dirW_len h 0
  have key : ∀ r ∈ recsW l 0, Readable (writeT l c) r := by
    intro r hr
    obtain ⟨e, he, h2, h3, h4⟩ := recsW_here l [] (dirG (recsW l 0) ++ endT l.length (dirG (recsW l 0)).length (bodyW l).length c) r hr
    rw [h2]
    exact readW (h e he) (by simp only [List.length_nil] at h3; omega) h4
  refine ⟨⟨by rw [recsW_length]; rfl, fun r hr => (key r hr).ok, h1, by rw [recsW_length]; exact hl, hc, ?_⟩, key⟩
  simp only [writeT, List.length_append, endT_length]; omega
end Go.Proofs.YtlmefkhglooepaaGreatDoor
