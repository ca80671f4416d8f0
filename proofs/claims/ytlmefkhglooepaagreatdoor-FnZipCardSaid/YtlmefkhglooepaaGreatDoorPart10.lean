/- The archive's writer: its states; prepare. A new file in the archive. A new file in the archive. The central header; the writer's comment. -/
import Derived.Test.YtlmefkhglooepaaGreatDoorPart9
set_option linter.unusedSimpArgs false
set_option linter.unusedVariables false
namespace Go.Proofs.YtlmefkhglooepaaGreatDoor
open Go
set_option linter.unusedSimpArgs false
set_option linter.unusedVariables false
variable {G : Nat → Option Obj} {ea : Nat → Addr}
def HdR (e : En) (off : Nat) (p : Value) (a : Res) : Prop := ∃ hd fh, p = .pointer (some ⟨hd, 0, none⟩) ∧ a = hdB hd fh off ++ fhB fh e 20 20 (flagsW e.h) (crcT e.data) e.data.length
def HdsR : List En → Nat → List Value → Res → Prop
  | [], _, [], res => res = []
  | e :: l, off, p :: ps, res => ∃ a b, HdR e off p a ∧ HdsR l (off + (partW e).length) ps b ∧ res = a ++ b
  | _, _, _, _ => False
theorem HdsR.snoc {e : En} {p : Value} {a : Res} : ∀ {l : List En} {off : Nat} {ps : List Value} {res : Res}, HdsR l off ps res → HdR e (off + (bodyW l).length) p a → HdsR (l ++ [e]) off (ps ++ [p]) (res ++ a)
  | [], off, [], res, h, ha => by
    simp only [HdsR] at h; subst h
    exact ⟨a, [], by simpa [bodyW] using ha, rfl, by simp⟩
  | x :: l, off, p' :: ps, res, h, ha => by
    obtain ⟨a', b, h1, h2, rfl⟩ := h
    refine ⟨a', b ++ a, h1, HdsR.snoc h2 ?_, by simp⟩
    simpa [bodyW, Nat.add_assoc] using ha
  | [], _, _ :: _, _, h, _ => h.elim
  | _ :: _, _, [], _, h, _ => h.elim
theorem HdsR.get : ∀ {l : List En} {off : Nat} {ps : List Value} {res : Res} {j : Nat} {e : En}, HdsR l off ps res → l[j]? = some e → ∃ p a pre post, ps[j]? = some p ∧ HdR e (off + (bodyW (l.take j)).length) p a ∧ res = pre ++ (a ++ post)
  | x :: l, off, p' :: ps, res, 0, e, h, hj => by
    obtain ⟨a', b, h1, h2, rfl⟩ := h
    simp at hj; subst hj
    exact ⟨p', a', [], b, rfl, by simpa [bodyW] using h1, rfl⟩
  | x :: l, off, p' :: ps, res, j + 1, e, h, hj => by
    obtain ⟨a', b, h1, h2, rfl⟩ := h
    obtain ⟨p, a, pre, post, h3, h4, rfl⟩ := HdsR.get h2 (by simpa using hj)
    exact ⟨p, a, a' ++ pre, post, by simpa using h3, by simpa [bodyW, Nat.add_assoc] using h4, by simp⟩
  | [], _, _, _, _, _, _, hj => by simp at hj
  | _ :: _, _, [], _, _, _, h, _ => h.elim
abbrev wrB (wp cw : Nat) (dv lv : Value) (cl : Bool) (cm : List UInt8) : Res := pt wp [.pointer (some ⟨cw, 0, none⟩), dv, lv, .bool cl, .map none, .string (str cm), .nilFunc] 127
/-- No file is open. -/
structure Rdy (cw wb bb : Nat) (l : List En) (dv : Value) (ps : List Value) (ro hr k : Res) (lv : Value) (lr : Res) : Prop where
  own : Own 137 1 dv l.length ps ro
  hds : HdsR l 0 ps hr
  out : Scw cw wb bb (bodyW l) k
  last : (lv = .pointer none ∧ lr = []) ∨ ∃ fw hd rc nb cc cb, lv = .pointer (some ⟨fw, 0, none⟩) ∧ lr = fwB fw hd cw rc nb cc cb true
/-- The last file is open, its content written. -/
structure Opn (cw wb bb : Nat) (l : List En) (e : En) (con : List UInt8) (fl hd fh fw rc nb cc cb : Nat) (dv : Value) (ps : List Value) (ro hr k : Res) : Prop where
  own : Own 137 1 dv (l.length + 1) (ps ++ [.pointer (some ⟨hd, 0, none⟩)]) ro
  hds : HdsR l 0 ps hr
  out : Src rc nb cc cw wb bb (bodyW l ++ localT (lhW e)).length (bodyW l ++ localT (lhW e) ++ con) k
  dir : isDir e.h.name = false
  flag : fl = flagsW e.h
theorem s80 : szOf P 80 = some (18 + 1) := by kernel_rfl
theorem s149 : szOf P 149 = some (6 + 1) := by kernel_rfl
theorem flags_desc (h : Hd) (hd : isDir h.name = false) : flagsW h / 8 % 2 = 1 := by
  unfold flagsW; rw [hd]; split <;> simp
theorem partW_open (e : En) (hd : isDir e.h.name = false) : partW e = localT (lhW e) ++ e.data ++ descT (crcT e.data) e.data.length := by
  rw [partW, descW, if_neg (by rw [hd]; simp)]
theorem cPrepare (wp cw wb bb : Nat) (l : List En) (hw : ∀ e ∈ l, WOK e) (hl : l.length ≤ 1000) (fn : Nat) (cs : List Value) (H0 : List Res)
    (h : (∃ dv ps ro hr k lv lr, Rdy cw wb bb l dv ps ro hr k lv lr ∧ H0 = [wrB wp cw dv lv false [], ro, hr, k, lr, pt fn cs 80]) ∨
      ∃ l' e fl hd fh fw rc nb cc cb dv ps ro hr k, l = l' ++ [e] ∧ Opn cw wb bb l' e e.data fl hd fh fw rc nb cc cb dv ps ro hr k ∧
        H0 = [wrB wp cw dv (.pointer (some ⟨fw, 0, none⟩)) false [], ro, hr, hdB hd fh (bodyW l').length ++ fhB fh e 20 20 fl 0 0, fwB fw hd cw rc nb cc cb false ++ crcB cb e.data, k, pt fn cs 80]) :
    Fn P G 53 #[.pointer (some ⟨wp, 0, none⟩), .pointer (some ⟨fn, 0, none⟩)] H0 fun v H => v = .nilIface ∧ ∃ dv ps ro hr k lv lr, Rdy cw wb bb l dv ps ro hr k lv lr ∧ H = [wrB wp cw dv lv false [], ro, hr, k, lr, pt fn cs 80] := by
  have hbl := bodyW_len hw
  refine fn_intro (args := [_,_]) Tryz.func53 Tryz.ntmps53 rfl ?_
  refine w_seq ?_
  refine w_region ?_
  refine o_t x_as ?_
  refine o_nil ?_
  refine w_cut (α := Value × List Value × Res × Res × Res × Value × Res) (fun x => [(0, .pointer (some ⟨wp, 0, none⟩)), (1, .pointer (some ⟨fn, 0, none⟩))]) (fun x => [wrB wp cw x.1 x.2.2.2.2.2.1 false [], x.2.2.1, x.2.2.2.1, x.2.2.2.2.1, x.2.2.2.2.2.2, pt fn cs 80])
    (fun x => Rdy cw wb bb l x.1 x.2.1 x.2.2.1 x.2.2.2.1 x.2.2.2.2.1 x.2.2.2.2.2.1 x.2.2.2.2.2.2) ?_ ?_
  · refine w_seq ?_
    rcases h with ⟨dv, ps, ro, hr, k, lv, lr, hR, rfl⟩ | ⟨l', e, fl, hd, fh, fw, rc, nb, cc, cb, dv, ps, ro, hr, k, rfl, hO, rfl⟩
    · rcases hR.last with ⟨rfl, rfl⟩ | ⟨fw, hd, rc, nb, cc, cb, rfl, rfl⟩
      · refine w_region ?_
        refine o_t x_mv ?_
        refine o_t x_nc ?_
        refine o_t (x_fa f127_2) ?_
        refine o_t (x_ld k123) ?_
        first | refine o_t (x_pnil Tryz.underlying123) ?_ | refine o_t (x_psome Tryz.underlying123) ?_
        refine o_t x_mv ?_
        first | refine o_t (x_g x_mv) ?_ | refine o_t x_gs ?_ | refine o_t x_gu ?_
        first | refine o_t (x_g x_nc) ?_ | refine o_t x_gs ?_ | refine o_t x_gu ?_
        first | refine o_t (x_g (x_fa f127_2)) ?_ | refine o_t x_gs ?_ | refine o_t x_gu ?_
        first | refine o_t (x_g (x_ld k123)) ?_ | refine o_t x_gs ?_ | refine o_t x_gu ?_
        first | refine o_t (x_g x_nc) ?_ | refine o_t x_gs ?_ | refine o_t x_gu ?_
        first | refine o_t (x_g (x_fa f149_6)) ?_ | refine o_t x_gs ?_ | refine o_t x_gu ?_
        first | refine o_t (x_g (x_ld k4)) ?_ | refine o_t x_gs ?_ | refine o_t x_gu ?_
        first | refine o_t (x_g x_not) ?_ | refine o_t x_gs ?_ | refine o_t x_gu ?_
        refine o_t x_pick ?_
        refine o_nil ?_
        refine w_cond (t := false) (fun g => rfl) (fun hc => ?_) (fun hc => ?_) -- ('Go.Operand.tmp', 20)
        · cases hc
        refine w_skip ?_
        exact ⟨(dv, ps, ro, hr, k, _, _), wka, hka, hR⟩
      · refine w_region ?_
        refine o_t x_mv ?_
        refine o_t x_nc ?_
        refine o_t (x_fa f127_2) ?_
        refine o_t (x_ld k123) ?_
        first | refine o_t (x_pnil Tryz.underlying123) ?_ | refine o_t (x_psome Tryz.underlying123) ?_
        refine o_t x_mv ?_
        first | refine o_t (x_g x_mv) ?_ | refine o_t x_gs ?_ | refine o_t x_gu ?_
        first | refine o_t (x_g x_nc) ?_ | refine o_t x_gs ?_ | refine o_t x_gu ?_
        first | refine o_t (x_g (x_fa f127_2)) ?_ | refine o_t x_gs ?_ | refine o_t x_gu ?_
        first | refine o_t (x_g (x_ld k123)) ?_ | refine o_t x_gs ?_ | refine o_t x_gu ?_
        first | refine o_t (x_g x_nc) ?_ | refine o_t x_gs ?_ | refine o_t x_gu ?_
        first | refine o_t (x_g (x_fa f149_6)) ?_ | refine o_t x_gs ?_ | refine o_t x_gu ?_
        first | refine o_t (x_g (x_ld k4)) ?_ | refine o_t x_gs ?_ | refine o_t x_gu ?_
        first | refine o_t (x_g x_not) ?_ | refine o_t x_gs ?_ | refine o_t x_gu ?_
        refine o_t x_pick ?_
        refine o_nil ?_
        refine w_cond (t := false) (fun g => rfl) (fun hc => ?_) (fun hc => ?_) -- ('Go.Operand.tmp', 20)
        · cases hc
        refine w_skip ?_
        exact ⟨(dv, ps, ro, hr, k, _, _), wka, hka, hR⟩
    · have hwe := hw e (by simp)
      have hfl := hO.flag
      have hd3 := flags_desc e.h hO.dir
      rw [← hfl] at hd3
      have hfb := flagsW_le e.h
      rw [← hfl] at hfb
      have hlen : (bodyW l' ++ localT (lhW e) ++ e.data).length + 16 = (bodyW (l' ++ [e])).length := by
        rw [bodyW_append]
        simp only [bodyW, partW_open e hO.dir, List.length_append, List.length_nil, descT_length]; omega
      have cc1 := cFwClose (G := G) fw hd fh (bodyW l').length cw rc nb cc cb wb bb (bodyW l' ++ localT (lhW e)).length e hwe.data fl (by omega) hd3 _ k hO.out (by simp only [List.length_append]) (by omega)
      refine w_weak (L' := [(0, .pointer (some ⟨wp, 0, none⟩)), (1, .pointer (some ⟨fn, 0, none⟩))]) (H' := [wrB wp cw dv (.pointer (some ⟨fw, 0, none⟩)) false [], fwB fw hd cw rc nb cc cb false, hdB hd fh (bodyW l').length, fhB fh e 20 20 fl 0 0, crcB cb e.data, k, ro ++ (hr ++ pt fn cs 80)]) wka (HWk.trans (B := [wrB wp cw dv (.pointer (some ⟨fw, 0, none⟩)) false [], fwB fw hd cw rc nb cc cb false ++ crcB cb e.data, hdB hd fh (bodyW l').length ++ fhB fh e 20 20 fl 0 0, k, ro, hr, pt fn cs 80]) hka (HWk.trans (B := [wrB wp cw dv (.pointer (some ⟨fw, 0, none⟩)) false [], fwB fw hd cw rc nb cc cb false, crcB cb e.data, hdB hd fh (bodyW l').length, fhB fh e 20 20 fl 0 0, k, ro ++ (hr ++ pt fn cs 80)]) (hflat (by simp)) hka)) ?_
      refine w_region ?_
      refine o_t x_mv ?_
      refine o_t x_nc ?_
      refine o_t (x_fa f127_2) ?_
      refine o_t (x_ld k123) ?_
      first | refine o_t (x_pnil Tryz.underlying123) ?_ | refine o_t (x_psome Tryz.underlying123) ?_
      refine o_t x_mv ?_
      first | refine o_t (x_g x_mv) ?_ | refine o_t x_gs ?_ | refine o_t x_gu ?_
      first | refine o_t (x_g x_nc) ?_ | refine o_t x_gs ?_ | refine o_t x_gu ?_
      first | refine o_t (x_g (x_fa f127_2)) ?_ | refine o_t x_gs ?_ | refine o_t x_gu ?_
      first | refine o_t (x_g (x_ld k123)) ?_ | refine o_t x_gs ?_ | refine o_t x_gu ?_
      first | refine o_t (x_g x_nc) ?_ | refine o_t x_gs ?_ | refine o_t x_gu ?_
      first | refine o_t (x_g (x_fa f149_6)) ?_ | refine o_t x_gs ?_ | refine o_t x_gu ?_
      first | refine o_t (x_g (x_ld k4)) ?_ | refine o_t x_gs ?_ | refine o_t x_gu ?_
      first | refine o_t (x_g x_not) ?_ | refine o_t x_gs ?_ | refine o_t x_gu ?_
      refine o_t x_pick ?_
      refine o_nil ?_
      refine w_cond (t := true) (fun g => rfl) (fun hc => ?_) (fun hc => ?_) -- ('Go.Operand.tmp', 20)
      case refine_2 => cases hc
      refine w_seq ?_
      refine w_region ?_
      refine o_t x_mv ?_
      refine o_t x_nc ?_
      refine o_t (x_fa f127_2) ?_
      refine o_t (x_ld k123) ?_
      refine o_call Tryz.call79 haa spla (cc1) ?_
      rintro _ _ HH ⟨rfl, k', hk', rfl⟩ hHH
      simp only [List.cons_append, List.nil_append, List.append_nil] at hHH; subst hHH
      refine o_t x_as ?_
      refine o_nil ?_
      refine w_seq ?_
      refine w_region ?_
      refine o_t x_mv ?_
      first | refine o_t (x_inil Tryz.underlying58) ?_ | refine o_t (x_isome Tryz.underlying58) ?_
      refine o_nil ?_
      refine w_cond (t := false) (fun g => rfl) (fun hc => ?_) (fun hc => ?_) -- ('Go.Operand.tmp', 27)
      · cases hc
      refine w_skip ?_
      refine ⟨(dv, ps ++ [.pointer (some ⟨hd, 0, none⟩)], ro, hr ++ (hdB hd fh (bodyW l').length ++ fhB fh e 20 20 fl (crcT e.data) e.data.length), k', .pointer (some ⟨fw, 0, none⟩), fwB fw hd cw rc nb cc cb true), wka, ?_, ?_⟩
      · exact HWk.trans (B := [wrB wp cw dv (.pointer (some ⟨fw, 0, none⟩)) false [], hdB hd fh (bodyW l').length, fhB fh e 20 20 fl (crcT e.data) e.data.length, k', fwB fw hd cw rc nb cc cb true, ro ++ (hr ++ pt fn cs 80)]) hka (HWk.trans (B := [wrB wp cw dv (.pointer (some ⟨fw, 0, none⟩)) false [], hdB hd fh (bodyW l').length ++ fhB fh e 20 20 fl (crcT e.data) e.data.length, k', fwB fw hd cw rc nb cc cb true, ro, hr, pt fn cs 80]) (hflat (by simp)) (HWk.trans (B := [wrB wp cw dv (.pointer (some ⟨fw, 0, none⟩)) false [], ro, hr, hdB hd fh (bodyW l').length ++ fhB fh e 20 20 fl (crcT e.data) e.data.length, k', fwB fw hd cw rc nb cc cb true, pt fn cs 80]) hka (hflat (by simp))))
      · refine ⟨by rw [List.length_append]; exact hO.own, hO.hds.snoc ⟨hd, fh, rfl, by rw [← hfl, Nat.zero_add]⟩, ?_, .inr ⟨fw, hd, rc, nb, cc, cb, rfl, rfl⟩⟩
        rw [bodyW_append]
        simp only [bodyW, partW_open e hO.dir, List.append_nil]
        rw [List.append_assoc, List.append_assoc] at hk'
        rw [List.append_assoc]
        exact hk'
  rintro ⟨dv, ps, ro, hr, k, lv, lr⟩ hR
  dsimp only at hR ⊢
  have hO := hR.own
  refine w_seq ?_
  refine w_seq ?_
  by_cases h0 : l = []
  · subst h0
    obtain ⟨fa, fc, rfl⟩ := hO.len
    refine w_quiet mixed (by kernel_rfl) ?_
    refine q_t x_mv ?_
    refine q_t x_nc ?_
    refine q_t (x_fa f127_1) ?_
    refine q_t (x_ld k122) ?_
    refine q_t (x_lenb Tryz.underlying122) ?_
    refine q_t x_cmp ?_
    refine q_t x_mv ?_
    first | refine q_t (x_g x_mv) ?_ | refine q_t x_gs ?_ | refine q_t x_gu ?_
    first | refine q_t (x_g x_nc) ?_ | refine q_t x_gs ?_ | refine q_t x_gu ?_
    first | refine q_t (x_g (x_fa f127_1)) ?_ | refine q_t x_gs ?_ | refine q_t x_gu ?_
    first | refine q_t (x_g (x_ld k122)) ?_ | refine q_t x_gs ?_ | refine q_t x_gu ?_
    first | refine q_t (x_g x_mv) ?_ | refine q_t x_gs ?_ | refine q_t x_gu ?_
    first | refine q_t (x_g x_nc) ?_ | refine q_t x_gs ?_ | refine q_t x_gu ?_
    first | refine q_t (x_g (x_fa f127_1)) ?_ | refine q_t x_gs ?_ | refine q_t x_gu ?_
    first | refine q_t (x_g (x_ld k122)) ?_ | refine q_t x_gs ?_ | refine q_t x_gu ?_
    first | refine q_t (x_g (x_lenb Tryz.underlying122)) ?_ | refine q_t x_gs ?_ | refine q_t x_gu ?_
    first | refine q_t (x_g x_sub) ?_ | refine q_t x_gs ?_ | refine q_t x_gu ?_
    first | refine q_t (x_g (x_ia Tryz.underlying122 e122)) ?_ | refine q_t x_gs ?_ | refine q_t x_gu ?_
    first | refine q_t (x_g (x_ld k137)) ?_ | refine q_t x_gs ?_ | refine q_t x_gu ?_
    first | refine q_t (x_g x_nc) ?_ | refine q_t x_gs ?_ | refine q_t x_gu ?_
    first | refine q_t (x_g (x_fa f139_0)) ?_ | refine q_t x_gs ?_ | refine q_t x_gu ?_
    first | refine q_t (x_g (x_ld k71)) ?_ | refine q_t x_gs ?_ | refine q_t x_gu ?_
    first | refine q_t (x_g x_mv) ?_ | refine q_t x_gs ?_ | refine q_t x_gu ?_
    first | refine q_t x_gs ?_ | refine q_t x_gu ?_
    refine q_t x_pick ?_
    refine q_nil ?_
    refine w_cond (t := false) (fun g => rfl) (fun hc => ?_) (fun hc => ?_) -- ('Go.Operand.tmp', 53)
    · cases hc
    refine w_skip ?_
    refine w_seq ?_
    refine w_region ?_
    refine o_t x_as ?_
    refine o_nil ?_
    refine w_ret (r_1 rfl ⟨rfl, _, ps, ro, hr, k, lv, lr, hR, rfl⟩)
  · have hpos : 0 < l.length := List.length_pos_iff.2 h0
    have he := List.getElem?_eq_getElem (l := l) (i := l.length - 1) (by omega)
    obtain ⟨p, a, pre, post, hp, ⟨hd, fh, rfl, rfl⟩, rfl⟩ := hR.hds.get he
    obtain ⟨bo, oo, co, rfl, hco, hrd⟩ := hO.arr.some (by omega)
    refine w_weak (L' := [(0, .pointer (some ⟨wp, 0, none⟩)), (1, .pointer (some ⟨fn, 0, none⟩))]) (H' := [wrB wp cw (.slice (some ⟨bo, oo, none⟩) l.length co) lv false [], ro, pt fn cs 80, hdB hd fh (0 + (bodyW (l.take (l.length - 1))).length), fhB fh l[l.length - 1] 20 20 (flagsW l[l.length - 1].h) (crcT l[l.length - 1].data) l[l.length - 1].data.length, pre, post ++ (k ++ lr)]) wka (HWk.trans (B := [wrB wp cw (.slice (some ⟨bo, oo, none⟩) l.length co) lv false [], ro, pt fn cs 80, pre ++ (hdB hd fh (0 + (bodyW (l.take (l.length - 1))).length) ++ fhB fh l[l.length - 1] 20 20 (flagsW l[l.length - 1].h) (crcT l[l.length - 1].data) l[l.length - 1].data.length ++ post), k, lr]) hka (HWk.trans (B := [wrB wp cw (.slice (some ⟨bo, oo, none⟩) l.length co) lv false [], ro, pt fn cs 80, pre, hdB hd fh (0 + (bodyW (l.take (l.length - 1))).length), fhB fh l[l.length - 1] 20 20 (flagsW l[l.length - 1].h) (crcT l[l.length - 1].data) l[l.length - 1].data.length, post ++ (k ++ lr)]) (hflat (by simp)) hka)) ?_
    refine w_quiet mixed (by kernel_rfl) ?_
    refine q_t x_mv ?_
    refine q_t x_nc ?_
    refine q_t (x_fa f127_1) ?_
    refine q_t (x_ld k122) ?_
    refine q_t (x_lenb Tryz.underlying122) ?_
    refine q_t x_cmp ?_
    refine q_t x_mv ?_
    first | refine q_t (x_g x_mv) ?_ | refine q_t x_gs ?_ | refine q_t x_gu ?_
    first | refine q_t (x_g x_nc) ?_ | refine q_t x_gs ?_ | refine q_t x_gu ?_
    first | refine q_t (x_g (x_fa f127_1)) ?_ | refine q_t x_gs ?_ | refine q_t x_gu ?_
    first | refine q_t (x_g (x_ld k122)) ?_ | refine q_t x_gs ?_ | refine q_t x_gu ?_
    first | refine q_t (x_g x_mv) ?_ | refine q_t x_gs ?_ | refine q_t x_gu ?_
    first | refine q_t (x_g x_nc) ?_ | refine q_t x_gs ?_ | refine q_t x_gu ?_
    first | refine q_t (x_g (x_fa f127_1)) ?_ | refine q_t x_gs ?_ | refine q_t x_gu ?_
    first | refine q_t (x_g (x_ld k122)) ?_ | refine q_t x_gs ?_ | refine q_t x_gu ?_
    first | refine q_t (x_g (x_lenb Tryz.underlying122)) ?_ | refine q_t x_gs ?_ | refine q_t x_gu ?_
    first | refine q_t (x_g x_sub) ?_ | refine q_t x_gs ?_ | refine q_t x_gu ?_
    first | refine q_t (x_g (x_ia (m := oo + (l.length - 1)) Tryz.underlying122 e122 (hm := by omega))) ?_ | refine q_t x_gs ?_ | refine q_t x_gu ?_
    first | refine q_t (x_g (x_ldR k137 (hrd.pull (pulla)) hp)) ?_ | refine q_t x_gs ?_ | refine q_t x_gu ?_
    first | refine q_t (x_g x_nc) ?_ | refine q_t x_gs ?_ | refine q_t x_gu ?_
    first | refine q_t (x_g (x_fa f139_0)) ?_ | refine q_t x_gs ?_ | refine q_t x_gu ?_
    first | refine q_t (x_g (x_ld k71)) ?_ | refine q_t x_gs ?_ | refine q_t x_gu ?_
    first | refine q_t (x_g x_mv) ?_ | refine q_t x_gs ?_ | refine q_t x_gu ?_
    first | refine q_t (x_g (x_pne (b1 := fh) (b2 := fn) Tryz.underlying71 s80 (pulla) (pulla))) ?_ | refine q_t x_gs ?_ | refine q_t x_gu ?_
    refine q_t x_pick ?_
    refine q_nil ?_
    refine w_cond (t := false) (fun g => rfl) (fun hc => ?_) (fun hc => ?_) -- ('Go.Operand.tmp', 53)
    · cases hc
    refine w_skip ?_
    refine w_seq ?_
    refine w_region ?_
    refine o_t x_as ?_
    refine o_nil ?_
    refine w_ret (r_1 rfl ⟨rfl, _, ps, ro, _, k, lv, lr, hR, rfl⟩ (hH := ?_))
    exact HWk.trans (B := [wrB wp cw (.slice (some ⟨bo, oo, none⟩) l.length co) lv false [], ro, pre, hdB hd fh (0 + (bodyW (l.take (l.length - 1))).length), fhB fh l[l.length - 1] 20 20 (flagsW l[l.length - 1].h) (crcT l[l.length - 1].data) l[l.length - 1].data.length, post ++ (k ++ lr), pt fn cs 80]) hka (hflat (by simp))
end Go.Proofs.YtlmefkhglooepaaGreatDoor
namespace Go.Proofs.YtlmefkhglooepaaGreatDoor
open Go
set_option linter.unusedSimpArgs false
set_option linter.unusedVariables false
variable {G : Nat → Option Obj} {ea : Nat → Addr}
/-- The writer between two entries. -/
def Wst (wp cw wb bb : Nat) (l : List En) (r : Res) : Prop :=
  (∃ dv ps ro hr k lv lr, Rdy cw wb bb l dv ps ro hr k lv lr ∧ r = wrB wp cw dv lv false [] ++ (ro ++ (hr ++ (k ++ lr)))) ∨
  (∃ l' e fl hd fh fw rc nb cc cb dv ps ro hr k, l = l' ++ [e] ∧ Opn cw wb bb l' e e.data fl hd fh fw rc nb cc cb dv ps ro hr k ∧
    r = wrB wp cw dv (.pointer (some ⟨fw, 0, none⟩)) false [] ++ (ro ++ (hr ++ ((hdB hd fh (bodyW l').length ++ fhB fh e 20 20 fl 0 0) ++ ((fwB fw hd cw rc nb cc cb false ++ crcB cb e.data) ++ k)))))
theorem cPrepare2 (wp cw wb bb : Nat) (l : List En) (hw : ∀ e ∈ l, WOK e) (hl : l.length ≤ 1000) (fn : Nat) (cs : List Value) (r : Res) (h : Wst wp cw wb bb l r) :
    Fn P G 53 #[.pointer (some ⟨wp, 0, none⟩), .pointer (some ⟨fn, 0, none⟩)] [r, pt fn cs 80] fun v H => v = .nilIface ∧ ∃ dv ps ro hr k lv lr, Rdy cw wb bb l dv ps ro hr k lv lr ∧ H = [wrB wp cw dv lv false [], ro, hr, k, lr, pt fn cs 80] := by
  rcases h with ⟨dv, ps, ro, hr, k, lv, lr, hR, rfl⟩ | ⟨l', e, fl, hd, fh, fw, rc, nb, cc, cb, dv, ps, ro, hr, k, rfl, hO, rfl⟩
  · exact (cPrepare (G := G) wp cw wb bb l hw hl fn cs _ (.inl ⟨dv, ps, ro, hr, k, lv, lr, hR, rfl⟩)).conv (hflat (by simp)) fun v H h => ⟨H, HWk.refl _, h⟩
  · exact (cPrepare (G := G) wp cw wb bb (l' ++ [e]) hw hl fn cs _ (.inr ⟨l', e, fl, hd, fh, fw, rc, nb, cc, cb, dv, ps, ro, hr, k, rfl, hO, rfl⟩)).conv (hflat (by simp)) fun v H h => ⟨H, HWk.refl _, h⟩
theorem lk124 (w : World) : (Instr.lookup 124 (.map none) (.int .u16 0) false).run P w = .ok .nilFunc w := by kernel_rfl
theorem cComp (wp cw : Nat) (dv lv : Value) : Fn P G 62 #[.pointer (some ⟨wp, 0, none⟩), .int .u16 0] [wrB wp cw dv lv false []] fun v H => v = .func (.func 126) #[] #[] ∧ H = [wrB wp cw dv lv false []] := by
  have h92 : Fn P G 92 #[.int .u16 0] [] fun v H => v = .func (.func 126) #[] #[] ∧ H = [] := by
    refine fn_intro (args := [_]) Tryz.func92 Tryz.ntmps92 rfl ?_
    refine w_seq ?_
    refine w_region ?_
    refine o_t x_as ?_
    refine o_nil ?_
    refine w_seq ?_
    refine w_seq ?_
    refine w_region ?_
    refine o_t x_mv ?_
    refine o_t x_cmp ?_
    refine o_nil ?_
    refine w_cond (t := true) (fun g => rfl) (fun hc => ?_) (fun hc => ?_) -- ('Go.Operand.tmp', 4)
    · --
      refine w_seq ?_
      refine w_region ?_
      refine o_t x_as ?_
      refine o_nil ?_
      refine w_ret (r_1 rfl ⟨rfl, rfl⟩)
    · cases hc
  refine fn_intro (args := [_,_]) Tryz.func62 Tryz.ntmps62 rfl ?_
  refine w_seq ?_
  refine w_region ?_
  refine o_t x_as ?_
  refine o_nil ?_
  refine w_seq ?_
  refine w_region ?_
  refine o_t x_mv ?_
  refine o_t x_nc ?_
  refine o_t (x_fa f127_4) ?_
  refine o_t (x_ld k124) ?_
  refine o_t x_mv ?_
  refine o_t (x_lk lk124) ?_
  refine o_t x_as ?_
  refine o_nil ?_
  refine w_seq ?_
  refine w_seq ?_
  refine w_region ?_
  refine o_t x_mv ?_
  refine o_t (x_fnil Tryz.underlying151) ?_
  refine o_nil ?_
  refine w_cond (t := true) (fun g => rfl) (fun hc => ?_) (fun hc => ?_) -- ('Go.Operand.tmp', 13)
  · --
    refine w_region ?_
    refine o_t x_mv ?_
    refine o_call Tryz.call92 haa spla (h92) ?_
    rintro _ _ HH ⟨rfl, rfl⟩ hHH
    simp only [List.cons_append, List.nil_append, List.append_nil] at hHH; subst hHH
    refine o_t x_as ?_
    refine o_nil ?_
    refine w_seq ?_
    refine w_region ?_
    refine o_t x_mv ?_
    refine o_t x_as ?_
    refine o_nil ?_
    refine w_ret (r_1 rfl ⟨rfl, rfl⟩)
  · cases hc
theorem cNopW (cc : Nat) : Fn P G 126 #[.iface 117 (.pointer (some ⟨cc, 0, none⟩))] [] fun v H => ∃ nb, v = .tuple #[.iface 247 (.pointer (some ⟨nb, 0, none⟩)), .nilIface] ∧ H = [pt nb [.iface 117 (.pointer (some ⟨cc, 0, none⟩))] 249] := by
  refine fn_intro (args := [_]) Tryz.func126 Tryz.ntmps126 rfl ?_
  refine w_seq ?_
  refine w_region ?_
  refine o_t x_as ?_
  refine o_t x_as ?_
  refine o_nil ?_
  refine w_seq ?_
  refine w_region ?_
  refine o_t x_mv ?_
  refine o_t (x_bd hla bd249_0) ?_
  refine o_bx (fun b6 => ?_)
  refine o_t x_p ?_
  refine o_t x_as ?_
  refine o_t x_as ?_
  refine o_nil ?_
  refine w_ret (r_2 rfl ⟨_, rfl, rfl⟩)
end Go.Proofs.YtlmefkhglooepaaGreatDoor
namespace Go.Proofs.YtlmefkhglooepaaGreatDoor
open Go
set_option linter.unusedSimpArgs false
set_option linter.unusedVariables false
variable {G : Nat → Option Obj} {ea : Nat → Addr}
theorem x_bitZ {P : Program} {n : Nat} {ops : Array Oper} {L : Loc} {H : List Res} {d : Nat} {x y : Operand} {ty t t' : TypeId} {p : String} {ed : Array Edge} {k : IntKind} {a b z : Int} {op : BinOp} (ho : isBits op = true) (hz : bitsW op k a b = z) (hx : ∀ g, evl L g x = .int k a := by intro g; rfl) (hy : ∀ g, evl L g y = .int k b := by intro g; rfl) (hn : d < n := by decide) :
    Ex P n G ops L H ⟨some d, .binOp op t x y t', ty, p, ed, none⟩ d (.int k z) := by
  subst hz
  exact y_bits hx hy ho hn
def flg0 (h : Hd) : Nat := if h.non = false ∧ reqW h = true then 2048 else 0
theorem flg0_or (h : Hd) : flg0 h ||| 8 = flg0 h + 8 := by unfold flg0; split <;> rfl
theorem flg0_le (h : Hd) : flg0 h = 2048 ∨ flg0 h = 0 := by unfold flg0; split <;> simp
/-- After the header is made: a folder or a file. -/
def Made1 (hd cw : Nat) (e : En) (x : Value × Value × Res) : Prop :=
  (isDir e.h.name = true ∧ x = (.iface 142 (.agg #[]), .pointer none, [])) ∨
  (isDir e.h.name = false ∧ ∃ fw rc nb cc cb, x = (.iface 123 (.pointer (some ⟨fw, 0, none⟩)), .pointer (some ⟨fw, 0, none⟩),
    fwB fw hd cw rc nb cc cb false ++ (crcB cb [] ++ (cwB rc 247 (.pointer (some ⟨nb, 0, none⟩)) 0 ++ (pt nb [.iface 117 (.pointer (some ⟨cc, 0, none⟩))] 249 ++ cwB cc 117 (.pointer (some ⟨cw, 0, none⟩)) 0)))))
theorem cCreate (wp cw wb bb : Nat) (gl : Glob G ea) (l : List En) (hw : ∀ e ∈ l, WOK e) (e : En) (hwe : WOK e) (hl : l.length < 1000) (fh : Nat) (r : Res) (h : Wst wp cw wb bb l r) :
    Fn P G 33 #[.pointer (some ⟨wp, 0, none⟩), .pointer (some ⟨fh, 0, none⟩)] [r, fhB fh e 0 0 0 0 0] fun v H =>
      (isDir e.h.name = true ∧ v = .tuple #[.iface 142 (.agg #[]), .nilIface] ∧ ∃ r', Wst wp cw wb bb (l ++ [e]) r' ∧ H = [r']) ∨
      (isDir e.h.name = false ∧ ∃ fl hd fw rc nb cc cb dv ps ro hr k, v = .tuple #[.iface 123 (.pointer (some ⟨fw, 0, none⟩)), .nilIface] ∧ Opn cw wb bb l e [] fl hd fh fw rc nb cc cb dv ps ro hr k ∧
        H = [wrB wp cw dv (.pointer (some ⟨fw, 0, none⟩)) false [], ro, hr, hdB hd fh (bodyW l).length, fhB fh e 20 20 fl 0 0, fwB fw hd cw rc nb cc cb false, crcB cb [], k]) := by
  have hbl := bodyW_len hw
  have hn1 := hwe.name
  have hn2 := hwe.comment
  have cp := cPrepare2 (G := G) wp cw wb bb l hw (by omega) fh [.string (str e.h.name), .string (str e.h.comment), .bool e.h.non, .int .u16 (0 : Nat), .int .u16 (0 : Nat), .int .u16 (0 : Nat), .int .u16 0, .int .u64 0, .int .i64 0, .pointer none, .int .u16 0, .int .u16 0, .int .u32 (0 : Nat), .int .u32 (0 : Nat), .int .u32 (0 : Nat), .int .u64 (0 : Nat), .int .u64 (0 : Nat), .slice none 0 0, .int .u32 e.h.ext] r h
  have hf0 := flg0_le e.h
  have hc0 : crcT [] = 0 := rfl
  have hr1 : reqW e.h = ((validT e.h.name).1 && (validT e.h.comment).1 && ((validT e.h.name).2 || (validT e.h.comment).2)) := rfl
  have cd1 := cDetect (G := G) gl e.h.name (by omega)
  have cd2 := cDetect (G := G) gl e.h.comment (by omega)
  rcases hv1 : validT e.h.name with ⟨q1, q2⟩
  rcases hv2 : validT e.h.comment with ⟨q3, q4⟩
  rw [hv1] at cd1 hr1
  rw [hv2] at cd2 hr1
  dsimp only at cd1 cd2 hr1
  have hfd : flg0 e.h = if e.h.non = false ∧ reqW e.h = true then 2048 else 0 := rfl
  obtain ⟨f0, hf⟩ : ∃ f0, flg0 e.h = f0 := ⟨_, rfl⟩
  rw [hf] at hf0 hfd
  have hfw : flagsW e.h = f0 + (if isDir e.h.name = true then 0 else 8) := by rw [← hf]; rfl
  have hor := flg0_or e.h
  rw [hf] at hor
  refine fn_intro (args := [_,_]) Tryz.func33 Tryz.ntmps33 rfl ?_
  refine w_seq ?_
  refine w_region ?_
  refine o_t x_as ?_
  refine o_t x_as ?_
  refine o_nil ?_
  refine w_seq ?_
  refine w_seq ?_
  refine w_region ?_
  refine o_t x_mv ?_
  refine o_t x_mv ?_
  refine o_call Tryz.call53 haa spla (cp) ?_
  rintro _ _ HH ⟨rfl, dv, ps, ro, hr, k, lv, lr, hR, rfl⟩ hHH
  simp only [List.cons_append, List.nil_append, List.append_nil] at hHH; subst hHH
  refine o_t x_as ?_
  refine o_nil ?_
  refine w_seq ?_
  refine w_region ?_
  refine o_t x_mv ?_
  first | refine o_t (x_inil Tryz.underlying58) ?_ | refine o_t (x_isome Tryz.underlying58) ?_
  refine o_nil ?_
  refine w_cond (t := false) (fun g => rfl) (fun hc => ?_) (fun hc => ?_) -- ('Go.Operand.tmp', 24)
  · cases hc
  refine w_skip ?_
  have hO := hR.own
  refine w_seq ?_
  refine w_region ?_
  refine o_t x_mv ?_
  refine o_t x_nc ?_
  refine o_t (x_fa f80_0) ?_
  refine o_t (x_ld k9) ?_
  refine o_call Tryz.call54 haa spla (cd1) ?_
  rintro _ _ HH ⟨rfl, rfl⟩ hHH
  simp only [List.cons_append, List.nil_append, List.append_nil] at hHH; subst hHH
  refine o_t x_mv ?_
  refine o_t x_ex ?_
  refine o_t x_ex ?_
  refine o_t x_as ?_
  refine o_t x_as ?_
  refine o_nil ?_
  refine w_seq ?_
  refine w_region ?_
  refine o_t x_mv ?_
  refine o_t x_nc ?_
  refine o_t (x_fa f80_1) ?_
  refine o_t (x_ld k9) ?_
  refine o_call Tryz.call54 haa spla (cd2) ?_
  rintro _ _ HH ⟨rfl, rfl⟩ hHH
  simp only [List.cons_append, List.nil_append, List.append_nil] at hHH; subst hHH
  refine o_t x_mv ?_
  refine o_t x_ex ?_
  refine o_t x_ex ?_
  refine o_t x_as ?_
  refine o_t x_as ?_
  refine o_nil ?_
  refine w_cut (α := Unit) (fun x => [(0, .pointer (some ⟨wp, 0, none⟩)), (1, .pointer (some ⟨fh, 0, none⟩))]) (fun x => [wrB wp cw dv lv false [], ro, hr, k, lr, fhB fh e 0 0 f0 0 0]) (fun x => True) ?_ ?_
  · refine w_block ?_ -- 0
    refine w_seq ?_
    refine w_region ?_
    refine o_t x_mv ?_
    refine o_t x_nc ?_
    refine o_t (x_fa f80_2) ?_
    refine o_t (x_ld k4) ?_
    refine o_t x_as ?_
    refine o_nil ?_
    cases hnon : e.h.non with
    | true =>
      refine w_cond (t := true) (fun g => by simp only [evl, val, Nat.reduceEqDiff, ↓reduceIte]) (fun hc => ?_) (fun hc => ?_) -- ('Go.Operand.tmp', 42)
      case refine_2 => cases hc
      have h0 : f0 = 0 := by rw [hfd, hnon]; simp
      subst h0
      refine w_region ?_
      refine o_t x_mv ?_
      refine o_t x_nc ?_
      refine o_t (x_fa f80_5) ?_
      refine o_t (x_ld k72) ?_
      refine o_t (x_bitZ (k := .u16) (z := 0) (a := 0) (b := 2048) rfl (by decide)) ?_
      refine o_t x_nc ?_
      refine o_t (x_fa f80_5) ?_
      refine o_st k72 ?_
      refine o_nil ?_
      exact ⟨(), wka, by simp only [fhB, hnon]; exact hka, trivial⟩
    | false =>
      refine w_cond (t := false) (fun g => by simp only [evl, val, Nat.reduceEqDiff, ↓reduceIte]) (fun hc => ?_) (fun hc => ?_) -- ('Go.Operand.tmp', 42)
      · cases hc
      refine w_cut (α := Unit) (fun x => [(0, .pointer (some ⟨wp, 0, none⟩)), (1, .pointer (some ⟨fh, 0, none⟩)), (54, .bool ((q2 || q4) && (q1 && q3)))]) (fun x => [wrB wp cw dv lv false [], ro, hr, k, lr, fhB fh e 0 0 0 0 0]) (fun x => True) ?_ ?_
      · cases q1 <;> cases q2 <;> cases q3 <;> cases q4
        all_goals
          refine w_region ?_
          refine o_t x_mv ?_
          refine o_t x_mv ?_
          first | refine o_t (x_g x_mv) ?_ | refine o_t x_gs ?_ | refine o_t x_gu ?_
          refine o_t x_pick ?_
          refine o_t x_mv ?_
          first | refine o_t (x_g x_mv) ?_ | refine o_t x_gs ?_ | refine o_t x_gu ?_
          first | refine o_t (x_g x_mv) ?_ | refine o_t x_gs ?_ | refine o_t x_gu ?_
          first | refine o_t (x_g x_mv) ?_ | refine o_t x_gs ?_ | refine o_t x_gu ?_
          first | refine o_t (x_g x_pick) ?_ | refine o_t x_gs ?_ | refine o_t x_gu ?_
          refine o_t x_pick ?_
          refine o_t x_as ?_
          refine o_nil ?_
          exact ⟨(), wka, by simp only [fhB, hnon]; exact hka, trivial⟩
      rintro ⟨⟩ -
      have hcc : ((q2 || q4) && (q1 && q3)) = reqW e.h := by rw [hr1]; cases q1 <;> cases q2 <;> cases q3 <;> cases q4 <;> rfl
      rw [hcc]
      cases hq : reqW e.h with
      | true =>
        have h0 : f0 = 2048 := by rw [hfd, hnon, hq]; simp
        subst h0
        refine w_cond (t := true) (fun g => rfl) (fun hc => ?_) (fun hc => ?_) -- ('Go.Operand.tmp', 54)
        case refine_2 => cases hc
        refine w_region ?_
        refine o_t x_mv ?_
        refine o_t x_nc ?_
        refine o_t (x_fa f80_5) ?_
        refine o_t (x_ld k72) ?_
        refine o_t (x_bitZ (k := .u16) (z := 2048) (a := 0) (b := 2048) rfl (by decide)) ?_
        refine o_t x_nc ?_
        refine o_t (x_fa f80_5) ?_
        refine o_st k72 ?_
        refine o_nil ?_
        exact ⟨(), wka, hka, trivial⟩
      | false =>
        have h0 : f0 = 0 := by rw [hfd, hnon, hq]; simp
        subst h0
        refine w_cond (t := false) (fun g => rfl) (fun hc => ?_) (fun hc => ?_) -- ('Go.Operand.tmp', 54)
        · cases hc
        refine w_skip ?_
        exact ⟨(), wka, hka, trivial⟩
  rintro ⟨⟩ -
  have hz1 : bitsW .andNot .u16 (f0 : Int) 8 = f0 := by rcases hf0 with h | h <;> rw [h] <;> decide
  have hz2 : bitsW .or .u16 (f0 : Int) 8 = ((f0 + 8 : Nat) : Int) := by rcases hf0 with h | h <;> rw [h] <;> decide
  obtain ⟨n, k0, hn, hS, rfl⟩ := id hR.out
  obtain rfl : n = (bodyW l).length := by omega
  refine w_seq ?_
  refine w_region ?_
  refine o_t x_mv ?_
  refine o_t x_mv ?_
  refine o_t x_nc ?_
  refine o_t (x_fa f80_3) ?_
  refine o_t (x_ld k72) ?_
  refine o_t (x_bitZ (k := .u16) (z := 0) (a := 0) (b := 65280) rfl (by decide)) ?_
  refine o_t (x_bitZ (k := .u16) (z := 20) (a := 0) (b := 20) rfl (by decide)) ?_
  refine o_t x_nc ?_
  refine o_t (x_fa f80_3) ?_
  refine o_st k72 ?_
  refine o_nil ?_
  refine w_seq ?_
  refine w_region ?_
  refine o_t x_mv ?_
  refine o_t x_nc ?_
  refine o_t (x_fa f80_4) ?_
  refine o_st k72 ?_
  refine o_nil ?_
  refine w_seq ?_
  refine w_seq ?_
  refine w_region ?_
  refine o_t x_mv ?_
  refine o_t x_nc ?_
  refine o_t (x_fa f80_7) ?_
  refine o_t (x_lda g76) ?_
  refine o_call Tryz.call55 haa spla (cIsZero 0 0 (.pointer none) rfl) ?_
  rintro _ _ HH ⟨rfl, rfl⟩ hHH
  simp only [List.cons_append, List.nil_append, List.append_nil] at hHH; subst hHH
  refine o_t x_not ?_
  refine o_nil ?_
  refine w_cond (t := false) (fun g => rfl) (fun hc => ?_) (fun hc => ?_) -- ('Go.Operand.tmp', 89)
  · cases hc
  refine w_skip ?_
  refine w_seq ?_
  refine w_region ?_
  refine o_t x_as ?_
  refine o_nil ?_
  refine w_seq ?_
  refine w_region ?_
  refine o_t x_as ?_
  refine o_nil ?_
  refine w_weak (L' := [(0, .pointer (some ⟨wp, 0, none⟩)), (1, .pointer (some ⟨fh, 0, none⟩)), (14, .nilIface), (15, .pointer none)]) (H' := [wrB wp cw dv lv false [], fhB fh e 20 20 f0 0 0, cwB cw 118 (.pointer (some ⟨wb, 0, none⟩)) (bodyW l).length, k0, ro ++ (hr ++ lr)]) wka (HWk.trans (B := [fhB fh e 20 20 f0 0 0, wrB wp cw dv lv false [], ro, hr, cwB cw 118 (.pointer (some ⟨wb, 0, none⟩)) (bodyW l).length ++ k0, lr]) hka (HWk.trans (B := [fhB fh e 20 20 f0 0 0, wrB wp cw dv lv false [], ro, hr, cwB cw 118 (.pointer (some ⟨wb, 0, none⟩)) (bodyW l).length, k0, lr]) (hflat (by simp)) (HWk.trans (B := [wrB wp cw dv lv false [], fhB fh e 20 20 f0 0 0, cwB cw 118 (.pointer (some ⟨wb, 0, none⟩)) (bodyW l).length, k0, ro, hr, lr]) hka (hflat (by simp))))) ?_
  refine w_seq ?_
  refine w_region ?_
  refine o_t x_mv ?_
  refine o_t x_mv ?_
  refine o_t x_nc ?_
  refine o_t (x_fa f127_0) ?_
  refine o_t (x_ld k117) ?_
  refine o_t x_nc ?_
  refine o_t (x_fa f121_1) ?_
  refine o_t (x_ld k2) ?_
  refine o_t (x_cv ⟨_, Tryz.underlying2⟩ Tryz.underlying73) ?_
  refine o_t (x_bd hla bd139_0_1) ?_
  refine o_bx (fun b135 => ?_)
  refine o_t x_as ?_
  refine o_nil ?_
  refine w_cut (α := Value × Value × Res) (fun x => [(0, .pointer (some ⟨wp, 0, none⟩)), (14, x.1), (15, x.2.1), (16, .pointer (some ⟨b135, 0, none⟩))]) (fun x => [wrB wp cw dv lv false [], hdB b135 fh (bodyW l).length, fhB fh e 20 20 (flagsW e.h) 0 0, cwB cw 118 (.pointer (some ⟨wb, 0, none⟩)) (bodyW l).length, k0, ro ++ (hr ++ lr), x.2.2]) (Made1 b135 cw e) ?_ ?_
  · refine w_seq ?_
    refine w_region ?_
    refine o_t x_mv ?_
    refine o_t x_nc ?_
    refine o_t (x_fa f80_0) ?_
    refine o_t (x_ld k9) ?_
    refine o_call Tryz.call61 haa spla (cSuffix e.h.name (by omega)) ?_
    rintro _ _ HH ⟨rfl, rfl⟩ hHH
    simp only [List.cons_append, List.nil_append, List.append_nil] at hHH; subst hHH
    refine o_nil ?_
    cases hdir : isDir e.h.name with
    | true =>
      have hfd0 : flagsW e.h = f0 := by rw [hfw, hdir]; rfl
      refine w_cond (t := true) (fun g => rfl) (fun hc => ?_) (fun hc => ?_) -- ('Go.Operand.tmp', 140)
      case refine_2 => cases hc
      refine w_seq ?_
      refine w_region ?_
      refine o_t x_mv ?_
      refine o_t x_nc ?_
      refine o_t (x_fa f80_6) ?_
      refine o_st k72 ?_
      refine o_nil ?_
      refine w_seq ?_
      refine w_region ?_
      refine o_t x_mv ?_
      refine o_t x_nc ?_
      refine o_t (x_fa f80_5) ?_
      refine o_t (x_ld k72) ?_
      refine o_t (x_bitZ (k := .u16) (z := f0) (a := f0) (b := 8) rfl hz1) ?_
      refine o_t x_nc ?_
      refine o_t (x_fa f80_5) ?_
      refine o_st k72 ?_
      refine o_nil ?_
      refine w_seq ?_
      refine w_region ?_
      refine o_t x_mv ?_
      refine o_t x_nc ?_
      refine o_t (x_fa f80_11) ?_
      refine o_st k77 ?_
      refine o_nil ?_
      refine w_seq ?_
      refine w_region ?_
      refine o_t x_mv ?_
      refine o_t x_nc ?_
      refine o_t (x_fa f80_13) ?_
      refine o_st k73 ?_
      refine o_nil ?_
      refine w_seq ?_
      refine w_region ?_
      refine o_t x_mv ?_
      refine o_t x_nc ?_
      refine o_t (x_fa f80_12) ?_
      refine o_st k77 ?_
      refine o_nil ?_
      refine w_seq ?_
      refine w_region ?_
      refine o_t x_mv ?_
      refine o_t x_nc ?_
      refine o_t (x_fa f80_14) ?_
      refine o_st k73 ?_
      refine o_nil ?_
      refine w_region ?_
      refine o_t (x_bd hla bd142) ?_
      refine o_t x_p ?_
      refine o_t x_as ?_
      refine o_nil ?_
      refine ⟨(.iface 142 (.agg #[]), .pointer none, []), wka, ?_, .inl ⟨hdir, rfl⟩⟩
      rw [hfd0]
      exact HWk.trans (B := [wrB wp cw dv lv false [], hdB b135 fh (bodyW l).length, fhB fh e 20 20 f0 0 0, cwB cw 118 (.pointer (some ⟨wb, 0, none⟩)) (bodyW l).length, k0, ro ++ (hr ++ lr)]) hka (hflat (by simp))
    | false =>
      have hfd0 : flagsW e.h = f0 + 8 := by rw [hfw, hdir]; rfl
      refine w_cond (t := false) (fun g => rfl) (fun hc => ?_) (fun hc => ?_) -- ('Go.Operand.tmp', 140)
      · cases hc
      refine w_seq ?_
      refine w_region ?_
      refine o_t x_mv ?_
      refine o_t x_nc ?_
      refine o_t (x_fa f80_5) ?_
      refine o_t (x_ld k72) ?_
      refine o_t (x_bitZ (k := .u16) (z := (f0 + 8 : Nat)) (a := f0) (b := 8) rfl hz2) ?_
      refine o_t x_nc ?_
      refine o_t (x_fa f80_5) ?_
      refine o_st k72 ?_
      refine o_nil ?_
      refine w_weak (L' := [(0, .pointer (some ⟨wp, 0, none⟩)), (1, .pointer (some ⟨fh, 0, none⟩)), (16, .pointer (some ⟨b135, 0, none⟩))]) (H' := [wrB wp cw dv lv false [], hdB b135 fh (bodyW l).length, fhB fh e 20 20 (f0 + 8) 0 0, cwB cw 118 (.pointer (some ⟨wb, 0, none⟩)) (bodyW l).length, k0, ro ++ (hr ++ lr)]) wka hka ?_
      refine w_seq ?_
      refine w_draw mixed ?_
      refine a_seg (k := 13) _ [(1, 0), (1, 1), (1, 2), (1, 3), (1, 4), (1, 5), (1, 6), (1, 7), (1, 8), (1, 9), (1, 10), (2, 11), (3, 12)] (by kernel_rfl) (HWk.refl _) ?_
      refine h_t rfl x_mv ?_
      refine h_t rfl x_nc ?_
      refine h_t rfl (x_fa f127_0) ?_
      refine h_t rfl (x_ld k117) ?_
      refine h_t rfl x_p ?_
      refine h_t rfl x_mv ?_
      refine h_t rfl x_nc ?_
      refine h_t rfl (x_fa f127_0) ?_
      refine h_t rfl (x_ld k117) ?_
      refine h_t rfl x_p ?_
      refine h_t rfl (x_bd hla bd121_0) ?_
      refine h_two (α := Nat × Nat) (fun x => [(0, .pointer (some ⟨wp, 0, none⟩)), (1, .pointer (some ⟨fh, 0, none⟩)), (16, .pointer (some ⟨b135, 0, none⟩)), (176, .iface 117 (.pointer (some ⟨cw, 0, none⟩))), (183, .pointer (some ⟨x.1, 0, none⟩)), (184, .pointer (some ⟨x.2, 0, none⟩))]) (fun x => [cwB x.1 117 (.pointer (some ⟨cw, 0, none⟩)) 0, pt x.2 [.int .u32 0] 145, wrB wp cw dv lv false [], hdB b135 fh (bodyW l).length, fhB fh e 20 20 (f0 + 8) 0 0, cwB cw 118 (.pointer (some ⟨wb, 0, none⟩)) (bodyW l).length, k0, ro ++ (hr ++ lr)]) rfl rfl (fun x => hka) (by refine o_bx (fun b => ?_); refine o_nil ?_; exact ⟨hka, by refine o_al z145 (fun b2 => ?_); refine o_nil ?_; exact ⟨(b, b2), wka, hka⟩⟩) (by refine o_al z145 (fun b2 => ?_); refine o_nil ?_; exact ⟨hka, by refine o_bx (fun b => ?_); refine o_nil ?_; exact ⟨(b, b2), wka, hka⟩⟩) (fun x => ?_); obtain ⟨cc, cb⟩ := x; dsimp only
      refine h_end ?_
      refine a_seg (k := 14) _ [(1, 13)] (by kernel_rfl) (HWk.refl _) ?_
      refine h_t rfl (x_bd hla bd149_1_4_5) ?_
      refine h_end ?_
      refine a_seg (k := 15) _ [(0, 14)] (by kernel_rfl) (hwk (.cons .head .nil)) ?_
      refine h_one rfl (fun Q' hQ => ?_)
      refine o_bx (fun b186 => ?_)
      refine o_nil (hQ _ _ (h_keep ?_))
      refine h_end ?_
      refine a_seg (k := 16) _ [(1, 15)] (by kernel_rfl) (HWk.refl _) ?_
      refine h_t rfl x_as ?_
      refine h_end ?_
      refine a_done rfl ?_
      refine w_weak (L' := [(0, .pointer (some ⟨wp, 0, none⟩)), (1, .pointer (some ⟨fh, 0, none⟩)), (15, .pointer (some ⟨b186, 0, none⟩)), (16, .pointer (some ⟨b135, 0, none⟩))]) (H' := [wrB wp cw dv lv false [], fhB fh e 20 20 (f0 + 8) 0 0, pt b186 [.pointer none, .iface 117 (.pointer (some ⟨cw, 0, none⟩)), .pointer none, .nilIface, .pointer (some ⟨cc, 0, none⟩), .pointer (some ⟨cb, 0, none⟩), .bool false] 149, hdB b135 fh (bodyW l).length ++ (cwB cc 117 (.pointer (some ⟨cw, 0, none⟩)) 0 ++ (pt cb [.int .u32 0] 145 ++ (cwB cw 118 (.pointer (some ⟨wb, 0, none⟩)) (bodyW l).length ++ (k0 ++ (ro ++ (hr ++ lr))))))]) wka (HWk.trans (B := [wrB wp cw dv lv false [], fhB fh e 20 20 (f0 + 8) 0 0, pt b186 [.pointer none, .iface 117 (.pointer (some ⟨cw, 0, none⟩)), .pointer none, .nilIface, .pointer (some ⟨cc, 0, none⟩), .pointer (some ⟨cb, 0, none⟩), .bool false] 149, hdB b135 fh (bodyW l).length, cwB cc 117 (.pointer (some ⟨cw, 0, none⟩)) 0, pt cb [.int .u32 0] 145, cwB cw 118 (.pointer (some ⟨wb, 0, none⟩)) (bodyW l).length, k0, ro ++ (hr ++ lr)]) (hwk (.cons (.tail (.tail (.tail .head))) (.cons (.tail (.tail (.tail (.tail .head)))) (.cons .head (.cons (.tail (.tail .head)) (.cons .head (.cons .head (.cons .head (.cons .head (.cons .head .nil)))))))))) (hflat (by simp))) ?_
      refine w_seq ?_
      refine w_region ?_
      refine o_t x_mv ?_
      refine o_t x_mv ?_
      refine o_t x_nc ?_
      refine o_t (x_fa f80_6) ?_
      refine o_t (x_ld k72) ?_
      refine o_call Tryz.call62 haa spla (cComp wp cw dv lv) ?_
      rintro _ _ HH ⟨rfl, rfl⟩ hHH
      simp only [List.cons_append, List.nil_append, List.append_nil] at hHH; subst hHH
      refine o_t x_as ?_
      refine o_nil ?_
      refine w_seq ?_
      refine w_seq ?_
      refine w_region ?_
      refine o_t x_mv ?_
      refine o_t (x_fsome Tryz.underlying151) ?_
      refine o_nil ?_
      refine w_cond (t := false) (fun g => rfl) (fun hc => ?_) (fun hc => ?_) -- ('Go.Operand.tmp', 194)
      · cases hc
      refine w_skip ?_
      refine w_seq ?_
      refine w_region ?_
      refine o_t x_as ?_
      refine o_nil ?_
      refine w_seq ?_
      refine w_region ?_
      refine o_t x_mv ?_
      refine o_t x_mv ?_
      refine o_t x_mv ?_
      refine o_t x_nc ?_
      refine o_t (x_fa f149_4) ?_
      refine o_t (x_ld k117) ?_
      refine o_t x_p ?_
      refine o_cv Tryz.call126 (fun g => rfl) haa spla rfl (cNopW cc) ?_; rintro _ _ ⟨nb, rfl, rfl⟩; simp only [List.cons_append, List.nil_append]
      refine o_t x_mv ?_
      refine o_t x_ex ?_
      refine o_t x_ex ?_
      refine o_t x_nc ?_
      refine o_t (x_fa f149_3) ?_
      refine o_st k147 ?_
      refine o_t x_as ?_
      refine o_nil ?_
      refine w_seq ?_
      refine w_seq ?_
      refine w_region ?_
      refine o_t x_mv ?_
      first | refine o_t (x_inil Tryz.underlying58) ?_ | refine o_t (x_isome Tryz.underlying58) ?_
      refine o_nil ?_
      refine w_cond (t := false) (fun g => rfl) (fun hc => ?_) (fun hc => ?_) -- ('Go.Operand.tmp', 210)
      · cases hc
      refine w_skip ?_
      refine w_seq ?_
      refine w_region ?_
      refine o_t x_mv ?_
      refine o_t x_mv ?_
      refine o_t x_nc ?_
      refine o_t (x_fa f149_3) ?_
      refine o_t (x_ld k147) ?_
      refine o_t (x_bd hla bd121_0) ?_
      refine o_bx (fun b218 => ?_)
      refine o_t x_nc ?_
      refine o_t (x_fa f149_2) ?_
      refine o_st k117 ?_
      refine o_nil ?_
      refine w_seq ?_
      refine w_region ?_
      refine o_t x_mv ?_
      refine o_t x_mv ?_
      refine o_t x_nc ?_
      refine o_t (x_fa f149_0) ?_
      refine o_st k137 ?_
      refine o_nil ?_
      refine w_region ?_
      refine o_t x_mv ?_
      refine o_t x_p ?_
      refine o_t x_as ?_
      refine o_nil ?_
      refine ⟨(.iface 123 (.pointer (some ⟨b186, 0, none⟩)), .pointer (some ⟨b186, 0, none⟩), fwB b186 b135 cw b218 nb cc cb false ++ (crcB cb [] ++ (cwB b218 247 (.pointer (some ⟨nb, 0, none⟩)) 0 ++ (pt nb [.iface 117 (.pointer (some ⟨cc, 0, none⟩))] 249 ++ cwB cc 117 (.pointer (some ⟨cw, 0, none⟩)) 0)))), wka, ?_, .inr ⟨hdir, b186, b218, nb, cc, cb, rfl⟩⟩
      rw [hfd0]
      simp only [crcB, hc0]
      exact HWk.trans (B := [wrB wp cw dv lv false [], fhB fh e 20 20 (f0 + 8) 0 0, fwB b186 b135 cw b218 nb cc cb false, cwB b218 247 (.pointer (some ⟨nb, 0, none⟩)) 0, pt nb [.iface 117 (.pointer (some ⟨cc, 0, none⟩))] 249, hdB b135 fh (bodyW l).length ++ (cwB cc 117 (.pointer (some ⟨cw, 0, none⟩)) 0 ++ (pt cb [.int .u32 (0 : Nat)] 145 ++ (cwB cw 118 (.pointer (some ⟨wb, 0, none⟩)) (bodyW l).length ++ (k0 ++ (ro ++ (hr ++ lr))))))]) hka (HWk.trans (B := [wrB wp cw dv lv false [], fhB fh e 20 20 (f0 + 8) 0 0, fwB b186 b135 cw b218 nb cc cb false, cwB b218 247 (.pointer (some ⟨nb, 0, none⟩)) 0, pt nb [.iface 117 (.pointer (some ⟨cc, 0, none⟩))] 249, hdB b135 fh (bodyW l).length, cwB cc 117 (.pointer (some ⟨cw, 0, none⟩)) 0, pt cb [.int .u32 (0 : Nat)] 145, cwB cw 118 (.pointer (some ⟨wb, 0, none⟩)) (bodyW l).length, k0, ro ++ (hr ++ lr)]) (hflat (by simp)) (HWk.trans (B := [wrB wp cw dv lv false [], hdB b135 fh (bodyW l).length, fhB fh e 20 20 (f0 + 8) 0 0, cwB cw 118 (.pointer (some ⟨wb, 0, none⟩)) (bodyW l).length, k0, ro ++ (hr ++ lr), fwB b186 b135 cw b218 nb cc cb false, pt cb [.int .u32 (0 : Nat)] 145, cwB b218 247 (.pointer (some ⟨nb, 0, none⟩)) 0, pt nb [.iface 117 (.pointer (some ⟨cc, 0, none⟩))] 249, cwB cc 117 (.pointer (some ⟨cw, 0, none⟩)) 0]) (hwk (.cons .head (.cons (.tail (.tail (.tail (.tail .head)))) (.cons .head (.cons (.tail (.tail (.tail (.tail (.tail .head))))) (.cons (.tail (.tail (.tail (.tail (.tail .head))))) (.cons (.tail (.tail (.tail (.tail (.tail .head))))) (.cons .head (.cons (.tail (.tail (.tail .head))) (.cons .head (.cons .head (.cons .head .nil)))))))))))) (hflat (by simp))))
  rintro ⟨v14, v15, X⟩ hM
  dsimp only at hM ⊢
  have h14 : v14.oneCell' = true := by rcases hM with ⟨-, h⟩ | ⟨-, _, _, _, _, _, h⟩ <;> cases h <;> rfl
  have h15 : v15.oneCell' = true := by rcases hM with ⟨-, h⟩ | ⟨-, _, _, _, _, _, h⟩ <;> cases h <;> rfl
  have cwh := cWriteHeader (G := G) cw wb bb b135 fh (bodyW l).length e hn1 (flagsW e.h) rfl (bodyW l) (cwB cw 118 (.pointer (some ⟨wb, 0, none⟩)) (bodyW l).length ++ k0) hR.out (by omega) gl
  obtain ⟨fl, hfl⟩ : ∃ fl, flagsW e.h = fl := ⟨_, rfl⟩
  rw [hfl] at cwh ⊢
  refine w_weak (L' := [(0, .pointer (some ⟨wp, 0, none⟩)), (14, v14), (15, v15), (16, .pointer (some ⟨b135, 0, none⟩))]) (H' := [wrB wp cw dv lv false [], ro, hdB b135 fh (bodyW l).length, fhB fh e 20 20 fl 0 0, cwB cw 118 (.pointer (some ⟨wb, 0, none⟩)) (bodyW l).length ++ k0, hr ++ X]) wka (HWk.trans (B := [wrB wp cw dv lv false [], hdB b135 fh (bodyW l).length, fhB fh e 20 20 fl 0 0, cwB cw 118 (.pointer (some ⟨wb, 0, none⟩)) (bodyW l).length, k0, ro, hr, lr, X]) (hflat (by simp)) (HWk.trans (B := [wrB wp cw dv lv false [], ro, hdB b135 fh (bodyW l).length, fhB fh e 20 20 fl 0 0, cwB cw 118 (.pointer (some ⟨wb, 0, none⟩)) (bodyW l).length, k0, hr, X]) (hwk (.cons .head (.cons (.tail (.tail (.tail (.tail .head)))) (.cons .head (.cons .head (.cons .head (.cons .head (.cons .head (.cons (.tail .head) .nil))))))))) (hflat (by simp)))) ?_
  refine w_seq ?_
  refine w_region ?_
  refine o_t x_mv ?_
  refine o_t x_mv ?_
  refine o_t x_nc ?_
  refine o_t (x_fa f127_1) ?_
  refine o_t (x_ld k122) ?_
  refine o_t x_mv ?_
  refine o_bs1 Tryz.underlying122 z137 (fun b => ?_)
  refine o_app info137 Tryz.underlying122 rfl hO (pulla) (Rd.all.pull .head) rfl (by simp [Value.oneCell']) (by simp [maxLen]; omega) (by omega) (fun v' r' hO' => ?_)
  refine o_t x_nc ?_
  refine o_t (x_fa f127_1) ?_
  refine o_st k122 ?_ (h1 := hO'.one)
  refine o_nil ?_
  refine w_weak (L' := [(0, .pointer (some ⟨wp, 0, none⟩)), (14, v14), (15, v15), (16, .pointer (some ⟨b135, 0, none⟩))]) (H' := [wrB wp cw v' lv false [], hdB b135 fh (bodyW l).length, fhB fh e 20 20 fl 0 0, cwB cw 118 (.pointer (some ⟨wb, 0, none⟩)) (bodyW l).length ++ k0, r', hr ++ X]) wka hka ?_
  refine w_seq ?_
  refine w_seq ?_
  refine w_region ?_
  refine o_t x_mv ?_
  refine o_t x_nc ?_
  refine o_t (x_fa f127_0) ?_
  refine o_t (x_ld k117) ?_
  refine o_t x_p ?_
  refine o_t x_mv ?_
  refine o_call Tryz.call63 haa spla (cwh) ?_
  rintro _ _ HH ⟨rfl, k', hk', rfl⟩ hHH
  simp only [List.cons_append, List.nil_append, List.append_nil] at hHH; subst hHH
  refine o_t x_as ?_
  refine o_nil ?_
  refine w_seq ?_
  refine w_region ?_
  refine o_t x_mv ?_
  first | refine o_t (x_inil Tryz.underlying58) ?_ | refine o_t (x_isome Tryz.underlying58) ?_
  refine o_nil ?_
  refine w_cond (t := false) (fun g => rfl) (fun hc => ?_) (fun hc => ?_) -- ('Go.Operand.tmp', 245)
  · cases hc
  refine w_skip ?_
  refine w_seq ?_
  refine w_region ?_
  refine o_t x_mv ?_
  refine o_t x_mv ?_
  refine o_t x_nc ?_
  refine o_t (x_fa f127_2) ?_
  refine o_st k123 ?_ (h1 := h15)
  refine o_nil ?_
  refine w_seq ?_
  refine w_region ?_
  refine o_t x_mv ?_
  refine o_t x_as ?_
  refine o_t x_as ?_
  refine o_nil ?_
  rcases hM with ⟨hdir, hx⟩ | ⟨hdir, fw, rc, nb, cc, cb, hx⟩
  · cases hx
    have hdata : e.data = [] := hwe.dir (by simpa [isDir] using hdir)
    refine w_ret (r_2 rfl (.inl ⟨hdir, rfl, _, .inl ⟨v', ps ++ [.pointer (some ⟨b135, 0, none⟩)], r', hr ++ (hdB b135 fh (bodyW l).length ++ fhB fh e 20 20 fl 0 0), k', .pointer none, [], ⟨by rw [List.length_append]; exact hO', hR.hds.snoc ⟨b135, fh, rfl, by rw [← hfl, hdata, hc0, Nat.zero_add]; rfl⟩, ?_, .inl ⟨rfl, rfl⟩⟩, rfl⟩, rfl⟩) (hH := ?_))
    · have hp : bodyW (l ++ [e]) = bodyW l ++ localT (lhW e) := by
        rw [bodyW_append]
        simp only [bodyW, partW, descW, hdir, hdata, if_true, List.append_nil]
      rw [hp]
      exact hk'
    · exact HWk.trans (B := [wrB wp cw v' (.pointer none) false [], r', hr ++ [], hdB b135 fh (bodyW l).length, fhB fh e 20 20 fl 0 0, k']) hka (hflat (by simp))
  · cases hx
    refine w_ret (r_2 rfl (.inr ⟨hdir, fl, b135, fw, rc, nb, cc, cb, v', ps, r', hr, cwB rc 247 (.pointer (some ⟨nb, 0, none⟩)) 0 ++ (pt nb [.iface 117 (.pointer (some ⟨cc, 0, none⟩))] 249 ++ (cwB cc 117 (.pointer (some ⟨cw, 0, none⟩)) 0 ++ k')), rfl, ⟨hO', hR.hds, ?_, hdir, hfl.symm⟩, rfl⟩) (hH := ?_))
    · rw [List.append_nil]
      exact ⟨0, _, rfl, ⟨_, ⟨0, k', rfl, hk', rfl⟩, rfl⟩, rfl⟩
    · exact HWk.trans (B := [wrB wp cw v' (.pointer (some ⟨fw, 0, none⟩)) false [], hdB b135 fh (bodyW l).length, fhB fh e 20 20 fl 0 0, k', r', hr ++ (fwB fw b135 cw rc nb cc cb false ++ (crcB cb [] ++ (cwB rc 247 (.pointer (some ⟨nb, 0, none⟩)) 0 ++ (pt nb [.iface 117 (.pointer (some ⟨cc, 0, none⟩))] 249 ++ cwB cc 117 (.pointer (some ⟨cw, 0, none⟩)) 0))))]) hka (HWk.trans (B := [wrB wp cw v' (.pointer (some ⟨fw, 0, none⟩)) false [], hdB b135 fh (bodyW l).length, fhB fh e 20 20 fl 0 0, k', r', hr, fwB fw b135 cw rc nb cc cb false, crcB cb [], cwB rc 247 (.pointer (some ⟨nb, 0, none⟩)) 0, pt nb [.iface 117 (.pointer (some ⟨cc, 0, none⟩))] 249, cwB cc 117 (.pointer (some ⟨cw, 0, none⟩)) 0]) (hflat (by simp)) (HWk.trans (B := [wrB wp cw v' (.pointer (some ⟨fw, 0, none⟩)) false [], r', hr, hdB b135 fh (bodyW l).length, fhB fh e 20 20 fl 0 0, fwB fw b135 cw rc nb cc cb false, crcB cb [], cwB rc 247 (.pointer (some ⟨nb, 0, none⟩)) 0, pt nb [.iface 117 (.pointer (some ⟨cc, 0, none⟩))] 249, cwB cc 117 (.pointer (some ⟨cw, 0, none⟩)) 0, k']) (hwk (.cons .head (.cons (.tail (.tail (.tail .head))) (.cons (.tail (.tail (.tail .head))) (.cons .head (.cons .head (.cons (.tail .head) (.cons (.tail .head) (.cons (.tail .head) (.cons (.tail .head) (.cons (.tail .head) (.cons .head .nil)))))))))))) (hflat (by simp))))
end Go.Proofs.YtlmefkhglooepaaGreatDoor
namespace Go.Proofs.YtlmefkhglooepaaGreatDoor
open Go
set_option linter.unusedSimpArgs false
set_option linter.unusedVariables false
variable {G : Nat → Option Obj} {ea : Nat → Addr}
section
variable {P : Program} {n : Nat} {ops : Array Oper} {L : Loc} {H : List Res} {d : Nat} {x y : Operand} {ty t t' : TypeId} {p : String} {e : Array Edge} {k : IntKind} {a b z : Int}
theorem x_min {ts : Array TypeId} (hx : ∀ g, evl L g x = .int k a := by intro g; rfl) (hy : ∀ g, evl L g y = .int k b := by intro g; rfl) (hz : (if b < a then b else a) = z) (hn : d < n := by decide) :
    Ex P n G ops L H ⟨some d, .call ⟨.builtin .min, #[x, y], ts⟩, ty, p, e, none⟩ d (.int k z) :=
  .mk hn (fun _ _ g w _ => by subst hz; simp [execOp, hx g, hy g, resolve, invoke, builtin, Builtin.min_, Builtin.min2])
theorem x_fnilN {ps rs : Array TypeId} {vr : Bool} (hi : P.underlying t = some (.func ps rs vr)) (hx : ∀ g, evl L g x = .nilFunc := by intro g; rfl) (hn : d < n := by decide) :
    Ex P n G ops L H ⟨some d, .binOp .neq t x (.const .nilFunc) t', ty, p, e, none⟩ d (.bool false) :=
  .mk hn (fun _ _ g w _ => by
    have h0 := eqR (P := P) (t := t) (va := .nilFunc) (vb := .nilFunc) (r := true) (w := w) (fun d => by simp [Op.equalIn, run_underlying hi])
    simp [execOp, hx g, show ∀ z, evl L g (.const z) = z from fun _ => rfl, eqGuard, binOp, h0])
end
theorem min_l {a b : Int} (h : a ≤ b) : (if b < a then b else a) = a := if_neg (by omega)
theorem min_r {a b : Int} (h : b ≤ a) : (if b < a then b else a) = b := by split <;> omega
def hdr46 (fl crc n nl cl x off : Nat) : List UInt8 :=
  le 4 33639248 ++ le 2 20 ++ le 2 20 ++ le 2 fl ++ le 2 0 ++ le 2 0 ++ le 2 0 ++ le 4 crc ++ le 4 n ++ le 4 n ++ le 2 nl ++ le 2 0 ++ le 2 cl ++ List.replicate 4 0 ++ le 4 x ++ le 4 off
theorem hdr46_len (fl crc n nl cl x off : Nat) : (hdr46 fl crc n nl cl x off).length = 46 := by simp only [hdr46, List.length_append, le_length, List.length_replicate]
theorem hdr46_central (e : En) (x off : Nat) (hx : e.h.ext = (x : Nat)) : centralT (hdW e) off = hdr46 (flagsW e.h) (crcT e.data) e.data.length e.h.name.length e.h.comment.length x off ++ e.h.name ++ e.h.comment := by
  simp only [centralT, hdW, fieldsT, i2, i4, hdr46, hx, Int.toNat_natCast, List.append_assoc, List.append_nil, List.length_nil]
  rfl
def hdr22 (many size at' cl : Nat) : List UInt8 := le 4 101010256 ++ List.replicate 4 0 ++ le 2 many ++ le 2 many ++ le 4 size ++ le 4 at' ++ le 2 cl
theorem hdr22_len (m s a c : Nat) : (hdr22 m s a c).length = 22 := by simp only [hdr22, List.length_append, le_length, List.length_replicate]
theorem hdr22_end (m s a : Nat) (c : List UInt8) : endT m s a c = hdr22 m s a c.length ++ c := by
  simp only [endT, i2, i4, hdr22, Int.toNat_natCast, List.append_assoc]
  rfl
/-- The records that have a place. -/
theorem recsW_pos : ∀ (l : List En) (a j : Nat) (e : En), l[j]? = some e → (recsW l a)[j]? = some ⟨hdW e, lhW e, a + (bodyW (l.take j)).length, e.data⟩
  | [], _, _, _, h => by simp at h
  | x :: l, a, 0, e, h => by simp at h; subst h; simp [recsW, bodyW]
  | x :: l, a, j + 1, e, h => by
    have := recsW_pos l (a + (partW x).length) j e (by simpa using h)
    simpa [recsW, bodyW, Nat.add_assoc] using this
theorem dirG_step (l : List En) (j : Nat) (e : En) (h : l[j]? = some e) : dirG ((recsW l 0).take (j + 1)) = dirG ((recsW l 0).take j) ++ centralT (hdW e) (bodyW (l.take j)).length := by
  have hr := recsW_pos l 0 j e h
  rw [Nat.zero_add] at hr
  obtain ⟨hlt, hg⟩ := List.getElem?_eq_some_iff.1 hr
  rw [List.take_succ_eq_append_getElem hlt, dirG_append, hg]
  simp [dirG]
theorem dirG_takeLe (l : List ZR) (j : Nat) : (dirG (l.take j)).length ≤ (dirG l).length := by
  have h := congrArg List.length (dirG_append (l.take j) (l.drop j))
  rw [List.take_append_drop, List.length_append] at h
  omega
theorem bodyW_take_le (l : List En) (j : Nat) : (bodyW (l.take j)).length ≤ (bodyW l).length := by
  have h := congrArg List.length (bodyW_append (l.take j) (l.drop j))
  rw [List.take_append_drop, List.length_append] at h
  omega
/-- The writer, its comment set. -/
def WstC (wp cw wb bb : Nat) (l : List En) (c : List UInt8) (r : Res) : Prop :=
  (∃ dv ps ro hr k lv lr, Rdy cw wb bb l dv ps ro hr k lv lr ∧ r = wrB wp cw dv lv false c ++ (ro ++ (hr ++ (k ++ lr)))) ∨
  (∃ l' e fl hd fh fw rc nb cc cb dv ps ro hr k, l = l' ++ [e] ∧ Opn cw wb bb l' e e.data fl hd fh fw rc nb cc cb dv ps ro hr k ∧
    r = wrB wp cw dv (.pointer (some ⟨fw, 0, none⟩)) false c ++ (ro ++ (hr ++ ((hdB hd fh (bodyW l').length ++ fhB fh e 20 20 fl 0 0) ++ ((fwB fw hd cw rc nb cc cb false ++ crcB cb e.data) ++ k)))))
theorem cSetC0 (wp cw : Nat) (dv lv : Value) (c : List UInt8) (hc : c.length ≤ 65535) : Fn P G 64 #[.pointer (some ⟨wp, 0, none⟩), .string (str c)] [wrB wp cw dv lv false []] fun v H => v = .nilIface ∧ H = [wrB wp cw dv lv false c] := by
  refine fn_intro (args := [_,_]) Tryz.func64 Tryz.ntmps64 rfl ?_
  refine w_seq ?_
  refine w_region ?_
  refine o_t x_as ?_
  refine o_nil ?_
  refine w_seq ?_
  refine w_seq ?_
  refine w_region ?_
  refine o_t x_mv ?_
  refine o_t (x_lens Tryz.underlying9) ?_
  refine o_t x_cmp ?_
  refine o_nil ?_
  refine w_cond (t := false) (fun g => rfl) (fun hc => ?_) (fun hc => ?_) -- ('Go.Operand.tmp', 7)
  · cases hc
  refine w_skip ?_
  refine w_seq ?_
  refine w_region ?_
  refine o_t x_mv ?_
  refine o_t x_mv ?_
  refine o_t x_nc ?_
  refine o_t (x_fa f127_5) ?_
  refine o_st k9 ?_
  refine o_nil ?_
  refine w_seq ?_
  refine w_region ?_
  refine o_t x_as ?_
  refine o_nil ?_
  refine w_ret (r_1 rfl ⟨rfl, rfl⟩)
theorem cSetC (wp cw wb bb : Nat) (l : List En) (c : List UInt8) (hc : c.length ≤ 65535) (r : Res) (h : Wst wp cw wb bb l r) :
    Fn P G 64 #[.pointer (some ⟨wp, 0, none⟩), .string (str c)] [r] fun v H => v = .nilIface ∧ ∃ r', WstC wp cw wb bb l c r' ∧ H = [r'] := by
  rcases h with ⟨dv, ps, ro, hr, k, lv, lr, hR, rfl⟩ | ⟨l', e, fl, hd, fh, fw, rc, nb, cc, cb, dv, ps, ro, hr, k, rfl, hO, rfl⟩
  · refine ((cSetC0 (G := G) wp cw dv lv c hc).frame [ro ++ (hr ++ (k ++ lr))]).conv (hflat (by simp)) ?_
    rintro v H ⟨_, ⟨rfl, rfl⟩, rfl⟩
    exact ⟨_, hflat (by simp), rfl, _, .inl ⟨dv, ps, ro, hr, k, lv, lr, hR, rfl⟩, rfl⟩
  · refine ((cSetC0 (G := G) wp cw dv (.pointer (some ⟨fw, 0, none⟩)) c hc).frame [ro ++ (hr ++ ((hdB hd fh (bodyW l').length ++ fhB fh e 20 20 fl 0 0) ++ ((fwB fw hd cw rc nb cc cb false ++ crcB cb e.data) ++ k)))]).conv (hflat (by simp)) ?_
    rintro v H ⟨_, ⟨rfl, rfl⟩, rfl⟩
    exact ⟨_, hflat (by simp), rfl, _, .inr ⟨l', e, fl, hd, fh, fw, rc, nb, cc, cb, dv, ps, ro, hr, k, rfl, hO, rfl⟩, rfl⟩
theorem ta118 (wb : Nat) (w : World) : (Instr.typeAssert (.iface 118 (.pointer (some ⟨wb, 0, none⟩))) 89 118 false).run P w = .ok (.pointer (some ⟨wb, 0, none⟩)) w := by kernel_rfl
theorem cFlushW (wb bb : Nat) (out : List UInt8) (k : Res) (hk : BwS wb bb out k) (hl : out.length ≤ 2147483647) : Fn P G 95 #[.pointer (some ⟨wb, 0, none⟩)] [k] fun v H => v = .nilIface ∧ ∃ bk k2, BldS bb out bk ∧ H = [bk, k2] := by
  obtain ⟨cb, n, bc, fl, pend, bk, hn, hbc, hcs, hpl, hb, rfl, rfl⟩ := hk
  refine (cFlush (G := G) wb cb bb n hn bc hbc pend fl hcs hpl bk hb (by rw [List.length_append] at hl; omega)).conv (hflat (by simp)) ?_
  rintro v H ⟨rfl, bk', hb', rfl⟩
  exact ⟨[bk', bwB wb cb bb 0 ++ pt cb bc 5], HWk.trans (B := [bk', bwB wb cb bb 0, pt cb bc 5]) hka (hflat (by simp)), rfl, bk', _, hb', rfl⟩
end Go.Proofs.YtlmefkhglooepaaGreatDoor
