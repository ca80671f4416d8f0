/- The package writes an archive. The laws that read one archive. What the law needs. -/
import Derived.Test.YtlmefkhglooepaaGreatDoorPart11
set_option linter.unusedSimpArgs false
set_option linter.unusedVariables false
namespace Go.Proofs.YtlmefkhglooepaaGreatDoor
open Go
set_option linter.unusedSimpArgs false
set_option linter.unusedVariables false
variable {G : Nat → Option Obj} {ea : Nat → Addr}
theorem cNewWriter (bb : Nat) : Fn P G 32 #[.iface 83 (.pointer (some ⟨bb, 0, none⟩))] [pt bb [.pointer none, .slice none 0 0] 85] fun v H => ∃ wp cw wb r, v = .pointer (some ⟨wp, 0, none⟩) ∧ Wst wp cw wb bb [] r ∧ H = [r] := by
  refine fn_intro (args := [_]) Tryz.func32 Tryz.ntmps32 rfl ?_
  refine w_seq ?_
  refine w_region ?_
  refine o_t x_as ?_
  refine o_nil ?_
  refine w_seq ?_
  refine w_region ?_
  refine o_t x_mv ?_
  refine o_call Tryz.call52 haa spla (cBwNew bb) ?_
  rintro _ _ HH ⟨wb, k, rfl, hk, rfl⟩ hHH
  simp only [List.cons_append, List.nil_append, List.append_nil] at hHH; subst hHH
  refine o_t x_p ?_
  refine o_t (x_bd hla bd121_0) ?_
  refine o_bx (fun b7 => ?_)
  refine o_t (x_bd hla bd127_0) ?_
  refine o_bx (fun b9 => ?_)
  refine o_t x_as ?_
  refine o_nil ?_
  refine w_ret (r_1 rfl ⟨b9, b7, wb, _, rfl, .inl ⟨.slice none 0 0, [], [], [], cwB b7 118 (.pointer (some ⟨wb, 0, none⟩)) 0 ++ k, .pointer none, [], ⟨Own.nil _ _, rfl, ⟨0, k, rfl, hk, rfl⟩, .inl ⟨rfl, rfl⟩⟩, rfl⟩, rfl⟩ (hH := ?_))
  exact HWk.trans (B := [wrB b9 b7 (.slice none 0 0) (.pointer none) false [], cwB b7 118 (.pointer (some ⟨wb, 0, none⟩)) 0, k]) hka (hflat (by simp))
theorem cDirWrite (b n cap : Nat) (hn : n = 0) (r : Res) : Fn P G 191 #[.agg #[], .slice (some ⟨b, 0, none⟩) n cap] [r] fun v H => v = .tuple #[.int .i64 0, .nilIface] ∧ H = [r] := by
  subst hn
  refine fn_intro (args := [_,_]) Tryz.func191 Tryz.ntmps191 rfl ?_
  refine w_seq ?_
  refine w_region ?_
  refine o_bx (fun b2 => ?_)
  refine o_t x_as ?_
  refine o_t x_as ?_
  refine o_nil ?_
  refine w_seq ?_
  refine w_seq ?_
  refine w_region ?_
  refine o_t x_mv ?_
  refine o_t (x_lenb Tryz.underlying78) ?_
  refine o_t x_cmp ?_
  refine o_nil ?_
  refine w_cond (t := true) (fun g => rfl) (fun hc => ?_) (fun hc => ?_) -- ('Go.Operand.tmp', 8)
  case refine_2 => cases hc
  refine w_seq ?_
  refine w_region ?_
  refine o_t x_as ?_
  refine o_t x_as ?_
  refine o_nil ?_
  refine w_ret (r_2 rfl ⟨rfl, rfl⟩)
theorem cClosed (wp cw wb bb : Nat) (l : List En) (hw : ∀ e ∈ l, WOK e) (hl : l.length ≤ 1000) (c : List UInt8) (hcl : c.length ≤ 65535) (r : Res) (h : Wst wp cw wb bb l r) :
    Fn P G 34 #[.pointer (some ⟨wp, 0, none⟩), .pointer (some ⟨bb, 0, none⟩), .string (str c)] [r] fun v H => v = .tuple #[.string (str (writeT l c)), .bool true] ∧ H = [] := by
  have cs := cSetC (G := G) wp cw wb bb l c hcl r h
  have hbl := bodyW_len hw
  have hdl := dirW_len hw 0
  have hTl : (writeT l c).length ≤ 2147483647 := by simp only [writeT, List.length_append, endT_length]; omega
  have hne : writeT l c ≠ [] := by
    intro h0
    have := congrArg List.length h0
    simp only [writeT, List.length_append, endT_length, List.length_nil] at this
    omega
  refine fn_intro (args := [_,_,_]) Tryz.func34 Tryz.ntmps34 rfl ?_
  refine w_seq ?_
  refine w_region ?_
  refine o_t x_as ?_
  refine o_t x_as ?_
  refine o_nil ?_
  refine w_seq ?_
  refine w_seq ?_
  refine w_region ?_
  refine o_t x_mv ?_
  refine o_t x_mv ?_
  refine o_call Tryz.call64 haa spla (cs) ?_
  rintro _ _ HH ⟨rfl, r2, hW2, rfl⟩ hHH
  simp only [List.cons_append, List.nil_append, List.append_nil] at hHH; subst hHH
  refine o_t x_as ?_
  refine o_nil ?_
  refine w_seq ?_
  refine w_region ?_
  refine o_t x_mv ?_
  first | refine o_t (x_inil Tryz.underlying58) ?_ | refine o_t (x_isome Tryz.underlying58) ?_
  refine o_nil ?_
  refine w_cond (t := false) (fun g => rfl) (fun hc => ?_) (fun hc => ?_) -- ('Go.Operand.tmp', 14)
  · cases hc
  refine w_skip ?_
  have cc := cClose (G := G) wp cw wb bb l hw hl c hcl r2 hW2
  refine w_seq ?_
  refine w_seq ?_
  refine w_region ?_
  refine o_t x_mv ?_
  refine o_call Tryz.call65 haa spla (cc) ?_
  rintro _ _ HH ⟨rfl, bk, kk, hb, rfl⟩ hHH
  simp only [List.cons_append, List.nil_append, List.append_nil] at hHH; subst hHH
  refine o_t x_as ?_
  refine o_nil ?_
  refine w_seq ?_
  refine w_region ?_
  refine o_t x_mv ?_
  first | refine o_t (x_inil Tryz.underlying58) ?_ | refine o_t (x_isome Tryz.underlying58) ?_
  refine o_nil ?_
  refine w_cond (t := false) (fun g => rfl) (fun hc => ?_) (fun hc => ?_) -- ('Go.Operand.tmp', 18)
  · cases hc
  refine w_skip ?_
  have cb := cBldString (G := G) bb _ bk hb hne hTl
  refine w_seq ?_
  refine w_region ?_
  refine o_t x_mv ?_
  refine o_call Tryz.call66 haa spla (cb) ?_
  rintro _ _ HH ⟨rfl, rfl⟩ hHH
  simp only [List.cons_append, List.nil_append, List.append_nil] at hHH; subst hHH
  refine o_t x_as ?_
  refine o_t x_as ?_
  refine o_nil ?_
  refine w_ret (r_2 rfl ⟨rfl, rfl⟩)
theorem cCreateD (wp cw wb bb : Nat) (gl : Glob G ea) (l : List En) (hw : ∀ e ∈ l, WOK e) (e : En) (hwe : WOK e) (hl : l.length < 1000) (fh : Nat) (r : Res) (h : Wst wp cw wb bb l r) (hd : isDir e.h.name = true) :
    Fn P G 33 #[.pointer (some ⟨wp, 0, none⟩), .pointer (some ⟨fh, 0, none⟩)] [r, fhB fh e 0 0 0 0 0] fun v H => v = .tuple #[.iface 142 (.agg #[]), .nilIface] ∧ ∃ r', Wst wp cw wb bb (l ++ [e]) r' ∧ H = [r'] := by
  refine (cCreate (G := G) wp cw wb bb gl l hw e hwe hl fh r h).conv (HWk.refl _) ?_
  rintro v H (⟨-, h⟩ | ⟨h, -⟩)
  · exact ⟨H, HWk.refl _, h⟩
  · rw [hd] at h; cases h
theorem cCreateF (wp cw wb bb : Nat) (gl : Glob G ea) (l : List En) (hw : ∀ e ∈ l, WOK e) (e : En) (hwe : WOK e) (hl : l.length < 1000) (fh : Nat) (r : Res) (h : Wst wp cw wb bb l r) (hd : isDir e.h.name = false) :
    Fn P G 33 #[.pointer (some ⟨wp, 0, none⟩), .pointer (some ⟨fh, 0, none⟩)] [r, fhB fh e 0 0 0 0 0] fun v H => ∃ fl hd fw rc nb cc cb dv ps ro hr k, v = .tuple #[.iface 123 (.pointer (some ⟨fw, 0, none⟩)), .nilIface] ∧ Opn cw wb bb l e [] fl hd fh fw rc nb cc cb dv ps ro hr k ∧
        H = [fwB fw hd cw rc nb cc cb false, hdB hd fh (bodyW l).length, crcB cb [], k, wrB wp cw dv (.pointer (some ⟨fw, 0, none⟩)) false [] ++ (ro ++ (hr ++ fhB fh e 20 20 fl 0 0))] := by
  refine (cCreate (G := G) wp cw wb bb gl l hw e hwe hl fh r h).conv (HWk.refl _) ?_
  rintro v H (⟨h, -⟩ | ⟨-, fl, hd, fw, rc, nb, cc, cb, dv, ps, ro, hr, k, rfl, hO, rfl⟩)
  · rw [hd] at h; cases h
  · exact ⟨_, HWk.trans (B := [fwB fw hd cw rc nb cc cb false, hdB hd fh (bodyW l).length, crcB cb [], k, wrB wp cw dv (.pointer (some ⟨fw, 0, none⟩)) false [], ro, hr, fhB fh e 20 20 fl 0 0]) (hwk (.cons (.tail (.tail (.tail (.tail (.tail .head))))) (.cons (.tail (.tail (.tail .head))) (.cons (.tail (.tail (.tail (.tail .head)))) (.cons (.tail (.tail (.tail (.tail .head)))) (.cons .head (.cons .head (.cons .head (.cons .head .nil))))))))) (hflat (by simp)), fl, hd, fw, rc, nb, cc, cb, dv, ps, ro, hr, k, rfl, hO, rfl⟩
theorem cWrite (gl : Glob G ea) (v : Value) (r : Res) (l : List En) (c : List UInt8) (hA : Arr G r v 15 l.length (entsC l)) (hw : ∀ e ∈ l, WOK e) (hl : l.length ≤ 1000) (hc : c.length ≤ 65535) :
    Fn P G 15 #[v, .string (str c)] [r] fun v' H' => v' = .tuple #[.string (str (writeT l c)), .bool true] ∧ H' = [r] := by
  obtain ⟨a0, cap0, hv⟩ := hA.len
  have hv1 : v.oneCell' = true := by rw [hv]; rfl
  have hbl := bodyW_len hw
  refine fn_intro (args := [_,_]) Tryz.func15 Tryz.ntmps15 rfl ?_
  refine w_seq ?_
  refine w_region ?_
  refine o_t x_as ?_
  refine o_t x_as ?_
  refine o_nil ?_
  refine w_seq ?_
  refine w_region ?_
  refine o_t (x_bd hla bd85) ?_
  refine o_bx (fun b16 => ?_)
  refine o_t x_as ?_
  refine o_nil ?_
  refine w_seq ?_
  refine w_region ?_
  refine o_t x_mv ?_
  refine o_t x_p ?_
  refine o_call Tryz.call32 haa spla (cNewWriter b16) ?_
  rintro _ _ HH ⟨wp, cw, wb, r0, rfl, hW0, rfl⟩ hHH
  simp only [List.cons_append, List.nil_append, List.append_nil] at hHH; subst hHH
  refine o_t x_as ?_
  refine o_nil ?_
  refine w_seq ?_
  refine w_seq ?_
  refine w_region ?_
  refine o_t x_mv ?_
  refine o_t (x_lenb (a' := a0) (len := l.length) (cap := cap0) Tryz.underlying22 (hx := fun g => by subst hv; rfl)) ?_
  refine o_t x_mv ?_
  refine o_nil ?_
  refine w_block ?_ -- 0
  refine w_loop (α := Nat × Res) (fun x => [(1, .string (str c)), (6, .pointer (some ⟨b16, 0, none⟩)), (7, .pointer (some ⟨wp, 0, none⟩)), (20, v), (21, .int .i64 l.length), (22, .int .i64 x.1)]) (fun x => [x.2, r]) (fun x => x.1 ≤ l.length ∧ Wst wp cw wb b16 (l.take x.1) x.2) (fun x => l.length - x.1) (0, r0) (wka) (hka) ⟨Nat.zero_le _, by simpa using hW0⟩ ?_
  rintro ⟨i, ri⟩ ⟨hi, hWi⟩
  dsimp only at hi hWi ⊢
  refine w_seq ?_
  by_cases hil : i < l.length
  case neg =>
    obtain rfl : i = l.length := by omega
    rw [List.take_length] at hWi
    have cc := cClosed (G := G) wp cw wb b16 l hw hl c hc ri hWi
    refine w_region ?_
    refine o_t x_cmp ?_
    refine o_nil ?_
    refine w_seq ?_
    refine w_cond (t := false) (fun g => rfl) (fun hc => ?_) (fun hc => ?_) -- ('Go.Operand.tmp', 23)
    · cases hc
    refine w_exit ?_ -- 0
    refine w_seq ?_
    refine w_region ?_
    refine o_t x_mv ?_
    refine o_t x_mv ?_
    refine o_t x_mv ?_
    refine o_call Tryz.call34 haa spla (cc) ?_
    rintro _ _ HH ⟨rfl, rfl⟩ hHH
    simp only [List.cons_append, List.nil_append, List.append_nil] at hHH; subst hHH
    refine o_t x_ex ?_
    refine o_t x_ex ?_
    refine o_t x_as ?_
    refine o_t x_as ?_
    refine o_nil ?_
    refine w_ret (r_2 rfl ⟨rfl, rfl⟩)
  refine w_region ?_
  refine o_t x_cmp ?_
  refine o_nil ?_
  refine w_seq ?_
  refine w_cond (t := true) (fun g => rfl) (fun hc => ?_) (fun hc => ?_) -- ('Go.Operand.tmp', 23)
  case refine_2 => cases hc
  refine w_skip ?_
  have he : l[i]? = some l[i] := List.getElem?_eq_getElem hil
  obtain ⟨a, hga⟩ : ∃ a, l[i] = a := ⟨_, rfl⟩
  rw [hga] at he
  have hwa := hw a (List.mem_of_getElem? he)
  have htk : l.take (i + 1) = l.take i ++ [a] := by rw [List.take_succ_eq_append_getElem hil, hga]
  have hwt : ∀ e ∈ l.take i, WOK e := fun e h => hw e (List.mem_of_mem_take h)
  have htl : (l.take i).length = i := List.length_take_of_le (by omega)
  obtain ⟨bo, oo, co, rfl, hco, hrd⟩ := hA.some (by omega)
  refine w_seq ?_
  refine w_block ?_ -- 1
  refine w_seq ?_
  refine w_region ?_
  refine o_t (x_ia (m := oo + i * 15) Tryz.underlying22 e22 (hm := by omega)) ?_
  refine o_t (x_ldE (hrd.pull (pulla)) he) ?_
  refine o_al z38 (fun b9 => ?_)
  refine o_sta g38 ?_
  refine o_nil ?_
  refine w_seq ?_
  refine w_region ?_
  refine o_t (x_fa f38_0) ?_
  refine o_t (x_fa f36_0) ?_
  refine o_t (x_ld k9) ?_
  refine o_t (x_fa f38_0) ?_
  refine o_t (x_fa f36_1) ?_
  refine o_t (x_ld k9) ?_
  refine o_t (x_fa f38_0) ?_
  refine o_t (x_fa f36_3) ?_
  refine o_t (x_ld k4) ?_
  refine o_t (x_fa f38_0) ?_
  refine o_t (x_fa f36_13) ?_
  refine o_t (x_ld k3) ?_
  refine o_t (x_cv (z := a.h.ext) ⟨_, Tryz.underlying3⟩ Tryz.underlying77 (hz := w_u32 hwa.ext)) ?_
  refine o_t (x_bd hla bd80_0_1_2_6_16) ?_
  refine o_bx (fun b40 => ?_)
  refine o_t x_as ?_
  refine o_nil ?_
  refine w_weak (L' := [(1, .string (str c)), (6, .pointer (some ⟨b16, 0, none⟩)), (7, .pointer (some ⟨wp, 0, none⟩)), (9, .pointer (some ⟨b9, 0, none⟩)), (20, .slice (some ⟨bo, oo, none⟩) l.length co), (21, .int .i64 l.length), (22, .int .i64 i), (10, .pointer (some ⟨b40, 0, none⟩))]) (H' := [ri, fhB b40 a 0 0 0 0 0, pt b9 (enC a) 38, r]) wka hka ?_
  cases hdir : isDir a.h.name with
  | true =>
    have cD := cCreateD (G := G) wp cw wb b16 gl (l.take i) hwt a hwa (by omega) b40 ri hWi hdir
    have hdat : a.data.length = 0 := by rw [hwa.dir (by simpa [isDir] using hdir)]; rfl
    refine w_seq ?_
    refine w_region ?_
    refine o_t x_mv ?_
    refine o_t x_mv ?_
    refine o_call Tryz.call33 haa spla (cD) ?_
    rintro _ _ HH ⟨rfl, r2, hW2, rfl⟩ hHH
    simp only [List.cons_append, List.nil_append, List.append_nil] at hHH; subst hHH
    refine o_t x_mv ?_
    refine o_t x_ex ?_
    refine o_t x_ex ?_
    refine o_t x_as ?_
    refine o_t x_as ?_
    refine o_nil ?_
    refine w_seq ?_
    refine w_seq ?_
    refine w_region ?_
    refine o_t x_mv ?_
    first | refine o_t (x_inil Tryz.underlying58) ?_ | refine o_t (x_isome Tryz.underlying58) ?_
    refine o_nil ?_
    refine w_cond (t := false) (fun g => rfl) (fun hc => ?_) (fun hc => ?_) -- ('Go.Operand.tmp', 48)
    · cases hc
    refine w_skip ?_
    refine w_seq ?_
    refine w_region ?_
    refine o_t x_mv ?_
    refine o_t (x_fa f38_1) ?_
    refine o_t (x_ld k9) ?_
    refine o_s2b Tryz.underlying9 Tryz.underlying78 Tryz.underlying5 (fun nb ncap nr hrd' hcap => ?_)
    refine o_inv (m142_Write _) hxa haa spla vca ((cDirWrite nb a.data.length ncap hdat nr)) ?_
    rintro _ HH ⟨rfl, rfl⟩
    simp only [List.cons_append, List.nil_append, List.append_nil]
    refine o_t x_mv ?_
    refine o_t x_ex ?_
    refine o_t x_ex ?_
    refine o_t x_as ?_
    refine o_t x_as ?_
    refine o_nil ?_
    refine w_seq ?_
    refine w_region ?_
    refine o_t x_mv ?_
    first | refine o_t (x_inil Tryz.underlying58) ?_ | refine o_t (x_isome Tryz.underlying58) ?_
    refine o_nil ?_
    refine w_cond (t := false) (fun g => rfl) (fun hc => ?_) (fun hc => ?_) -- ('Go.Operand.tmp', 58)
    · cases hc
    refine w_skip ?_
    refine w_region ?_
    refine o_t x_add ?_
    refine o_t x_mv ?_
    refine o_nil ?_
    refine ⟨(i + 1, r2), wka, hka, ⟨by omega, by rw [htk]; exact hW2⟩, by dsimp only; omega⟩
  | false =>
    have cF := cCreateF (G := G) wp cw wb b16 gl (l.take i) hwt a hwa (by omega) b40 ri hWi hdir
    refine w_seq ?_
    refine w_region ?_
    refine o_t x_mv ?_
    refine o_t x_mv ?_
    refine o_call Tryz.call33 haa spla (cF) ?_
    rintro _ _ HH ⟨fl, hd, fw, rc, nb, cc, cb, dv, ps, ro, hr, k, rfl, hO, rfl⟩ hHH
    simp only [List.cons_append, List.nil_append, List.append_nil] at hHH; subst hHH
    refine o_t x_mv ?_
    refine o_t x_ex ?_
    refine o_t x_ex ?_
    refine o_t x_as ?_
    refine o_t x_as ?_
    refine o_nil ?_
    refine w_seq ?_
    refine w_seq ?_
    refine w_region ?_
    refine o_t x_mv ?_
    first | refine o_t (x_inil Tryz.underlying58) ?_ | refine o_t (x_isome Tryz.underlying58) ?_
    refine o_nil ?_
    refine w_cond (t := false) (fun g => rfl) (fun hc => ?_) (fun hc => ?_) -- ('Go.Operand.tmp', 48)
    · cases hc
    refine w_skip ?_
    have hbt := bodyW_len hwt
    have hnm := hwa.name
    have hdt := hwa.data
    have cw1 := fun b cap rr (hrd : Rd G [rr] b 0 (a.data.map u8)) (hcap : a.data.length ≤ cap) => cFwWrite (G := G) fw hd b40 (bodyW (l.take i)).length cw rc nb cc cb wb b16 _ [] _ k hO.out (.slice (some ⟨b, 0, none⟩) a.data.length cap) rr a.data ⟨b, 0, cap, rfl, hcap, hrd⟩ (by omega) (by rw [List.append_nil, List.length_append, localT_length]; simp only [lhW, List.length_nil]; rw [htl] at hbt; omega)
    refine w_seq ?_
    refine w_region ?_
    refine o_t x_mv ?_
    refine o_t (x_fa f38_1) ?_
    refine o_t (x_ld k9) ?_
    refine o_s2b Tryz.underlying9 Tryz.underlying78 Tryz.underlying5 (fun nb2 ncap nr hrd' hcap => ?_)
    refine o_inv (m123_Write _) hxa haa spla vca ((cw1 nb2 ncap nr hrd' hcap)) ?_
    rintro _ HH ⟨rfl, k', hk', rfl⟩
    simp only [List.cons_append, List.nil_append, List.append_nil]
    refine o_t x_mv ?_
    refine o_t x_ex ?_
    refine o_t x_ex ?_
    refine o_t x_as ?_
    refine o_t x_as ?_
    refine o_nil ?_
    refine w_seq ?_
    refine w_region ?_
    refine o_t x_mv ?_
    first | refine o_t (x_inil Tryz.underlying58) ?_ | refine o_t (x_isome Tryz.underlying58) ?_
    refine o_nil ?_
    refine w_cond (t := false) (fun g => rfl) (fun hc => ?_) (fun hc => ?_) -- ('Go.Operand.tmp', 58)
    · cases hc
    refine w_skip ?_
    refine w_region ?_
    refine o_t x_add ?_
    refine o_t x_mv ?_
    refine o_nil ?_
    refine ⟨(i + 1, wrB wp cw dv (.pointer (some ⟨fw, 0, none⟩)) false [] ++ (ro ++ (hr ++ ((hdB hd b40 (bodyW (l.take i)).length ++ fhB b40 a 20 20 fl 0 0) ++ ((fwB fw hd cw rc nb cc cb false ++ crcB cb a.data) ++ k'))))), wka, ?_, ⟨by omega, ?_⟩, by dsimp only; omega⟩
    · exact HWk.trans (B := [fwB fw hd cw rc nb cc cb false, hdB hd b40 (bodyW (l.take i)).length, crcB cb a.data, k', wrB wp cw dv (.pointer (some ⟨fw, 0, none⟩)) false [] ++ (ro ++ (hr ++ fhB b40 a 20 20 fl 0 0)), r]) hka (HWk.trans (B := [fwB fw hd cw rc nb cc cb false, hdB hd b40 (bodyW (l.take i)).length, crcB cb a.data, k', wrB wp cw dv (.pointer (some ⟨fw, 0, none⟩)) false [], ro, hr, fhB b40 a 20 20 fl 0 0, r]) (hflat (by simp)) (HWk.trans (B := [wrB wp cw dv (.pointer (some ⟨fw, 0, none⟩)) false [], ro, hr, hdB hd b40 (bodyW (l.take i)).length, fhB b40 a 20 20 fl 0 0, fwB fw hd cw rc nb cc cb false, crcB cb a.data, k', r]) (hwk (.cons (.tail (.tail (.tail (.tail .head)))) (.cons (.tail (.tail (.tail (.tail .head)))) (.cons (.tail (.tail (.tail (.tail .head)))) (.cons (.tail .head) (.cons (.tail (.tail (.tail .head))) (.cons .head (.cons .head (.cons .head (.cons .head .nil)))))))))) (hflat (by simp))))
    · refine .inr ⟨l.take i, a, fl, hd, b40, fw, rc, nb, cc, cb, dv, ps, ro, hr, k', htk, ⟨hO.own, hO.hds, ?_, hdir, hO.flag⟩, rfl⟩
      rw [List.append_nil] at hk'
      exact hk'
end Go.Proofs.YtlmefkhglooepaaGreatDoor
namespace Go.Proofs.YtlmefkhglooepaaGreatDoor
open Go
set_option linter.unusedSimpArgs false
set_option linter.unusedVariables false
variable {G : Nat → Option Obj} {ea : Nat → Addr}
theorem cHolds (gl : Glob G ea) (s body : List UInt8) (rs : List ZR) (c : List UInt8) (z : Zip s body rs c) (v : Value) (r : Res) (l : List En) (b : Bool) (hA : Arr G r v 15 l.length (entsC l)) (hl : l.length ≤ 1000)
    (hf : ∀ e ∈ l, 0 ≤ e.h.flags ∧ e.h.flags ≤ 65535) (hr : ∀ (j : Nat) (e : En), l[j]? = some e → ∃ q, rs[j]? = some q ∧ q.data = e.data ∧ ((b = true ∨ e.h.flags / 8 % 2 = 0) → Readable s q)) :
    Fn P G 14 #[.string (str s), v, .bool b] [r] fun v' H => v' = .bool true ∧ H = [r] := by
  obtain ⟨a0, cap0, hv⟩ := hA.len
  refine fn_intro (args := [_,_,_]) Tryz.func14 Tryz.ntmps14 rfl ?_
  refine w_seq ?_
  refine w_region ?_
  refine o_t x_as ?_
  refine o_nil ?_
  refine w_seq ?_
  refine w_seq ?_
  refine w_region ?_
  refine o_t x_mv ?_
  refine o_t (x_lenb (a' := a0) (len := l.length) (cap := cap0) Tryz.underlying22 (hx := fun g => by subst hv; rfl)) ?_
  refine o_t x_mv ?_
  refine o_nil ?_
  refine w_block ?_ -- 0
  refine w_loop (α := Nat) (fun x => [(0, .string (str s)), (2, .bool b), (11, v), (12, .int .i64 l.length), (13, .int .i64 x)]) (fun x => [r]) (fun x => x ≤ l.length) (fun x => l.length - x) 0 (wka) (hka) (Nat.zero_le _) ?_
  intro i hi
  refine w_seq ?_
  by_cases hil : i < l.length
  case neg =>
    obtain rfl : i = l.length := by omega
    refine w_region ?_
    refine o_t x_cmp ?_
    refine o_nil ?_
    refine w_seq ?_
    refine w_cond (t := false) (fun g => rfl) (fun hc => ?_) (fun hc => ?_) -- ('Go.Operand.tmp', 14)
    · cases hc
    refine w_exit ?_ -- 0
    refine w_seq ?_
    refine w_region ?_
    refine o_t x_as ?_
    refine o_nil ?_
    refine w_ret (r_1 rfl ⟨rfl, rfl⟩)
  refine w_region ?_
  refine o_t x_cmp ?_
  refine o_nil ?_
  refine w_seq ?_
  refine w_cond (t := true) (fun g => rfl) (fun hc => ?_) (fun hc => ?_) -- ('Go.Operand.tmp', 14)
  case refine_2 => cases hc
  refine w_skip ?_
  have he : l[i]? = some l[i] := List.getElem?_eq_getElem hil
  obtain ⟨a, hga⟩ : ∃ a, l[i] = a := ⟨_, rfl⟩
  rw [hga] at he
  have hfa := hf a (List.mem_of_getElem? he)
  obtain ⟨q, hq, hqd, hqr⟩ := hr i a he
  obtain ⟨bo, oo, co, rfl, hco, hrd⟩ := hA.some (by omega)
  refine w_seq ?_
  refine w_block ?_ -- 1
  refine w_seq ?_
  refine w_region ?_
  refine o_t x_mv ?_
  refine o_t (x_ia (m := oo + i * 15) Tryz.underlying22 e22 (hm := by omega)) ?_
  refine o_t (x_ldE (hrd.pull (pulla)) he) ?_
  refine o_al z38 (fun b8 => ?_)
  refine o_t x_as ?_
  refine o_sta g38 ?_
  refine o_nil ?_
  refine w_cut (α := Unit) (fun x => [(0, .string (str s)), (2, .bool b), (11, .slice (some ⟨bo, oo, none⟩) l.length co), (12, .int .i64 l.length), (13, .int .i64 i), (7, .int .i64 i), (8, .pointer (some ⟨b8, 0, none⟩))]) (fun x => [pt b8 (enC a) 38, r]) (fun x => Readable s q) ?_ ?_
  · refine w_seq ?_
    cases b with
    | true =>
      refine w_region ?_
      refine o_t x_mv ?_
      refine o_t x_not ?_
      refine o_t x_mv ?_
      first | refine o_t (x_g (x_fa f38_0)) ?_ | refine o_t x_gs ?_ | refine o_t x_gu ?_
      first | refine o_t (x_g (x_lda g36)) ?_ | refine o_t x_gs ?_ | refine o_t x_gu ?_
      first | refine o_t x_gs ?_ | refine o_t x_gu ?_
      first | refine o_t (x_g x_not) ?_ | refine o_t x_gs ?_ | refine o_t x_gu ?_
      refine o_t x_pick ?_
      refine o_nil ?_
      refine w_cond (t := false) (fun g => rfl) (fun hc => ?_) (fun hc => ?_) -- ('Go.Operand.tmp', 25)
      · cases hc
      refine w_skip ?_
      exact ⟨(), wka, hka, hqr (.inl rfl)⟩
    | false =>
      have cs := cSimple (G := G) a.h hfa.1 hfa.2
      by_cases hfl : a.h.flags / 8 % 2 = 0
      · rw [decide_eq_true hfl] at cs
        refine w_region ?_
        refine o_t x_mv ?_
        refine o_t x_not ?_
        refine o_t x_mv ?_
        first | refine o_t (x_g (x_fa f38_0)) ?_ | refine o_t x_gs ?_ | refine o_t x_gu ?_
        first | refine o_t (x_g (x_ldaR (vs := hdC a.h) g36 (Rd.pull (r := pt b8 (enC a) 38) (Rd.pt 0 (hdC a.h) (fun i v h => by rw [Nat.zero_add, enC, List.getElem?_append_left (List.getElem?_eq_some_iff.1 h).1]; exact h)) (pulla)) rfl (fun j v h => by rw [Nat.zero_add]; exact h) rfl)) ?_ | refine o_t x_gs ?_ | refine o_t x_gu ?_
        first | (refine o_gy (?_); refine o_call Tryz.call31 haa spla (cs) ?_; rintro _ _ HH ⟨rfl, rfl⟩ hHH; simp only [List.cons_append, List.nil_append, List.append_nil] at hHH; subst hHH) | refine o_t x_gs ?_ | refine o_t x_gu ?_
        first | refine o_t (x_g x_not) ?_ | refine o_t x_gs ?_ | refine o_t x_gu ?_
        refine o_t x_pick ?_
        refine o_nil ?_
        refine w_cond (t := false) (fun g => rfl) (fun hc => ?_) (fun hc => ?_) -- ('Go.Operand.tmp', 25)
        · cases hc
        refine w_skip ?_
        exact ⟨(), wka, hka, hqr (.inr hfl)⟩
      · rw [decide_eq_false hfl] at cs
        refine w_region ?_
        refine o_t x_mv ?_
        refine o_t x_not ?_
        refine o_t x_mv ?_
        first | refine o_t (x_g (x_fa f38_0)) ?_ | refine o_t x_gs ?_ | refine o_t x_gu ?_
        first | refine o_t (x_g (x_ldaR (vs := hdC a.h) g36 (Rd.pull (r := pt b8 (enC a) 38) (Rd.pt 0 (hdC a.h) (fun i v h => by rw [Nat.zero_add, enC, List.getElem?_append_left (List.getElem?_eq_some_iff.1 h).1]; exact h)) (pulla)) rfl (fun j v h => by rw [Nat.zero_add]; exact h) rfl)) ?_ | refine o_t x_gs ?_ | refine o_t x_gu ?_
        first | (refine o_gy (?_); refine o_call Tryz.call31 haa spla (cs) ?_; rintro _ _ HH ⟨rfl, rfl⟩ hHH; simp only [List.cons_append, List.nil_append, List.append_nil] at hHH; subst hHH) | refine o_t x_gs ?_ | refine o_t x_gu ?_
        first | refine o_t (x_g x_not) ?_ | refine o_t x_gs ?_ | refine o_t x_gu ?_
        refine o_t x_pick ?_
        refine o_nil ?_
        refine w_cond (t := true) (fun g => rfl) (fun hc => ?_) (fun hc => ?_) -- ('Go.Operand.tmp', 25)
        case refine_2 => cases hc
        refine w_exit ?_ -- 1
        refine w_region ?_
        refine o_t x_add ?_
        refine o_t x_mv ?_
        refine o_nil ?_
        exact ⟨i + 1, wka, hka, by omega, by omega⟩
  rintro ⟨⟩ hrd
  have hcon := cContentOf (G := G) gl s body rs c z i q hq hrd
  rw [hqd] at hcon
  refine w_seq ?_
  refine w_region ?_
  refine o_t x_mv ?_
  refine o_t x_mv ?_
  refine o_call Tryz.call23 haa spla (hcon) ?_
  rintro _ _ HH ⟨rfl, rfl⟩ hHH
  simp only [List.cons_append, List.nil_append, List.append_nil] at hHH; subst hHH
  refine o_t x_mv ?_
  refine o_t x_ex ?_
  refine o_t x_ex ?_
  refine o_t x_as ?_
  refine o_t x_as ?_
  refine o_nil ?_
  refine w_seq ?_
  refine w_region ?_
  refine o_t x_mv ?_
  refine o_t (x_fa f38_1) ?_
  refine o_t (x_ld k9) ?_
  refine o_t x_nes ?_
  refine o_t x_mv ?_
  first | refine o_t (x_g x_mv) ?_ | refine o_t x_gs ?_ | refine o_t x_gu ?_
  first | refine o_t (x_g x_ne) ?_ | refine o_t x_gs ?_ | refine o_t x_gu ?_
  refine o_t x_pick ?_
  refine o_nil ?_
  refine w_cond (t := false) (fun g => rfl) (fun hc => ?_) (fun hc => ?_) -- ('Go.Operand.tmp', 39)
  · cases hc
  refine w_skip ?_
  refine w_region ?_
  refine o_t x_add ?_
  refine o_t x_mv ?_
  refine o_nil ?_
  exact ⟨i + 1, wka, hka, by omega, by omega⟩
/-- One file, named a, that holds b. -/
def hd1 : Hd := ⟨[97], [], [], false, 0, 0, 0, 0, 0, 0, 0, 0, 0, 0⟩
def en1 : En := ⟨hd1, [98]⟩
def lst1 : List En := [en1]
theorem fitsOne : fitsL lst1 := by
  refine ⟨by decide, fun e he => ?_⟩
  obtain rfl : e = en1 := by simpa [lst1] using he
  decide
theorem good1 : GoodP (lst1.map stored) [] := by
  refine ⟨fun e he => ?_, by decide, by decide, by kernel_rfl⟩
  obtain rfl : e = stored en1 := by simpa [lst1] using he
  refine ⟨?_, by decide⟩
  constructor <;> decide
theorem wok1 : ∀ e ∈ lst1, WOK e := by
  intro e he
  obtain rfl : e = en1 := by simpa [lst1] using he
  constructor <;> decide
theorem ends1 : ends (writeT lst1 []) = 1 := by kernel_rfl
theorem cReads (gl : Glob G ea) : Fn P G 8 #[] [] fun v H => v = .bool true ∧ H = [] := by
  obtain ⟨hz, hrs⟩ := zipA good1
  have hq := (hrs ⟨(stored en1).h, (stored en1).h, 0, [98]⟩ (by exact .head _) (fun e he => by
    obtain rfl : e = stored en1 := by simpa [lst1] using he
    exact fun h => absurd h (by decide))).2.2 rfl
  refine fn_intro (args := []) Tryz.func8 Tryz.ntmps8 rfl ?_
  refine w_seq ?_
  refine w_region ?_
  refine o_t x_as ?_
  refine o_nil ?_
  refine w_seq ?_
  refine w_region ?_
  refine o_t (x_bd hla bd36_0) ?_
  refine o_t (x_bd hla bd38_0_1) ?_
  refine o_bs1 Tryz.underlying22 z38 (fun b6 => ?_)
  refine o_call Tryz.call5 haa spla (cAllStored (.slice (some ⟨b6, 0, none⟩) 1 1) (pt b6 (enC en1) 38) lst1 ⟨rfl, .inr ⟨b6, 0, 1, rfl, Nat.le_refl _, Rd.all⟩⟩ fitsOne) ?_
  rintro _ _ HH ⟨r1, hO, rfl⟩ hHH
  simp only [List.cons_append, List.nil_append, List.append_nil] at hHH; subst hHH
  refine o_call Tryz.call10 haa spla (cArchive _ r1 (lst1.map stored) [] hO.arr good1.oks (by decide) (by decide)) ?_
  rintro _ _ HH ⟨rfl, rfl⟩ hHH
  simp only [List.cons_append, List.nil_append, List.append_nil] at hHH; subst hHH
  refine o_call Tryz.call23 haa spla (cContentOf gl _ _ _ _ hz 0 ⟨(stored en1).h, (stored en1).h, 0, [98]⟩ rfl hq) ?_
  rintro _ _ HH ⟨rfl, rfl⟩ hHH
  simp only [List.cons_append, List.nil_append, List.append_nil] at hHH; subst hHH
  refine o_t x_mv ?_
  refine o_t x_ex ?_
  refine o_t x_ex ?_
  refine o_t x_as ?_
  refine o_t x_as ?_
  refine o_nil ?_
  refine w_seq ?_
  refine w_region ?_
  refine o_t x_mv ?_
  refine o_t x_eqs ?_
  refine o_t x_mv ?_
  first | refine o_t (x_g x_mv) ?_ | refine o_t x_gs ?_ | refine o_t x_gu ?_
  first | refine o_t (x_g x_cmp) ?_ | refine o_t x_gs ?_ | refine o_t x_gu ?_
  refine o_t x_pick ?_
  refine o_t x_as ?_
  refine o_nil ?_
  refine w_ret (r_1 rfl ⟨rfl, rfl⟩)
theorem cWrites (gl : Glob G ea) : Fn P G 9 #[] [] fun v H => v = .bool true ∧ H = [] := by
  obtain ⟨hz, -⟩ := zipW wok1 (by decide) (by decide) ends1
  have hne : writeT lst1 [] ≠ [] := by decide
  obtain ⟨T, hT⟩ : ∃ T, writeT lst1 [] = T := ⟨_, rfl⟩
  have cw := fun v r hA => cWrite (G := G) gl v r lst1 [] hA wok1 (by decide) (by decide)
  rw [hT] at hz hne cw
  refine fn_intro (args := []) Tryz.func9 Tryz.ntmps9 rfl ?_
  refine w_seq ?_
  refine w_region ?_
  refine o_t x_as ?_
  refine o_nil ?_
  refine w_seq ?_
  refine w_region ?_
  refine o_t (x_bd hla bd36_0) ?_
  refine o_t (x_bd hla bd38_0_1) ?_
  refine o_bs1 Tryz.underlying22 z38 (fun b9 => ?_)
  refine o_call Tryz.call15 haa spla (cw (.slice (some ⟨b9, 0, none⟩) 1 1) (pt b9 (enC en1) 38) ⟨rfl, .inr ⟨b9, 0, 1, rfl, Nat.le_refl _, Rd.all⟩⟩) ?_
  rintro _ _ HH ⟨rfl, rfl⟩ hHH
  simp only [List.cons_append, List.nil_append, List.append_nil] at hHH; subst hHH
  refine o_t x_mv ?_
  refine o_t x_ex ?_
  refine o_t x_ex ?_
  refine o_t x_as ?_
  refine o_t x_as ?_
  refine o_nil ?_
  refine w_seq ?_
  refine w_region ?_
  refine o_t x_mv ?_
  refine o_call Tryz.call17 haa spla (cScan T _ _ _ hz) ?_
  rintro _ _ HH ⟨v1, r1, rfl, hO1, rfl⟩ hHH
  simp only [List.cons_append, List.nil_append, List.append_nil] at hHH; subst hHH
  refine o_t x_mv ?_
  refine o_t x_ex ?_
  refine o_t x_ex ?_
  refine o_t x_ex ?_
  refine o_t x_as ?_
  refine o_t x_as ?_
  refine o_t x_as ?_
  refine o_nil ?_
  refine w_seq ?_
  refine w_region ?_
  refine o_t x_mv ?_
  refine o_t x_mv ?_
  first | refine o_t (x_g x_mv) ?_ | refine o_t x_gs ?_ | refine o_t x_gu ?_
  refine o_t x_pick ?_
  refine o_t x_mv ?_
  first | refine o_t (x_g x_mv) ?_ | refine o_t x_gs ?_ | refine o_t x_gu ?_
  first | refine o_t (x_g (x_nes (r := true) (m := []) (hr := by rw [decide_eq_false hne]; rfl))) ?_ | refine o_t x_gs ?_ | refine o_t x_gu ?_
  refine o_t x_pick ?_
  refine o_t x_as ?_
  refine o_nil ?_
  refine w_ret (r_1 rfl ⟨rfl, rfl⟩)
end Go.Proofs.YtlmefkhglooepaaGreatDoor
namespace Go.Proofs.YtlmefkhglooepaaGreatDoor
open Go
set_option linter.unusedSimpArgs false
set_option linter.unusedVariables false
variable {G : Nat → Option Obj} {ea : Nat → Addr}
section
variable {P : Program} {n : Nat} {ops : Array Oper} {L : Loc} {H : List Res} {d : Nat} {x y : Operand} {ty t t' : TypeId} {p : String} {e : Array Edge} {a b r : Bool}
theorem x_bne (hi : P.underlying t = some .bool) (hx : ∀ g, evl L g x = .bool a := by intro g; rfl) (hy : ∀ g, evl L g y = .bool b := by intro g; rfl) (hr : (a != b) = r := by rfl) (hn : d < n := by decide) :
    Ex P n G ops L H ⟨some d, .binOp .neq t x y t', ty, p, e, none⟩ d (.bool r) :=
  .mk hn (fun _ _ g w _ => by
    subst hr
    have h0 := eqR (P := P) (t := t) (va := .bool a) (vb := .bool b) (r := a == b) (w := w) (fun d => by simp [Op.equalIn, run_underlying hi])
    cases a <;> cases b <;> simp [execOp, hx g, hy g, binOp, eqGuard, h0])
end
theorem fits_stored {l : List En} (h : fitsL l) : fitsL (l.map stored) := by
  refine ⟨by rw [List.length_map]; exact h.1, fun e he => ?_⟩
  obtain ⟨x, hx, rfl⟩ := List.mem_map.1 he
  exact h.2 x hx
theorem wok_stored {l : List En} {c : List UInt8} (h : GoodP l c) (hd : dirsOK l) : ∀ e ∈ l, WOK e := fun e he =>
  ⟨(h.oks e he).1.name, (h.oks e he).1.comment, (h.oks e he).2, (h.oks e he).1.ext, hd e he⟩
theorem read_listed (l : List En) : ∀ a, ((recsA l a).map fun r => readH r.h) = l.map listed := by
  induction l with
  | nil => intro a; rfl
  | cons e l ih => intro a; simp only [recsA, List.map_cons, ih]; rfl
theorem read_written : ∀ (l : List En) (a j : Nat) (e : En), l[j]? = some e → ((recsW l a).map fun r => readH r.h)[j]? = some (readH (hdW e))
  | [], _, _, _, h => by simp at h
  | x :: l, a, 0, e, h => by simp at h; subst h; rfl
  | x :: l, a, j + 1, e, h => by
    have := read_written l (a + (partW x).length) j e (by simpa using h)
    simpa [recsW] using this
theorem recC_one (r : ZR) : ∀ u ∈ recC r, u.oneCell' = true := by simp [recC, Value.oneCell']
theorem recC_length (r : ZR) : (recC r).length = 16 := rfl
theorem recs_get : ∀ (l : List ZR) (i : Nat) (e : ZR), l[i]? = some e → ∀ j v, (recC e)[j]? = some v → (recsC l)[i * 16 + j]? = some v
  | [], i, e, h => by simp at h
  | a :: l, 0, e, h => by
    intro j v hj
    simp at h; subst h
    have : j < 16 := (List.getElem?_eq_some_iff.1 hj).1
    rw [recsC, List.flatMap_cons, List.getElem?_append_left (by rw [recC_length]; omega)]
    simpa using hj
  | a :: l, i + 1, e, h => by
    intro j v hj
    have := recs_get l i e (by simpa using h) j v hj
    rw [recsC, List.flatMap_cons, List.getElem?_append_right (by rw [recC_length]; omega), recC_length, show (i + 1) * 16 + j - 16 = i * 16 + j by omega]
    exact this
section
variable {n : Nat} {ops : Array Oper} {L : Loc} {H R : List Res} {d : Nat} {x : Operand} {ty : TypeId} {p : String} {e : Array Edge}
theorem x_ldZ {b o i : Nat} {l : List ZR} {a : ZR} (hr : Rd G H b o (recsC l)) (he : l[i]? = some a) (hx : ∀ g, evl L g x = .pointer (some ⟨b, o + i * 16, none⟩) := by intro g; rfl) (hn : d < n := by decide) :
    Ex P n G ops L H ⟨some d, .load 46 x, ty, p, e, none⟩ d (recV a.h a.pos a.data) :=
  x_ldaR (vs := recC a) g46 hr rfl (recs_get l i a he) rfl hx hn
end
theorem flags_bit (h : Hd) : decide (((flagsW h : Nat) : Int) / 2048 % 2 = 1) = ((validT h.name).1 && (validT h.comment).1 && ((validT h.name).2 || (validT h.comment).2) && !h.non) := by
  have h1 : reqW h = ((validT h.name).1 && (validT h.comment).1 && ((validT h.name).2 || (validT h.comment).2)) := rfl
  rw [← h1, flagsW]
  cases h.non <;> cases reqW h <;> cases isDir h.name <;> rfl
theorem leaves (q1 q2 q3 q4 n : Bool) : (q1 = false) ∨ (q1 = true ∧ q3 = false) ∨ (q1 = true ∧ q3 = true ∧ q2 = true ∧ n = false) ∨ (q1 = true ∧ q3 = true ∧ q2 = true ∧ n = true) ∨ (q1 = true ∧ q3 = true ∧ q2 = false ∧ q4 = false) ∨ (q1 = true ∧ q3 = true ∧ q2 = false ∧ q4 = true ∧ n = false) ∨ (q1 = true ∧ q3 = true ∧ q2 = false ∧ q4 = true ∧ n = true) := by
  cases q1 <;> cases q2 <;> cases q3 <;> cases q4 <;> cases n <;> simp
end Go.Proofs.YtlmefkhglooepaaGreatDoor
