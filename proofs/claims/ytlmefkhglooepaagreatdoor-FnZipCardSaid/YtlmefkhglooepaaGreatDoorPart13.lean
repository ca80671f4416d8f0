/- The law holds. -/
import Derived.Test.YtlmefkhglooepaaGreatDoorPart12
set_option linter.unusedSimpArgs false
set_option linter.unusedVariables false
namespace Go.Proofs.YtlmefkhglooepaaGreatDoor
open Go
set_option linter.unusedSimpArgs false
set_option linter.unusedVariables false
variable {G : Nat → Option Obj} {ea : Nat → Addr}
theorem fn_yes {f : FuncId} {vs : Array Value} {H : List Res} {p : Prop} (h : Fn P G f vs H fun v' H' => (∃ b, v' = .bool b ∧ (b = true ↔ p)) ∧ H' = H) (hp : p) : Fn P G f vs H fun v' H' => v' = .bool true ∧ H' = H := by
  refine h.conv (HWk.refl _) ?_
  rintro v H' ⟨⟨b, rfl, hb⟩, rfl⟩
  exact ⟨_, HWk.refl _, by rw [hb.2 hp], rfl⟩
theorem fn_no {f : FuncId} {vs : Array Value} {H : List Res} {p : Prop} (h : Fn P G f vs H fun v' H' => (∃ b, v' = .bool b ∧ (b = true ↔ p)) ∧ H' = H) (hp : ¬ p) : Fn P G f vs H fun v' H' => v' = .bool false ∧ H' = H := by
  refine h.conv (HWk.refl _) ?_
  rintro v H' ⟨⟨b, rfl, hb⟩, rfl⟩
  refine ⟨_, HWk.refl _, ?_, rfl⟩
  cases b
  · rfl
  · exact absurd (hb.1 rfl) hp
theorem cFnZip (gl : Glob G ea) (v : Value) (r : Res) (l0 : List En) (c : List UInt8) (hA : Arr G r v 15 l0.length (entsC l0)) :
    Fn P G 3 #[v, .string (str c)] [r] fun v' H => v' = .bool true := by
  have c4 := cFits1 (G := G) v r l0 hA
  refine fn_intro (args := [_,_]) Tryz.func3 Tryz.ntmps3 rfl ?_
  refine w_seq ?_
  refine w_region ?_
  refine o_t x_as ?_
  refine o_nil ?_
  refine w_seq ?_
  refine w_seq ?_
  by_cases hf : fitsL l0
  case neg =>
    have c4n := fn_no c4 hf
    refine w_region ?_
    refine o_t x_mv ?_
    refine o_call Tryz.call4 haa spla (c4n) ?_
    rintro _ _ HH ⟨rfl, rfl⟩ hHH
    simp only [List.cons_append, List.nil_append, List.append_nil] at hHH; subst hHH
    refine o_t x_not ?_
    refine o_t x_mv ?_
    first | refine o_t (x_g x_mv) ?_ | refine o_t x_gs ?_ | refine o_t x_gu ?_
    first | refine o_t (x_g (x_lens Tryz.underlying9)) ?_ | refine o_t x_gs ?_ | refine o_t x_gu ?_
    first | refine o_t (x_g x_cmp) ?_ | refine o_t x_gs ?_ | refine o_t x_gu ?_
    refine o_t x_pick ?_
    refine o_nil ?_
    refine w_cond (t := true) (fun g => rfl) (fun hc => ?_) (fun hc => ?_) -- ('Go.Operand.tmp', 29)
    case refine_2 => cases hc
    refine w_seq ?_
    refine w_region ?_
    refine o_t x_as ?_
    refine o_nil ?_
    refine w_ret (r_1 rfl rfl)
  have c4y := fn_yes c4 hf
  by_cases hcb : c.length ≤ 2147483647
  case neg =>
    refine w_region ?_
    refine o_t x_mv ?_
    refine o_call Tryz.call4 haa spla (c4y) ?_
    rintro _ _ HH ⟨rfl, rfl⟩ hHH
    simp only [List.cons_append, List.nil_append, List.append_nil] at hHH; subst hHH
    refine o_t x_not ?_
    refine o_t x_mv ?_
    first | refine o_t (x_g x_mv) ?_ | refine o_t x_gs ?_ | refine o_t x_gu ?_
    first | refine o_t (x_g (x_lens Tryz.underlying9)) ?_ | refine o_t x_gs ?_ | refine o_t x_gu ?_
    first | refine o_t (x_g x_cmp) ?_ | refine o_t x_gs ?_ | refine o_t x_gu ?_
    refine o_t x_pick ?_
    refine o_nil ?_
    refine w_cond (t := true) (fun g => rfl) (fun hc => ?_) (fun hc => ?_) -- ('Go.Operand.tmp', 29)
    case refine_2 => cases hc
    refine w_seq ?_
    refine w_region ?_
    refine o_t x_as ?_
    refine o_nil ?_
    refine w_ret (r_1 rfl rfl)
  refine w_region ?_
  refine o_t x_mv ?_
  refine o_call Tryz.call4 haa spla (c4y) ?_
  rintro _ _ HH ⟨rfl, rfl⟩ hHH
  simp only [List.cons_append, List.nil_append, List.append_nil] at hHH; subst hHH
  refine o_t x_not ?_
  refine o_t x_mv ?_
  first | refine o_t (x_g x_mv) ?_ | refine o_t x_gs ?_ | refine o_t x_gu ?_
  first | refine o_t (x_g (x_lens Tryz.underlying9)) ?_ | refine o_t x_gs ?_ | refine o_t x_gu ?_
  first | refine o_t (x_g x_cmp) ?_ | refine o_t x_gs ?_ | refine o_t x_gu ?_
  refine o_t x_pick ?_
  refine o_nil ?_
  refine w_cond (t := false) (fun g => rfl) (fun hc => ?_) (fun hc => ?_) -- ('Go.Operand.tmp', 29)
  · cases hc
  refine w_skip ?_
  refine w_seq ?_
  refine w_region ?_
  refine o_t x_mv ?_
  refine o_call Tryz.call5 haa spla (cAllStored v r l0 hA hf) ?_
  rintro _ _ HH ⟨r', hO, rfl⟩ hHH
  simp only [List.cons_append, List.nil_append, List.append_nil] at hHH; subst hHH
  refine o_t x_as ?_
  refine o_nil ?_
  rename_i v0
  have hf' := fits_stored hf
  have hll : (l0.map stored).length = l0.length := List.length_map ..
  rw [← hll] at hO
  have hzA := fun h => zipA (l := l0) (c := c) h
  obtain ⟨l, hl0⟩ : ∃ l, l0.map stored = l := ⟨_, rfl⟩
  rw [hl0] at hO hf' hzA
  have hA' := hO.arr (G := G)
  have c6 := cGood (G := G) v0 r' l c hA' hf' hcb
  have c7 := cDirectories (G := G) v0 r' l hA' hf'
  refine w_seq ?_
  refine w_seq ?_
  by_cases hg : GoodP l c
  case neg =>
    have c6n := fn_no c6 hg
    refine w_region ?_
    refine o_t x_mv ?_
    refine o_t x_mv ?_
    refine o_call Tryz.call6 haa spla (c6n) ?_
    rintro _ _ HH ⟨rfl, rfl⟩ hHH
    simp only [List.cons_append, List.nil_append, List.append_nil] at hHH; subst hHH
    refine o_t x_not ?_
    refine o_t x_mv ?_
    first | refine o_t (x_g x_mv) ?_ | refine o_t x_gs ?_ | refine o_t x_gu ?_
    first | refine o_t x_gs ?_ | refine o_t x_gu ?_
    first | refine o_t (x_g x_not) ?_ | refine o_t x_gs ?_ | refine o_t x_gu ?_
    refine o_t x_pick ?_
    refine o_nil ?_
    refine w_cond (t := true) (fun g => rfl) (fun hc => ?_) (fun hc => ?_) -- ('Go.Operand.tmp', 40)
    case refine_2 => cases hc
    refine w_seq ?_
    refine w_region ?_
    refine o_call Tryz.call8 haa spla (cReads gl) ?_
    rintro _ _ HH ⟨rfl, rfl⟩ hHH
    simp only [List.cons_append, List.nil_append, List.append_nil] at hHH; subst hHH
    refine o_t x_mv ?_
    first | (refine o_gy (?_); refine o_call Tryz.call9 haa spla (cWrites gl) ?_; rintro _ _ HH ⟨rfl, rfl⟩ hHH; simp only [List.cons_append, List.nil_append, List.append_nil] at hHH; subst hHH) | refine o_t x_gs ?_ | refine o_t x_gu ?_
    refine o_t x_pick ?_
    refine o_t x_as ?_
    refine o_nil ?_
    refine w_ret (r_1 rfl rfl)
  have c6y := fn_yes c6 hg
  by_cases hd : dirsOK l
  case neg =>
    have c7n := fn_no c7 hd
    refine w_region ?_
    refine o_t x_mv ?_
    refine o_t x_mv ?_
    refine o_call Tryz.call6 haa spla (c6y) ?_
    rintro _ _ HH ⟨rfl, rfl⟩ hHH
    simp only [List.cons_append, List.nil_append, List.append_nil] at hHH; subst hHH
    refine o_t x_not ?_
    refine o_t x_mv ?_
    first | refine o_t (x_g x_mv) ?_ | refine o_t x_gs ?_ | refine o_t x_gu ?_
    first | (refine o_gy (?_); refine o_call Tryz.call7 haa spla (c7n) ?_; rintro _ _ HH ⟨rfl, rfl⟩ hHH; simp only [List.cons_append, List.nil_append, List.append_nil] at hHH; subst hHH) | refine o_t x_gs ?_ | refine o_t x_gu ?_
    first | refine o_t (x_g x_not) ?_ | refine o_t x_gs ?_ | refine o_t x_gu ?_
    refine o_t x_pick ?_
    refine o_nil ?_
    refine w_cond (t := true) (fun g => rfl) (fun hc => ?_) (fun hc => ?_) -- ('Go.Operand.tmp', 40)
    case refine_2 => cases hc
    refine w_seq ?_
    refine w_region ?_
    refine o_call Tryz.call8 haa spla (cReads gl) ?_
    rintro _ _ HH ⟨rfl, rfl⟩ hHH
    simp only [List.cons_append, List.nil_append, List.append_nil] at hHH; subst hHH
    refine o_t x_mv ?_
    first | (refine o_gy (?_); refine o_call Tryz.call9 haa spla (cWrites gl) ?_; rintro _ _ HH ⟨rfl, rfl⟩ hHH; simp only [List.cons_append, List.nil_append, List.append_nil] at hHH; subst hHH) | refine o_t x_gs ?_ | refine o_t x_gu ?_
    refine o_t x_pick ?_
    refine o_t x_as ?_
    refine o_nil ?_
    refine w_ret (r_1 rfl rfl)
  have c7y := fn_yes c7 hd
  refine w_region ?_
  refine o_t x_mv ?_
  refine o_t x_mv ?_
  refine o_call Tryz.call6 haa spla (c6y) ?_
  rintro _ _ HH ⟨rfl, rfl⟩ hHH
  simp only [List.cons_append, List.nil_append, List.append_nil] at hHH; subst hHH
  refine o_t x_not ?_
  refine o_t x_mv ?_
  first | refine o_t (x_g x_mv) ?_ | refine o_t x_gs ?_ | refine o_t x_gu ?_
  first | (refine o_gy (?_); refine o_call Tryz.call7 haa spla (c7y) ?_; rintro _ _ HH ⟨rfl, rfl⟩ hHH; simp only [List.cons_append, List.nil_append, List.append_nil] at hHH; subst hHH) | refine o_t x_gs ?_ | refine o_t x_gu ?_
  first | refine o_t (x_g x_not) ?_ | refine o_t x_gs ?_ | refine o_t x_gu ?_
  refine o_t x_pick ?_
  refine o_nil ?_
  refine w_cond (t := false) (fun g => rfl) (fun hc => ?_) (fun hc => ?_) -- ('Go.Operand.tmp', 40)
  · cases hc
  refine w_skip ?_
  obtain ⟨hz, hrs⟩ := hzA hg
  have hmany := hg.many
  have hlen := archT_len hg.oks hg.many hg.com
  have hwo := wok_stored hg hd
  have e1 := read_listed l 0
  have e2 : (recsA l 0).length = l.length := by simpa using congrArg List.length e1
  obtain ⟨s, hs⟩ : ∃ s, archT l c = s := ⟨_, rfl⟩
  rw [hs] at hz hrs hlen
  have cA := cArchive (G := G) v0 r' l c hA' hg.oks (by omega) hcb
  rw [hs] at cA
  refine w_weak (L' := [(0, v0), (1, .string (str c))]) (H' := [r']) wka hka ?_
  refine w_seq ?_
  refine w_region ?_
  refine o_t x_mv ?_
  refine o_t x_mv ?_
  refine o_call Tryz.call10 haa spla (cA) ?_
  rintro _ _ HH ⟨rfl, rfl⟩ hHH
  simp only [List.cons_append, List.nil_append, List.append_nil] at hHH; subst hHH
  refine o_t x_as ?_
  refine o_nil ?_
  have hfl : ∀ e ∈ l, 0 ≤ e.h.flags ∧ e.h.flags ≤ 65535 := fun e he => (hg.oks e he).1.flags
  have hH1 : ∀ (j : Nat) (e : En), l[j]? = some e → ∃ q, (recsA l 0)[j]? = some q ∧ q.data = e.data ∧ ((false = true ∨ e.h.flags / 8 % 2 = 0) → Readable s q) := by
    intro j e he
    obtain ⟨pos, hp⟩ := recsA_get l 0 j e he
    refine ⟨_, hp, rfl, fun h => ?_⟩
    rcases h with h | h
    · cases h
    · exact (hrs _ (List.mem_of_getElem? hp) hd).2.2 h
  have cSm : ∀ v1 v2 r1 r2 (h1 : Own 36 14 v1 (recsA l 0).length (hdsC ((recsA l 0).map fun r => readH r.h)) r1) (h2 : Own 36 14 v2 l.length (hdsC (l.map listed)) r2),
      Fn P G 11 #[.agg #[.bool true, .string (str c), v1], v2, .string (str c)] [r1, r2] fun v' H => v' = .bool true ∧ H = [r1, r2] := by
    intro v1 v2 r1 r2 h1 h2
    have h3 := h1.arr (G := G)
    have h4 := h2.arr (G := G)
    rw [e1, e2] at h3
    exact cSame v1 v2 r1 r2 (l.map listed) c (by rw [List.length_map]; exact h3) (by rw [List.length_map]; exact h4) (by rw [List.length_map]; exact hmany)
  refine w_seq ?_
  refine w_seq ?_
  refine w_region ?_
  refine o_t x_mv ?_
  refine o_call Tryz.call12 haa spla (cRead gl s _ _ c hz) ?_
  rintro _ _ HH ⟨v1, r1, rfl, hO1, rfl⟩ hHH
  simp only [List.cons_append, List.nil_append, List.append_nil] at hHH; subst hHH
  refine o_t x_mv ?_
  refine o_call Tryz.call13 haa spla (cListed v0 r' l hA' hg.oks hmany) ?_
  rintro _ _ HH ⟨r2, hO2, rfl⟩ hHH
  simp only [List.cons_append, List.nil_append, List.append_nil] at hHH; subst hHH
  refine o_t x_mv ?_
  refine o_call Tryz.call11 haa spla (cSm _ _ _ _ hO1 hO2) ?_
  rintro _ _ HH ⟨rfl, rfl⟩ hHH
  simp only [List.cons_append, List.nil_append, List.append_nil] at hHH; subst hHH
  refine o_t x_not ?_
  refine o_t x_mv ?_
  first | refine o_t (x_g x_mv) ?_ | refine o_t x_gs ?_ | refine o_t x_gu ?_
  first | refine o_t (x_g x_mv) ?_ | refine o_t x_gs ?_ | refine o_t x_gu ?_
  first | (refine o_gy (?_); refine o_call Tryz.call14 haa spla (cHolds gl s _ _ c hz v0 r' l false hA' hmany hfl hH1) ?_; rintro _ _ HH ⟨rfl, rfl⟩ hHH; simp only [List.cons_append, List.nil_append, List.append_nil] at hHH; subst hHH) | refine o_t x_gs ?_ | refine o_t x_gu ?_
  first | refine o_t (x_g x_not) ?_ | refine o_t x_gs ?_ | refine o_t x_gu ?_
  refine o_t x_pick ?_
  refine o_nil ?_
  refine w_cond (t := false) (fun g => rfl) (fun hc => ?_) (fun hc => ?_) -- ('Go.Operand.tmp', 60)
  · cases hc
  refine w_skip ?_
  clear cSm hz hrs hH1 e1 e2 cA c6y c7y c6 c7 c4 c4y
  have hv0 := hO.one
  obtain ⟨T, hT⟩ : ∃ T, writeT l c = T := ⟨_, rfl⟩
  have hzW := fun h => zipW (l := l) (c := c) hwo hmany hg.com h
  have cW := cWrite (G := G) gl v0 r' l c hA' hwo hmany hg.com
  have hTl : T.length < 4611686018427387904 := by
    have hbl := bodyW_len hwo
    have hdl := dirW_len hwo 0
    have hcc := hg.com
    rw [← hT]
    simp only [writeT, List.length_append, endT_length]; omega
  rw [hT] at hzW cW
  obtain ⟨a0, cap0, hv0l⟩ := hO.len
  refine w_weak (L' := [(0, v0), (1, .string (str c))]) (H' := [r']) wka hka ?_
  refine w_seq ?_
  refine w_seq ?_
  refine w_region ?_
  refine o_t x_mv ?_
  refine o_t (x_lenb (a' := a0) (len := l.length) (cap := cap0) Tryz.underlying22 (hx := fun g => hv0l)) ?_
  refine o_t x_mv ?_
  refine o_nil ?_
  refine w_block ?_ -- 0
  refine w_loop (α := Nat) (fun x => [(0, v0), (1, .string (str c)), (61, v0), (62, .int .i64 l.length), (63, .int .i64 x)]) (fun x => [r']) (fun x => x ≤ l.length) (fun x => l.length - x) 0 (wka) (hka) (Nat.zero_le _) ?_
  intro i hi
  refine w_seq ?_
  by_cases hil : i < l.length
  case pos =>
    refine w_region ?_
    refine o_t x_cmp ?_
    refine o_nil ?_
    refine w_seq ?_
    refine w_cond (t := true) (fun g => rfl) (fun hc => ?_) (fun hc => ?_) -- ('Go.Operand.tmp', 64)
    case refine_2 => cases hc
    refine w_skip ?_
    have he : l[i]? = some l[i] := List.getElem?_eq_getElem hil
    obtain ⟨a, hga⟩ : ∃ a, l[i] = a := ⟨_, rfl⟩
    rw [hga] at he
    have hwa := hwo a (List.mem_of_getElem? he)
    have hn1 := hwa.name
    have hn2 := hwa.comment
    have hn3 := hwa.data
    have hn4 := hwa.ext
    obtain ⟨bo, oo, co, rfl, hco, hrd⟩ := hA'.some (by omega)
    refine w_seq ?_
    refine w_block ?_ -- 1
    refine w_seq ?_
    refine w_region ?_
    refine o_t (x_ia (m := oo + i * 15) Tryz.underlying22 e22 (hm := by omega)) ?_
    refine o_t (x_ldE (hrd.pull (pulla)) he) ?_
    refine o_al z38 (fun b7 => ?_)
    refine o_sta g38 ?_
    refine o_nil ?_
    refine w_seq ?_
    refine w_region ?_
    refine o_t (x_fa f38_0) ?_
    refine o_t (x_fa f36_0) ?_
    refine o_t (x_ld k9) ?_
    refine o_t (x_lens Tryz.underlying9) ?_
    refine o_t x_cmp ?_
    refine o_t x_mv ?_
    first | refine o_t (x_g (x_fa f38_0)) ?_ | refine o_t x_gs ?_ | refine o_t x_gu ?_
    first | refine o_t (x_g (x_fa f36_1)) ?_ | refine o_t x_gs ?_ | refine o_t x_gu ?_
    first | refine o_t (x_g (x_ld k9)) ?_ | refine o_t x_gs ?_ | refine o_t x_gu ?_
    first | refine o_t (x_g (x_lens Tryz.underlying9)) ?_ | refine o_t x_gs ?_ | refine o_t x_gu ?_
    first | refine o_t (x_g x_cmp) ?_ | refine o_t x_gs ?_ | refine o_t x_gu ?_
    refine o_t x_pick ?_
    refine o_t x_mv ?_
    first | refine o_t (x_g (x_fa f38_1)) ?_ | refine o_t x_gs ?_ | refine o_t x_gu ?_
    first | refine o_t (x_g (x_ld k9)) ?_ | refine o_t x_gs ?_ | refine o_t x_gu ?_
    first | refine o_t (x_g (x_lens Tryz.underlying9)) ?_ | refine o_t x_gs ?_ | refine o_t x_gu ?_
    first | refine o_t (x_g x_cmp) ?_ | refine o_t x_gs ?_ | refine o_t x_gu ?_
    refine o_t x_pick ?_
    refine o_t x_mv ?_
    first | refine o_t (x_g (x_fa f38_0)) ?_ | refine o_t x_gs ?_ | refine o_t x_gu ?_
    first | refine o_t (x_g (x_fa f36_13)) ?_ | refine o_t x_gs ?_ | refine o_t x_gu ?_
    first | refine o_t (x_g (x_ld k3)) ?_ | refine o_t x_gs ?_ | refine o_t x_gu ?_
    first | refine o_t (x_g x_cmp) ?_ | refine o_t x_gs ?_ | refine o_t x_gu ?_
    refine o_t x_pick ?_
    refine o_t x_mv ?_
    first | refine o_t (x_g (x_fa f38_0)) ?_ | refine o_t x_gs ?_ | refine o_t x_gu ?_
    first | refine o_t (x_g (x_fa f36_13)) ?_ | refine o_t x_gs ?_ | refine o_t x_gu ?_
    first | refine o_t (x_g (x_ld k3)) ?_ | refine o_t x_gs ?_ | refine o_t x_gu ?_
    first | refine o_t (x_g x_cmp) ?_ | refine o_t x_gs ?_ | refine o_t x_gu ?_
    refine o_t x_pick ?_
    refine o_nil ?_
    refine w_cond (t := false) (fun g => rfl) (fun hc => ?_) (fun hc => ?_) -- ('Go.Operand.tmp', 96)
    · cases hc
    refine w_skip ?_
    refine w_region ?_
    refine o_t x_add ?_
    refine o_t x_mv ?_
    refine o_nil ?_
    exact ⟨i + 1, wka, hka, by omega, by omega⟩
  obtain rfl : i = l.length := by omega
  refine w_region ?_
  refine o_t x_cmp ?_
  refine o_nil ?_
  refine w_seq ?_
  refine w_cond (t := false) (fun g => rfl) (fun hc => ?_) (fun hc => ?_) -- ('Go.Operand.tmp', 64)
  · cases hc
  refine w_exit ?_ -- 0
  refine w_seq ?_
  refine w_region ?_
  refine o_t x_mv ?_
  refine o_t x_mv ?_
  refine o_call Tryz.call15 haa spla (cW) ?_
  rintro _ _ HH ⟨rfl, rfl⟩ hHH
  simp only [List.cons_append, List.nil_append, List.append_nil] at hHH; subst hHH
  refine o_t x_mv ?_
  refine o_t x_ex ?_
  refine o_t x_ex ?_
  refine o_t x_as ?_
  refine o_t x_as ?_
  refine o_nil ?_
  refine w_seq ?_
  refine w_seq ?_
  by_cases hends : ends T = 1
  case neg =>
    refine w_region ?_
    refine o_t x_mv ?_
    refine o_t (x_lenb (a' := a0) (len := l.length) (cap := cap0) Tryz.underlying22 (hx := fun g => hv0l)) ?_
    refine o_t x_cmp ?_
    refine o_t x_mv ?_
    first | refine o_t (x_g x_mv) ?_ | refine o_t x_gs ?_ | refine o_t x_gu ?_
    first | (refine o_gy (?_); refine o_call Tryz.call16 haa spla (cEnds T hTl) ?_; rintro _ _ HH ⟨rfl, rfl⟩ hHH; simp only [List.cons_append, List.nil_append, List.append_nil] at hHH; subst hHH) | refine o_t x_gs ?_ | refine o_t x_gu ?_
    first | refine o_t (x_g (x_ne (r := true) (hr := by rw [decide_eq_false (by omega)]; rfl))) ?_ | refine o_t x_gs ?_ | refine o_t x_gu ?_
    refine o_t x_pick ?_
    refine o_nil ?_
    refine w_cond (t := true) (fun g => rfl) (fun hc => ?_) (fun hc => ?_) -- ('Go.Operand.tmp', 115)
    case refine_2 => cases hc
    refine w_seq ?_
    refine w_region ?_
    refine o_t x_mv ?_
    refine o_t x_mv ?_
    first | (refine o_gy (?_); refine o_call Tryz.call8 haa spla (cReads gl) ?_; rintro _ _ HH ⟨rfl, rfl⟩ hHH; simp only [List.cons_append, List.nil_append, List.append_nil] at hHH; subst hHH) | refine o_t x_gs ?_ | refine o_t x_gu ?_
    refine o_t x_pick ?_
    refine o_t x_mv ?_
    first | (refine o_gy (?_); refine o_call Tryz.call9 haa spla (cWrites gl) ?_; rintro _ _ HH ⟨rfl, rfl⟩ hHH; simp only [List.cons_append, List.nil_append, List.append_nil] at hHH; subst hHH) | refine o_t x_gs ?_ | refine o_t x_gu ?_
    refine o_t x_pick ?_
    refine o_t x_as ?_
    refine o_nil ?_
    refine w_ret (r_1 rfl rfl)
  refine w_region ?_
  refine o_t x_mv ?_
  refine o_t (x_lenb (a' := a0) (len := l.length) (cap := cap0) Tryz.underlying22 (hx := fun g => hv0l)) ?_
  refine o_t x_cmp ?_
  refine o_t x_mv ?_
  first | refine o_t (x_g x_mv) ?_ | refine o_t x_gs ?_ | refine o_t x_gu ?_
  first | (refine o_gy (?_); refine o_call Tryz.call16 haa spla (cEnds T hTl) ?_; rintro _ _ HH ⟨rfl, rfl⟩ hHH; simp only [List.cons_append, List.nil_append, List.append_nil] at hHH; subst hHH) | refine o_t x_gs ?_ | refine o_t x_gu ?_
  first | refine o_t (x_g (x_ne (r := false) (hr := by rw [decide_eq_true (by omega)]; rfl))) ?_ | refine o_t x_gs ?_ | refine o_t x_gu ?_
  refine o_t x_pick ?_
  refine o_nil ?_
  refine w_cond (t := false) (fun g => rfl) (fun hc => ?_) (fun hc => ?_) -- ('Go.Operand.tmp', 115)
  · cases hc
  refine w_skip ?_
  obtain ⟨hz, hrs⟩ := hzW hends
  refine w_seq ?_
  refine w_region ?_
  refine o_t x_mv ?_
  refine o_call Tryz.call17 haa spla (cScan T _ _ c hz) ?_
  rintro _ _ HH ⟨v1, r1, rfl, hO1, rfl⟩ hHH
  simp only [List.cons_append, List.nil_append, List.append_nil] at hHH; subst hHH
  refine o_t x_mv ?_
  refine o_t x_ex ?_
  refine o_t x_ex ?_
  refine o_t x_ex ?_
  refine o_t x_as ?_
  refine o_t x_as ?_
  refine o_t x_as ?_
  refine o_nil ?_
  refine w_seq ?_
  refine w_region ?_
  refine o_t x_mv ?_
  refine o_call Tryz.call12 haa spla (cRead gl T _ _ c hz) ?_
  rintro _ _ HH ⟨v2, r2, rfl, hO2, rfl⟩ hHH
  simp only [List.cons_append, List.nil_append, List.append_nil] at hHH; subst hHH
  refine o_al z31 (fun b13 => ?_)
  refine o_sta g31 ?_ (h1 := fun u hu => by simp at hu; rcases hu with rfl | rfl | rfl <;> first | rfl | exact hO2.one)
  refine o_nil ?_
  have er1 : (recsW l 0).length = l.length := recsW_length l 0
  rw [er1] at hO1 hO2
  obtain ⟨a1, cap1, hv1l⟩ := hO1.len
  obtain ⟨a2, cap2, hv2l⟩ := hO2.len
  refine w_weak (L' := [(0, v0), (1, .string (str c)), (8, .string (str T)), (9, .bool true), (10, v1), (11, .string (str c)), (12, .bool true), (13, .pointer (some ⟨b13, 0, none⟩))]) (H' := [r', r1, pt b13 [.bool true, .string (str c), v2] 31, r2]) wka hka ?_
  refine w_seq ?_
  refine w_seq ?_
  refine w_region ?_
  refine o_t x_mv ?_
  refine o_t x_not ?_
  refine o_t x_mv ?_
  first | refine o_t (x_g x_mv) ?_ | refine o_t x_gs ?_ | refine o_t x_gu ?_
  first | refine o_t (x_g x_not) ?_ | refine o_t x_gs ?_ | refine o_t x_gu ?_
  refine o_t x_pick ?_
  refine o_t x_mv ?_
  first | refine o_t (x_g (x_fa f31_0)) ?_ | refine o_t x_gs ?_ | refine o_t x_gu ?_
  first | refine o_t (x_g (x_ld k4)) ?_ | refine o_t x_gs ?_ | refine o_t x_gu ?_
  first | refine o_t (x_g x_not) ?_ | refine o_t x_gs ?_ | refine o_t x_gu ?_
  refine o_t x_pick ?_
  refine o_t x_mv ?_
  first | refine o_t (x_g x_mv) ?_ | refine o_t x_gs ?_ | refine o_t x_gu ?_
  first | refine o_t (x_g x_mv) ?_ | refine o_t x_gs ?_ | refine o_t x_gu ?_
  first | refine o_t (x_g x_nes) ?_ | refine o_t x_gs ?_ | refine o_t x_gu ?_
  refine o_t x_pick ?_
  refine o_t x_mv ?_
  first | refine o_t (x_g (x_fa f31_1)) ?_ | refine o_t x_gs ?_ | refine o_t x_gu ?_
  first | refine o_t (x_g (x_ld k9)) ?_ | refine o_t x_gs ?_ | refine o_t x_gu ?_
  first | refine o_t (x_g x_mv) ?_ | refine o_t x_gs ?_ | refine o_t x_gu ?_
  first | refine o_t (x_g x_nes) ?_ | refine o_t x_gs ?_ | refine o_t x_gu ?_
  refine o_t x_pick ?_
  refine o_t x_mv ?_
  first | refine o_t (x_g x_mv) ?_ | refine o_t x_gs ?_ | refine o_t x_gu ?_
  first | refine o_t (x_g (x_lenb (a' := a1) (len := l.length) (cap := cap1) Tryz.underlying42 (hx := fun g => hv1l))) ?_ | refine o_t x_gs ?_ | refine o_t x_gu ?_
  first | refine o_t (x_g x_mv) ?_ | refine o_t x_gs ?_ | refine o_t x_gu ?_
  first | refine o_t (x_g (x_lenb (a' := a0) (len := l.length) (cap := cap0) Tryz.underlying22 (hx := fun g => hv0l))) ?_ | refine o_t x_gs ?_ | refine o_t x_gu ?_
  first | refine o_t (x_g x_ne) ?_ | refine o_t x_gs ?_ | refine o_t x_gu ?_
  refine o_t x_pick ?_
  refine o_t x_mv ?_
  first | refine o_t (x_g (x_fa f31_2)) ?_ | refine o_t x_gs ?_ | refine o_t x_gu ?_
  first | refine o_t (x_g (x_ld k29)) ?_ | refine o_t x_gs ?_ | refine o_t x_gu ?_
  first | refine o_t (x_g (x_lenb (a' := a2) (len := l.length) (cap := cap2) Tryz.underlying29 (hx := fun g => hv2l))) ?_ | refine o_t x_gs ?_ | refine o_t x_gu ?_
  first | refine o_t (x_g x_mv) ?_ | refine o_t x_gs ?_ | refine o_t x_gu ?_
  first | refine o_t (x_g (x_lenb (a' := a0) (len := l.length) (cap := cap0) Tryz.underlying22 (hx := fun g => hv0l))) ?_ | refine o_t x_gs ?_ | refine o_t x_gu ?_
  first | refine o_t (x_g x_ne) ?_ | refine o_t x_gs ?_ | refine o_t x_gu ?_
  refine o_t x_pick ?_
  refine o_nil ?_
  refine w_cond (t := false) (fun g => rfl) (fun hc => ?_) (fun hc => ?_) -- ('Go.Operand.tmp', 167)
  · cases hc
  refine w_skip ?_
  refine w_seq ?_
  refine w_seq ?_
  refine w_region ?_
  refine o_t x_mv ?_
  refine o_t (x_lenb (a' := a0) (len := l.length) (cap := cap0) Tryz.underlying22 (hx := fun g => hv0l)) ?_
  refine o_t x_mv ?_
  refine o_nil ?_
  refine w_block ?_ -- 2
  refine w_loop (α := Nat) (fun x => [(0, v0), (1, .string (str c)), (8, .string (str T)), (10, v1), (13, .pointer (some ⟨b13, 0, none⟩)), (168, v0), (169, .int .i64 l.length), (170, .int .i64 x)]) (fun x => [r', r1, pt b13 [.bool true, .string (str c), v2] 31, r2]) (fun x => x ≤ l.length) (fun x => l.length - x) 0 (wka) (hka) (Nat.zero_le _) ?_
  intro i hi
  refine w_seq ?_
  by_cases hil : i < l.length
  case neg =>
    obtain rfl : i = l.length := by omega
    have hH2 : ∀ (j : Nat) (e : En), l[j]? = some e → ∃ q, (recsW l 0)[j]? = some q ∧ q.data = e.data ∧ ((true = true ∨ e.h.flags / 8 % 2 = 0) → Readable T q) := by
      intro j e he
      have hp := recsW_pos l 0 j e he
      exact ⟨_, hp, rfl, fun _ => hrs _ (List.mem_of_getElem? hp)⟩
    refine w_region ?_
    refine o_t x_cmp ?_
    refine o_nil ?_
    refine w_seq ?_
    refine w_cond (t := false) (fun g => rfl) (fun hc => ?_) (fun hc => ?_) -- ('Go.Operand.tmp', 171)
    · cases hc
    refine w_exit ?_ -- 2
    refine w_seq ?_
    refine w_region ?_
    refine o_t x_mv ?_
    refine o_t x_mv ?_
    refine o_call Tryz.call14 haa spla (cHolds gl T _ _ c hz v0 r' l true hA' hmany hfl hH2) ?_
    rintro _ _ HH ⟨rfl, rfl⟩ hHH
    simp only [List.cons_append, List.nil_append, List.append_nil] at hHH; subst hHH
    refine o_t x_mv ?_
    first | (refine o_gy (?_); refine o_call Tryz.call8 haa spla (cReads gl) ?_; rintro _ _ HH ⟨rfl, rfl⟩ hHH; simp only [List.cons_append, List.nil_append, List.append_nil] at hHH; subst hHH) | refine o_t x_gs ?_ | refine o_t x_gu ?_
    refine o_t x_pick ?_
    refine o_t x_mv ?_
    first | (refine o_gy (?_); refine o_call Tryz.call9 haa spla (cWrites gl) ?_; rintro _ _ HH ⟨rfl, rfl⟩ hHH; simp only [List.cons_append, List.nil_append, List.append_nil] at hHH; subst hHH) | refine o_t x_gs ?_ | refine o_t x_gu ?_
    refine o_t x_pick ?_
    refine o_t x_as ?_
    refine o_nil ?_
    refine w_ret (r_1 rfl rfl)
  refine w_region ?_
  refine o_t x_cmp ?_
  refine o_nil ?_
  refine w_seq ?_
  refine w_cond (t := true) (fun g => rfl) (fun hc => ?_) (fun hc => ?_) -- ('Go.Operand.tmp', 171)
  case refine_2 => cases hc
  refine w_skip ?_
  have he : l[i]? = some l[i] := List.getElem?_eq_getElem hil
  obtain ⟨a, hga⟩ : ∃ a, l[i] = a := ⟨_, rfl⟩
  rw [hga] at he
  have hwa := hwo a (List.mem_of_getElem? he)
  have hn1 := hwa.name
  have hn2 := hwa.comment
  have hn3 := hwa.data
  have hn4 := hwa.ext
  have hz1 := recsW_pos l 0 i a he
  have hz2 := read_written l 0 i a he
  obtain ⟨bo, oo, co, rfl, hco, hrd⟩ := hA'.some (by omega)
  obtain ⟨bo1, oo1, co1, rfl, hco1, hrd1⟩ := hO1.arr.some (by omega)
  obtain ⟨bo2, oo2, co2, rfl, hco2, hrd2⟩ := hO2.arr.some (by omega)
  refine w_seq ?_
  refine w_block ?_ -- 3
  refine w_seq ?_
  refine w_region ?_
  refine o_t x_mv ?_
  refine o_t (x_ia (m := oo + i * 15) Tryz.underlying22 e22 (hm := by omega)) ?_
  refine o_t (x_ldE (hrd.pull (pulla)) he) ?_
  refine o_al z38 (fun b15 => ?_)
  refine o_t x_as ?_
  refine o_sta g38 ?_
  refine o_nil ?_
  refine w_weak (L' := [(0, .slice (some ⟨bo, oo, none⟩) l.length co), (1, .string (str c)), (8, .string (str T)), (10, .slice (some ⟨bo1, oo1, none⟩) l.length co1), (13, .pointer (some ⟨b13, 0, none⟩)), (168, .slice (some ⟨bo, oo, none⟩) l.length co), (169, .int .i64 l.length), (170, .int .i64 i), (14, .int .i64 i), (15, .pointer (some ⟨b15, 0, none⟩))]) (H' := [pt b15 (enC a) 38, r', r1, pt b13 [.bool true, .string (str c), .slice (some ⟨bo2, oo2, none⟩) l.length co2] 31, r2]) wka hka ?_
  refine w_seq ?_
  refine w_draw mixed ?_
  refine a_seg (k := 12) _ [(1, 0), (1, 1), (1, 2), (1, 3), (1, 4), (1, 5), (1, 6), (1, 7), (1, 8), (2, 9), (3, 10), (0, 11)] (by kernel_rfl) (HWk.refl _) ?_
  refine h_t rfl (x_fa f31_2) ?_
  refine h_t rfl (x_ld k29) ?_
  refine h_t rfl x_mv ?_
  refine h_t rfl (x_ia (m := oo2 + i * 14) Tryz.underlying29 e29 (hm := by omega)) ?_
  refine h_t rfl (x_ldH (hrd2.pull (pulla)) hz2) ?_
  refine h_t rfl x_mv ?_
  refine h_t rfl x_mv ?_
  refine h_t rfl (x_ia (m := oo1 + i * 16) Tryz.underlying42 e42 (hm := by omega)) ?_
  refine h_t rfl (x_ldZ (hrd1.pull (pulla)) hz1) ?_
  refine h_two (α := Nat × Nat) (fun x => [(0, .slice (some ⟨bo, oo, none⟩) l.length co), (1, .string (str c)), (8, .string (str T)), (10, .slice (some ⟨bo1, oo1, none⟩) l.length co1), (13, .pointer (some ⟨b13, 0, none⟩)), (168, .slice (some ⟨bo, oo, none⟩) l.length co), (169, .int .i64 l.length), (170, .int .i64 i), (14, .int .i64 i), (15, .pointer (some ⟨b15, 0, none⟩)), (179, hdV (readH (hdW a))), (183, recV (hdW a) (0 + (bodyW (l.take i)).length) a.data), (16, .pointer (some ⟨x.1, 0, none⟩)), (17, .pointer (some ⟨x.2, 0, none⟩))]) (fun x => [pt x.1 [.string ⟨#[]⟩, .string ⟨#[]⟩, .string ⟨#[]⟩, .bool false, .int .i64 0, .int .i64 0, .int .i64 0, .int .i64 0, .int .i64 0, .int .i64 0, .int .i64 0, .int .i64 0, .int .i64 0, .int .i64 0] 36, pt x.2 [.string ⟨#[]⟩, .string ⟨#[]⟩, .string ⟨#[]⟩, .bool false, .int .i64 0, .int .i64 0, .int .i64 0, .int .i64 0, .int .i64 0, .int .i64 0, .int .i64 0, .int .i64 0, .int .i64 0, .int .i64 0, .int .i64 0, .string ⟨#[]⟩] 46, pt b15 (enC a) 38, r', r1, pt b13 [.bool true, .string (str c), .slice (some ⟨bo2, oo2, none⟩) l.length co2] 31, r2]) rfl rfl (fun x => hka) (by refine o_al z36 (fun b => ?_); refine o_nil ?_; exact ⟨hka, by refine o_al z46 (fun b2 => ?_); refine o_nil ?_; exact ⟨(b, b2), wka, hka⟩⟩) (by refine o_al z46 (fun b2 => ?_); refine o_nil ?_; exact ⟨hka, by refine o_al z36 (fun b => ?_); refine o_nil ?_; exact ⟨(b, b2), wka, hka⟩⟩) (fun x => ?_); obtain ⟨b16, b17⟩ := x; dsimp only
  refine h_one rfl (fun Q' hQ => ?_)
  refine o_sta g36 ?_
  refine o_nil (hQ _ _ (h_keep ?_))
  refine h_end ?_
  refine a_seg (k := 13) _ [(0, 12)] (by kernel_rfl) hwk_nil ?_
  refine h_one rfl (fun Q' hQ => ?_)
  refine o_sta g46 ?_
  refine o_nil (hQ _ _ (h_keep ?_))
  refine h_end ?_
  refine a_done rfl ?_
  have hfb := flags_bit a.h
  have hfm := flagsW_le a.h
  refine w_weak (L' := [(0, .slice (some ⟨bo, oo, none⟩) l.length co), (1, .string (str c)), (8, .string (str T)), (10, .slice (some ⟨bo1, oo1, none⟩) l.length co1), (13, .pointer (some ⟨b13, 0, none⟩)), (168, .slice (some ⟨bo, oo, none⟩) l.length co), (169, .int .i64 l.length), (170, .int .i64 i), (14, .int .i64 i), (15, .pointer (some ⟨b15, 0, none⟩)), (16, .pointer (some ⟨b16, 0, none⟩)), (17, .pointer (some ⟨b17, 0, none⟩))]) (H' := [pt b16 [.string (str a.h.name), .string (str a.h.comment), .string (str []), .bool (nonT (hdW a)), .int .i64 (20 : Nat), .int .i64 (20 : Nat), .int .i64 (flagsW a.h : Nat), .int .i64 0, .int .i64 0, .int .i64 0, .int .i64 (crcT a.data : Nat), .int .i64 (a.data.length : Nat), .int .i64 (a.data.length : Nat), .int .i64 a.h.ext] 36, pt b17 [.string (str a.h.name), .string (str a.h.comment), .string (str []), .bool false, .int .i64 20, .int .i64 20, .int .i64 (flagsW a.h : Nat), .int .i64 0, .int .i64 0, .int .i64 0, .int .i64 (crcT a.data : Nat), .int .i64 (a.data.length : Nat), .int .i64 (a.data.length : Nat), .int .i64 a.h.ext, .int .i64 ((bodyW (l.take i)).length : Nat), .string (str a.data)] 46, pt b15 (enC a) 38, r' ++ (r1 ++ (pt b13 [.bool true, .string (str c), .slice (some ⟨bo2, oo2, none⟩) l.length co2] 31 ++ r2))]) wka (HWk.trans (B := [pt b16 [.string (str a.h.name), .string (str a.h.comment), .string (str []), .bool (nonT (hdW a)), .int .i64 (20 : Nat), .int .i64 (20 : Nat), .int .i64 (flagsW a.h : Nat), .int .i64 0, .int .i64 0, .int .i64 0, .int .i64 (crcT a.data : Nat), .int .i64 (a.data.length : Nat), .int .i64 (a.data.length : Nat), .int .i64 a.h.ext] 36, pt b17 [.string (str a.h.name), .string (str a.h.comment), .string (str []), .bool false, .int .i64 20, .int .i64 20, .int .i64 (flagsW a.h : Nat), .int .i64 0, .int .i64 0, .int .i64 0, .int .i64 (crcT a.data : Nat), .int .i64 (a.data.length : Nat), .int .i64 (a.data.length : Nat), .int .i64 a.h.ext, .int .i64 ((bodyW (l.take i)).length : Nat), .string (str a.data)] 46, pt b15 (enC a) 38, r', r1, pt b13 [.bool true, .string (str c), .slice (some ⟨bo2, oo2, none⟩) l.length co2] 31, r2]) hka (hflat (by simp))) ?_
  obtain ⟨fl, hfl1⟩ : ∃ fl, flagsW a.h = fl := ⟨_, rfl⟩
  obtain ⟨cr, hcr⟩ : ∃ cr, crcT a.data = cr := ⟨_, rfl⟩
  obtain ⟨z, hzz⟩ : ∃ z, a.data.length = z := ⟨_, rfl⟩
  obtain ⟨ps, hps⟩ : ∃ ps, (bodyW (l.take i)).length = ps := ⟨_, rfl⟩
  have cv1 := cValid (G := G) a.h.name (by omega)
  have cv2 := cValid (G := G) a.h.comment (by omega)
  have cc := cCRC (G := G) a.data (by omega)
  rw [hfl1, hcr, hzz, hps]
  rw [hfl1] at hfb hfm
  rw [hcr] at cc
  rcases hv1 : validT a.h.name with ⟨q1, q2⟩
  rcases hv2 : validT a.h.comment with ⟨q3, q4⟩
  rw [hv1] at cv1 hfb
  rw [hv2] at cv2 hfb
  dsimp only at cv1 cv2 hfb
  refine w_seq ?_
  refine w_region ?_
  refine o_t (x_fa f38_0) ?_
  refine o_t (x_fa f36_0) ?_
  refine o_t (x_ld k9) ?_
  refine o_call Tryz.call18 haa spla (cv1) ?_
  rintro _ _ HH ⟨rfl, rfl⟩ hHH
  simp only [List.cons_append, List.nil_append, List.append_nil] at hHH; subst hHH
  refine o_t x_mv ?_
  refine o_t x_ex ?_
  refine o_t x_ex ?_
  refine o_t x_as ?_
  refine o_t x_as ?_
  refine o_nil ?_
  refine w_seq ?_
  refine w_region ?_
  refine o_t (x_fa f38_0) ?_
  refine o_t (x_fa f36_1) ?_
  refine o_t (x_ld k9) ?_
  refine o_call Tryz.call18 haa spla (cv2) ?_
  rintro _ _ HH ⟨rfl, rfl⟩ hHH
  simp only [List.cons_append, List.nil_append, List.append_nil] at hHH; subst hHH
  refine o_t x_mv ?_
  refine o_t x_ex ?_
  refine o_t x_ex ?_
  refine o_t x_as ?_
  refine o_t x_as ?_
  refine o_nil ?_
  refine w_seq ?_
  refine w_cut (α := Unit) (fun _ => [(0, .slice (some ⟨bo, oo, none⟩) l.length co), (1, .string (str c)), (8, .string (str T)), (10, .slice (some ⟨bo1, oo1, none⟩) l.length co1), (13, .pointer (some ⟨b13, 0, none⟩)), (168, .slice (some ⟨bo, oo, none⟩) l.length co), (169, .int .i64 l.length), (170, .int .i64 i), (14, .int .i64 i), (15, .pointer (some ⟨b15, 0, none⟩)), (16, .pointer (some ⟨b16, 0, none⟩)), (17, .pointer (some ⟨b17, 0, none⟩)), (244, .bool false)]) (fun _ => [pt b16 [.string (str a.h.name), .string (str a.h.comment), .string (str []), .bool (nonT (hdW a)), .int .i64 (20 : Nat), .int .i64 (20 : Nat), .int .i64 fl, .int .i64 0, .int .i64 0, .int .i64 0, .int .i64 cr, .int .i64 z, .int .i64 z, .int .i64 a.h.ext] 36, pt b17 [.string (str a.h.name), .string (str a.h.comment), .string (str []), .bool false, .int .i64 20, .int .i64 20, .int .i64 fl, .int .i64 0, .int .i64 0, .int .i64 0, .int .i64 cr, .int .i64 z, .int .i64 z, .int .i64 a.h.ext, .int .i64 ps, .string (str a.data)] 46, pt b15 (enC a) 38, r' ++ (r1 ++ (pt b13 [.bool true, .string (str c), .slice (some ⟨bo2, oo2, none⟩) l.length co2] 31 ++ r2))]) (fun _ => True) ?_ ?_
  · have h7 := leaves q1 q2 q3 q4 a.h.non
    have hnn : ∃ nn, a.h.non = nn := ⟨_, rfl⟩
    obtain ⟨nn, hnn⟩ := hnn
    rw [hnn] at h7 hfb
    rcases h7 with rfl | ⟨rfl, rfl⟩ | ⟨rfl, rfl, rfl, rfl⟩ | ⟨rfl, rfl, rfl, rfl⟩ | ⟨rfl, rfl, rfl, rfl⟩ | ⟨rfl, rfl, rfl, rfl, rfl⟩ | ⟨rfl, rfl, rfl, rfl, rfl⟩
    all_goals
      refine w_region ?_
      refine o_t (x_fa f46_0) ?_
      refine o_t (x_fa f36_7) ?_
      refine o_t (x_ld k3) ?_
      refine o_t x_ne ?_
      refine o_t x_mv ?_
      first | refine o_t (x_g (x_fa f46_0)) ?_ | refine o_t x_gs ?_ | refine o_t x_gu ?_
      first | refine o_t (x_g (x_fa f36_11)) ?_ | refine o_t x_gs ?_ | refine o_t x_gu ?_
      first | refine o_t (x_g (x_ld k3)) ?_ | refine o_t x_gs ?_ | refine o_t x_gu ?_
      first | refine o_t (x_g (x_fa f38_1)) ?_ | refine o_t x_gs ?_ | refine o_t x_gu ?_
      first | refine o_t (x_g (x_ld k9)) ?_ | refine o_t x_gs ?_ | refine o_t x_gu ?_
      first | refine o_t (x_g (x_lens Tryz.underlying9)) ?_ | refine o_t x_gs ?_ | refine o_t x_gu ?_
      first | refine o_t (x_g x_ne) ?_ | refine o_t x_gs ?_ | refine o_t x_gu ?_
      refine o_t x_pick ?_
      refine o_t x_mv ?_
      first | refine o_t (x_g (x_fa f46_0)) ?_ | refine o_t x_gs ?_ | refine o_t x_gu ?_
      first | refine o_t (x_g (x_fa f36_13)) ?_ | refine o_t x_gs ?_ | refine o_t x_gu ?_
      first | refine o_t (x_g (x_ld k3)) ?_ | refine o_t x_gs ?_ | refine o_t x_gu ?_
      first | refine o_t (x_g (x_fa f38_0)) ?_ | refine o_t x_gs ?_ | refine o_t x_gu ?_
      first | refine o_t (x_g (x_fa f36_13)) ?_ | refine o_t x_gs ?_ | refine o_t x_gu ?_
      first | refine o_t (x_g (x_ld k3)) ?_ | refine o_t x_gs ?_ | refine o_t x_gu ?_
      first | refine o_t (x_g x_ne) ?_ | refine o_t x_gs ?_ | refine o_t x_gu ?_
      refine o_t x_pick ?_
      refine o_t x_mv ?_
      first | refine o_t (x_g (x_fa f46_0)) ?_ | refine o_t x_gs ?_ | refine o_t x_gu ?_
      first | refine o_t (x_g (x_fa f36_6)) ?_ | refine o_t x_gs ?_ | refine o_t x_gu ?_
      first | refine o_t (x_g (x_ld k3)) ?_ | refine o_t x_gs ?_ | refine o_t x_gu ?_
      first | refine o_t (x_g x_quo) ?_ | refine o_t x_gs ?_ | refine o_t x_gu ?_
      first | refine o_t (x_g x_rem) ?_ | refine o_t x_gs ?_ | refine o_t x_gu ?_
      first | refine o_t (x_g (x_cmp (hr := hfb))) ?_ | refine o_t x_gs ?_ | refine o_t x_gu ?_
      first | refine o_t (x_g x_mv) ?_ | refine o_t x_gs ?_ | refine o_t x_gu ?_
      first | refine o_t (x_g x_mv) ?_ | refine o_t x_gs ?_ | refine o_t x_gu ?_
      first | refine o_t (x_g x_mv) ?_ | refine o_t x_gs ?_ | refine o_t x_gu ?_
      first | refine o_t (x_g x_pick) ?_ | refine o_t x_gs ?_ | refine o_t x_gu ?_
      first | refine o_t (x_g x_mv) ?_ | refine o_t x_gs ?_ | refine o_t x_gu ?_
      first | refine o_t (x_g x_mv) ?_ | refine o_t x_gs ?_ | refine o_t x_gu ?_
      first | refine o_t (x_g x_mv) ?_ | refine o_t x_gs ?_ | refine o_t x_gu ?_
      first | refine o_t (x_g x_mv) ?_ | refine o_t x_gs ?_ | refine o_t x_gu ?_
      first | refine o_t (x_g x_pick) ?_ | refine o_t x_gs ?_ | refine o_t x_gu ?_
      first | refine o_t (x_g x_pick) ?_ | refine o_t x_gs ?_ | refine o_t x_gu ?_
      first | refine o_t (x_g x_mv) ?_ | refine o_t x_gs ?_ | refine o_t x_gu ?_
      first | refine o_t (x_g (x_fa f38_0)) ?_ | refine o_t x_gs ?_ | refine o_t x_gu ?_
      first | refine o_t (x_g (x_fa f36_3)) ?_ | refine o_t x_gs ?_ | refine o_t x_gu ?_
      first | refine o_t (x_g (Ex.cast (congrArg Value.bool hnn) (x_ld k4))) ?_ | refine o_t x_gs ?_ | refine o_t x_gu ?_
      first | refine o_t (x_g x_not) ?_ | refine o_t x_gs ?_ | refine o_t x_gu ?_
      first | refine o_t (x_g x_pick) ?_ | refine o_t x_gs ?_ | refine o_t x_gu ?_
      first | refine o_t (x_g (x_bne Tryz.underlying4)) ?_ | refine o_t x_gs ?_ | refine o_t x_gu ?_
      refine o_t x_pick ?_
      refine o_nil ?_
      exact ⟨(), wka, hka, trivial⟩
  rintro ⟨⟩ -
  refine w_cond (t := false) (fun g => rfl) (fun hc => ?_) (fun hc => ?_) -- ('Go.Operand.tmp', 244)
  · cases hc
  refine w_skip ?_
  refine w_seq ?_
  refine w_quiet mixed (by kernel_rfl) ?_
  refine q_t (x_fa f36_0) ?_
  refine q_t (x_ld k9) ?_
  refine q_t (x_fa f38_0) ?_
  refine q_t (x_fa f36_0) ?_
  refine q_t (x_ld k9) ?_
  refine q_t x_nes ?_
  refine q_t x_mv ?_
  first | refine q_t (x_g (x_fa f36_1)) ?_ | refine q_t x_gs ?_ | refine q_t x_gu ?_
  first | refine q_t (x_g (x_ld k9)) ?_ | refine q_t x_gs ?_ | refine q_t x_gu ?_
  first | refine q_t (x_g (x_fa f38_0)) ?_ | refine q_t x_gs ?_ | refine q_t x_gu ?_
  first | refine q_t (x_g (x_fa f36_1)) ?_ | refine q_t x_gs ?_ | refine q_t x_gu ?_
  first | refine q_t (x_g (x_ld k9)) ?_ | refine q_t x_gs ?_ | refine q_t x_gu ?_
  first | refine q_t (x_g x_nes) ?_ | refine q_t x_gs ?_ | refine q_t x_gu ?_
  refine q_t x_pick ?_
  refine q_t x_mv ?_
  first | refine q_t (x_g (x_fa f36_12)) ?_ | refine q_t x_gs ?_ | refine q_t x_gu ?_
  first | refine q_t (x_g (x_ld k3)) ?_ | refine q_t x_gs ?_ | refine q_t x_gu ?_
  first | refine q_t (x_g (x_fa f38_1)) ?_ | refine q_t x_gs ?_ | refine q_t x_gu ?_
  first | refine q_t (x_g (x_ld k9)) ?_ | refine q_t x_gs ?_ | refine q_t x_gu ?_
  first | refine q_t (x_g (x_lens Tryz.underlying9)) ?_ | refine q_t x_gs ?_ | refine q_t x_gu ?_
  first | refine q_t (x_g x_ne) ?_ | refine q_t x_gs ?_ | refine q_t x_gu ?_
  refine q_t x_pick ?_
  refine q_t x_mv ?_
  first | refine q_t (x_g (x_fa f46_0)) ?_ | refine q_t x_gs ?_ | refine q_t x_gu ?_
  first | refine q_t (x_g (x_fa f36_0)) ?_ | refine q_t x_gs ?_ | refine q_t x_gu ?_
  first | refine q_t (x_g (x_ld k9)) ?_ | refine q_t x_gs ?_ | refine q_t x_gu ?_
  first | refine q_t (x_g (x_fa f38_0)) ?_ | refine q_t x_gs ?_ | refine q_t x_gu ?_
  first | refine q_t (x_g (x_fa f36_0)) ?_ | refine q_t x_gs ?_ | refine q_t x_gu ?_
  first | refine q_t (x_g (x_ld k9)) ?_ | refine q_t x_gs ?_ | refine q_t x_gu ?_
  first | refine q_t (x_g x_nes) ?_ | refine q_t x_gs ?_ | refine q_t x_gu ?_
  refine q_t x_pick ?_
  refine q_t x_mv ?_
  first | refine q_t (x_g (x_fa f46_0)) ?_ | refine q_t x_gs ?_ | refine q_t x_gu ?_
  first | refine q_t (x_g (x_fa f36_1)) ?_ | refine q_t x_gs ?_ | refine q_t x_gu ?_
  first | refine q_t (x_g (x_ld k9)) ?_ | refine q_t x_gs ?_ | refine q_t x_gu ?_
  first | refine q_t (x_g (x_fa f38_0)) ?_ | refine q_t x_gs ?_ | refine q_t x_gu ?_
  first | refine q_t (x_g (x_fa f36_1)) ?_ | refine q_t x_gs ?_ | refine q_t x_gu ?_
  first | refine q_t (x_g (x_ld k9)) ?_ | refine q_t x_gs ?_ | refine q_t x_gu ?_
  first | refine q_t (x_g x_nes) ?_ | refine q_t x_gs ?_ | refine q_t x_gu ?_
  refine q_t x_pick ?_
  refine q_t x_mv ?_
  first | refine q_t (x_g (x_fa f46_2)) ?_ | refine q_t x_gs ?_ | refine q_t x_gu ?_
  first | refine q_t (x_g (x_ld k9)) ?_ | refine q_t x_gs ?_ | refine q_t x_gu ?_
  first | refine q_t (x_g (x_fa f38_1)) ?_ | refine q_t x_gs ?_ | refine q_t x_gu ?_
  first | refine q_t (x_g (x_ld k9)) ?_ | refine q_t x_gs ?_ | refine q_t x_gu ?_
  first | refine q_t (x_g x_nes) ?_ | refine q_t x_gs ?_ | refine q_t x_gu ?_
  refine q_t x_pick ?_
  refine q_t x_mv ?_
  first | refine q_t (x_g (x_fa f46_0)) ?_ | refine q_t x_gs ?_ | refine q_t x_gu ?_
  first | refine q_t (x_g (x_fa f36_10)) ?_ | refine q_t x_gs ?_ | refine q_t x_gu ?_
  first | refine q_t (x_g (x_ld k3)) ?_ | refine q_t x_gs ?_ | refine q_t x_gu ?_
  first | refine q_t (x_g (x_fa f38_1)) ?_ | refine q_t x_gs ?_ | refine q_t x_gu ?_
  first | refine q_t (x_g (x_ld k9)) ?_ | refine q_t x_gs ?_ | refine q_t x_gu ?_
  first | (refine q_gy (?_); refine q_call Tryz.call19 haa spla (cc) ?_) | refine q_t x_gs ?_ | refine q_t x_gu ?_
  first | refine q_t (x_g x_ne) ?_ | refine q_t x_gs ?_ | refine q_t x_gu ?_
  refine q_t x_pick ?_
  refine q_t x_mv ?_
  first | refine q_t (x_g (x_fa f46_0)) ?_ | refine q_t x_gs ?_ | refine q_t x_gu ?_
  first | refine q_t (x_g (x_fa f36_12)) ?_ | refine q_t x_gs ?_ | refine q_t x_gu ?_
  first | refine q_t (x_g (x_ld k3)) ?_ | refine q_t x_gs ?_ | refine q_t x_gu ?_
  first | refine q_t (x_g (x_fa f38_1)) ?_ | refine q_t x_gs ?_ | refine q_t x_gu ?_
  first | refine q_t (x_g (x_ld k9)) ?_ | refine q_t x_gs ?_ | refine q_t x_gu ?_
  first | refine q_t (x_g (x_lens Tryz.underlying9)) ?_ | refine q_t x_gs ?_ | refine q_t x_gu ?_
  first | refine q_t (x_g x_ne) ?_ | refine q_t x_gs ?_ | refine q_t x_gu ?_
  refine q_t x_pick ?_
  refine q_nil ?_
  refine w_cond (t := false) (fun g => rfl) (fun hc => ?_) (fun hc => ?_) -- ('Go.Operand.tmp', 309)
  · cases hc
  refine w_skip ?_
  refine w_region ?_
  refine o_t x_add ?_
  refine o_t x_mv ?_
  refine o_nil ?_
  refine ⟨i + 1, wka, ?_, by omega, by omega⟩
  exact HWk.trans (B := [r' ++ (r1 ++ (pt b13 [.bool true, .string (str c), .slice (some ⟨bo2, oo2, none⟩) l.length co2] 31 ++ r2))]) hka (hflat (by simp))
end Go.Proofs.YtlmefkhglooepaaGreatDoor
