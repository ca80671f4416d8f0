/- strings.Builder. bufio.Writer over a builder. bufio.Writer.Write; countWriter. Calls of methods through pointers that are looked into. The package's writing of numbers. The writers of a file. Closing a file; writing nothing. The local header. -/
import Derived.Test.YtlmefkhglooepaaGreatDoorPart8
import Derived.Lib.Builder
import Derived.Lib.UnsafeStr
import Derived.Laws.Externs
set_option linter.unusedSimpArgs false
set_option linter.unusedVariables false
namespace Go.Proofs.YtlmefkhglooepaaGreatDoor
open Go
set_option linter.unusedSimpArgs false
set_option linter.unusedVariables false
variable {G : Nat → Option Obj} {ea : Nat → Addr}
theorem i85 : (P.info? 85).map (fun j => decide (j.size ≠ 0)) = some true := by kernel_rfl
theorem lies85 : liesAt P P.depth 85 (2 / P.cellsOf 85) 0 85 1 = true := by kernel_rfl
theorem c5 : P.cellsOf 5 = 1 := by kernel_rfl
theorem cf178 (x : Value) (w : World) : (callFunc 178 #[x]).run P w = .ok (.value x) w := by
  rw [run_callFunc_extern Tryz.func178 (by kernel_rfl) (by kernel_rfl) (by kernel_rfl) (e := Extern.AbiNoEscape.same) (by kernel_rfl), Lib.run_noEscape]
  rfl
section
variable {n : Nat} {ops : Array Oper} {Q : Post} {rest : List Oper} {L : Loc} {H R : List Res} {d : Nat} {x y : Operand} {ty t t' : TypeId} {p : String} {e : Array Edge}
theorem x_tou {b : Nat} {v u : Value} (hp : Pull (pt b [v, u] 85) H R := by exact pulla) (hx : ∀ g, evl L g x = .pointer (some ⟨b, 0, none⟩) := by intro g; rfl) (hn : d < n := by decide) :
    Ex P n G ops L H ⟨some d, .convert 83 309 x, ty, p, e, none⟩ d (.pointer (some ⟨b, 0, none⟩)) :=
  .mk hn (fun F hF g w hs => by
    obtain ⟨j, hj, hjs⟩ := Option.map_eq_some_iff.1 i85
    have hb := Sat.block (hs.perm hp)
    have h1 := Lib.run_to_unsafe (P := P) w ⟨b, 0, none⟩ Tryz.underlying83 Tryz.underlying309 hj (by simpa using hjs) (e := 85) (cells := 2) (by simp [World.shape?, hb]) (Nat.zero_lt_succ 1)
    simp [execOp, hx g, h1])
theorem x_fromu {b : Nat} {v u : Value} (hp : Pull (pt b [v, u] 85) H R := by exact pulla) (hx : ∀ g, evl L g x = .pointer (some ⟨b, 0, none⟩) := by intro g; rfl) (hn : d < n := by decide) :
    Ex P n G ops L H ⟨some d, .convert 309 83 x, ty, p, e, none⟩ d (.pointer (some ⟨b, 0, none⟩)) :=
  .mk hn (fun F hF g w hs => by
    obtain ⟨j, hj, hjs⟩ := Option.map_eq_some_iff.1 i85
    have hb := Sat.block (hs.perm hp)
    have h1 := Lib.run_from_unsafe (P := P) w ⟨b, 0, none⟩ Tryz.underlying309 Tryz.underlying83 hj (e := 85) (cells := 2) (by simp [World.shape?, hb]) lies85
    simp [execOp, hx g, h1])
theorem x_noesc {ts : Array TypeId} {v : Value} (hx : ∀ g, evl L g x = v := by intro g; rfl) (hn : d < n := by decide) :
    Ex P n G ops L H ⟨some d, .call ⟨.value (.func 178), #[x], ts⟩, ty, p, e, none⟩ d v :=
  .mk hn (fun F hF g w hs => by
    have h1 := cf178 v w
    simp [execOp, resolve, Deferred.ofValue, invoke, hx g, show ∀ f, evl L g (.func f) = .func (.func f) #[] #[] from fun _ => rfl, h1])
/-- A pointer against itself. -/
theorem x_pself {E : TypeId} {ad : Addr} {k : Nat} (hi : P.underlying t = some (.pointer E)) (hsz : szOf P E = some (k + 1)) (hx : ∀ g, evl L g x = .pointer (some ad) := by intro g; rfl) (hy : ∀ g, evl L g y = .pointer (some ad) := by intro g; rfl) (hn : d < n := by decide) :
    Ex P n G ops L H ⟨some d, .binOp .neq t x y t', ty, p, e, none⟩ d (.bool false) :=
  .mk hn (fun _ _ g w hs => by
    have h3 := run_sameAddr_same (P := P) (w := w) ad
    have h0 := eqR (P := P) (t := t) (va := .pointer (some ad)) (vb := .pointer (some ad)) (r := true) (w := w) (fun d => by simp [Op.equalIn, run_underlying hi, run_size_of hsz, h3])
    simp [execOp, hx g, hy g, eqGuard, binOp, h0])
theorem x_usd {b o len cap : Nat} {ts : Array TypeId} (hc : cap ≠ 0) (hx : ∀ g, evl L g x = .slice (some ⟨b, o, none⟩) len cap := by intro g; rfl) (hn : d < n := by decide) :
    Ex P n G ops L H ⟨some d, .call ⟨.builtin .unsafeSliceData, #[x], ts⟩, ty, p, e, none⟩ d (.pointer (some ⟨b, o, none⟩)) :=
  .mk hn (fun _ _ g w hs => by
    have h1 := Lib.run_unsafeSliceData_row (P := P) w ts ty ⟨b, o, none⟩ len cap hc
    simp [execOp, resolve, invoke, builtin, hx g, h1])
/-- The bytes of a block of ours as a string: the block is frozen, and gone for us. -/
theorem o_ust {b : Nat} {l : List UInt8} {cur : List Value} {T pt' it : Nat} (hu : P.underlying pt' = some (.pointer T)) (hc : P.cellsOf T = 1) (h0 : l ≠ []) (hcur : cur.take l.length = l.map u8) (hl : l.length ≤ 9223372036854775807)
    (h : OP P n G ops Q rest ((d, .string (str l)) :: L) R) (hp : Pull (pt b cur T) H R := by exact pulla)
    (hx : ∀ g, evl L g x = .pointer (some ⟨b, 0, none⟩) := by intro g; rfl) (hy : ∀ g, evl L g y = .int .i64 l.length := by intro g; rfl) (hn : d < n := by decide) :
    OP P n G ops Q (⟨some d, .call ⟨.builtin .unsafeString, #[x, y], #[pt', it]⟩, ty, p, e, none⟩ :: rest) L H := by
  refine o_val rfl hn rfl (fun F hF g w hs => ?_) h
  have hs1 := hs.perm hp
  have hb := Sat.block hs1
  have hcl : l.length ≤ cur.length := by have := congrArg List.length hcur; simp at this; omega
  have h1 := Lib.run_unsafeString_row (P := P) w pt' it ty T hu hc b cur.length (by simp [World.shape?, hb]) l h0 hcl hl (fun j u hj => by
    rw [Addr.add_at, Nat.zero_add, Sat.cell hs1]
    have : (cur.take l.length)[j]? = some (u8 u) := by rw [hcur]; simp [hj]
    rw [List.getElem?_take] at this
    split at this
    · exact this
    · cases this)
  have h1 : (Builtin.unsafeString_ #[pt', it] ty #[.pointer (some ⟨b, 0, none⟩), .int .i64 l.length]).run P w = .ok (.string (str l)) (w.freeze ⟨b, 0, none⟩ l.length) := h1
  refine ⟨w.freeze ⟨b, 0, none⟩ l.length, by simp [execOp, resolve, invoke, builtin, hx g, hy g, h1], ?_⟩
  have hfz : ∃ o', (w.freeze ⟨b, 0, none⟩ l.length).heap[b]? = some o' ∧ (∀ k, k ≠ b → (w.freeze ⟨b, 0, none⟩ l.length).heap[k]? = w.heap[k]?) ∧ (w.freeze ⟨b, 0, none⟩ l.length).os = w.os ∧ (w.freeze ⟨b, 0, none⟩ l.length).tape = w.tape ∧ (w.freeze ⟨b, 0, none⟩ l.length).output = w.output := by
    unfold World.freeze
    split
    · exact ⟨_, hb, fun _ _ => rfl, rfl, rfl, rfl⟩
    · refine ⟨_, by simp only [Array.getElem?_modify, if_true, hb]; rfl, fun k hk => ?_, rfl, rfl, rfl⟩
      simp only [Array.getElem?_modify]
      rw [if_neg (fun e => hk e.symm)]
  obtain ⟨o', h2, h3, h4, h5, h6⟩ := hfz
  exact (Sat.turn hs1 h2 h3 h4 h5 h6).drop
end
theorem e83 : szOf P 85 = some 2 := by kernel_rfl
theorem cCopyCheck (bb : Nat) (p v : Value) (hp : p = .pointer none ∨ p = .pointer (some ⟨bb, 0, none⟩)) : Fn P G 177 #[.pointer (some ⟨bb, 0, none⟩)] [pt bb [p, v] 85] fun _ H => H = [pt bb [.pointer (some ⟨bb, 0, none⟩), v] 85] := by
  rcases hp with rfl | rfl
  · refine fn_intro (args := [_]) Tryz.func177 Tryz.ntmps177 rfl ?_
    refine w_seq ?_
    refine w_region ?_
    refine o_t x_mv ?_
    refine o_t x_nc ?_
    refine o_t (x_fa f85_0) ?_
    refine o_t (x_ld k83) ?_
    first | refine o_t (x_pnil' Tryz.underlying83) ?_ | refine o_t (x_psome' Tryz.underlying83) ?_
    refine o_nil ?_
    refine w_cond (t := true) (fun g => rfl) (fun hc => ?_) (fun hc => ?_) -- ('Go.Operand.tmp', 6)
    · --
      refine w_region ?_
      refine o_t x_mv ?_
      refine o_t x_mv ?_
      refine o_t (x_tou) ?_
      refine o_t (x_noesc) ?_
      refine o_t (x_fromu) ?_
      refine o_t x_nc ?_
      refine o_t (x_fa f85_0) ?_
      refine o_st k83 ?_
      refine o_nil ?_
      exact r_0n rfl rfl
    · cases hc
  · refine fn_intro (args := [_]) Tryz.func177 Tryz.ntmps177 rfl ?_
    refine w_seq ?_
    refine w_region ?_
    refine o_t x_mv ?_
    refine o_t x_nc ?_
    refine o_t (x_fa f85_0) ?_
    refine o_t (x_ld k83) ?_
    first | refine o_t (x_pnil' Tryz.underlying83) ?_ | refine o_t (x_psome' Tryz.underlying83) ?_
    refine o_nil ?_
    refine w_cond (t := false) (fun g => rfl) (fun hc => ?_) (fun hc => ?_) -- ('Go.Operand.tmp', 6)
    · cases hc
    · --
      refine w_seq ?_
      refine w_region ?_
      refine o_t x_mv ?_
      refine o_t x_nc ?_
      refine o_t (x_fa f85_0) ?_
      refine o_t (x_ld k83) ?_
      refine o_t x_mv ?_
      refine o_t (x_pself Tryz.underlying83 e83) ?_
      refine o_nil ?_
      refine w_cond (t := false) (fun g => rfl) (fun hc => ?_) (fun hc => ?_) -- ('Go.Operand.tmp', 19)
      · cases hc
      · --
        refine w_skip ?_
        exact r_0n rfl rfl
/-- A builder. -/
def BldS (bb : Nat) (out : List UInt8) (k : Res) : Prop :=
  ∃ p v r, (p = .pointer none ∨ p = .pointer (some ⟨bb, 0, none⟩)) ∧ Own 5 1 v out.length (out.map u8) r ∧ k = pt bb [p, v] 85 ++ r
theorem cBldWrite (bb : Nat) (out : List UInt8) (k : Res) (hk : BldS bb out k) (w : Value) (r : Res) (m : List UInt8) (h : Sl G r w m) (hl : out.length + m.length ≤ 2147483647) :
    Fn P G 176 #[.pointer (some ⟨bb, 0, none⟩), w] [k, r] fun v H => v = .tuple #[.int .i64 m.length, .nilIface] ∧ ∃ k', BldS bb (out ++ m) k' ∧ H = [k', r] := by
  obtain ⟨p, v, ro, hp, hO, rfl⟩ := hk
  obtain ⟨b, o, cap, rfl, hcap, hr⟩ := h
  have cc := cCopyCheck (G := G) bb p v hp
  have hv1 := hO.one
  refine fn_intro (args := [_,_]) Tryz.func176 Tryz.ntmps176 rfl ?_
  refine w_seq ?_
  refine w_region ?_
  refine o_t x_as ?_
  refine o_t x_as ?_
  refine o_nil ?_
  refine w_seq ?_
  refine w_weak (L' := [(0, .pointer (some ⟨bb, 0, none⟩)), (1, .slice (some ⟨b, o, none⟩) m.length cap)]) (H' := [pt bb [p, v] 85, ro, r]) wka (hflat (by simp)) ?_
  refine w_region ?_
  refine o_t x_mv ?_
  refine o_call Tryz.call177 haa spla (cc) ?_
  rintro _ _ HH rfl hHH
  simp only [List.cons_append, List.nil_append, List.append_nil] at hHH; subst hHH
  refine o_nil ?_
  refine w_seq ?_
  refine w_region ?_
  refine o_t x_mv ?_
  refine o_t x_mv ?_
  refine o_t x_nc ?_
  refine o_t (x_fa f85_1) ?_
  refine o_t (x_ld k78) ?_
  refine o_t x_mv ?_
  refine o_app info5 Tryz.underlying78 rfl hO (pulla) (hr.pull (pulla)) (by rw [List.length_map, Nat.mul_one]) u8_one (by simp [maxLen]; omega) (by omega) (fun v' r' hO' => ?_)
  refine o_t x_nc ?_
  refine o_t (x_fa f85_1) ?_
  refine o_st k78 ?_ (h1 := hO'.one)
  refine o_nil ?_
  refine w_seq ?_
  refine w_region ?_
  refine o_t x_mv ?_
  refine o_t (x_lenb Tryz.underlying78) ?_
  refine o_t x_as ?_
  refine o_t x_as ?_
  refine o_nil ?_
  refine w_ret (r_2 rfl ⟨rfl, _, ⟨_, _, _, .inr rfl, by rw [List.length_append, List.map_append]; exact hO', rfl⟩, rfl⟩ (hH := ?_))
  exact HWk.trans (B := [pt bb [.pointer (some ⟨bb, 0, none⟩), v'] 85, r', r]) hka (hflat (by simp))
theorem cBldString (bb : Nat) (out : List UInt8) (k : Res) (hk : BldS bb out k) (hne : out ≠ []) (hl : out.length ≤ 2147483647) : Fn P G 66 #[.pointer (some ⟨bb, 0, none⟩)] [k] fun v H => v = .string (str out) ∧ H = [] := by
  obtain ⟨p, v, ro, hp, hO, rfl⟩ := hk
  rcases hO.2 with ⟨_, h0, _⟩ | ⟨g, cap, cur, rfl, rfl, hc1, hc2, hc3, hc4⟩
  · exact absurd (List.eq_nil_of_length_eq_zero h0) hne
  have hpos : 0 < out.length := List.length_pos_iff.2 hne
  rw [Nat.mul_one] at hc4
  refine fn_intro (args := [_]) Tryz.func66 Tryz.ntmps66 rfl ?_
  refine w_seq ?_
  refine w_region ?_
  refine o_t x_as ?_
  refine o_nil ?_
  refine w_seq ?_
  refine w_weak (L' := [(0, .pointer (some ⟨bb, 0, none⟩))]) (H' := [pt bb [p, .slice (some ⟨g, 0, none⟩) out.length cap] 85, pt g cur 5]) wka (hflat (by simp)) ?_
  refine w_draw mixed ?_
  refine a_seg (k := 10) _ [(1, 0), (1, 1), (1, 2), (1, 3), (1, 5), (1, 6), (1, 7), (1, 8), (1, 9), (0, 4)] (by kernel_rfl) (HWk.refl _) ?_
  refine h_t rfl x_mv ?_
  refine h_t rfl x_nc ?_
  refine h_t rfl (x_fa f85_1) ?_
  refine h_t rfl (x_ld k78) ?_
  refine h_t rfl x_mv ?_
  refine h_t rfl x_nc ?_
  refine h_t rfl (x_fa f85_1) ?_
  refine h_t rfl (x_ld k78) ?_
  refine h_t rfl (x_lenb Tryz.underlying78) ?_
  refine h_one rfl (fun Q' hQ => ?_)
  refine o_t (x_usd (cap := cap) (by omega)) ?_
  refine o_nil (hQ _ _ (h_keep ?_))
  refine h_end ?_
  refine a_seg (k := 11) _ [(0, 10)] (by kernel_rfl) hwk_nil ?_
  refine h_one rfl (fun Q' hQ => ?_)
  refine o_ust Tryz.underlying202 c5 hne hc4 (by omega) ?_
  refine o_nil (hQ _ _ (h_keep ?_))
  refine h_end ?_
  refine a_seg (k := 12) _ [(1, 11)] (by kernel_rfl) (HWk.refl _) ?_
  refine h_t rfl x_as ?_
  refine h_end ?_
  refine a_done rfl ?_
  refine w_ret (r_1 rfl ⟨rfl, rfl⟩)
end Go.Proofs.YtlmefkhglooepaaGreatDoor
namespace Go.Proofs.YtlmefkhglooepaaGreatDoor
open Go
set_option linter.unusedSimpArgs false
set_option linter.unusedVariables false
variable {G : Nat → Option Obj} {ea : Nat → Addr}
abbrev bwB (wb cb bb n : Nat) : Res := pt wb [.nilIface, .slice (some ⟨cb, 0, none⟩) 4096 4096, .int .i64 n, .iface 83 (.pointer (some ⟨bb, 0, none⟩))] 229
theorem cAvail (wb cb bb n : Nat) (hn : n ≤ 4096) : Fn P G 180 #[.pointer (some ⟨wb, 0, none⟩)] [bwB wb cb bb n] fun v H => v = .int .i64 ((4096 - n : Nat) : Int) ∧ H = [bwB wb cb bb n] := by
  refine fn_intro (args := [_]) Tryz.func180 Tryz.ntmps180 rfl ?_
  refine w_seq ?_
  refine w_region ?_
  refine o_t x_as ?_
  refine o_nil ?_
  refine w_seq ?_
  refine w_quiet mixed (by kernel_rfl) ?_
  refine q_t x_mv ?_
  refine q_t x_nc ?_
  refine q_t (x_fa f229_1) ?_
  refine q_t (x_ld k78) ?_
  refine q_t (x_lenb Tryz.underlying78) ?_
  refine q_t x_mv ?_
  refine q_t x_nc ?_
  refine q_t (x_fa f229_2) ?_
  refine q_t (x_ld k3) ?_
  refine q_t (x_sub (z := ((4096 - n : Nat) : Int)) (hz := (w_i64 (by omega)).trans (by omega))) ?_
  refine q_t x_as ?_
  refine q_nil ?_
  refine w_ret (r_1 rfl ⟨rfl, rfl⟩)
theorem cBuffd (wb cb bb n : Nat) : Fn P G 182 #[.pointer (some ⟨wb, 0, none⟩)] [bwB wb cb bb n] fun v H => v = .int .i64 n ∧ H = [bwB wb cb bb n] := by
  refine fn_intro (args := [_]) Tryz.func182 Tryz.ntmps182 rfl ?_
  refine w_seq ?_
  refine w_region ?_
  refine o_t x_as ?_
  refine o_nil ?_
  refine w_seq ?_
  refine w_region ?_
  refine o_t x_mv ?_
  refine o_t x_nc ?_
  refine o_t (x_fa f229_2) ?_
  refine o_t (x_ld k3) ?_
  refine o_t x_as ?_
  refine o_nil ?_
  refine w_ret (r_1 rfl ⟨rfl, rfl⟩)
theorem cFlush (wb cb bb n : Nat) (hn : n ≤ 4096) (bc : List Value) (hbc : bc.length = 4096) (pend fl : List UInt8) (hp : bc.take n = pend.map u8) (hpl : pend.length = n) (bk : Res) (hb : BldS bb fl bk) (hl : fl.length + n ≤ 2147483647) :
    Fn P G 95 #[.pointer (some ⟨wb, 0, none⟩)] [bwB wb cb bb n, pt cb bc 5, bk] fun v H => v = .nilIface ∧ ∃ bk', BldS bb (fl ++ pend) bk' ∧ H = [bwB wb cb bb 0, pt cb bc 5, bk'] := by
  by_cases h0 : n = 0
  · have hp0 : pend = [] := List.eq_nil_of_length_eq_zero (by omega)
    subst h0
    refine fn_intro (args := [_]) Tryz.func95 Tryz.ntmps95 rfl ?_
    refine w_seq ?_
    refine w_region ?_
    refine o_t x_as ?_
    refine o_nil ?_
    refine w_seq ?_
    refine w_seq ?_
    refine w_region ?_
    refine o_t x_mv ?_
    refine o_t x_nc ?_
    refine o_t (x_fa f229_0) ?_
    refine o_t (x_ld k58) ?_
    first | refine o_t (x_inil Tryz.underlying58) ?_ | refine o_t (x_isome Tryz.underlying58) ?_
    refine o_nil ?_
    refine w_cond (t := false) (fun g => rfl) (fun hc => ?_) (fun hc => ?_) -- ('Go.Operand.tmp', 9)
    · cases hc
    refine w_skip ?_
    refine w_seq ?_
    refine w_seq ?_
    refine w_region ?_
    refine o_t x_mv ?_
    refine o_t x_nc ?_
    refine o_t (x_fa f229_2) ?_
    refine o_t (x_ld k3) ?_
    refine o_t x_cmp ?_
    refine o_nil ?_
    refine w_cond (t := true) (fun g => rfl) (fun hc => ?_) (fun hc => ?_) -- ('Go.Operand.tmp', 18)
    · --
      refine w_seq ?_
      refine w_region ?_
      refine o_t x_as ?_
      refine o_nil ?_
      refine w_ret (r_1 rfl ⟨rfl, bk, by rw [hp0, List.append_nil]; exact hb, rfl⟩)
    · cases hc
  · have hsl : Sl G (pt cb bc 5) (.slice (some ⟨cb, 0, none⟩) n 4096) pend := ⟨cb, 0, 4096, by rw [hpl], by omega, Rd.pt 0 _ (fun i v hi => by
      rw [← hp] at hi; rw [Nat.zero_add]; rw [List.getElem?_take] at hi; split at hi; exact hi; cases hi)⟩
    have cw := cBldWrite (G := G) bb fl bk hb _ _ pend hsl (by omega)
    rw [hpl] at cw
    refine fn_intro (args := [_]) Tryz.func95 Tryz.ntmps95 rfl ?_
    refine w_seq ?_
    refine w_region ?_
    refine o_t x_as ?_
    refine o_nil ?_
    refine w_seq ?_
    refine w_seq ?_
    refine w_region ?_
    refine o_t x_mv ?_
    refine o_t x_nc ?_
    refine o_t (x_fa f229_0) ?_
    refine o_t (x_ld k58) ?_
    first | refine o_t (x_inil Tryz.underlying58) ?_ | refine o_t (x_isome Tryz.underlying58) ?_
    refine o_nil ?_
    refine w_cond (t := false) (fun g => rfl) (fun hc => ?_) (fun hc => ?_) -- ('Go.Operand.tmp', 9)
    · cases hc
    refine w_skip ?_
    refine w_seq ?_
    refine w_seq ?_
    refine w_region ?_
    refine o_t x_mv ?_
    refine o_t x_nc ?_
    refine o_t (x_fa f229_2) ?_
    refine o_t (x_ld k3) ?_
    refine o_t x_cmp ?_
    refine o_nil ?_
    refine w_cond (t := false) (fun g => rfl) (fun hc => ?_) (fun hc => ?_) -- ('Go.Operand.tmp', 18)
    · cases hc
    refine w_skip ?_
    refine w_seq ?_
    refine w_draw mixed ?_
    refine a_seg (k := 15) _ [(1, 0), (1, 1), (1, 2), (1, 3), (1, 4), (1, 5), (1, 6), (1, 7), (1, 8), (1, 9), (1, 10), (1, 11), (1, 12), (1, 13), (1, 14)] (by kernel_rfl) (HWk.refl _) ?_
    refine h_t rfl x_mv ?_
    refine h_t rfl x_nc ?_
    refine h_t rfl (x_fa f229_3) ?_
    refine h_t rfl (x_ld k89) ?_
    refine h_t rfl x_mv ?_
    refine h_t rfl x_nc ?_
    refine h_t rfl (x_fa f229_1) ?_
    refine h_t rfl (x_ld k78) ?_
    refine h_t rfl x_mv ?_
    refine h_t rfl x_nc ?_
    refine h_t rfl (x_fa f229_2) ?_
    refine h_t rfl (x_ld k3) ?_
    refine h_t rfl (x_sl (lo := 0) (hi := n) (v := .slice (some ⟨cb, 0, none⟩) n 4096) Tryz.underlying78 e78 (hl := ⟨_, _, fun _ => rfl, by omega, by omega⟩) (hv := by simp [slV])) ?_
    refine h_t rfl (x_nci) ?_
    refine h_t rfl x_mv ?_
    refine h_end ?_
    refine a_seg (k := 16) _ [(0, 15)] (by kernel_rfl) hwk_nil ?_
    refine h_one rfl (fun Q' hQ => ?_)
    refine o_inv (m83_Write _) hxa haa spla vca (cw) ?_
    rintro _ HH ⟨rfl, bk', hb', rfl⟩
    simp only [List.cons_append, List.nil_append, List.append_nil]
    refine o_nil (hQ _ _ (h_keep ?_))
    refine h_end ?_
    refine a_seg (k := 17) _ [(1, 16)] (by kernel_rfl) (HWk.refl _) ?_
    refine h_t rfl x_mv ?_
    refine h_end ?_
    refine a_seg (k := 20) _ [(1, 17), (1, 18), (1, 19)] (by kernel_rfl) (HWk.refl _) ?_
    refine h_t rfl x_ex ?_
    refine h_t rfl x_ex ?_
    refine h_t rfl x_as ?_
    refine h_end ?_
    refine a_seg (k := 21) _ [(1, 20)] (by kernel_rfl) (HWk.refl _) ?_
    refine h_t rfl x_as ?_
    refine h_end ?_
    refine a_done rfl ?_
    refine w_seq ?_
    refine w_seq ?_
    refine w_region ?_
    refine o_t x_mv ?_
    refine o_t x_mv ?_
    refine o_t x_nc ?_
    refine o_t (x_fa f229_2) ?_
    refine o_t (x_ld k3) ?_
    refine o_t x_cmp ?_
    refine o_t x_mv ?_
    first | refine o_t (x_g x_mv) ?_ | refine o_t x_gs ?_ | refine o_t x_gu ?_
    first | first | refine o_t (x_g (x_inil' Tryz.underlying58)) ?_ | refine o_t x_gs ?_ | refine o_t x_gu ?_ | first | refine o_t (x_g (x_isome' Tryz.underlying58)) ?_ | refine o_t x_gs ?_ | refine o_t x_gu ?_
    refine o_t x_pick ?_
    refine o_nil ?_
    refine w_cond (t := false) (fun g => rfl) (fun hc => ?_) (fun hc => ?_) -- ('Go.Operand.tmp', 47)
    · cases hc
    refine w_skip ?_
    refine w_seq ?_
    refine w_seq ?_
    refine w_region ?_
    refine o_t x_mv ?_
    first | refine o_t (x_inil Tryz.underlying58) ?_ | refine o_t (x_isome Tryz.underlying58) ?_
    refine o_nil ?_
    refine w_cond (t := false) (fun g => rfl) (fun hc => ?_) (fun hc => ?_) -- ('Go.Operand.tmp', 50)
    · cases hc
    refine w_skip ?_
    refine w_seq ?_
    refine w_region ?_
    refine o_t x_mv ?_
    refine o_t x_nc ?_
    refine o_t (x_fa f229_2) ?_
    refine o_st k3 ?_
    refine o_nil ?_
    refine w_seq ?_
    refine w_region ?_
    refine o_t x_as ?_
    refine o_nil ?_
    refine w_ret (r_1 rfl ⟨rfl, bk', hb', rfl⟩)
/-- A buffered writer into a builder. -/
def BwS (wb bb : Nat) (out : List UInt8) (k : Res) : Prop :=
  ∃ cb n bc fl pend bk, n ≤ 4096 ∧ bc.length = 4096 ∧ bc.take n = pend.map u8 ∧ pend.length = n ∧ BldS bb fl bk ∧ out = fl ++ pend ∧ k = bwB wb cb bb n ++ (pt cb bc 5 ++ bk)
theorem cBwNew (bb : Nat) : Fn P G 52 #[.iface 83 (.pointer (some ⟨bb, 0, none⟩))] [pt bb [.pointer none, .slice none 0 0] 85] fun v H => ∃ wb k, v = .pointer (some ⟨wb, 0, none⟩) ∧ BwS wb bb [] k ∧ H = [k] := by
  have ta (w : World) : (Instr.typeAssert (.iface 83 (.pointer (some ⟨bb, 0, none⟩))) 89 118 true).run P w = .ok (.tuple #[.pointer none, .bool false]) w := by kernel_rfl
  have h78 : Fn P G 78 #[.iface 83 (.pointer (some ⟨bb, 0, none⟩)), .int .i64 4096] [] fun v H => ∃ wb cb, v = .pointer (some ⟨wb, 0, none⟩) ∧ H = [bwB wb cb bb 0, pt cb (List.replicate 4096 (.int .u8 0)) 5] := by
    refine fn_intro (args := [_,_]) Tryz.func78 Tryz.ntmps78 rfl ?_
    refine w_seq ?_
    refine w_region ?_
    refine o_t x_as ?_
    refine o_nil ?_
    refine w_seq ?_
    refine w_region ?_
    refine o_t x_mv ?_
    refine o_t (x_ta ta) ?_
    refine o_t x_mv ?_
    refine o_t x_ex ?_
    refine o_t x_ex ?_
    refine o_t x_as ?_
    refine o_t x_as ?_
    refine o_nil ?_
    refine w_seq ?_
    refine w_seq ?_
    refine w_region ?_
    refine o_t x_mv ?_
    refine o_t x_mv ?_
    first | refine o_t (x_g x_mv) ?_ | refine o_t x_gs ?_ | refine o_t x_gu ?_
    first | refine o_t (x_g x_nc) ?_ | refine o_t x_gs ?_ | refine o_t x_gu ?_
    first | refine o_t (x_g (x_fa f229_1)) ?_ | refine o_t x_gs ?_ | refine o_t x_gu ?_
    first | refine o_t (x_g (x_ld k78)) ?_ | refine o_t x_gs ?_ | refine o_t x_gu ?_
    first | refine o_t (x_g (x_lenb Tryz.underlying78)) ?_ | refine o_t x_gs ?_ | refine o_t x_gu ?_
    first | refine o_t (x_g x_mv) ?_ | refine o_t x_gs ?_ | refine o_t x_gu ?_
    first | refine o_t (x_g x_cmp) ?_ | refine o_t x_gs ?_ | refine o_t x_gu ?_
    refine o_t x_pick ?_
    refine o_nil ?_
    refine w_cond (t := false) (fun g => rfl) (fun hc => ?_) (fun hc => ?_) -- ('Go.Operand.tmp', 21)
    · cases hc
    refine w_skip ?_
    refine w_seq ?_
    refine w_seq ?_
    refine w_region ?_
    refine o_t x_mv ?_
    refine o_t x_cmp ?_
    refine o_nil ?_
    refine w_cond (t := false) (fun g => rfl) (fun hc => ?_) (fun hc => ?_) -- ('Go.Operand.tmp', 24)
    · cases hc
    refine w_skip ?_
    refine w_seq ?_
    refine w_region ?_
    refine o_t x_mv ?_
    refine o_mk (k := 4096) info5 Tryz.underlying78 rfl rfl (by decide) (by decide) (fun cb => ?_)
    refine o_t x_mv ?_
    refine o_t (x_bd hla bd229_1_3) ?_
    refine o_bx (fun b29 => ?_)
    refine o_t x_as ?_
    refine o_nil ?_
    refine w_ret (r_1 rfl ⟨_, cb, rfl, rfl⟩)
  have hb0 : BldS bb [] (pt bb [.pointer none, .slice none 0 0] 85) := ⟨_, _, [], .inl rfl, Own.nil 5 1, by simp⟩
  refine fn_intro (args := [_]) Tryz.func52 Tryz.ntmps52 rfl ?_
  refine w_seq ?_
  refine w_region ?_
  refine o_t x_as ?_
  refine o_nil ?_
  refine w_seq ?_
  refine w_region ?_
  refine o_t x_mv ?_
  refine o_call Tryz.call78 haa spla (h78) ?_
  rintro _ _ HH ⟨wb, cb, rfl, rfl⟩ hHH
  simp only [List.cons_append, List.nil_append, List.append_nil] at hHH; subst hHH
  refine o_t x_as ?_
  refine o_nil ?_
  refine w_ret (r_1 rfl ⟨wb, _, rfl, ⟨cb, 0, List.replicate 4096 (.int .u8 0), [], [], _, by omega, List.length_replicate, rfl, rfl, hb0, rfl, rfl⟩, rfl⟩ (hH := ?_))
  generalize List.replicate 4096 (Value.int .u8 0) = bc
  exact HWk.trans (B := [bwB wb cb bb 0, pt cb bc 5, pt bb [.pointer none, .slice none 0 0] 85]) hka (hflat (by simp))
/-- What a copy into the buffer leaves. -/
theorem buf_copy {bc : List Value} {n q o : Nat} {pend m : List UInt8} (hbc : bc.length = 4096) (hn : n ≤ 4096) (hp : bc.take n = pend.map u8) (hpl : pend.length = n) (hq : q = min m.length (4096 - n)) (ho : n < 4096 → o = n) (ho2 : n = 4096 → o = 0) :
    (bc.take o ++ (m.take q).map u8 ++ bc.drop (o + q)).length = 4096 ∧ (bc.take o ++ (m.take q).map u8 ++ bc.drop (o + q)).take (n + q) = (pend ++ m.take q).map u8 := by
  have hml : (m.take q).length = q := by rw [List.length_take]; omega
  by_cases h : n = 4096
  · have hq0 : q = 0 := by omega
    subst hq0
    rw [ho2 h]
    simp only [List.take_zero, List.map_nil, List.nil_append, List.append_nil, Nat.add_zero, List.drop_zero]
    exact ⟨hbc, hp⟩
  · rw [ho (by omega)]
    refine ⟨by simp only [List.length_append, List.length_take, List.length_map, List.length_drop]; omega, ?_⟩
    rw [List.take_left' (by simp only [List.length_append, List.length_take, List.length_map]; omega), hp, List.map_append]
end Go.Proofs.YtlmefkhglooepaaGreatDoor
namespace Go.Proofs.YtlmefkhglooepaaGreatDoor
open Go
set_option linter.unusedSimpArgs false
set_option linter.unusedVariables false
variable {G : Nat → Option Obj} {ea : Nat → Addr}
structure BwI (wb cb bb n : Nat) (bc : List Value) (fl pend : List UInt8) (bk : Res) : Prop where
  hn : n ≤ 4096
  hbc : bc.length = 4096
  cells : bc.take n = pend.map u8
  pl : pend.length = n
  bld : BldS bb fl bk
theorem cBwWrite (wb bb : Nat) (out : List UInt8) (k : Res) (hk : BwS wb bb out k) (w : Value) (r : Res) (m : List UInt8) (h : Sl G r w m) (hl : out.length + m.length ≤ 2147483647) :
    Fn P G 181 #[.pointer (some ⟨wb, 0, none⟩), w] [k, r] fun v H => v = .tuple #[.int .i64 m.length, .nilIface] ∧ ∃ k', BwS wb bb (out ++ m) k' ∧ H = [k', r] := by
  obtain ⟨cb, n, bc, fl, pend, bk, hn, hbc, hcs, hpl, hb, rfl, rfl⟩ := hk
  rw [List.length_append] at hl
  have hw1 := h.one
  refine fn_intro (args := [_,_]) Tryz.func181 Tryz.ntmps181 rfl ?_
  refine w_seq ?_
  refine w_region ?_
  refine o_t x_as ?_
  refine o_t x_as ?_
  refine o_nil ?_
  refine w_weak (L' := [(0, .pointer (some ⟨wb, 0, none⟩)), (1, w), (4, .int .i64 0)]) (H' := [bwB wb cb bb n, pt cb bc 5, bk, r]) wka (hflat (by simp)) ?_
  refine w_cut (α := List UInt8 × Value × Nat × Nat × List Value × List UInt8 × List UInt8 × Res) (fun x => [(0, .pointer (some ⟨wb, 0, none⟩)), (1, x.2.1), (4, .int .i64 x.2.2.1)]) (fun x => [bwB wb cb bb x.2.2.2.1, pt cb x.2.2.2.2.1 5, x.2.2.2.2.2.2.2, r])
    (fun x => Sl G r x.2.1 x.1 ∧ x.2.2.1 + x.1.length = m.length ∧ BwI wb cb bb x.2.2.2.1 x.2.2.2.2.1 x.2.2.2.2.2.1 x.2.2.2.2.2.2.1 x.2.2.2.2.2.2.2 ∧ x.2.2.2.2.2.1 ++ x.2.2.2.2.2.2.1 ++ x.1 = fl ++ pend ++ m ∧ x.1.length ≤ 4096 - x.2.2.2.1) ?_ ?_
  · refine w_block ?_ -- 0
    refine w_loop (α := List UInt8 × Value × Nat × Nat × List Value × List UInt8 × List UInt8 × Res) (fun x => [(0, .pointer (some ⟨wb, 0, none⟩)), (1, x.2.1), (4, .int .i64 x.2.2.1)]) (fun x => [bwB wb cb bb x.2.2.2.1, pt cb x.2.2.2.2.1 5, x.2.2.2.2.2.2.2, r])
      (fun x => Sl G r x.2.1 x.1 ∧ x.2.2.1 + x.1.length = m.length ∧ BwI wb cb bb x.2.2.2.1 x.2.2.2.2.1 x.2.2.2.2.2.1 x.2.2.2.2.2.2.1 x.2.2.2.2.2.2.2 ∧ x.2.2.2.2.2.1 ++ x.2.2.2.2.2.2.1 ++ x.1 = fl ++ pend ++ m) (fun x => 2 * x.1.length + (if x.2.2.2.1 = 0 then 0 else 1)) (m, w, 0, n, bc, fl, pend, bk) (wka) (hka) ⟨h, by simp, ⟨hn, hbc, hcs, hpl, hb⟩, rfl⟩ ?_
    rintro ⟨l, v, nn, n, bc, fl', pend', bk⟩ ⟨hS, hnn, hI, heq⟩
    dsimp only at hS hnn hI heq ⊢
    have hn := hI.hn
    have hpl := hI.pl
    have hln : fl'.length + pend'.length + l.length = fl.length + pend.length + m.length := by have := congrArg List.length heq; simp only [List.length_append] at this; exact this
    have hv1 := hS.one
    obtain ⟨b, o, cap, rfl, hcap, hr⟩ := id hS
    have cav := cAvail (G := G) wb cb bb n hn
    have cbu := cBuffd (G := G) wb cb bb n
    refine w_seq ?_
    refine w_seq ?_
    by_cases hgt : 4096 - n < l.length
    case neg =>
      refine w_region ?_
      refine o_t x_mv ?_
      refine o_t (x_lenb Tryz.underlying78) ?_
      refine o_t x_mv ?_
      refine o_call Tryz.call180 haa spla (cav) ?_
      rintro _ _ HH ⟨rfl, rfl⟩ hHH
      simp only [List.cons_append, List.nil_append, List.append_nil] at hHH; subst hHH
      refine o_t x_cmp ?_
      refine o_t x_mv ?_
      first | refine o_t (x_g x_mv) ?_ | refine o_t x_gs ?_ | refine o_t x_gu ?_
      first | refine o_t (x_g x_nc) ?_ | refine o_t x_gs ?_ | refine o_t x_gu ?_
      first | refine o_t (x_g (x_fa f229_0)) ?_ | refine o_t x_gs ?_ | refine o_t x_gu ?_
      first | refine o_t (x_g (x_ld k58)) ?_ | refine o_t x_gs ?_ | refine o_t x_gu ?_
      first | first | refine o_t (x_g (x_inil' Tryz.underlying58)) ?_ | refine o_t x_gs ?_ | refine o_t x_gu ?_ | first | refine o_t (x_g (x_isome' Tryz.underlying58)) ?_ | refine o_t x_gs ?_ | refine o_t x_gu ?_
      refine o_t x_pick ?_
      refine o_nil ?_
      refine w_cond (t := false) (fun g => rfl) (fun hc => ?_) (fun hc => ?_) -- ('Go.Operand.tmp', 19)
      · cases hc
      refine w_exit ?_ -- 0
      exact ⟨(l, _, nn, n, bc, fl', pend', bk), wka, hka, hS, hnn, hI, heq, by dsimp only; omega⟩
    refine w_region ?_
    refine o_t x_mv ?_
    refine o_t (x_lenb Tryz.underlying78) ?_
    refine o_t x_mv ?_
    refine o_call Tryz.call180 haa spla (cav) ?_
    rintro _ _ HH ⟨rfl, rfl⟩ hHH
    simp only [List.cons_append, List.nil_append, List.append_nil] at hHH; subst hHH
    refine o_t x_cmp ?_
    refine o_t x_mv ?_
    first | refine o_t (x_g x_mv) ?_ | refine o_t x_gs ?_ | refine o_t x_gu ?_
    first | refine o_t (x_g x_nc) ?_ | refine o_t x_gs ?_ | refine o_t x_gu ?_
    first | refine o_t (x_g (x_fa f229_0)) ?_ | refine o_t x_gs ?_ | refine o_t x_gu ?_
    first | refine o_t (x_g (x_ld k58)) ?_ | refine o_t x_gs ?_ | refine o_t x_gu ?_
    first | first | refine o_t (x_g (x_inil' Tryz.underlying58)) ?_ | refine o_t x_gs ?_ | refine o_t x_gu ?_ | first | refine o_t (x_g (x_isome' Tryz.underlying58)) ?_ | refine o_t x_gs ?_ | refine o_t x_gu ?_
    refine o_t x_pick ?_
    refine o_nil ?_
    refine w_cond (t := true) (fun g => rfl) (fun hc => ?_) (fun hc => ?_) -- ('Go.Operand.tmp', 19)
    case refine_2 => cases hc
    refine w_skip ?_
    refine w_block ?_ -- 1
    refine w_seq ?_
    refine w_region ?_
    refine o_t x_as ?_
    refine o_nil ?_
    refine w_cut (α := Nat × List Value × List UInt8 × List UInt8 × Res) (fun x => [(0, .pointer (some ⟨wb, 0, none⟩)), (1, .slice (some ⟨b, o, none⟩) l.length cap), (4, .int .i64 nn), (6, .int .i64 x.1)]) (fun x => [bwB wb cb bb 0, pt cb x.2.1 5, x.2.2.2.2, r])
      (fun x => x.1 ≤ l.length ∧ BwI wb cb bb 0 x.2.1 x.2.2.1 x.2.2.2.1 x.2.2.2.2 ∧ x.2.2.1 ++ x.2.2.2.1 ++ l.drop x.1 = fl ++ pend ++ m ∧ (n = 0 → 0 < x.1)) ?_ ?_
    · refine w_seq ?_
      by_cases h0 : n = 0
      · subst h0
        have hp0 : pend' = [] := List.eq_nil_of_length_eq_zero hpl
        subst hp0
        have cw := cBldWrite (G := G) bb fl' bk hI.bld _ r l hS (by simp at hln; omega)
        refine w_region ?_
        refine o_t x_mv ?_
        refine o_call Tryz.call182 haa spla (cbu) ?_
        rintro _ _ HH ⟨rfl, rfl⟩ hHH
        simp only [List.cons_append, List.nil_append, List.append_nil] at hHH; subst hHH
        refine o_t x_cmp ?_
        refine o_nil ?_
        refine w_cond (t := true) (fun g => rfl) (fun hc => ?_) (fun hc => ?_) -- ('Go.Operand.tmp', 22)
        case refine_2 => cases hc
        refine w_region ?_
        refine o_t x_mv ?_
        refine o_t x_mv ?_
        refine o_t x_nc ?_
        refine o_t (x_fa f229_3) ?_
        refine o_t (x_ld k89) ?_
        refine o_t x_mv ?_
        refine o_inv (m83_Write _) hxa haa spla vca (cw) ?_
        rintro _ HH ⟨rfl, bk', hb', rfl⟩
        simp only [List.cons_append, List.nil_append, List.append_nil]
        refine o_t x_mv ?_
        refine o_t x_ex ?_
        refine o_t x_ex ?_
        refine o_t x_as ?_
        refine o_t x_nc ?_
        refine o_t (x_fa f229_0) ?_
        refine o_st k58 ?_
        refine o_nil ?_
        refine ⟨(l.length, bc, fl' ++ l, [], bk'), wka, hka, Nat.le_refl _, ⟨hI.hn, hI.hbc, hI.cells, rfl, hb'⟩, ?_, fun _ => by dsimp only; omega⟩
        dsimp only
        rw [List.drop_length]
        simpa using heq
      · obtain ⟨o', ho', ho1, ho2⟩ : ∃ o', slV cb 0 4096 4096 n 4096 1 = .slice (some ⟨cb, o', none⟩) (4096 - n) (4096 - n) ∧ (n < 4096 → o' = n) ∧ (n = 4096 → o' = 0) := by
          refine ⟨if 4096 = n then 0 else 0 + n * 1, by simp [slV], fun h => by rw [if_neg (by omega)]; omega, fun h => by rw [if_pos h.symm]⟩
        obtain ⟨q, hq⟩ : ∃ q, min l.length (4096 - n) = q := ⟨_, rfl⟩
        have hql : (l.take q).length = q := by rw [List.length_take]; omega
        obtain ⟨hc1, hc2⟩ := buf_copy (m := l) hI.hbc hn hI.cells hpl hq.symm ho1 ho2
        have hqn : q = 4096 - n := by omega
        have hofit : o' + q ≤ 4096 := by
          rcases Nat.lt_or_ge n 4096 with hh | hh
          · rw [ho1 hh]; omega
          · rw [ho2 (by omega)]; omega
        have cfl := cFlush (G := G) wb cb bb 4096 (Nat.le_refl _) _ hc1 (pend' ++ l.take q) fl' (by rw [← hc2]; congr 1; omega) (by rw [List.length_append, hql]; omega) bk hI.bld (by omega)
        refine w_weak (L' := [(0, .pointer (some ⟨wb, 0, none⟩)), (1, .slice (some ⟨b, o, none⟩) l.length cap), (4, .int .i64 nn), (6, .int .i64 0)]) (H' := [bwB wb cb bb n, pt cb bc 5, bk, r]) wka hka ?_
        refine w_region ?_
        refine o_t x_mv ?_
        refine o_call Tryz.call182 haa spla (cbu) ?_
        rintro _ _ HH ⟨rfl, rfl⟩ hHH
        simp only [List.cons_append, List.nil_append, List.append_nil] at hHH; subst hHH
        refine o_t x_cmp ?_
        refine o_nil ?_
        refine w_cond (t := false) (fun g => rfl) (fun hc => ?_) (fun hc => ?_) -- ('Go.Operand.tmp', 22)
        · cases hc
        refine w_seq ?_
        refine w_draw mixed ?_
        refine a_seg (k := 10) _ [(1, 0), (1, 1), (1, 2), (1, 3), (1, 4), (1, 5), (1, 6), (1, 7), (1, 8), (1, 9)] (by kernel_rfl) (hwk (.cons .head .nil)) ?_
        refine h_t rfl x_mv ?_
        refine h_t rfl x_nc ?_
        refine h_t rfl (x_fa f229_1) ?_
        refine h_t rfl (x_ld k78) ?_
        refine h_t rfl x_mv ?_
        refine h_t rfl x_nc ?_
        refine h_t rfl (x_fa f229_2) ?_
        refine h_t rfl (x_ld k3) ?_
        refine h_t rfl (x_sl (lo := n) (hi := 4096) (v := .slice (some ⟨cb, o', none⟩) (4096 - n) (4096 - n)) Tryz.underlying78 e78 (hv := ho')) ?_
        refine h_t rfl x_mv ?_
        refine h_end ?_
        refine a_seg (k := 11) _ [(0, 10)] (by kernel_rfl) hwk_nil ?_
        refine h_one rfl (fun Q' hQ => ?_)
        refine o_copy (news := (l.take q).map u8) hxa hxa Tryz.underlying78 k5 (pulla) (((List.map_take ▸ hr.take q).pull (pulla))) (by rw [List.length_map, hql]; exact hq.symm) (by rw [List.length_map, hql, hI.hbc]; exact hofit) u8_one ?_
        refine o_nil (hQ _ _ (h_keep ?_))
        refine h_end ?_
        refine a_seg (k := 12) _ [(1, 11)] (by kernel_rfl) (HWk.refl _) ?_
        refine h_t rfl x_as ?_
        refine h_end ?_
        refine a_done rfl ?_
        rw [List.length_map, hql]
        refine w_seq ?_
        refine w_region ?_
        refine o_t x_mv ?_
        refine o_t x_nc ?_
        refine o_t (x_fa f229_2) ?_
        refine o_t (x_ld k3) ?_
        refine o_t x_mv ?_
        refine o_t (x_add (z := ((4096 : Nat) : Int)) (hz := (w_i64 (by omega)).trans (by omega))) ?_
        refine o_t x_nc ?_
        refine o_t (x_fa f229_2) ?_
        refine o_st k3 ?_
        refine o_nil ?_
        refine w_region ?_
        refine o_t x_mv ?_
        refine o_call Tryz.call95 haa spla (cfl) ?_
        rintro _ _ HH ⟨rfl, bk', hb', rfl⟩ hHH
        simp only [List.cons_append, List.nil_append, List.append_nil] at hHH; subst hHH
        refine o_nil ?_
        refine ⟨(q, _, fl' ++ (pend' ++ l.take q), [], bk'), wka, hka, by dsimp only; omega, ⟨Nat.zero_le _, hc1, by simp, rfl, hb'⟩, ?_, fun h => absurd h h0⟩
        dsimp only
        rw [List.append_nil, ← heq]
        simp only [List.append_assoc, List.take_append_drop]
    rintro ⟨q, bc', fl2, pend2, bk'⟩ ⟨hq, hI', heq', hq0⟩
    dsimp only at hq hI' heq' hq0 ⊢
    have hsl := Sl.drop (m := q) hq hcap hr
    refine w_seq ?_
    refine w_region ?_
    refine o_t x_mv ?_
    refine o_t x_mv ?_
    refine o_t x_add ?_
    refine o_t x_as ?_
    refine o_nil ?_
    refine w_region ?_
    refine o_t x_mv ?_
    refine o_t x_mv ?_
    refine o_t (x_sl (lo := q) (hi := l.length) (v := slV b o l.length cap q l.length 1) Tryz.underlying78 e78 (hl := ⟨_, _, fun _ => rfl, by omega, by omega⟩) (hh := rfl) (hv := rfl)) ?_
    refine o_t x_as ?_
    refine o_nil ?_
    refine ⟨(l.drop q, _, nn + q, 0, bc', fl2, pend2, bk'), wka, hka, ⟨hsl, by dsimp only; rw [List.length_drop]; omega, hI', heq'⟩, ?_⟩
    dsimp only
    rw [List.length_drop, if_pos rfl]
    by_cases h0 : n = 0
    · have := hq0 h0; rw [if_pos h0]; omega
    · rw [if_neg h0]; omega
  rintro ⟨l, v, nn, n, bc, fl', pend', bk⟩ ⟨hS, hnn, hI, heq, hfit⟩
  dsimp only at hS hnn hI heq hfit ⊢
  have hn := hI.hn
  have hpl := hI.pl
  obtain ⟨b, o, cap, rfl, hcap, hr⟩ := id hS
  obtain ⟨o', ho', ho1, ho2⟩ : ∃ o', slV cb 0 4096 4096 n 4096 1 = .slice (some ⟨cb, o', none⟩) (4096 - n) (4096 - n) ∧ (n < 4096 → o' = n) ∧ (n = 4096 → o' = 0) := by
    refine ⟨if 4096 = n then 0 else 0 + n * 1, by simp [slV], fun h => by rw [if_neg (by omega)]; omega, fun h => by rw [if_pos h.symm]⟩
  obtain ⟨hc1, hc2⟩ := buf_copy (m := l) hI.hbc hn hI.cells hpl (q := l.length) (by omega) ho1 ho2
  rw [List.take_length] at hc1 hc2
  have hofit : o' + l.length ≤ 4096 := by
    rcases Nat.lt_or_ge n 4096 with hh | hh
    · rw [ho1 hh]; omega
    · rw [ho2 (by omega)]; omega
  refine w_seq ?_
  refine w_seq ?_
  refine w_region ?_
  refine o_t x_mv ?_
  refine o_t x_nc ?_
  refine o_t (x_fa f229_0) ?_
  refine o_t (x_ld k58) ?_
  first | refine o_t (x_inil Tryz.underlying58) ?_ | refine o_t (x_isome Tryz.underlying58) ?_
  refine o_nil ?_
  refine w_cond (t := false) (fun g => rfl) (fun hc => ?_) (fun hc => ?_) -- ('Go.Operand.tmp', 66)
  · cases hc
  refine w_skip ?_
  refine w_seq ?_
  refine w_draw mixed ?_
  refine a_seg (k := 10) _ [(1, 0), (1, 1), (1, 2), (1, 3), (1, 4), (1, 5), (1, 6), (1, 7), (1, 8), (1, 9)] (by kernel_rfl) (hwk (.cons .head .nil)) ?_
  refine h_t rfl x_mv ?_
  refine h_t rfl x_nc ?_
  refine h_t rfl (x_fa f229_1) ?_
  refine h_t rfl (x_ld k78) ?_
  refine h_t rfl x_mv ?_
  refine h_t rfl x_nc ?_
  refine h_t rfl (x_fa f229_2) ?_
  refine h_t rfl (x_ld k3) ?_
  refine h_t rfl (x_sl (lo := n) (hi := 4096) (v := .slice (some ⟨cb, o', none⟩) (4096 - n) (4096 - n)) Tryz.underlying78 e78 (hv := ho')) ?_
  refine h_t rfl x_mv ?_
  refine h_end ?_
  refine a_seg (k := 11) _ [(0, 10)] (by kernel_rfl) hwk_nil ?_
  refine h_one rfl (fun Q' hQ => ?_)
  refine o_copy (news := l.map u8) hxa hxa Tryz.underlying78 k5 (pulla) (hr.pull (pulla)) (by rw [List.length_map]; exact (Nat.min_eq_left hfit).symm) (by rw [List.length_map, hI.hbc]; exact hofit) u8_one ?_
  refine o_nil (hQ _ _ (h_keep ?_))
  refine h_end ?_
  refine a_seg (k := 12) _ [(1, 11)] (by kernel_rfl) (HWk.refl _) ?_
  refine h_t rfl x_as ?_
  refine h_end ?_
  refine a_done rfl ?_
  rw [List.length_map]
  refine w_seq ?_
  refine w_region ?_
  refine o_t x_mv ?_
  refine o_t x_nc ?_
  refine o_t (x_fa f229_2) ?_
  refine o_t (x_ld k3) ?_
  refine o_t x_mv ?_
  refine o_t (x_add (z := ((n + l.length : Nat) : Int)) (hz := (w_i64 (by omega)).trans (by omega))) ?_
  refine o_t x_nc ?_
  refine o_t (x_fa f229_2) ?_
  refine o_st k3 ?_
  refine o_nil ?_
  refine w_seq ?_
  refine w_region ?_
  refine o_t x_mv ?_
  refine o_t x_mv ?_
  refine o_t x_add ?_
  refine o_t x_as ?_
  refine o_nil ?_
  refine w_seq ?_
  refine w_region ?_
  refine o_t x_mv ?_
  refine o_t x_as ?_
  refine o_t x_as ?_
  refine o_nil ?_
  refine w_ret (r_2 rfl ⟨?_, _, ⟨cb, n + l.length, _, fl', pend' ++ l, bk, by omega, hc1, hc2, by rw [List.length_append, hpl], hI.bld, by rw [← List.append_assoc, heq], rfl⟩, rfl⟩ (hH := ?_))
  · exact congrArg (fun z => Value.tuple #[.int .i64 z, .nilIface]) (by omega)
  · exact HWk.trans (B := [bwB wb cb bb (n + l.length), pt cb _ 5, bk, r]) hka (hflat (by simp))
end Go.Proofs.YtlmefkhglooepaaGreatDoor
namespace Go.Proofs.YtlmefkhglooepaaGreatDoor
open Go
set_option linter.unusedSimpArgs false
set_option linter.unusedVariables false
variable {G : Nat → Option Obj} {ea : Nat → Addr}
theorem fuel2 : ∃ k, P.types.size + Made.depth = k + 1 + 1 := ⟨P.types.size + Made.depth - 2, by
  have : 2 ≤ P.types.size + Made.depth := of_decide_eq_true (by kernel_rfl)
  omega⟩
theorem i247C : (P.info? 247).map (fun i => (i.methods.find? (·.name == "Close")).map fun m => (m.path.toList, m.func)) = some (some ([], some (211, false))) := by kernel_rfl
theorem i247W : (P.info? 247).map (fun i => (i.methods.find? (·.name == "Write")).map fun m => (m.path.toList, m.func)) = some (some ([⟨249, 0, true⟩], none)) := by kernel_rfl
theorem i117W : (P.info? 117).map (fun i => (i.methods.find? (·.name == "Write")).map fun m => (m.path.toList, m.func)) = some (some ([], some (94, true))) := by kernel_rfl
theorem m247_Close (nb : Nat) (v : Value) (vs : Array Value) (w : World) (h : w.cell? ⟨nb, 0, none⟩ = some v) :
    (callMethod (.iface 247 (.pointer (some ⟨nb, 0, none⟩))) "Close" vs).run P w = .ok (.enter 211 (#[.agg #[v]] ++ vs)) w := by
  obtain ⟨k, hk⟩ := fuel2
  obtain ⟨i, hi, hm⟩ := Option.map_eq_some_iff.1 i247C
  obtain ⟨m, hm1, hm2⟩ := Option.map_eq_some_iff.1 hm
  have hp : m.path.toList = [] := congrArg Prod.fst hm2
  have hf : m.func = some (211, false) := congrArg Prod.snd hm2
  have hpe : m.path = #[] := by simpa using hp
  have h249 : aggSz P 249 = some 1 := by kernel_rfl
  have hl := run_loadA (P := P) (w := w) (b := nb) (i := 0) h249 (vs := [v]) rfl (fun j u hj => by
    rcases j with _ | j
    · simp at hj; subst hj; exact h
    · simp at hj)
  have hc : ∀ args, (callFunc 211 args).run P w = .ok (.enter 211 args) w := fun args => Tryz.call211 args w
  have hw : ∀ (t : TypeId) (nm : String), (Builtin.ssaWrapNilChk_ #[t] t #[.pointer (some ⟨nb, 0, none⟩), strVal "", strVal nm]).run P w = .ok (.pointer (some ⟨nb, 0, none⟩)) w := fun _ _ => rfl
  have hme : (method (P.types.size + Made.depth) 247 (.pointer (some ⟨nb, 0, none⟩)) "Close").run P w = .ok (211, .agg #[v]) w := by
    rw [hk]
    simp [method, typeInfo, hi, hm1, hp, hf, hpe, follow, receiverAt, run_underlying Tryz.underlying247, Place.get, hw, asAddr, hl]
  simp only [callMethod, Sem.run_bind, run_program, Result.andThen_ok, hme, hc]
theorem m247_Write (nb : Nat) (cc : Nat) (vs : Array Value) (w : World) (h : w.cell? ⟨nb, 0, none⟩ = some (.iface 117 (.pointer (some ⟨cc, 0, none⟩)))) :
    (callMethod (.iface 247 (.pointer (some ⟨nb, 0, none⟩))) "Write" vs).run P w = .ok (.enter 94 (#[.pointer (some ⟨cc, 0, none⟩)] ++ vs)) w := by
  obtain ⟨k, hk⟩ := fuel2
  obtain ⟨i, hi, hm⟩ := Option.map_eq_some_iff.1 i247W
  obtain ⟨m, hm1, hm2⟩ := Option.map_eq_some_iff.1 hm
  obtain ⟨i', hi', hm'⟩ := Option.map_eq_some_iff.1 i117W
  obtain ⟨m', hm1', hm2'⟩ := Option.map_eq_some_iff.1 hm'
  have hp : m.path.toList = [⟨249, 0, true⟩] := congrArg Prod.fst hm2
  have hf : m.func = none := congrArg Prod.snd hm2
  have hp' : m'.path.toList = [] := congrArg Prod.fst hm2'
  have hf' : m'.func = some (94, true) := congrArg Prod.snd hm2'
  have hpe : m'.path = #[] := by simpa using hp'
  have k89 : oneSz P 89 = true := by kernel_rfl
  have hl := run_load1 (P := P) k89 h
  have hsz : ∀ w, (sizeOf 89).run P w = .ok 1 w := fun w => run_size_of (oneSz_sz k89) w
  have hc : ∀ args, (callFunc 94 args).run P w = .ok (.enter 94 args) w := fun args => Tryz.call94 args w
  have h0 : (⟨nb, 0, none⟩ : Addr).add 0 = ⟨nb, 0, none⟩ := rfl
  have hme : (method (P.types.size + Made.depth) 247 (.pointer (some ⟨nb, 0, none⟩)) "Write").run P w = .ok (94, .pointer (some ⟨cc, 0, none⟩)) w := by
    rw [hk]
    simp [method, typeInfo, hi, hm1, hp, hf, follow, receiverAt, run_underlying Tryz.underlying249, run_underlying Tryz.underlying117, Place.get, asAddr, hl, fieldPlace, hsz, h0, hi', hm1', hp', hf', hpe]
  simp only [callMethod, Sem.run_bind, run_program, Result.andThen_ok, hme, hc]
section
variable {P : Program} {n : Nat} {G : Nat → Option Obj} {ops : Array Oper} {Q : Post} {rest : List Oper} {L : Loc} {H R : List Res} {x : Operand}
/-- A call through an interface that is looked into in memory. -/
theorem o_invH {f T d : Nat} {nm : String} {args : Array Operand} {ts : Array TypeId} {ty : TypeId} {p : String} {e : Array Edge} {vs : Array Value} {u r : Value} {H1 : List Res} {Qf : Value → List Res → Prop}
    (hc : ∀ F w, Sub G F → Sat H F w → ∀ vs, (callMethod (.iface T u) nm vs).run P w = .ok (.enter f (#[r] ++ vs)) w) (hx : ∀ g, evl L g x = .iface T u) (ha : ∀ g, args.map (evl L g) = vs) (hs : Split H H1 R) {all : Array Value} (hva : #[r] ++ vs = all) (hf : Fn P G f all H1 Qf)
    (h : ∀ v H', Qf v H' → OP P n G ops Q rest ((d, v) :: L) (H' ++ R)) (hn : d < n := by decide) :
    OP P n G ops Q (⟨some d, .call ⟨.invoke x nm, args, ts⟩, ty, p, e, none⟩ :: rest) L H := by
  subst hva
  intro F hF g a w hag hsat
  refine wpList_plain rfl fun K hK => ?_
  have hsat' := hsat.perm hs
  have hrun : (execOp a.eval ⟨some d, .call ⟨.invoke x nm, args, ts⟩, ty, p, e, none⟩).run P w = .ok (.enter f (#[r] ++ vs)) w := by
    rw [hag.eval]
    have h1 := ha g
    have h2 : (#[Value.iface T u] ++ vs)[0]? = some (Value.iface T u) := by rw [Array.getElem?_append_left (Nat.zero_lt_one)]; rfl
    simp [execOp, resolve, invoke, hx g, h1]
    have h3 := hc F w hF hsat vs
    revert h3 h2
    cases (#[Value.iface T u] ++ vs)[0]? with
    | none => intro h2; cases h2
    | some z => intro h2 h3; cases h2; exact h3
  unfold Oper.wp
  rw [hrun]
  refine (hf (F.add R) (hF.add hsat') w hsat'.split).mono fun e w' ⟨v', H', he, h1, h2⟩ => ?_
  subst he
  exact hK _ _ (h v' H' h2 F hF g _ w' (hag.put hn v') (hsat'.join h1))
end
/-- A writer: what is written into it joins what was. -/
structure Wrt (G : Nat → Option Obj) (T : TypeId) (u r : Value) (f : FuncId) (S : List UInt8 → Res → Prop) : Prop where
  call : ∀ out k H R, S out k → Pull k H R → ∀ F w, Sub G F → Sat H F w → ∀ vs, (callMethod (.iface T u) "Write" vs).run P w = .ok (.enter f (#[r] ++ vs)) w
  write : ∀ out k, S out k → ∀ w rr m, Sl G rr w m → out.length + m.length ≤ 2147483647 →
    Fn P G f #[r, w] [k, rr] fun v H => v = .tuple #[.int .i64 m.length, .nilIface] ∧ ∃ k', S (out ++ m) k' ∧ H = [k', rr]
abbrev cwB (cb : Nat) (T : TypeId) (u : Value) (n : Nat) : Res := pt cb [.iface T u, .int .i64 n] 121
/-- A writer that counts. -/
def CwS (cb : Nat) (T : TypeId) (u : Value) (base : Nat) (S : List UInt8 → Res → Prop) (out : List UInt8) (k : Res) : Prop :=
  ∃ n k0, base + n = out.length ∧ S out k0 ∧ k = cwB cb T u n ++ k0
theorem cCount (cb : Nat) (T : TypeId) (u r : Value) (f : FuncId) (S : List UInt8 → Res → Prop) (W : Wrt G T u r f S) (base : Nat) (out : List UInt8) (k : Res) (hk : CwS cb T u base S out k) (w : Value) (rr : Res) (m : List UInt8) (h : Sl G rr w m) (hl : out.length + m.length ≤ 2147483647) :
    Fn P G 94 #[.pointer (some ⟨cb, 0, none⟩), w] [k, rr] fun v H => v = .tuple #[.int .i64 m.length, .nilIface] ∧ ∃ k', CwS cb T u base S (out ++ m) k' ∧ H = [k', rr] := by
  obtain ⟨n, k0, hn, hS, rfl⟩ := hk
  have cw := W.write out k0 hS w rr m h hl
  refine fn_intro (args := [_,_]) Tryz.func94 Tryz.ntmps94 rfl ?_
  refine w_seq ?_
  refine w_region ?_
  refine o_t x_as ?_
  refine o_t x_as ?_
  refine o_nil ?_
  refine w_seq ?_
  refine w_weak (L' := [(0, .pointer (some ⟨cb, 0, none⟩)), (1, w)]) (H' := [cwB cb T u n, k0, rr]) wka (hflat (by simp)) ?_
  refine w_region ?_
  refine o_t x_mv ?_
  refine o_t x_nc ?_
  refine o_t (x_fa f121_0) ?_
  refine o_t (x_ld k89) ?_
  refine o_t x_mv ?_
  refine o_invH (W.call out k0 _ _ hS (.tail .head)) hxa haa spla vca (cw) ?_
  rintro _ HH ⟨rfl, k', hS', rfl⟩
  simp only [List.cons_append, List.nil_append, List.append_nil]
  refine o_t x_mv ?_
  refine o_t x_ex ?_
  refine o_t x_ex ?_
  refine o_t x_as ?_
  refine o_t x_as ?_
  refine o_nil ?_
  refine w_seq ?_
  refine w_region ?_
  refine o_t x_mv ?_
  refine o_t x_nc ?_
  refine o_t (x_fa f121_1) ?_
  refine o_t (x_ld k2) ?_
  refine o_t x_mv ?_
  refine o_t x_add ?_
  refine o_t x_nc ?_
  refine o_t (x_fa f121_1) ?_
  refine o_st k2 ?_
  refine o_nil ?_
  refine w_seq ?_
  refine w_region ?_
  refine o_t x_mv ?_
  refine o_t x_mv ?_
  refine o_t x_as ?_
  refine o_t x_as ?_
  refine o_nil ?_
  refine w_ret (r_2 rfl ⟨rfl, cwB cb T u (n + m.length) ++ k', ⟨n + m.length, k', by rw [List.length_append]; omega, hS', rfl⟩, rfl⟩ (hH := ?_))
  refine HWk.trans (B := [cwB cb T u (n + m.length), k', rr]) ?_ (hflat (by simp))
  rw [show cwB cb T u (n + m.length) = pt cb [.iface T u, .int .i64 ((n : Int) + m.length)] 121 by rfl]
  exact hka
end Go.Proofs.YtlmefkhglooepaaGreatDoor
namespace Go.Proofs.YtlmefkhglooepaaGreatDoor
open Go
set_option linter.unusedSimpArgs false
set_option linter.unusedVariables false
variable {G : Nat → Option Obj} {ea : Nat → Addr}
theorem wu16 (c : Nat) : IntKind.wrap .u16 (c : Int) = ((c % 65536 : Nat) : Int) := by simp [IntKind.wrap, IntKind.bits, IntKind.signed]
theorem ofNat_toNat (n : Nat) : ((UInt8.ofNat n).toNat : Int) = ((n % 256 : Nat) : Int) := by simp
theorem set_set_putB (cs : List Value) (o : Nat) (a b : UInt8) (h : o + 2 ≤ cs.length) : (cs.set o (u8 a)).set (o + 1) (u8 b) = putB cs o [a, b] := by
  apply List.ext_getElem?
  intro k
  have hl : (cs.take o).length = o := by rw [List.length_take]; omega
  rw [putB, List.append_assoc, List.getElem?_set, List.getElem?_set, List.length_set]
  by_cases h1 : o + 1 = k
  · subst h1
    rw [if_pos rfl, if_pos (by omega), List.getElem?_append_right (by omega), hl, Nat.add_sub_cancel_left]; rfl
  · rw [if_neg h1]
    by_cases h2 : o = k
    · subst h2
      rw [if_pos rfl, if_pos (by omega), List.getElem?_append_right (by omega), hl, Nat.sub_self]; rfl
    · rw [if_neg h2]
      by_cases h3 : k < o
      · rw [List.getElem?_append_left (by omega), List.getElem?_take, if_pos h3]
      · rw [List.getElem?_append_right (by omega), hl, List.getElem?_append_right (by simp; omega), List.getElem?_drop]
        congr 1
        simp; omega
theorem le2 (x : Nat) : le 2 x = [UInt8.ofNat x, UInt8.ofNat (x / 256)] := rfl
theorem le4 (x : Nat) : le 4 x = le 2 (x % 65536) ++ le 2 (x / 65536) := by
  simp only [le, List.cons_append, List.nil_append, List.cons.injEq, and_true]
  refine ⟨?_, ?_, ?_, ?_⟩ <;> (apply UInt8.toNat_inj.1; simp; try omega)
theorem cPut16 (bb o len cap T : Nat) (cs : List Value) (x : Nat) (hx : x < 65536) (hl : 2 ≤ len) (hf : o + 2 ≤ cs.length) : Fn P G 89 #[.slice (some ⟨bb, o, none⟩) len cap, .int .u16 (x : Nat)] [pt bb cs T] fun _ H => H = [pt bb (putB cs o (le 2 x)) T] := by
  rw [le2, ← set_set_putB _ _ _ _ hf]
  refine fn_intro (args := [_,_]) Tryz.func89 Tryz.ntmps89 rfl ?_
  refine w_seq ?_
  refine w_region ?_
  refine o_t x_mv ?_
  refine o_t x_mv ?_
  refine o_t (x_cv (z := ((UInt8.ofNat x).toNat : Int)) ⟨_, Tryz.underlying72⟩ Tryz.underlying5 (hz := (wu8 x).trans (ofNat_toNat x).symm)) ?_
  refine o_t (x_ia (m := o) Tryz.underlying78 e78 (hr := by omega) (hm := by simp)) ?_
  refine o_st k5 ?_ (cs' := cs.set o (u8 (UInt8.ofNat x))) (hi := by omega) (hc := rfl)
  refine o_nil ?_
  refine w_region ?_
  refine o_t x_mv ?_
  refine o_t x_mv ?_
  refine o_t (x_shr (z := ((x / 256 : Nat) : Int)) (hz := by omega)) ?_
  refine o_t (x_cv (z := ((UInt8.ofNat (x / 256)).toNat : Int)) ⟨_, Tryz.underlying72⟩ Tryz.underlying5 (hz := (wu8 (x / 256)).trans (ofNat_toNat (x / 256)).symm)) ?_
  refine o_t (x_ia (m := o + 1) Tryz.underlying78 e78 (hr := by omega) (hm := by simp)) ?_
  refine o_st k5 ?_ (cs' := (cs.set o (u8 (UInt8.ofNat x))).set (o + 1) (u8 (UInt8.ofNat (x / 256)))) (hi := by rw [List.length_set]; omega) (hc := rfl)
  refine o_nil ?_
  exact r_0n rfl rfl
theorem cPut32 (bb o len cap T : Nat) (cs : List Value) (x : Nat) (hx : x < 4294967296) (hl : 4 ≤ len) (hc : len ≤ cap) (hf : o + 4 ≤ cs.length) : Fn P G 90 #[.slice (some ⟨bb, o, none⟩) len cap, .int .u32 (x : Nat)] [pt bb cs T] fun _ H => H = [pt bb (putB cs o (le 4 x)) T] := by
  have hp := putB_putB (cs := cs) (o := o) (l := le 2 (x % 65536)) (m := le 2 (x / 65536)) (by rw [le_length, le_length]; omega)
  rw [le4, ← hp, le_length]
  have c1 := cPut16 (G := G) bb o len cap T cs (x % 65536) (by omega) (by omega) (by omega)
  have c2 := cPut16 (G := G) bb (o + 2) (len - 2) (cap - 2) T (putB cs o (le 2 (x % 65536))) (x / 65536) (by omega) (by omega) (by rw [putB_length (by rw [le_length]; omega)]; omega)
  refine fn_intro (args := [_,_]) Tryz.func90 Tryz.ntmps90 rfl ?_
  refine w_seq ?_
  refine w_region ?_
  refine o_t x_mv ?_
  refine o_t x_mv ?_
  refine o_t (x_cv (z := ((x % 65536 : Nat) : Int)) ⟨_, Tryz.underlying77⟩ Tryz.underlying72 (hz := wu16 x)) ?_
  refine o_call Tryz.call89 haa spla (c1) ?_
  rintro _ _ HH rfl hHH
  simp only [List.cons_append, List.nil_append, List.append_nil] at hHH; subst hHH
  refine o_nil ?_
  refine w_region ?_
  refine o_t x_mv ?_
  refine o_t (x_sl (lo := 2) (hi := len) (v := .slice (some ⟨bb, o + 2, none⟩) (len - 2) (cap - 2)) Tryz.underlying78 e78 (hv := by simp [slV]; omega)) ?_
  refine o_t x_mv ?_
  refine o_t (x_shr (z := ((x / 65536 : Nat) : Int)) (hz := by omega)) ?_
  refine o_t (x_cv (z := ((x / 65536 : Nat) : Int)) ⟨_, Tryz.underlying77⟩ Tryz.underlying72 (hz := w_u16 (by omega))) ?_
  refine o_call Tryz.call89 haa spla (c2) ?_
  rintro _ _ HH rfl hHH
  simp only [List.cons_append, List.nil_append, List.append_nil] at hHH; subst hHH
  refine o_nil ?_
  exact r_0n rfl rfl
/-- A row of bytes that is filled from its head on. -/
def wbC (N : Nat) (pre : List UInt8) : List Value := pre.map u8 ++ List.replicate (N - pre.length) (.int .u8 0)
theorem wbC_len {N : Nat} {pre : List UInt8} (h : pre.length ≤ N) : (wbC N pre).length = N := by simp [wbC]; omega
theorem wbC_put {N : Nat} {pre l : List UInt8} (h : pre.length + l.length ≤ N) : putB (wbC N pre) pre.length l = wbC N (pre ++ l) := by
  have h1 : (pre.map u8).length = pre.length := by simp
  simp only [putB, wbC]
  rw [List.take_left' h1, List.drop_append, List.drop_eq_nil_of_le (by omega), h1, Nat.add_sub_cancel_left, List.drop_replicate, List.map_append, List.length_append, List.nil_append, Nat.sub_sub]
theorem wbC_full {N : Nat} {pre : List UInt8} (h : pre.length = N) : wbC N pre = pre.map u8 := by simp [wbC, h]
theorem wbC_zero {N : Nat} {pre : List UInt8} (k : Nat) (h : pre.length + k ≤ N) : wbC N (pre ++ List.replicate k 0) = wbC N pre := by
  simp only [wbC, List.map_append, List.length_append, List.length_replicate, List.map_replicate, List.append_assoc]
  rw [show u8 0 = Value.int .u8 0 from rfl, List.replicate_append_replicate]
  congr 2; omega
theorem wbC_nil (N : Nat) : wbC N [] = List.replicate N (.int .u8 0) := by simp [wbC]
def WbV (bb N a : Nat) (v : Value) : Prop := v.oneCell' = true ∧ (a < N → v = .slice (some ⟨bb, a, none⟩) (N - a) (N - a))
theorem WbV.next {bb N a : Nat} (k : Nat) (h : a + k ≤ N) (hk : 0 < k) : WbV bb N (a + k) (slV bb a (N - a) (N - a) k (N - a) 1) := by
  refine ⟨rfl, fun hlt => ?_⟩
  simp only [slV]
  rw [if_neg (by omega), Nat.mul_one, Nat.sub_sub]
theorem cWb16 (p bb T N : Nat) (pre : List UInt8) (v : Value) (x : Nat) (hx : x < 65536) (hv : WbV bb N pre.length v) (hN : pre.length + 2 ≤ N) :
    Fn P G 58 #[.pointer (some ⟨p, 0, none⟩), .int .u16 (x : Nat)] [pt p [v] 133, pt bb (wbC N pre) T] fun _ H => ∃ v2, WbV bb N (pre ++ le 2 x).length v2 ∧ H = [pt p [v2] 133, pt bb (wbC N (pre ++ le 2 x)) T] := by
  obtain ⟨hv1, hv2⟩ := hv
  rw [hv2 (by omega)]
  have c1 := cPut16 (G := G) bb pre.length (N - pre.length) (N - pre.length) T (wbC N pre) x hx (by omega) (by rw [wbC_len (by omega)]; omega)
  rw [wbC_put (by rw [le_length]; omega)] at c1
  have hn := WbV.next (bb := bb) (N := N) (a := pre.length) 2 (by omega) (by decide)
  refine fn_intro (args := [_,_]) Tryz.func58 Tryz.ntmps58 rfl ?_
  refine w_seq ?_
  refine w_region ?_
  refine o_t x_mv ?_
  refine o_t x_nc ?_
  refine o_t (x_ld k133) ?_
  refine o_t x_mv ?_
  refine o_call Tryz.call89 haa spla (c1) ?_
  rintro _ _ HH rfl hHH
  simp only [List.cons_append, List.nil_append, List.append_nil] at hHH; subst hHH
  refine o_nil ?_
  refine w_region ?_
  refine o_t x_mv ?_
  refine o_t x_mv ?_
  refine o_t x_nc ?_
  refine o_t (x_ld k133) ?_
  refine o_t (x_sl (lo := 2) (hi := N - pre.length) (v := slV bb pre.length (N - pre.length) (N - pre.length) 2 (N - pre.length) 1) Tryz.underlying133 e133 (hv := rfl)) ?_
  refine o_t x_nc ?_
  refine o_st k133 ?_
  refine o_nil ?_
  exact r_0n rfl ⟨_, by rw [List.length_append, le_length]; exact hn, rfl⟩
theorem cWb32 (p bb T N : Nat) (pre : List UInt8) (v : Value) (x : Nat) (hx : x < 4294967296) (hv : WbV bb N pre.length v) (hN : pre.length + 4 ≤ N) :
    Fn P G 60 #[.pointer (some ⟨p, 0, none⟩), .int .u32 (x : Nat)] [pt p [v] 133, pt bb (wbC N pre) T] fun _ H => ∃ v2, WbV bb N (pre ++ le 4 x).length v2 ∧ H = [pt p [v2] 133, pt bb (wbC N (pre ++ le 4 x)) T] := by
  obtain ⟨hv1, hv2⟩ := hv
  rw [hv2 (by omega)]
  have c1 := cPut32 (G := G) bb pre.length (N - pre.length) (N - pre.length) T (wbC N pre) x hx (by omega) (Nat.le_refl _) (by rw [wbC_len (by omega)]; omega)
  rw [wbC_put (by rw [le_length]; omega)] at c1
  have hn := WbV.next (bb := bb) (N := N) (a := pre.length) 4 (by omega) (by decide)
  refine fn_intro (args := [_,_]) Tryz.func60 Tryz.ntmps60 rfl ?_
  refine w_seq ?_
  refine w_region ?_
  refine o_t x_mv ?_
  refine o_t x_nc ?_
  refine o_t (x_ld k133) ?_
  refine o_t x_mv ?_
  refine o_call Tryz.call90 haa spla (c1) ?_
  rintro _ _ HH rfl hHH
  simp only [List.cons_append, List.nil_append, List.append_nil] at hHH; subst hHH
  refine o_nil ?_
  refine w_region ?_
  refine o_t x_mv ?_
  refine o_t x_mv ?_
  refine o_t x_nc ?_
  refine o_t (x_ld k133) ?_
  refine o_t (x_sl (lo := 4) (hi := N - pre.length) (v := slV bb pre.length (N - pre.length) (N - pre.length) 4 (N - pre.length) 1) Tryz.underlying133 e133 (hv := rfl)) ?_
  refine o_t x_nc ?_
  refine o_st k133 ?_
  refine o_nil ?_
  exact r_0n rfl ⟨_, by rw [List.length_append, le_length]; exact hn, rfl⟩
end Go.Proofs.YtlmefkhglooepaaGreatDoor
namespace Go.Proofs.YtlmefkhglooepaaGreatDoor
open Go
set_option linter.unusedSimpArgs false
set_option linter.unusedVariables false
variable {G : Nat → Option Obj} {ea : Nat → Addr}
theorem bwWrt (wb bb : Nat) : Wrt G 118 (.pointer (some ⟨wb, 0, none⟩)) (.pointer (some ⟨wb, 0, none⟩)) 181 (BwS wb bb) where
  call := fun _ _ _ _ _ _ _ w _ _ vs => m118_Write _ vs w
  write := fun out k hk w rr m h hl => cBwWrite wb bb out k hk w rr m h hl
theorem cwWrt (cb : Nat) (T : TypeId) (u r : Value) (f : FuncId) (S : List UInt8 → Res → Prop) (W : Wrt G T u r f S) (base : Nat) : Wrt G 117 (.pointer (some ⟨cb, 0, none⟩)) (.pointer (some ⟨cb, 0, none⟩)) 94 (CwS cb T u base S) where
  call := fun _ _ _ _ _ _ _ w _ _ vs => m117_Write _ vs w
  write := fun out k hk w rr m h hl => cCount cb T u r f S W base out k hk w rr m h hl
/-- A writer that is not closed. -/
def NcS (nb cc : Nat) (S : List UInt8 → Res → Prop) (out : List UInt8) (k : Res) : Prop := ∃ k0, S out k0 ∧ k = pt nb [.iface 117 (.pointer (some ⟨cc, 0, none⟩))] 249 ++ k0
theorem ncWrt (nb cc : Nat) (S : List UInt8 → Res → Prop) (W : Wrt G 117 (.pointer (some ⟨cc, 0, none⟩)) (.pointer (some ⟨cc, 0, none⟩)) 94 S) : Wrt G 247 (.pointer (some ⟨nb, 0, none⟩)) (.pointer (some ⟨cc, 0, none⟩)) 94 (NcS nb cc S) where
  call := by
    rintro out k H R ⟨k0, _, rfl⟩ hp F w hF hs vs
    have h1 := (hs.perm hp).own (nb, .cells #[.iface 117 (.pointer (some ⟨cc, 0, none⟩))] 249 (0, 0)) (by simp [pt])
    exact m247_Write nb cc vs w (by simp [World.cell?, h1])
  write := by
    rintro out k ⟨k0, hS, rfl⟩ w rr m h hl
    refine ((W.write out k0 hS w rr m h hl).frame [pt nb [.iface 117 (.pointer (some ⟨cc, 0, none⟩))] 249]).conv ?_ ?_
    · exact HWk.trans (B := [pt nb [.iface 117 (.pointer (some ⟨cc, 0, none⟩))] 249, k0, rr]) (hflat (by simp)) hka
    · rintro v H ⟨H1, ⟨rfl, k', hS', rfl⟩, rfl⟩
      exact ⟨[pt nb [.iface 117 (.pointer (some ⟨cc, 0, none⟩))] 249 ++ k', rr], HWk.trans (B := [pt nb [.iface 117 (.pointer (some ⟨cc, 0, none⟩))] 249, k', rr]) hka (hflat (by simp)), rfl, _, ⟨k', hS', rfl⟩, rfl⟩
/-- The archive's writer. -/
abbrev Scw (cw wb bb : Nat) : List UInt8 → Res → Prop := CwS cw 118 (.pointer (some ⟨wb, 0, none⟩)) 0 (BwS wb bb)
theorem scwWrt (cw wb bb : Nat) : Wrt G 117 (.pointer (some ⟨cw, 0, none⟩)) (.pointer (some ⟨cw, 0, none⟩)) 94 (Scw cw wb bb) := cwWrt cw 118 _ _ 181 _ (bwWrt wb bb) 0
abbrev Src (rc nb cc cw wb bb base : Nat) : List UInt8 → Res → Prop := CwS rc 247 (.pointer (some ⟨nb, 0, none⟩)) base (NcS nb cc (CwS cc 117 (.pointer (some ⟨cw, 0, none⟩)) base (Scw cw wb bb)))
theorem srcWrt (rc nb cc cw wb bb base : Nat) : Wrt G 117 (.pointer (some ⟨rc, 0, none⟩)) (.pointer (some ⟨rc, 0, none⟩)) 94 (Src rc nb cc cw wb bb base) :=
  cwWrt rc 247 _ _ 94 _ (ncWrt nb cc _ (cwWrt cc 117 _ _ 94 _ (scwWrt cw wb bb) base)) base
/-- A file's writer; a file's header. -/
abbrev fwB (fw hd cw rc nb cc cb : Nat) (closed : Bool) : Res :=
  pt fw [.pointer (some ⟨hd, 0, none⟩), .iface 117 (.pointer (some ⟨cw, 0, none⟩)), .pointer (some ⟨rc, 0, none⟩), .iface 247 (.pointer (some ⟨nb, 0, none⟩)), .pointer (some ⟨cc, 0, none⟩), .pointer (some ⟨cb, 0, none⟩), .bool closed] 149
abbrev hdB (hd fh off : Nat) : Res := pt hd [.pointer (some ⟨fh, 0, none⟩), .int .u64 off, .bool false] 139
abbrev fhB (fh : Nat) (e : En) (cr rd : Nat) (fl : Nat) (crc n : Nat) : Res :=
  pt fh [.string (str e.h.name), .string (str e.h.comment), .bool e.h.non, .int .u16 cr, .int .u16 rd, .int .u16 fl, .int .u16 0, .int .u64 0, .int .i64 0, .pointer none, .int .u16 0, .int .u16 0, .int .u32 crc, .int .u32 n, .int .u32 n, .int .u64 n, .int .u64 n, .slice none 0 0, .int .u32 e.h.ext] 80
theorem cFwWrite (fw hd fh off cw rc nb cc cb wb bb base : Nat) (con out : List UInt8) (k : Res) (hk : Src rc nb cc cw wb bb base out k) (w : Value) (rr : Res) (m : List UInt8) (h : Sl G rr w m) (hm : m.length ≤ 2147483647) (hl : out.length + m.length ≤ 2147483647) :
    Fn P G 183 #[.pointer (some ⟨fw, 0, none⟩), w] [fwB fw hd cw rc nb cc cb false, hdB hd fh off, crcB cb con, k, rr] fun v H => v = .tuple #[.int .i64 m.length, .nilIface] ∧ ∃ k', Src rc nb cc cw wb bb base (out ++ m) k' ∧
      H = [fwB fw hd cw rc nb cc cb false, hdB hd fh off, crcB cb (con ++ m), k', rr] := by
  have ch := cHashWrite (G := G) cb con w rr m h hm
  have cr := (srcWrt (G := G) rc nb cc cw wb bb base).write out k hk w rr m h hl
  refine fn_intro (args := [_,_]) Tryz.func183 Tryz.ntmps183 rfl ?_
  refine w_seq ?_
  refine w_region ?_
  refine o_t x_as ?_
  refine o_t x_as ?_
  refine o_nil ?_
  refine w_seq ?_
  refine w_seq ?_
  refine w_region ?_
  refine o_t x_mv ?_
  refine o_t x_nc ?_
  refine o_t (x_fa f149_6) ?_
  refine o_t (x_ld k4) ?_
  refine o_nil ?_
  refine w_cond (t := false) (fun g => rfl) (fun hc => ?_) (fun hc => ?_) -- ('Go.Operand.tmp', 9)
  · cases hc
  refine w_skip ?_
  refine w_seq ?_
  refine w_seq ?_
  refine w_region ?_
  refine o_t x_mv ?_
  refine o_t x_nc ?_
  refine o_t (x_fa f149_0) ?_
  refine o_t (x_ld k137) ?_
  refine o_t x_nc ?_
  refine o_t (x_fa f139_2) ?_
  refine o_t (x_ld k4) ?_
  refine o_nil ?_
  refine w_cond (t := false) (fun g => rfl) (fun hc => ?_) (fun hc => ?_) -- ('Go.Operand.tmp', 17)
  · cases hc
  refine w_skip ?_
  refine w_seq ?_
  refine w_region ?_
  refine o_t x_mv ?_
  refine o_t x_nc ?_
  refine o_t (x_fa f149_5) ?_
  refine o_t (x_ld k143) ?_
  refine o_t x_mv ?_
  refine o_call Tryz.call184 haa spla (ch) ?_
  rintro _ _ HH ⟨rfl, rfl⟩ hHH
  simp only [List.cons_append, List.nil_append, List.append_nil] at hHH; subst hHH
  refine o_nil ?_
  refine w_seq ?_
  refine w_region ?_
  refine o_t x_mv ?_
  refine o_t x_nc ?_
  refine o_t (x_fa f149_2) ?_
  refine o_t (x_ld k117) ?_
  refine o_t x_mv ?_
  refine o_call Tryz.call94 haa spla (cr) ?_
  rintro _ _ HH ⟨rfl, k', hk', rfl⟩ hHH
  simp only [List.cons_append, List.nil_append, List.append_nil] at hHH; subst hHH
  refine o_t x_ex ?_
  refine o_t x_ex ?_
  refine o_t x_as ?_
  refine o_t x_as ?_
  refine o_nil ?_
  refine w_ret (r_2 rfl ⟨rfl, k', hk', rfl⟩)
/-- What stands behind a content. -/
theorem cDesc (fw hd fh off cw rc nb cc cb wb bb : Nat) (cl : Bool) (e : En) (cr rd fl crc n : Nat) (hfl : fl ≤ 65535) (hb3 : fl / 8 % 2 = 1) (hcrc : crc < 4294967296) (hn : n ≤ 1048576) (out : List UInt8) (k : Res) (hk : Scw cw wb bb out k) (hl : out.length + 16 ≤ 2147483647) :
    Fn P G 115 #[.pointer (some ⟨fw, 0, none⟩)] [fwB fw hd cw rc nb cc cb cl, hdB hd fh off, fhB fh e cr rd fl crc n, k] fun v H => v = .nilIface ∧ ∃ k', Scw cw wb bb (out ++ descT crc n) k' ∧
      H = [fwB fw hd cw rc nb cc cb cl, hdB hd fh off, fhB fh e cr rd fl crc n, k'] := by
  have h72 : Fn P G 72 #[.pointer (some ⟨fh, 0, none⟩)] [fhB fh e cr rd fl crc n] fun v H => v = .bool true ∧ H = [fhB fh e cr rd fl crc n] := by
    refine fn_intro (args := [_]) Tryz.func72 Tryz.ntmps72 rfl ?_
    refine w_seq ?_
    refine w_region ?_
    refine o_t x_as ?_
    refine o_nil ?_
    refine w_seq ?_
    refine w_region ?_
    refine o_t x_mv ?_
    refine o_t x_nc ?_
    refine o_t (x_fa f80_5) ?_
    refine o_t (x_ld k72) ?_
    refine o_t x_and ?_
    refine o_t (x_ne (r := true) (hr := (and8 (z := fl) (by omega)).trans (decide_eq_true (by omega)))) ?_
    refine o_t x_as ?_
    refine o_nil ?_
    refine w_ret (r_1 rfl ⟨rfl, rfl⟩)
  refine fn_intro (args := [_]) Tryz.func115 Tryz.ntmps115 rfl ?_
  refine w_seq ?_
  refine w_region ?_
  refine o_t x_as ?_
  refine o_nil ?_
  refine w_seq ?_
  refine w_seq ?_
  refine w_region ?_
  refine o_t x_mv ?_
  refine o_t x_nc ?_
  refine o_t (x_fa f149_0) ?_
  refine o_t (x_ld k137) ?_
  refine o_t x_nc ?_
  refine o_t (x_fa f139_0) ?_
  refine o_t (x_ld k71) ?_
  refine o_call Tryz.call72 haa spla (h72) ?_
  rintro _ _ HH ⟨rfl, rfl⟩ hHH
  simp only [List.cons_append, List.nil_append, List.append_nil] at hHH; subst hHH
  refine o_t x_not ?_
  refine o_nil ?_
  refine w_cond (t := false) (fun g => rfl) (fun hc => ?_) (fun hc => ?_) -- ('Go.Operand.tmp', 15)
  · cases hc
  refine w_skip ?_
  refine w_seq ?_
  refine w_region ?_
  refine o_t x_as ?_
  refine o_nil ?_
  refine w_seq ?_
  refine w_seq ?_
  refine w_region ?_
  refine o_t x_mv ?_
  refine o_t x_nc ?_
  refine o_t (x_fa f149_0) ?_
  refine o_t (x_ld k137) ?_
  refine o_t x_nc ?_
  refine o_t (x_fa f139_0) ?_
  refine o_t (x_ld k71) ?_
  refine o_t x_nc ?_
  refine o_t (x_fa f80_13) ?_
  refine o_t (x_ld k73) ?_
  refine o_t x_cmp ?_
  refine o_t x_mv ?_
  first | refine o_t (x_g x_mv) ?_ | refine o_t x_gs ?_ | refine o_t x_gu ?_
  first | refine o_t (x_g x_nc) ?_ | refine o_t x_gs ?_ | refine o_t x_gu ?_
  first | refine o_t (x_g (x_fa f149_0)) ?_ | refine o_t x_gs ?_ | refine o_t x_gu ?_
  first | refine o_t (x_g (x_ld k137)) ?_ | refine o_t x_gs ?_ | refine o_t x_gu ?_
  first | refine o_t (x_g x_nc) ?_ | refine o_t x_gs ?_ | refine o_t x_gu ?_
  first | refine o_t (x_g (x_fa f139_0)) ?_ | refine o_t x_gs ?_ | refine o_t x_gu ?_
  first | refine o_t (x_g (x_ld k71)) ?_ | refine o_t x_gs ?_ | refine o_t x_gu ?_
  first | refine o_t (x_g x_nc) ?_ | refine o_t x_gs ?_ | refine o_t x_gu ?_
  first | refine o_t (x_g (x_fa f80_14)) ?_ | refine o_t x_gs ?_ | refine o_t x_gu ?_
  first | refine o_t (x_g (x_ld k73)) ?_ | refine o_t x_gs ?_ | refine o_t x_gu ?_
  first | refine o_t (x_g x_cmp) ?_ | refine o_t x_gs ?_ | refine o_t x_gu ?_
  refine o_t x_pick ?_
  refine o_nil ?_
  refine w_cond (t := false) (fun g => rfl) (fun hc => ?_) (fun hc => ?_) -- ('Go.Operand.tmp', 39)
  · cases hc
  refine w_region ?_
  refine o_mk (k := 16) info5 Tryz.underlying78 rfl rfl (by decide) (by decide) (fun db => ?_)
  refine o_t x_as ?_
  refine o_nil ?_
  rw [← wbC_nil]
  refine w_seq ?_
  refine w_region ?_
  refine o_t x_mv ?_
  refine o_al z133 (fun b4 => ?_)
  refine o_st k133 ?_
  refine o_nil ?_
  refine w_weak (L' := [(0, .pointer (some ⟨fw, 0, none⟩)), (3, .slice (some ⟨db, 0, none⟩) 16 16), (4, .pointer (some ⟨b4, 0, none⟩))]) (H' := [pt b4 [.slice (some ⟨db, 0, none⟩) 16 16] 133, pt db (wbC 16 []) 5, fwB fw hd cw rc nb cc cb cl, hdB hd fh off, fhB fh e cr rd fl crc n, k]) wka hka ?_
  refine w_seq ?_
  refine w_region ?_
  refine o_call Tryz.call60 haa spla (cWb32 b4 db 5 16 [] _ 134695760 (by decide) ⟨rfl, fun _ => rfl⟩ (by decide)) ?_
  rintro _ _ HH ⟨v1, hv1, rfl⟩ hHH
  simp only [List.cons_append, List.nil_append, List.append_nil] at hHH; subst hHH
  refine o_nil ?_
  refine w_seq ?_
  refine w_region ?_
  refine o_t x_mv ?_
  refine o_t x_nc ?_
  refine o_t (x_fa f149_0) ?_
  refine o_t (x_ld k137) ?_
  refine o_t x_nc ?_
  refine o_t (x_fa f139_0) ?_
  refine o_t (x_ld k71) ?_
  refine o_t x_nc ?_
  refine o_t (x_fa f80_10) ?_
  refine o_t (x_ld k77) ?_
  refine o_call Tryz.call60 haa spla (cWb32 b4 db 5 16 _ v1 crc hcrc hv1 (by simp [le_length])) ?_
  rintro _ _ HH ⟨v2, hv2, rfl⟩ hHH
  simp only [List.cons_append, List.nil_append, List.append_nil] at hHH; subst hHH
  refine o_nil ?_
  refine w_seq ?_
  refine w_seq ?_
  refine w_region ?_
  refine o_t x_mv ?_
  refine o_t x_nc ?_
  refine o_t (x_fa f149_0) ?_
  refine o_t (x_ld k137) ?_
  refine o_t x_nc ?_
  refine o_t (x_fa f139_0) ?_
  refine o_t (x_ld k71) ?_
  refine o_t x_nc ?_
  refine o_t (x_fa f80_13) ?_
  refine o_t (x_ld k73) ?_
  refine o_t x_cmp ?_
  refine o_t x_mv ?_
  first | refine o_t (x_g x_mv) ?_ | refine o_t x_gs ?_ | refine o_t x_gu ?_
  first | refine o_t (x_g x_nc) ?_ | refine o_t x_gs ?_ | refine o_t x_gu ?_
  first | refine o_t (x_g (x_fa f149_0)) ?_ | refine o_t x_gs ?_ | refine o_t x_gu ?_
  first | refine o_t (x_g (x_ld k137)) ?_ | refine o_t x_gs ?_ | refine o_t x_gu ?_
  first | refine o_t (x_g x_nc) ?_ | refine o_t x_gs ?_ | refine o_t x_gu ?_
  first | refine o_t (x_g (x_fa f139_0)) ?_ | refine o_t x_gs ?_ | refine o_t x_gu ?_
  first | refine o_t (x_g (x_ld k71)) ?_ | refine o_t x_gs ?_ | refine o_t x_gu ?_
  first | refine o_t (x_g x_nc) ?_ | refine o_t x_gs ?_ | refine o_t x_gu ?_
  first | refine o_t (x_g (x_fa f80_14)) ?_ | refine o_t x_gs ?_ | refine o_t x_gu ?_
  first | refine o_t (x_g (x_ld k73)) ?_ | refine o_t x_gs ?_ | refine o_t x_gu ?_
  first | refine o_t (x_g x_cmp) ?_ | refine o_t x_gs ?_ | refine o_t x_gu ?_
  refine o_t x_pick ?_
  refine o_nil ?_
  refine w_cond (t := false) (fun g => rfl) (fun hc => ?_) (fun hc => ?_) -- ('Go.Operand.tmp', 78)
  · cases hc
  refine w_seq ?_
  refine w_region ?_
  refine o_t x_mv ?_
  refine o_t x_nc ?_
  refine o_t (x_fa f149_0) ?_
  refine o_t (x_ld k137) ?_
  refine o_t x_nc ?_
  refine o_t (x_fa f139_0) ?_
  refine o_t (x_ld k71) ?_
  refine o_t x_nc ?_
  refine o_t (x_fa f80_11) ?_
  refine o_t (x_ld k77) ?_
  refine o_call Tryz.call60 haa spla (cWb32 b4 db 5 16 _ v2 n (by omega) hv2 (by simp [le_length])) ?_
  rintro _ _ HH ⟨v3, hv3, rfl⟩ hHH
  simp only [List.cons_append, List.nil_append, List.append_nil] at hHH; subst hHH
  refine o_nil ?_
  refine w_region ?_
  refine o_t x_mv ?_
  refine o_t x_nc ?_
  refine o_t (x_fa f149_0) ?_
  refine o_t (x_ld k137) ?_
  refine o_t x_nc ?_
  refine o_t (x_fa f139_0) ?_
  refine o_t (x_ld k71) ?_
  refine o_t x_nc ?_
  refine o_t (x_fa f80_12) ?_
  refine o_t (x_ld k77) ?_
  refine o_call Tryz.call60 haa spla (cWb32 b4 db 5 16 _ v3 n (by omega) hv3 (by simp [le_length])) ?_
  rintro _ _ HH ⟨v4, hv4, rfl⟩ hHH
  simp only [List.cons_append, List.nil_append, List.append_nil] at hHH; subst hHH
  refine o_nil ?_
  have hd16 : le 4 134695760 ++ le 4 crc ++ le 4 n ++ le 4 n = descT crc n := by
    simp only [descT, i4, Int.toNat_natCast]; rfl
  rw [hd16, wbC_full (descT_length _ _)]
  have hsl : Sl G (pt db ((descT crc n).map u8) 5) (.slice (some ⟨db, 0, none⟩) 16 16) (descT crc n) := ⟨db, 0, 16, by rw [descT_length], by rw [descT_length]; decide, Rd.all⟩
  have cw1 := (scwWrt (G := G) cw wb bb).write out k hk _ _ _ hsl (by rw [descT_length]; omega)
  refine w_seq ?_
  refine w_region ?_
  refine o_t x_mv ?_
  refine o_t x_nc ?_
  refine o_t (x_fa f149_1) ?_
  refine o_t (x_ld k89) ?_
  refine o_t x_mv ?_
  refine o_inv (m117_Write _) hxa haa spla vca (cw1) ?_
  rintro _ HH ⟨rfl, k', hk', rfl⟩
  simp only [List.cons_append, List.nil_append, List.append_nil]
  refine o_t x_mv ?_
  refine o_t x_ex ?_
  refine o_t x_ex ?_
  refine o_t x_as ?_
  refine o_t x_as ?_
  refine o_nil ?_
  refine w_seq ?_
  refine w_region ?_
  refine o_t x_mv ?_
  refine o_t x_as ?_
  refine o_nil ?_
  refine w_ret (r_1 rfl ⟨rfl, k', hk', rfl⟩)
end Go.Proofs.YtlmefkhglooepaaGreatDoor
namespace Go.Proofs.YtlmefkhglooepaaGreatDoor
open Go
set_option linter.unusedSimpArgs false
set_option linter.unusedVariables false
variable {G : Nat → Option Obj} {ea : Nat → Addr}
theorem cNcClose (v : Value) : Fn P G 211 #[.agg #[v]] [] fun u H => u = .nilIface ∧ H = [] := by
  refine fn_intro (args := [_]) Tryz.func211 Tryz.ntmps211 rfl ?_
  refine w_seq ?_
  refine w_region ?_
  refine o_bx (fun b1 => ?_)
  refine o_t x_as ?_
  refine o_nil ?_
  refine w_seq ?_
  refine w_region ?_
  refine o_t x_as ?_
  refine o_nil ?_
  refine w_ret (r_1 rfl ⟨rfl, rfl⟩)
theorem callClose (nb : Nat) (v : Value) {H R : List Res} (hp : Pull (pt nb [v] 249) H R) : ∀ F w, Sub G F → Sat H F w → ∀ vs, (callMethod (.iface 247 (.pointer (some ⟨nb, 0, none⟩))) "Close" vs).run P w = .ok (.enter 211 (#[.agg #[v]] ++ vs)) w := by
  intro F w hF hs vs
  have h1 := (hs.perm hp).own (nb, .cells #[v] 249 (0, 0)) (by simp [pt])
  exact m247_Close nb v vs w (by simp [World.cell?, h1])
theorem cFwClose (fw hd fh off cw rc nb cc cb wb bb base : Nat) (e : En) (he : e.data.length ≤ 1048576) (fl : Nat) (hfl : fl ≤ 65535) (hb3 : fl / 8 % 2 = 1) (out : List UInt8) (k : Res) (hk : Src rc nb cc cw wb bb base out k) (ho : base + e.data.length = out.length) (hl : out.length + 16 ≤ 2147483647) :
    Fn P G 79 #[.pointer (some ⟨fw, 0, none⟩)] [fwB fw hd cw rc nb cc cb false, hdB hd fh off, fhB fh e 20 20 fl 0 0, crcB cb e.data, k] fun v H => v = .nilIface ∧ ∃ k', Scw cw wb bb (out ++ descT (crcT e.data) e.data.length) k' ∧
      H = [fwB fw hd cw rc nb cc cb true, hdB hd fh off, fhB fh e 20 20 fl (crcT e.data) e.data.length, k'] := by
  obtain ⟨n, k0, hn, ⟨K1, ⟨n2, K2, hn2, hS, rfl⟩, rfl⟩, rfl⟩ := hk
  obtain rfl : n = e.data.length := by omega
  obtain rfl : n2 = e.data.length := by omega
  obtain ⟨z, hz⟩ : ∃ z, e.data.length = z := ⟨_, rfl⟩
  have hcl := crcT_lt e.data
  have cs := cSum32 (G := G) cb e.data
  obtain ⟨c, hc⟩ : ∃ c, crcT e.data = c := ⟨_, rfl⟩
  rw [hc] at cs hcl
  have cd := cDesc (G := G) fw hd fh off cw rc nb cc cb wb bb true e 20 20 fl c z hfl hb3 hcl (by omega) out K2 hS hl
  rw [hz] at he ⊢
  rw [hc]
  refine fn_intro (args := [_]) Tryz.func79 Tryz.ntmps79 rfl ?_
  refine w_seq ?_
  refine w_region ?_
  refine o_t x_as ?_
  refine o_nil ?_
  refine w_weak (L' := [(0, .pointer (some ⟨fw, 0, none⟩))]) (H' := [fwB fw hd cw rc nb cc cb false, hdB hd fh off, fhB fh e 20 20 fl 0 0, crcB cb e.data, cwB rc 247 (.pointer (some ⟨nb, 0, none⟩)) z, pt nb [.iface 117 (.pointer (some ⟨cc, 0, none⟩))] 249, cwB cc 117 (.pointer (some ⟨cw, 0, none⟩)) z ++ K2]) wka (hflat (by simp)) ?_
  refine w_weak (L' := [(0, .pointer (some ⟨fw, 0, none⟩))]) (H' := [fwB fw hd cw rc nb cc cb false, hdB hd fh off, fhB fh e 20 20 fl 0 0, crcB cb e.data, cwB rc 247 (.pointer (some ⟨nb, 0, none⟩)) z, pt nb [.iface 117 (.pointer (some ⟨cc, 0, none⟩))] 249, cwB cc 117 (.pointer (some ⟨cw, 0, none⟩)) z, K2]) wka (hflat (by simp)) ?_
  refine w_seq ?_
  refine w_seq ?_
  refine w_region ?_
  refine o_t x_mv ?_
  refine o_t x_nc ?_
  refine o_t (x_fa f149_6) ?_
  refine o_t (x_ld k4) ?_
  refine o_nil ?_
  refine w_cond (t := false) (fun g => rfl) (fun hc => ?_) (fun hc => ?_) -- ('Go.Operand.tmp', 8)
  · cases hc
  refine w_skip ?_
  refine w_seq ?_
  refine w_region ?_
  refine o_t x_mv ?_
  refine o_t x_nc ?_
  refine o_t (x_fa f149_6) ?_
  refine o_st k4 ?_
  refine o_nil ?_
  refine w_seq ?_
  refine w_seq ?_
  refine w_region ?_
  refine o_t x_mv ?_
  refine o_t x_nc ?_
  refine o_t (x_fa f149_0) ?_
  refine o_t (x_ld k137) ?_
  refine o_t x_nc ?_
  refine o_t (x_fa f139_2) ?_
  refine o_t (x_ld k4) ?_
  refine o_nil ?_
  refine w_cond (t := false) (fun g => rfl) (fun hc => ?_) (fun hc => ?_) -- ('Go.Operand.tmp', 19)
  · cases hc
  refine w_skip ?_
  refine w_seq ?_
  refine w_seq ?_
  refine w_region ?_
  refine o_t x_mv ?_
  refine o_t x_nc ?_
  refine o_t (x_fa f149_3) ?_
  refine o_t (x_ld k147) ?_
  refine o_invH (callClose nb _ pulla) hxa haa spla vca ((cNcClose _)) ?_
  rintro _ HH ⟨rfl, rfl⟩
  simp only [List.cons_append, List.nil_append, List.append_nil]
  refine o_t x_as ?_
  refine o_nil ?_
  refine w_seq ?_
  refine w_region ?_
  refine o_t x_mv ?_
  first | refine o_t (x_inil Tryz.underlying58) ?_ | refine o_t (x_isome Tryz.underlying58) ?_
  refine o_nil ?_
  refine w_cond (t := false) (fun g => rfl) (fun hc => ?_) (fun hc => ?_) -- ('Go.Operand.tmp', 28)
  · cases hc
  refine w_skip ?_
  refine w_seq ?_
  refine w_region ?_
  refine o_t x_mv ?_
  refine o_t x_nc ?_
  refine o_t (x_fa f149_0) ?_
  refine o_t (x_ld k137) ?_
  refine o_t x_nc ?_
  refine o_t (x_fa f139_0) ?_
  refine o_t (x_ld k71) ?_
  refine o_t x_as ?_
  refine o_nil ?_
  refine w_seq ?_
  refine w_region ?_
  refine o_t x_mv ?_
  refine o_t x_mv ?_
  refine o_t x_nc ?_
  refine o_t (x_fa f149_5) ?_
  refine o_t (x_ld k143) ?_
  refine o_call Tryz.call116 haa spla (cs) ?_
  rintro _ _ HH ⟨rfl, rfl⟩ hHH
  simp only [List.cons_append, List.nil_append, List.append_nil] at hHH; subst hHH
  refine o_t x_nc ?_
  refine o_t (x_fa f80_10) ?_
  refine o_st k77 ?_
  refine o_nil ?_
  refine w_seq ?_
  refine w_region ?_
  refine o_t x_mv ?_
  refine o_t x_mv ?_
  refine o_t x_nc ?_
  refine o_t (x_fa f149_4) ?_
  refine o_t (x_ld k117) ?_
  refine o_t x_nc ?_
  refine o_t (x_fa f121_1) ?_
  refine o_t (x_ld k2) ?_
  refine o_t (x_cv ⟨_, Tryz.underlying2⟩ Tryz.underlying73) ?_
  refine o_t x_nc ?_
  refine o_t (x_fa f80_13) ?_
  refine o_st k73 ?_
  refine o_nil ?_
  refine w_seq ?_
  refine w_region ?_
  refine o_t x_mv ?_
  refine o_t x_mv ?_
  refine o_t x_nc ?_
  refine o_t (x_fa f149_2) ?_
  refine o_t (x_ld k117) ?_
  refine o_t x_nc ?_
  refine o_t (x_fa f121_1) ?_
  refine o_t (x_ld k2) ?_
  refine o_t (x_cv ⟨_, Tryz.underlying2⟩ Tryz.underlying73) ?_
  refine o_t x_nc ?_
  refine o_t (x_fa f80_14) ?_
  refine o_st k73 ?_
  refine o_nil ?_
  refine w_seq ?_
  refine w_seq ?_
  refine w_region ?_
  refine o_t x_mv ?_
  refine o_t x_nc ?_
  refine o_t (x_fa f149_0) ?_
  refine o_t (x_ld k137) ?_
  refine o_t x_nc ?_
  refine o_t (x_fa f139_0) ?_
  refine o_t (x_ld k71) ?_
  refine o_t x_nc ?_
  refine o_t (x_fa f80_13) ?_
  refine o_t (x_ld k73) ?_
  refine o_t x_cmp ?_
  refine o_t x_mv ?_
  first | refine o_t (x_g x_mv) ?_ | refine o_t x_gs ?_ | refine o_t x_gu ?_
  first | refine o_t (x_g x_nc) ?_ | refine o_t x_gs ?_ | refine o_t x_gu ?_
  first | refine o_t (x_g (x_fa f149_0)) ?_ | refine o_t x_gs ?_ | refine o_t x_gu ?_
  first | refine o_t (x_g (x_ld k137)) ?_ | refine o_t x_gs ?_ | refine o_t x_gu ?_
  first | refine o_t (x_g x_nc) ?_ | refine o_t x_gs ?_ | refine o_t x_gu ?_
  first | refine o_t (x_g (x_fa f139_0)) ?_ | refine o_t x_gs ?_ | refine o_t x_gu ?_
  first | refine o_t (x_g (x_ld k71)) ?_ | refine o_t x_gs ?_ | refine o_t x_gu ?_
  first | refine o_t (x_g x_nc) ?_ | refine o_t x_gs ?_ | refine o_t x_gu ?_
  first | refine o_t (x_g (x_fa f80_14)) ?_ | refine o_t x_gs ?_ | refine o_t x_gu ?_
  first | refine o_t (x_g (x_ld k73)) ?_ | refine o_t x_gs ?_ | refine o_t x_gu ?_
  first | refine o_t (x_g x_cmp) ?_ | refine o_t x_gs ?_ | refine o_t x_gu ?_
  refine o_t x_pick ?_
  refine o_nil ?_
  refine w_cond (t := false) (fun g => rfl) (fun hc => ?_) (fun hc => ?_) -- ('Go.Operand.tmp', 90)
  · cases hc
  refine w_seq ?_
  refine w_region ?_
  refine o_t x_mv ?_
  refine o_t x_mv ?_
  refine o_t x_nc ?_
  refine o_t (x_fa f80_13) ?_
  refine o_t (x_ld k73) ?_
  refine o_t (x_cv ⟨_, Tryz.underlying73⟩ Tryz.underlying77) ?_
  refine o_t x_nc ?_
  refine o_t (x_fa f80_11) ?_
  refine o_st k77 ?_
  refine o_nil ?_
  refine w_region ?_
  refine o_t x_mv ?_
  refine o_t x_mv ?_
  refine o_t x_nc ?_
  refine o_t (x_fa f80_14) ?_
  refine o_t (x_ld k73) ?_
  refine o_t (x_cv ⟨_, Tryz.underlying73⟩ Tryz.underlying77) ?_
  refine o_t x_nc ?_
  refine o_t (x_fa f80_12) ?_
  refine o_st k77 ?_
  refine o_nil ?_
  refine w_seq ?_
  refine w_region ?_
  refine o_t x_mv ?_
  refine o_call Tryz.call115 haa spla (cd) ?_
  rintro _ _ HH ⟨rfl, k', hk', rfl⟩ hHH
  simp only [List.cons_append, List.nil_append, List.append_nil] at hHH; subst hHH
  refine o_t x_as ?_
  refine o_nil ?_
  refine w_ret (r_1 rfl ⟨rfl, k', hk', rfl⟩)
theorem cBwNil (wb bb : Nat) (out : List UInt8) (k : Res) (hk : BwS wb bb out k) : Fn P G 181 #[.pointer (some ⟨wb, 0, none⟩), .slice none 0 0] [k] fun v H => v = .tuple #[.int .i64 0, .nilIface] ∧ H = [k] := by
  obtain ⟨cb, n, bc, fl, pend, bk, hn, hbc, hcs, hpl, hb, rfl, rfl⟩ := hk
  have cav := cAvail (G := G) wb cb bb n hn
  obtain ⟨o', ho'⟩ : ∃ o', slV cb 0 4096 4096 n 4096 1 = .slice (some ⟨cb, o', none⟩) (4096 - n) (4096 - n) := ⟨if 4096 = n then 0 else 0 + n * 1, by simp [slV]⟩
  refine fn_intro (args := [_,_]) Tryz.func181 Tryz.ntmps181 rfl ?_
  refine w_seq ?_
  refine w_region ?_
  refine o_t x_as ?_
  refine o_t x_as ?_
  refine o_nil ?_
  refine w_weak (L' := [(0, .pointer (some ⟨wb, 0, none⟩)), (1, .slice none 0 0), (4, .int .i64 0)]) (H' := [bwB wb cb bb n, pt cb bc 5, bk]) wka (hflat (by simp)) ?_
  refine w_cut (α := Unit) (fun _ => [(0, .pointer (some ⟨wb, 0, none⟩)), (1, .slice none 0 0), (4, .int .i64 0)]) (fun _ => [bwB wb cb bb n, pt cb bc 5, bk]) (fun _ => True) ?_ (fun _ _ => ?_)
  · refine w_block ?_ -- 0
    refine w_loop (α := Unit) (fun _ => [(0, .pointer (some ⟨wb, 0, none⟩)), (1, .slice none 0 0), (4, .int .i64 0)]) (fun _ => [bwB wb cb bb n, pt cb bc 5, bk]) (fun _ => True) (fun _ => 0) () (wka) (hka) trivial ?_
    intro _ _
    refine w_seq ?_
    refine w_seq ?_
    refine w_region ?_
    refine o_t x_mv ?_
    refine o_t (x_lenb Tryz.underlying78) ?_
    refine o_t x_mv ?_
    refine o_call Tryz.call180 haa spla (cav) ?_
    rintro _ _ HH ⟨rfl, rfl⟩ hHH
    simp only [List.cons_append, List.nil_append, List.append_nil] at hHH; subst hHH
    refine o_t x_cmp ?_
    refine o_t x_mv ?_
    first | refine o_t (x_g x_mv) ?_ | refine o_t x_gs ?_ | refine o_t x_gu ?_
    first | refine o_t (x_g x_nc) ?_ | refine o_t x_gs ?_ | refine o_t x_gu ?_
    first | refine o_t (x_g (x_fa f229_0)) ?_ | refine o_t x_gs ?_ | refine o_t x_gu ?_
    first | refine o_t (x_g (x_ld k58)) ?_ | refine o_t x_gs ?_ | refine o_t x_gu ?_
    first | first | refine o_t (x_g (x_inil' Tryz.underlying58)) ?_ | refine o_t x_gs ?_ | refine o_t x_gu ?_ | first | refine o_t (x_g (x_isome' Tryz.underlying58)) ?_ | refine o_t x_gs ?_ | refine o_t x_gu ?_
    refine o_t x_pick ?_
    refine o_nil ?_
    refine w_cond (t := false) (fun g => rfl) (fun hc => ?_) (fun hc => ?_) -- ('Go.Operand.tmp', 19)
    · cases hc
    refine w_exit ?_ -- 0
    exact ⟨(), wka, hka, trivial⟩
  refine w_seq ?_
  refine w_seq ?_
  refine w_region ?_
  refine o_t x_mv ?_
  refine o_t x_nc ?_
  refine o_t (x_fa f229_0) ?_
  refine o_t (x_ld k58) ?_
  first | refine o_t (x_inil Tryz.underlying58) ?_ | refine o_t (x_isome Tryz.underlying58) ?_
  refine o_nil ?_
  refine w_cond (t := false) (fun g => rfl) (fun hc => ?_) (fun hc => ?_) -- ('Go.Operand.tmp', 66)
  · cases hc
  refine w_skip ?_
  refine w_seq ?_
  refine w_draw mixed ?_
  refine a_seg (k := 10) _ [(1, 0), (1, 1), (1, 2), (1, 3), (1, 4), (1, 5), (1, 6), (1, 7), (1, 8), (1, 9)] (by kernel_rfl) (HWk.refl _) ?_
  refine h_t rfl x_mv ?_
  refine h_t rfl x_nc ?_
  refine h_t rfl (x_fa f229_1) ?_
  refine h_t rfl (x_ld k78) ?_
  refine h_t rfl x_mv ?_
  refine h_t rfl x_nc ?_
  refine h_t rfl (x_fa f229_2) ?_
  refine h_t rfl (x_ld k3) ?_
  refine h_t rfl (x_sl (lo := n) (hi := 4096) (v := .slice (some ⟨cb, o', none⟩) (4096 - n) (4096 - n)) Tryz.underlying78 e78 (hv := ho')) ?_
  refine h_t rfl x_mv ?_
  refine h_end ?_
  refine a_seg (k := 11) _ [(0, 10)] (by kernel_rfl) hwk_nil ?_
  refine h_one rfl (fun Q' hQ => ?_)
  refine o_copy0 Tryz.underlying78 k5 ?_
  refine o_nil (hQ _ _ (h_keep ?_))
  refine h_end ?_
  refine a_seg (k := 12) _ [(1, 11)] (by kernel_rfl) (HWk.refl _) ?_
  refine h_t rfl x_as ?_
  refine h_end ?_
  refine a_done rfl ?_
  refine w_seq ?_
  refine w_region ?_
  refine o_t x_mv ?_
  refine o_t x_nc ?_
  refine o_t (x_fa f229_2) ?_
  refine o_t (x_ld k3) ?_
  refine o_t x_mv ?_
  refine o_t (x_add (z := (n : Int)) (hz := (w_i64 (by omega)).trans (by omega))) ?_
  refine o_t x_nc ?_
  refine o_t (x_fa f229_2) ?_
  refine o_st k3 ?_
  refine o_nil ?_
  refine w_seq ?_
  refine w_region ?_
  refine o_t x_mv ?_
  refine o_t x_mv ?_
  refine o_t x_add ?_
  refine o_t x_as ?_
  refine o_nil ?_
  refine w_seq ?_
  refine w_region ?_
  refine o_t x_mv ?_
  refine o_t x_as ?_
  refine o_t x_as ?_
  refine o_nil ?_
  refine w_ret (r_2 rfl ⟨rfl, rfl⟩ (hH := ?_))
  exact HWk.trans (B := [bwB wb cb bb n, pt cb bc 5, bk]) hka (hflat (by simp))
theorem cCwNil (cw wb bb : Nat) (out : List UInt8) (k : Res) (hk : Scw cw wb bb out k) (hl : out.length ≤ 2147483647) : Fn P G 94 #[.pointer (some ⟨cw, 0, none⟩), .slice none 0 0] [k] fun v H => v = .tuple #[.int .i64 0, .nilIface] ∧ H = [k] := by
  obtain ⟨n, k0, hn, hS, rfl⟩ := hk
  have cn := cBwNil (G := G) wb bb out k0 hS
  obtain ⟨_, _, _, _, _, _, hn1, _⟩ := id hS
  refine fn_intro (args := [_,_]) Tryz.func94 Tryz.ntmps94 rfl ?_
  refine w_seq ?_
  refine w_region ?_
  refine o_t x_as ?_
  refine o_t x_as ?_
  refine o_nil ?_
  refine w_seq ?_
  refine w_weak (L' := [(0, .pointer (some ⟨cw, 0, none⟩)), (1, .slice none 0 0)]) (H' := [cwB cw 118 (.pointer (some ⟨wb, 0, none⟩)) n, k0]) wka (hflat (by simp)) ?_
  refine w_region ?_
  refine o_t x_mv ?_
  refine o_t x_nc ?_
  refine o_t (x_fa f121_0) ?_
  refine o_t (x_ld k89) ?_
  refine o_t x_mv ?_
  refine o_inv (m118_Write _) hxa haa spla vca (cn) ?_
  rintro _ HH ⟨rfl, rfl⟩
  simp only [List.cons_append, List.nil_append, List.append_nil]
  refine o_t x_mv ?_
  refine o_t x_ex ?_
  refine o_t x_ex ?_
  refine o_t x_as ?_
  refine o_t x_as ?_
  refine o_nil ?_
  refine w_seq ?_
  refine w_region ?_
  refine o_t x_mv ?_
  refine o_t x_nc ?_
  refine o_t (x_fa f121_1) ?_
  refine o_t (x_ld k2) ?_
  refine o_t x_mv ?_
  refine o_t (x_add (z := (n : Int)) (hz := (w_i64 (by omega)).trans (by omega))) ?_
  refine o_t x_nc ?_
  refine o_t (x_fa f121_1) ?_
  refine o_st k2 ?_
  refine o_nil ?_
  refine w_seq ?_
  refine w_region ?_
  refine o_t x_mv ?_
  refine o_t x_mv ?_
  refine o_t x_as ?_
  refine o_t x_as ?_
  refine o_nil ?_
  refine w_ret (r_2 rfl ⟨rfl, rfl⟩ (hH := ?_))
  exact HWk.trans (B := [cwB cw 118 (.pointer (some ⟨wb, 0, none⟩)) n, k0]) hka (hflat (by simp))
end Go.Proofs.YtlmefkhglooepaaGreatDoor
namespace Go.Proofs.YtlmefkhglooepaaGreatDoor
open Go
set_option linter.unusedSimpArgs false
set_option linter.unusedVariables false
variable {G : Nat → Option Obj} {ea : Nat → Addr}
def hdr30 (fl nl : Nat) : List UInt8 := le 4 67324752 ++ le 2 20 ++ le 2 fl ++ le 2 0 ++ le 2 0 ++ le 2 0 ++ le 4 0 ++ le 4 0 ++ le 4 0 ++ le 2 nl ++ le 2 0
theorem hdr30_len (fl nl : Nat) : (hdr30 fl nl).length = 30 := by simp [hdr30, le_length]
theorem hdr30_local (e : En) : localT (lhW e) = hdr30 (flagsW e.h) e.h.name.length ++ e.h.name := by
  simp only [localT, lhW, fieldsT, i2, i4, hdr30, Int.toNat_natCast, List.append_assoc, List.append_nil, List.length_nil]
  rfl
theorem nila117 (cw : Nat) (w : World) : (nilAhead (P.types.size + Made.depth) 117 (.pointer (some ⟨cw, 0, none⟩)) "Write").run P w = .ok (some false) w := by kernel_rfl
theorem cWriteHeader (cw wb bb hd fh off : Nat) (e : En) (hn : e.h.name.length ≤ 60000) (fl : Nat) (hfl : fl = flagsW e.h) (out : List UInt8) (k : Res) (hk : Scw cw wb bb out k) (hl : out.length ≤ 2100000000) (gl : Glob G ea) :
    Fn P G 63 #[.iface 117 (.pointer (some ⟨cw, 0, none⟩)), .pointer (some ⟨hd, 0, none⟩)] [hdB hd fh off, fhB fh e 20 20 fl 0 0, k] fun v H => v = .nilIface ∧ ∃ k', Scw cw wb bb (out ++ localT (lhW e)) k' ∧ H = [hdB hd fh off, fhB fh e 20 20 fl 0 0, k'] := by
  have hfb := flagsW_le e.h
  rw [← hfl] at hfb
  rw [hdr30_local, ← hfl]
  refine fn_intro (args := [_,_]) Tryz.func63 Tryz.ntmps63 rfl ?_
  refine w_seq ?_
  refine w_region ?_
  refine o_t x_as ?_
  refine o_nil ?_
  refine w_seq ?_
  refine w_seq ?_
  refine w_region ?_
  refine o_t x_mv ?_
  refine o_t x_nc ?_
  refine o_t (x_fa f139_0) ?_
  refine o_t (x_ld k71) ?_
  refine o_t x_nc ?_
  refine o_t (x_fa f80_0) ?_
  refine o_t (x_ld k9) ?_
  refine o_t (x_lens Tryz.underlying9) ?_
  refine o_t x_cmp ?_
  refine o_nil ?_
  refine w_cond (t := false) (fun g => rfl) (fun hc => ?_) (fun hc => ?_) -- ('Go.Operand.tmp', 27)
  · cases hc
  refine w_skip ?_
  refine w_seq ?_
  refine w_seq ?_
  refine w_region ?_
  refine o_t x_mv ?_
  refine o_t x_nc ?_
  refine o_t (x_fa f139_0) ?_
  refine o_t (x_ld k71) ?_
  refine o_t x_nc ?_
  refine o_t (x_fa f80_15) ?_
  refine o_t (x_ld k78) ?_
  refine o_t (x_lenb Tryz.underlying78) ?_
  refine o_t x_cmp ?_
  refine o_nil ?_
  refine w_cond (t := false) (fun g => rfl) (fun hc => ?_) (fun hc => ?_) -- ('Go.Operand.tmp', 37)
  · cases hc
  refine w_skip ?_
  refine w_seq ?_
  refine w_region ?_
  refine o_t x_as ?_
  refine o_nil ?_
  refine w_seq ?_
  refine w_region ?_
  refine o_t x_mv ?_
  refine o_t x_nc ?_
  refine o_t (x_fa f139_0) ?_
  refine o_t (x_ld k71) ?_
  refine o_t x_nc ?_
  refine o_t (x_fa f80_4) ?_
  refine o_t (x_ld k72) ?_
  refine o_t x_as ?_
  refine o_nil ?_
  refine w_seq ?_
  refine w_region ?_
  refine o_t x_mv ?_
  refine o_t x_nc ?_
  refine o_t (x_fa f139_2) ?_
  refine o_t (x_ld k4) ?_
  refine o_t x_mv ?_
  first | refine o_t (x_g x_mv) ?_ | refine o_t x_gs ?_ | refine o_t x_gu ?_
  first | refine o_t (x_g x_nc) ?_ | refine o_t x_gs ?_ | refine o_t x_gu ?_
  first | refine o_t (x_g (x_fa f139_0)) ?_ | refine o_t x_gs ?_ | refine o_t x_gu ?_
  first | refine o_t (x_g (x_ld k71)) ?_ | refine o_t x_gs ?_ | refine o_t x_gu ?_
  first | refine o_t x_gs ?_ | refine o_t x_gu ?_
  first | refine o_t (x_g x_not) ?_ | refine o_t x_gs ?_ | refine o_t x_gu ?_
  refine o_t x_pick ?_
  refine o_t x_as ?_
  refine o_nil ?_
  refine w_seq ?_
  refine w_seq ?_
  refine w_region ?_
  refine o_t x_mv ?_
  refine o_t x_mv ?_
  first | refine o_t (x_g x_mv) ?_ | refine o_t x_gs ?_ | refine o_t x_gu ?_
  first | refine o_t (x_g x_nc) ?_ | refine o_t x_gs ?_ | refine o_t x_gu ?_
  first | refine o_t (x_g (x_fa f139_0)) ?_ | refine o_t x_gs ?_ | refine o_t x_gu ?_
  first | refine o_t (x_g (x_ld k71)) ?_ | refine o_t x_gs ?_ | refine o_t x_gu ?_
  first | refine o_t (x_g x_nc) ?_ | refine o_t x_gs ?_ | refine o_t x_gu ?_
  first | refine o_t (x_g (x_fa f80_13)) ?_ | refine o_t x_gs ?_ | refine o_t x_gu ?_
  first | refine o_t (x_g (x_ld k73)) ?_ | refine o_t x_gs ?_ | refine o_t x_gu ?_
  first | refine o_t (x_g x_cmp) ?_ | refine o_t x_gs ?_ | refine o_t x_gu ?_
  first | refine o_t (x_g x_mv) ?_ | refine o_t x_gs ?_ | refine o_t x_gu ?_
  first | refine o_t (x_g x_mv) ?_ | refine o_t x_gs ?_ | refine o_t x_gu ?_
  first | refine o_t (x_g x_nc) ?_ | refine o_t x_gs ?_ | refine o_t x_gu ?_
  first | refine o_t (x_g (x_fa f139_0)) ?_ | refine o_t x_gs ?_ | refine o_t x_gu ?_
  first | refine o_t (x_g (x_ld k71)) ?_ | refine o_t x_gs ?_ | refine o_t x_gu ?_
  first | refine o_t (x_g x_nc) ?_ | refine o_t x_gs ?_ | refine o_t x_gu ?_
  first | refine o_t (x_g (x_fa f80_14)) ?_ | refine o_t x_gs ?_ | refine o_t x_gu ?_
  first | refine o_t (x_g (x_ld k73)) ?_ | refine o_t x_gs ?_ | refine o_t x_gu ?_
  first | refine o_t (x_g x_cmp) ?_ | refine o_t x_gs ?_ | refine o_t x_gu ?_
  first | refine o_t (x_g x_pick) ?_ | refine o_t x_gs ?_ | refine o_t x_gu ?_
  refine o_t x_pick ?_
  refine o_nil ?_
  refine w_cond (t := false) (fun g => rfl) (fun hc => ?_) (fun hc => ?_) -- ('Go.Operand.tmp', 78)
  · cases hc
  refine w_skip ?_
  refine w_weak (L' := [(0, .iface 117 (.pointer (some ⟨cw, 0, none⟩))), (1, .pointer (some ⟨hd, 0, none⟩)), (5, .slice none 0 0), (6, .int .u16 20), (7, .bool false)]) (H' := [hdB hd fh off, fhB fh e 20 20 fl 0 0, k]) wka hka ?_
  refine w_seq ?_
  refine w_region ?_
  refine o_al z197 (fun b9 => ?_)
  refine o_nil ?_
  rw [← wbC_nil]
  refine w_seq ?_
  refine w_region ?_
  refine o_t (x_sla Tryz.underlying197 e197) ?_
  refine o_al z133 (fun b10 => ?_)
  refine o_st k133 ?_
  refine o_nil ?_
  refine w_weak (L' := [(0, .iface 117 (.pointer (some ⟨cw, 0, none⟩))), (1, .pointer (some ⟨hd, 0, none⟩)), (5, .slice none 0 0), (6, .int .u16 20), (7, .bool false), (9, .pointer (some ⟨b9, 0, none⟩)), (10, .pointer (some ⟨b10, 0, none⟩))]) (H' := [pt b10 [.slice (some ⟨b9, 0, none⟩) 30 30] 133, pt b9 (wbC 30 []) 197, hdB hd fh off, fhB fh e 20 20 fl 0 0, k]) wka hka ?_
  refine w_seq ?_
  refine w_region ?_
  refine o_call Tryz.call60 haa spla (cWb32 b10 b9 197 30 [] _ 67324752 (by decide) ⟨rfl, fun _ => rfl⟩ (by decide)) ?_
  rintro _ _ HH ⟨v1, hv1, rfl⟩ hHH
  simp only [List.cons_append, List.nil_append, List.append_nil] at hHH; subst hHH
  refine o_nil ?_
  refine w_seq ?_
  refine w_region ?_
  refine o_t x_mv ?_
  refine o_call Tryz.call58 haa spla (cWb16 b10 b9 197 30 _ v1 20 (by decide) hv1 (by simp [le_length])) ?_
  rintro _ _ HH ⟨v2, hv2, rfl⟩ hHH
  simp only [List.cons_append, List.nil_append, List.append_nil] at hHH; subst hHH
  refine o_nil ?_
  refine w_seq ?_
  refine w_region ?_
  refine o_t x_mv ?_
  refine o_t x_nc ?_
  refine o_t (x_fa f139_0) ?_
  refine o_t (x_ld k71) ?_
  refine o_t x_nc ?_
  refine o_t (x_fa f80_5) ?_
  refine o_t (x_ld k72) ?_
  refine o_call Tryz.call58 haa spla (cWb16 b10 b9 197 30 _ v2 fl (by omega) hv2 (by simp [le_length])) ?_
  rintro _ _ HH ⟨v3, hv3, rfl⟩ hHH
  simp only [List.cons_append, List.nil_append, List.append_nil] at hHH; subst hHH
  refine o_nil ?_
  refine w_seq ?_
  refine w_region ?_
  refine o_t x_mv ?_
  refine o_t x_nc ?_
  refine o_t (x_fa f139_0) ?_
  refine o_t (x_ld k71) ?_
  refine o_t x_nc ?_
  refine o_t (x_fa f80_6) ?_
  refine o_t (x_ld k72) ?_
  refine o_call Tryz.call58 haa spla (cWb16 b10 b9 197 30 _ v3 0 (by decide) hv3 (by simp [le_length])) ?_
  rintro _ _ HH ⟨v4, hv4, rfl⟩ hHH
  simp only [List.cons_append, List.nil_append, List.append_nil] at hHH; subst hHH
  refine o_nil ?_
  refine w_seq ?_
  refine w_region ?_
  refine o_t x_mv ?_
  refine o_t x_nc ?_
  refine o_t (x_fa f139_0) ?_
  refine o_t (x_ld k71) ?_
  refine o_t x_nc ?_
  refine o_t (x_fa f80_8) ?_
  refine o_t (x_ld k72) ?_
  refine o_call Tryz.call58 haa spla (cWb16 b10 b9 197 30 _ v4 0 (by decide) hv4 (by simp [le_length])) ?_
  rintro _ _ HH ⟨v5, hv5, rfl⟩ hHH
  simp only [List.cons_append, List.nil_append, List.append_nil] at hHH; subst hHH
  refine o_nil ?_
  refine w_seq ?_
  refine w_region ?_
  refine o_t x_mv ?_
  refine o_t x_nc ?_
  refine o_t (x_fa f139_0) ?_
  refine o_t (x_ld k71) ?_
  refine o_t x_nc ?_
  refine o_t (x_fa f80_9) ?_
  refine o_t (x_ld k72) ?_
  refine o_call Tryz.call58 haa spla (cWb16 b10 b9 197 30 _ v5 0 (by decide) hv5 (by simp [le_length])) ?_
  rintro _ _ HH ⟨v6, hv6, rfl⟩ hHH
  simp only [List.cons_append, List.nil_append, List.append_nil] at hHH; subst hHH
  refine o_nil ?_
  refine w_seq ?_
  refine w_seq ?_
  refine w_region ?_
  refine o_t x_mv ?_
  refine o_nil ?_
  refine w_cond (t := false) (fun g => rfl) (fun hc => ?_) (fun hc => ?_) -- ('Go.Operand.tmp', 137)
  · cases hc
  refine w_seq ?_
  refine w_region ?_
  refine o_call Tryz.call60 haa spla (cWb32 b10 b9 197 30 _ v6 0 (by decide) hv6 (by simp [le_length])) ?_
  rintro _ _ HH ⟨v7, hv7, rfl⟩ hHH
  simp only [List.cons_append, List.nil_append, List.append_nil] at hHH; subst hHH
  refine o_nil ?_
  refine w_seq ?_
  refine w_region ?_
  refine o_call Tryz.call60 haa spla (cWb32 b10 b9 197 30 _ v7 0 (by decide) hv7 (by simp [le_length])) ?_
  rintro _ _ HH ⟨v8, hv8, rfl⟩ hHH
  simp only [List.cons_append, List.nil_append, List.append_nil] at hHH; subst hHH
  refine o_nil ?_
  refine w_region ?_
  refine o_call Tryz.call60 haa spla (cWb32 b10 b9 197 30 _ v8 0 (by decide) hv8 (by simp [le_length])) ?_
  rintro _ _ HH ⟨v9, hv9, rfl⟩ hHH
  simp only [List.cons_append, List.nil_append, List.append_nil] at hHH; subst hHH
  refine o_nil ?_
  refine w_seq ?_
  refine w_region ?_
  refine o_t x_mv ?_
  refine o_t x_nc ?_
  refine o_t (x_fa f139_0) ?_
  refine o_t (x_ld k71) ?_
  refine o_t x_nc ?_
  refine o_t (x_fa f80_0) ?_
  refine o_t (x_ld k9) ?_
  refine o_t (x_lens Tryz.underlying9) ?_
  refine o_t (x_cv (z := (e.h.name.length : Int)) ⟨_, Tryz.underlying3⟩ Tryz.underlying72 (hz := w_u16 (by omega))) ?_
  refine o_call Tryz.call58 haa spla (cWb16 b10 b9 197 30 _ v9 e.h.name.length (by omega) hv9 (by simp [le_length])) ?_
  rintro _ _ HH ⟨v10, hv10, rfl⟩ hHH
  simp only [List.cons_append, List.nil_append, List.append_nil] at hHH; subst hHH
  refine o_nil ?_
  refine w_seq ?_
  refine w_region ?_
  refine o_t x_mv ?_
  refine o_t x_nc ?_
  refine o_t (x_fa f139_0) ?_
  refine o_t (x_ld k71) ?_
  refine o_t x_nc ?_
  refine o_t (x_fa f80_15) ?_
  refine o_t (x_ld k78) ?_
  refine o_t (x_lenb Tryz.underlying78) ?_
  refine o_t x_mv ?_
  refine o_t (x_lenb Tryz.underlying78) ?_
  refine o_t (x_add (z := 0) (hz := by rfl)) ?_
  refine o_t (x_cv (z := 0) ⟨_, Tryz.underlying3⟩ Tryz.underlying72 (hz := by rfl)) ?_
  refine o_call Tryz.call58 haa spla (cWb16 b10 b9 197 30 _ v10 0 (by decide) hv10 (by simp [le_length])) ?_
  rintro _ _ HH ⟨v11, hv11, rfl⟩ hHH
  simp only [List.cons_append, List.nil_append, List.append_nil] at hHH; subst hHH
  refine o_nil ?_
  have hfin : le 4 67324752 ++ le 2 20 ++ le 2 fl ++ le 2 0 ++ le 2 0 ++ le 2 0 ++ le 4 0 ++ le 4 0 ++ le 4 0 ++ le 2 e.h.name.length ++ le 2 0 = hdr30 fl e.h.name.length := rfl
  rw [hfin, wbC_full (hdr30_len _ _)]
  have hsl : Sl G (pt b9 ((hdr30 fl e.h.name.length).map u8) 197) (.slice (some ⟨b9, 0, none⟩) 30 30) (hdr30 fl e.h.name.length) := ⟨b9, 0, 30, by rw [hdr30_len], by rw [hdr30_len]; decide, Rd.all⟩
  have cw1 := (scwWrt (G := G) cw wb bb).write out k hk _ _ _ hsl (by rw [hdr30_len]; omega)
  rw [hdr30_len] at cw1
  refine w_weak (L' := [(0, .iface 117 (.pointer (some ⟨cw, 0, none⟩))), (1, .pointer (some ⟨hd, 0, none⟩)), (5, .slice none 0 0), (9, .pointer (some ⟨b9, 0, none⟩))]) (H' := [pt b9 ((hdr30 fl e.h.name.length).map u8) 197, hdB hd fh off, fhB fh e 20 20 fl 0 0, k]) wka hka ?_
  refine w_seq ?_
  refine w_seq ?_
  refine w_draw mixed ?_
  refine a_seg (k := 5) _ [(1, 0), (1, 1), (1, 2), (1, 3), (1, 4)] (by kernel_rfl) (HWk.refl _) ?_
  refine h_t rfl x_mv ?_
  refine h_t rfl (x_sla (lo := 0) (hi := 30) (v := .slice (some ⟨b9, 0, none⟩) 30 30) Tryz.underlying197 e197) ?_
  refine h_t rfl (x_mf haa haa) ?_
  refine h_t rfl (x_ncm (nila117 cw)) ?_
  refine h_t rfl x_mv ?_
  refine h_end ?_
  refine a_seg (k := 6) _ [(0, 5)] (by kernel_rfl) hwk_nil ?_
  refine h_one rfl (fun Q' hQ => ?_)
  refine o_inv (m117_Write _) hxa haa spla vca (cw1) ?_
  rintro _ HH ⟨rfl, k1', hk1, rfl⟩
  simp only [List.cons_append, List.nil_append, List.append_nil]
  refine o_nil (hQ _ _ (h_keep ?_))
  refine h_end ?_
  refine a_seg (k := 7) _ [(1, 6)] (by kernel_rfl) (HWk.refl _) ?_
  refine h_t rfl x_mv ?_
  refine h_end ?_
  refine a_seg (k := 10) _ [(1, 7), (1, 8), (1, 9)] (by kernel_rfl) (HWk.refl _) ?_
  refine h_t rfl x_ex ?_
  refine h_t rfl x_ex ?_
  refine h_t rfl x_as ?_
  refine h_end ?_
  refine a_seg (k := 11) _ [(1, 10)] (by kernel_rfl) (HWk.refl _) ?_
  refine h_t rfl x_as ?_
  refine h_end ?_
  refine a_done rfl ?_
  refine w_seq ?_
  refine w_region ?_
  refine o_t x_mv ?_
  first | refine o_t (x_inil Tryz.underlying58) ?_ | refine o_t (x_isome Tryz.underlying58) ?_
  refine o_nil ?_
  refine w_cond (t := false) (fun g => rfl) (fun hc => ?_) (fun hc => ?_) -- ('Go.Operand.tmp', 204)
  · cases hc
  refine w_skip ?_
  refine w_weak (L' := [(0, .iface 117 (.pointer (some ⟨cw, 0, none⟩))), (1, .pointer (some ⟨hd, 0, none⟩)), (5, .slice none 0 0)]) (H' := [hdB hd fh off, fhB fh e 20 20 fl 0 0, k1']) wka hka ?_
  have ho1 : (out ++ hdr30 fl e.h.name.length).length = out.length + 30 := by rw [List.length_append, hdr30_len]
  have cw2 := fun b cap r (hrd : Rd G [r] b 0 (e.h.name.map u8)) (hcap : e.h.name.length ≤ cap) => (scwWrt (G := G) cw wb bb).write (out ++ hdr30 fl e.h.name.length) k1' hk1 (.slice (some ⟨b, 0, none⟩) e.h.name.length cap) r e.h.name ⟨b, 0, cap, rfl, hcap, hrd⟩ (by rw [ho1]; omega)
  refine w_seq ?_
  refine w_seq ?_
  refine w_draw mixed ?_
  refine a_seg (k := 12) _ [(1, 0), (1, 1), (1, 2), (1, 3), (1, 4), (1, 5), (1, 6), (1, 7), (1, 9), (1, 10), (1, 11), (0, 8)] (by kernel_rfl) (HWk.refl _) ?_
  refine h_t rfl x_mv ?_
  refine h_t rfl x_mv ?_
  refine h_t rfl x_nc ?_
  refine h_t rfl (x_fa f139_0) ?_
  refine h_t rfl (x_ld k71) ?_
  refine h_t rfl x_nc ?_
  refine h_t rfl (x_fa f80_0) ?_
  refine h_t rfl (x_ld k9) ?_
  refine h_t rfl (x_mf haa haa) ?_
  refine h_t rfl (x_ncm (nila117 cw)) ?_
  refine h_t rfl x_mv ?_
  refine h_one rfl (fun Q' hQ => ?_)
  refine o_s2b Tryz.underlying9 Tryz.underlying78 Tryz.underlying5 (fun nb ncap nr hrd hcap => ?_)
  refine o_nil (hQ _ _ (h_keep ?_))
  refine h_end ?_
  refine a_seg (k := 13) _ [(0, 12)] (by kernel_rfl) hwk_nil ?_
  refine h_one rfl (fun Q' hQ => ?_)
  refine o_inv (m117_Write _) hxa haa spla vca ((cw2 nb ncap nr hrd hcap)) ?_
  rintro _ HH ⟨rfl, k2', hk2, rfl⟩
  simp only [List.cons_append, List.nil_append, List.append_nil]
  refine o_nil (hQ _ _ (h_keep ?_))
  refine h_end ?_
  refine a_seg (k := 14) _ [(1, 13)] (by kernel_rfl) (HWk.refl _) ?_
  refine h_t rfl x_mv ?_
  refine h_end ?_
  refine a_seg (k := 17) _ [(1, 14), (1, 15), (1, 16)] (by kernel_rfl) (HWk.refl _) ?_
  refine h_t rfl x_ex ?_
  refine h_t rfl x_ex ?_
  refine h_t rfl x_as ?_
  refine h_end ?_
  refine a_seg (k := 18) _ [(1, 17)] (by kernel_rfl) (HWk.refl _) ?_
  refine h_t rfl x_as ?_
  refine h_end ?_
  refine a_done rfl ?_
  refine w_seq ?_
  refine w_region ?_
  refine o_t x_mv ?_
  first | refine o_t (x_inil Tryz.underlying58) ?_ | refine o_t (x_isome Tryz.underlying58) ?_
  refine o_nil ?_
  refine w_cond (t := false) (fun g => rfl) (fun hc => ?_) (fun hc => ?_) -- ('Go.Operand.tmp', 223)
  · cases hc
  refine w_skip ?_
  refine w_weak (L' := [(0, .iface 117 (.pointer (some ⟨cw, 0, none⟩))), (1, .pointer (some ⟨hd, 0, none⟩)), (5, .slice none 0 0)]) (H' := [hdB hd fh off, fhB fh e 20 20 fl 0 0, k2']) wka hka ?_
  have cw3 := cCwNil (G := G) cw wb bb _ k2' hk2 (by rw [List.length_append, ho1]; omega)
  refine w_seq ?_
  refine w_seq ?_
  refine w_draw mixed ?_
  refine a_seg (k := 11) _ [(1, 0), (1, 1), (1, 2), (1, 3), (1, 4), (1, 5), (1, 6), (1, 7), (1, 8), (1, 9), (1, 10)] (by kernel_rfl) (HWk.refl _) ?_
  refine h_t rfl x_mv ?_
  refine h_t rfl x_mv ?_
  refine h_t rfl x_nc ?_
  refine h_t rfl (x_fa f139_0) ?_
  refine h_t rfl (x_ld k71) ?_
  refine h_t rfl x_nc ?_
  refine h_t rfl (x_fa f80_15) ?_
  refine h_t rfl (x_ld k78) ?_
  refine h_t rfl (x_mf haa haa) ?_
  refine h_t rfl (x_ncm (nila117 cw)) ?_
  refine h_t rfl x_mv ?_
  refine h_end ?_
  refine a_seg (k := 12) _ [(0, 11)] (by kernel_rfl) hwk_nil ?_
  refine h_one rfl (fun Q' hQ => ?_)
  refine o_inv (m117_Write _) hxa haa spla vca (cw3) ?_
  rintro _ HH ⟨rfl, rfl⟩
  simp only [List.cons_append, List.nil_append, List.append_nil]
  refine o_nil (hQ _ _ (h_keep ?_))
  refine h_end ?_
  refine a_seg (k := 13) _ [(1, 12)] (by kernel_rfl) (HWk.refl _) ?_
  refine h_t rfl x_mv ?_
  refine h_end ?_
  refine a_seg (k := 16) _ [(1, 13), (1, 14), (1, 15)] (by kernel_rfl) (HWk.refl _) ?_
  refine h_t rfl x_ex ?_
  refine h_t rfl x_ex ?_
  refine h_t rfl x_as ?_
  refine h_end ?_
  refine a_seg (k := 17) _ [(1, 16)] (by kernel_rfl) (HWk.refl _) ?_
  refine h_t rfl x_as ?_
  refine h_end ?_
  refine a_done rfl ?_
  refine w_seq ?_
  refine w_region ?_
  refine o_t x_mv ?_
  first | refine o_t (x_inil Tryz.underlying58) ?_ | refine o_t (x_isome Tryz.underlying58) ?_
  refine o_nil ?_
  refine w_cond (t := false) (fun g => rfl) (fun hc => ?_) (fun hc => ?_) -- ('Go.Operand.tmp', 241)
  · cases hc
  refine w_skip ?_
  refine w_seq ?_
  refine w_seq ?_
  refine w_region ?_
  refine o_t x_mv ?_
  refine o_t x_mv ?_
  refine o_inv (m117_Write _) hxa haa spla vca (cw3) ?_
  rintro _ HH ⟨rfl, rfl⟩
  simp only [List.cons_append, List.nil_append, List.append_nil]
  refine o_t x_mv ?_
  refine o_t x_ex ?_
  refine o_t x_ex ?_
  refine o_t x_as ?_
  refine o_t x_as ?_
  refine o_nil ?_
  refine w_seq ?_
  refine w_region ?_
  refine o_t x_mv ?_
  first | refine o_t (x_inil Tryz.underlying58) ?_ | refine o_t (x_isome Tryz.underlying58) ?_
  refine o_nil ?_
  refine w_cond (t := false) (fun g => rfl) (fun hc => ?_) (fun hc => ?_) -- ('Go.Operand.tmp', 250)
  · cases hc
  refine w_skip ?_
  refine w_seq ?_
  refine w_region ?_
  refine o_t x_as ?_
  refine o_nil ?_
  refine w_ret (r_1 rfl ⟨rfl, k2', by rw [← List.append_assoc]; exact hk2, rfl⟩)
end Go.Proofs.YtlmefkhglooepaaGreatDoor
