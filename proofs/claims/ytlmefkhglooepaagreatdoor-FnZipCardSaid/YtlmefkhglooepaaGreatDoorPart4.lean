/- The package's reading of numbers; strings.Reader. strings.Reader: ReadAt. The engine: contracts turned, resources glued; readers. io.SectionReader. bufio.Reader. bufio.Reader as a reader; io.ReadFull. bufio.NewReader, io.ReadFull. The search for an archive's end. The engine: numbers whose value does not matter. -/
import Derived.Test.YtlmefkhglooepaaGreatDoorPart3
set_option linter.unusedSimpArgs false
set_option linter.unusedVariables false
namespace Go.Proofs.YtlmefkhglooepaaGreatDoor
open Go
set_option linter.unusedSimpArgs false
set_option linter.unusedVariables false
variable {G : Nat → Option Obj} {ea : Nat → Addr}
theorem or_shl (a b : Nat) (k : Nat) (h : a < 2 ^ k) : a ||| b * 2 ^ k = a + b * 2 ^ k := by
  have := Nat.shiftLeft_add_eq_or_of_lt h b
  rw [Nat.shiftLeft_eq] at this
  rw [Nat.or_comm, ← this, Nat.add_comm]
/-- A slice of bytes that can be read. -/
def Sl (G : Nat → Option Obj) (r : Res) (v : Value) (l : List UInt8) : Prop :=
  ∃ b o cap, v = .slice (some ⟨b, o, none⟩) l.length cap ∧ l.length ≤ cap ∧ Rd G [r] b o (l.map u8)
theorem Sl.drop {r : Res} {b o cap m : Nat} {l : List UInt8} (hm : m ≤ l.length) (hc : l.length ≤ cap) (hr : Rd G [r] b o (l.map u8)) : Sl G r (slV b o l.length cap m l.length 1) (l.drop m) := by
  refine ⟨b, if cap = m then o else o + m * 1, cap - m, by simp [slV], by simp; omega, ?_⟩
  split
  · rw [List.drop_eq_nil_of_le (by omega)]
    intro F w _ _ i v hi; simp at hi
  · rw [Nat.mul_one, List.map_drop]; exact hr.drop m
theorem Sl.take {r : Res} {b o cap m : Nat} {l : List UInt8} (hm : m ≤ l.length) (hc : l.length ≤ cap) (hr : Rd G [r] b o (l.map u8)) : Sl G r (slV b o l.length cap 0 m 1) (l.take m) := by
  refine ⟨b, o, cap, by simp [slV]; omega, by simp; omega, ?_⟩
  rw [List.map_take]; exact hr.take m
theorem num2 (x y : UInt8) (l : List UInt8) : num ((x :: y :: l).take 2) = x.toNat + 256 * y.toNat := by simp [num]
theorem cLeU16 (v : Value) (r : Res) (l : List UInt8) (h : Sl G r v l) (hl : 2 ≤ l.length) : Fn P G 129 #[v] [r] fun v' H => v' = .int .u16 (num (l.take 2)) ∧ H = [r] := by
  obtain ⟨b, o, cap, rfl, hc, hr⟩ := h
  match l, hl with
  | x :: y :: l, _ =>
    have hx8 := x.toNat_lt
    have hy8 := y.toNat_lt
    simp only [List.length_cons] at hc
    refine fn_intro (args := [_]) Tryz.func129 Tryz.ntmps129 rfl ?_
    refine w_seq ?_
    refine w_region ?_
    refine o_t x_as ?_
    refine o_nil ?_
    refine w_seq ?_
    refine w_quiet mixed (by kernel_rfl) ?_
    refine q_t x_mv ?_
    refine q_t (x_ia (m := o + 0) Tryz.underlying78 e78 (hr := by simp; omega) (hm := by simp)) ?_
    refine q_t (x_ldR k5 hr rfl) ?_
    refine q_t (x_cv ⟨_, Tryz.underlying5⟩ Tryz.underlying72) ?_
    refine q_t x_mv ?_
    refine q_t (x_ia (m := o + 1) Tryz.underlying78 e78 (hr := by simp; omega) (hm := by simp)) ?_
    refine q_t (x_ldR k5 hr rfl) ?_
    refine q_t (x_cv ⟨_, Tryz.underlying5⟩ Tryz.underlying72) ?_
    refine q_t x_shl ?_
    refine q_t x_or ?_
    refine q_t x_as ?_
    refine q_nil ?_
    refine w_ret (r_1 rfl ⟨?_, rfl⟩)
    have h1 := or_shl x.toNat y.toNat 8 hx8
    have h2 : ((y.toNat : Int) * 256).toNat = y.toNat * 2 ^ 8 := by omega
    rw [num2]
    refine congrArg (Value.int .u16) ?_
    simp only [Int.toNat_natCast, h2, h1]; omega
theorem cLeU32 (v : Value) (r : Res) (l : List UInt8) (h : Sl G r v l) (hl : 4 ≤ l.length) : Fn P G 128 #[v] [r] fun v' H => v' = .int .u32 (num (l.take 4)) ∧ H = [r] := by
  have c1 := cLeU16 v r l h (by omega)
  obtain ⟨b, o, cap, rfl, hc, hr⟩ := h
  have c2 := cLeU16 _ r _ (Sl.drop (m := 2) (by omega) hc hr) (by simp; omega)
  have hn1 := num_lt (l.take 2)
  have hn2 := num_lt ((l.drop 2).take 2)
  have hle : (l.take 4) = l.take 2 ++ (l.drop 2).take 2 := by rw [← List.take_add]
  have hl2 : (l.take 2).length = 2 := by simp; omega
  have hl3 : ((l.drop 2).take 2).length = 2 := by simp; omega
  have hnum := num_append (l.take 2) ((l.drop 2).take 2)
  rw [← hle, hl2] at hnum
  rw [hl2] at hn1
  rw [hl3] at hn2
  have e2 : (256 : Nat) ^ 2 = 65536 := by decide
  rw [e2] at hn1 hn2 hnum
  rw [hnum]
  generalize num (l.take 2) = n1 at *
  generalize num ((l.drop 2).take 2) = n2 at *
  refine fn_intro (args := [_]) Tryz.func128 Tryz.ntmps128 rfl ?_
  refine w_seq ?_
  refine w_region ?_
  refine o_t x_as ?_
  refine o_nil ?_
  refine w_seq ?_
  refine w_quiet mixed (by kernel_rfl) ?_
  refine q_t x_mv ?_
  refine q_call Tryz.call129 haa spla (c1) ?_
  refine q_t (x_cv ⟨_, Tryz.underlying72⟩ Tryz.underlying77) ?_
  refine q_t x_mv ?_
  refine q_t (x_sl (lo := 2) (hi := l.length) (v := slV b o l.length cap 2 l.length 1) Tryz.underlying78 e78 (hv := rfl)) ?_
  refine q_call Tryz.call129 haa spla (c2) ?_
  refine q_t (x_cv ⟨_, Tryz.underlying72⟩ Tryz.underlying77) ?_
  refine q_t x_shl ?_
  refine q_t x_or ?_
  refine q_t x_as ?_
  refine q_nil ?_
  refine w_ret (r_1 rfl ⟨?_, rfl⟩)
  have h1 := or_shl n1 n2 16 hn1
  have h2 : ((n2 : Int) * 65536).toNat = n2 * 2 ^ 16 := by omega
  refine congrArg (Value.int .u32) ?_
  simp only [Int.toNat_natCast, h2, h1]; omega
theorem cLeU64 (v : Value) (r : Res) (l : List UInt8) (h : Sl G r v l) (hl : 8 ≤ l.length) : Fn P G 133 #[v] [r] fun v' H => v' = .int .u64 (num (l.take 8)) ∧ H = [r] := by
  have c1 := cLeU32 v r l h (by omega)
  obtain ⟨b, o, cap, rfl, hc, hr⟩ := h
  have c2 := cLeU32 _ r _ (Sl.drop (m := 4) (by omega) hc hr) (by simp; omega)
  have hn1 := num_lt (l.take 4)
  have hn2 := num_lt ((l.drop 4).take 4)
  have hle : (l.take 8) = l.take 4 ++ (l.drop 4).take 4 := by rw [← List.take_add]
  have hl2 : (l.take 4).length = 4 := by simp; omega
  have hl3 : ((l.drop 4).take 4).length = 4 := by simp; omega
  have hnum := num_append (l.take 4) ((l.drop 4).take 4)
  rw [← hle, hl2] at hnum
  rw [hl2] at hn1
  rw [hl3] at hn2
  have e2 : (256 : Nat) ^ 4 = 4294967296 := by decide
  rw [e2] at hn1 hn2 hnum
  rw [hnum]
  generalize num (l.take 4) = n1 at *
  generalize num ((l.drop 4).take 4) = n2 at *
  refine fn_intro (args := [_]) Tryz.func133 Tryz.ntmps133 rfl ?_
  refine w_seq ?_
  refine w_region ?_
  refine o_t x_as ?_
  refine o_nil ?_
  refine w_seq ?_
  refine w_quiet mixed (by kernel_rfl) ?_
  refine q_t x_mv ?_
  refine q_call Tryz.call128 haa spla (c1) ?_
  refine q_t (x_cv ⟨_, Tryz.underlying77⟩ Tryz.underlying73) ?_
  refine q_t x_mv ?_
  refine q_t (x_sl (lo := 4) (hi := l.length) (v := slV b o l.length cap 4 l.length 1) Tryz.underlying78 e78 (hv := rfl)) ?_
  refine q_call Tryz.call128 haa spla (c2) ?_
  refine q_t (x_cv ⟨_, Tryz.underlying77⟩ Tryz.underlying73) ?_
  refine q_t x_shl ?_
  refine q_t x_or ?_
  refine q_t x_as ?_
  refine q_nil ?_
  refine w_ret (r_1 rfl ⟨?_, rfl⟩)
  have h1 := or_shl n1 n2 32 hn1
  have h2 : ((n2 : Int) * 4294967296).toNat = n2 * 2 ^ 32 := by omega
  refine congrArg (Value.int .u64) ?_
  simp only [Int.toNat_natCast, h2, h1]; omega
theorem cRb16 (p : Nat) (v : Value) (r : Res) (l : List UInt8) (h : Sl G r v l) (hl : 2 ≤ l.length) : Fn P G 97 #[.pointer (some ⟨p, 0, none⟩)] [pt p [v] 204, r] fun v' H => v' = .int .u16 (num (l.take 2)) ∧ ∃ v2, Sl G r v2 (l.drop 2) ∧ H = [pt p [v2] 204, r] := by
  have c1 := cLeU16 v r l h hl
  obtain ⟨b, o, cap, rfl, hc, hr⟩ := h
  refine fn_intro (args := [_]) Tryz.func97 Tryz.ntmps97 rfl ?_
  refine w_seq ?_
  refine w_region ?_
  refine o_t x_as ?_
  refine o_nil ?_
  refine w_seq ?_
  refine w_region ?_
  refine o_t x_mv ?_
  refine o_t x_nc ?_
  refine o_t (x_ld k204) ?_
  refine o_call Tryz.call129 haa spla (c1) ?_
  rintro _ _ HH ⟨rfl, rfl⟩ hHH
  simp only [List.cons_append, List.nil_append, List.append_nil] at hHH; subst hHH
  refine o_t x_as ?_
  refine o_nil ?_
  refine w_seq ?_
  refine w_region ?_
  refine o_t x_mv ?_
  refine o_t x_mv ?_
  refine o_t x_nc ?_
  refine o_t (x_ld k204) ?_
  refine o_t (x_sl (lo := 2) (hi := l.length) (v := slV b o l.length cap 2 l.length 1) Tryz.underlying204 e204 (hv := rfl)) ?_
  refine o_t x_nc ?_
  refine o_st k204 ?_
  refine o_nil ?_
  refine w_seq ?_
  refine w_region ?_
  refine o_t x_mv ?_
  refine o_t x_as ?_
  refine o_nil ?_
  refine w_ret (r_1 rfl ⟨rfl, _, Sl.drop (m := 2) hl hc hr, rfl⟩)
theorem cRb32 (p : Nat) (v : Value) (r : Res) (l : List UInt8) (h : Sl G r v l) (hl : 4 ≤ l.length) : Fn P G 96 #[.pointer (some ⟨p, 0, none⟩)] [pt p [v] 204, r] fun v' H => v' = .int .u32 (num (l.take 4)) ∧ ∃ v2, Sl G r v2 (l.drop 4) ∧ H = [pt p [v2] 204, r] := by
  have c1 := cLeU32 v r l h hl
  obtain ⟨b, o, cap, rfl, hc, hr⟩ := h
  refine fn_intro (args := [_]) Tryz.func96 Tryz.ntmps96 rfl ?_
  refine w_seq ?_
  refine w_region ?_
  refine o_t x_as ?_
  refine o_nil ?_
  refine w_seq ?_
  refine w_region ?_
  refine o_t x_mv ?_
  refine o_t x_nc ?_
  refine o_t (x_ld k204) ?_
  refine o_call Tryz.call128 haa spla (c1) ?_
  rintro _ _ HH ⟨rfl, rfl⟩ hHH
  simp only [List.cons_append, List.nil_append, List.append_nil] at hHH; subst hHH
  refine o_t x_as ?_
  refine o_nil ?_
  refine w_seq ?_
  refine w_region ?_
  refine o_t x_mv ?_
  refine o_t x_mv ?_
  refine o_t x_nc ?_
  refine o_t (x_ld k204) ?_
  refine o_t (x_sl (lo := 4) (hi := l.length) (v := slV b o l.length cap 4 l.length 1) Tryz.underlying204 e204 (hv := rfl)) ?_
  refine o_t x_nc ?_
  refine o_st k204 ?_
  refine o_nil ?_
  refine w_seq ?_
  refine w_region ?_
  refine o_t x_mv ?_
  refine o_t x_as ?_
  refine o_nil ?_
  refine w_ret (r_1 rfl ⟨rfl, _, Sl.drop (m := 4) hl hc hr, rfl⟩)
theorem cRb64 (p : Nat) (v : Value) (r : Res) (l : List UInt8) (h : Sl G r v l) (hl : 8 ≤ l.length) : Fn P G 105 #[.pointer (some ⟨p, 0, none⟩)] [pt p [v] 204, r] fun v' H => v' = .int .u64 (num (l.take 8)) ∧ ∃ v2, Sl G r v2 (l.drop 8) ∧ H = [pt p [v2] 204, r] := by
  have c1 := cLeU64 v r l h hl
  obtain ⟨b, o, cap, rfl, hc, hr⟩ := h
  refine fn_intro (args := [_]) Tryz.func105 Tryz.ntmps105 rfl ?_
  refine w_seq ?_
  refine w_region ?_
  refine o_t x_as ?_
  refine o_nil ?_
  refine w_seq ?_
  refine w_region ?_
  refine o_t x_mv ?_
  refine o_t x_nc ?_
  refine o_t (x_ld k204) ?_
  refine o_call Tryz.call133 haa spla (c1) ?_
  rintro _ _ HH ⟨rfl, rfl⟩ hHH
  simp only [List.cons_append, List.nil_append, List.append_nil] at hHH; subst hHH
  refine o_t x_as ?_
  refine o_nil ?_
  refine w_seq ?_
  refine w_region ?_
  refine o_t x_mv ?_
  refine o_t x_mv ?_
  refine o_t x_nc ?_
  refine o_t (x_ld k204) ?_
  refine o_t (x_sl (lo := 8) (hi := l.length) (v := slV b o l.length cap 8 l.length 1) Tryz.underlying204 e204 (hv := rfl)) ?_
  refine o_t x_nc ?_
  refine o_st k204 ?_
  refine o_nil ?_
  refine w_seq ?_
  refine w_region ?_
  refine o_t x_mv ?_
  refine o_t x_as ?_
  refine o_nil ?_
  refine w_ret (r_1 rfl ⟨rfl, _, Sl.drop (m := 8) hl hc hr, rfl⟩)
theorem cRb8 (p : Nat) (v : Value) (r : Res) (x : UInt8) (l : List UInt8) (h : Sl G r v (x :: l)) : Fn P G 109 #[.pointer (some ⟨p, 0, none⟩)] [pt p [v] 204, r] fun v' H => v' = .int .u8 x.toNat ∧ ∃ v2, Sl G r v2 l ∧ H = [pt p [v2] 204, r] := by
  obtain ⟨b, o, cap, rfl, hc, hr⟩ := h
  refine fn_intro (args := [_]) Tryz.func109 Tryz.ntmps109 rfl ?_
  refine w_seq ?_
  refine w_region ?_
  refine o_t x_as ?_
  refine o_nil ?_
  refine w_seq ?_
  refine w_region ?_
  refine o_t x_mv ?_
  refine o_t x_nc ?_
  refine o_t (x_ld k204) ?_
  refine o_t (x_ia (m := o + 0) Tryz.underlying204 e204 (hr := by simp) (hm := by simp)) ?_
  refine o_t (x_ldR k5 (hr.pull (.tail .head)) rfl) ?_
  refine o_t x_as ?_
  refine o_nil ?_
  refine w_seq ?_
  refine w_region ?_
  refine o_t x_mv ?_
  refine o_t x_mv ?_
  refine o_t x_nc ?_
  refine o_t (x_ld k204) ?_
  refine o_t (x_sl (lo := 1) (hi := (x :: l).length) (v := slV b o (x :: l).length cap 1 (x :: l).length 1) Tryz.underlying204 e204 (hv := rfl)) ?_
  refine o_t x_nc ?_
  refine o_st k204 ?_
  refine o_nil ?_
  refine w_seq ?_
  refine w_region ?_
  refine o_t x_mv ?_
  refine o_t x_as ?_
  refine o_nil ?_
  refine w_ret (r_1 rfl ⟨rfl, _, Sl.drop (l := x :: l) (m := 1) (by simp) hc hr, rfl⟩)
theorem cRbSub (p : Nat) (v : Value) (r : Res) (l : List UInt8) (m : Nat) (h : Sl G r v l) (hm : m ≤ l.length) (hl : l.length ≤ 4611686018427387904) : Fn P G 104 #[.pointer (some ⟨p, 0, none⟩), .int .i64 m] [pt p [v] 204, r] fun v' H => Sl G r v' (l.take m) ∧ ∃ v2, Sl G r v2 (l.drop m) ∧ H = [pt p [v2] 204, r] := by
  obtain ⟨b, o, cap, rfl, hc, hr⟩ := h
  refine fn_intro (args := [_,_]) Tryz.func104 Tryz.ntmps104 rfl ?_
  refine w_seq ?_
  refine w_region ?_
  refine o_t x_as ?_
  refine o_nil ?_
  refine w_seq ?_
  refine w_region ?_
  refine o_t x_mv ?_
  refine o_t x_nc ?_
  refine o_t (x_ld k204) ?_
  refine o_t x_mv ?_
  refine o_t (x_sl (lo := 0) (hi := m) (v := slV b o l.length cap 0 m 1) Tryz.underlying204 e204 (hl := rfl) (hh := ⟨_, _, fun _ => rfl, by omega, by omega⟩) (hv := rfl)) ?_
  refine o_t x_as ?_
  refine o_nil ?_
  refine w_seq ?_
  refine w_region ?_
  refine o_t x_mv ?_
  refine o_t x_mv ?_
  refine o_t x_nc ?_
  refine o_t (x_ld k204) ?_
  refine o_t x_mv ?_
  refine o_t (x_sl (lo := m) (hi := l.length) (v := slV b o l.length cap m l.length 1) Tryz.underlying204 e204 (hl := ⟨_, _, fun _ => rfl, by omega, by omega⟩) (hh := rfl) (hv := rfl)) ?_
  refine o_t x_nc ?_
  refine o_st k204 ?_
  refine o_nil ?_
  refine w_seq ?_
  refine w_region ?_
  refine o_t x_mv ?_
  refine o_t x_as ?_
  refine o_nil ?_
  refine w_ret (r_1 rfl ⟨Sl.take (m := m) hm hc hr, _, Sl.drop (m := m) hm hc hr, rfl⟩)
end Go.Proofs.YtlmefkhglooepaaGreatDoor
namespace Go.Proofs.YtlmefkhglooepaaGreatDoor
open Go
set_option linter.unusedSimpArgs false
set_option linter.unusedVariables false
variable {G : Nat → Option Obj} {ea : Nat → Addr}
/-- What a read leaves in a row of cells. -/
def putB (cs : List Value) (o : Nat) (l : List UInt8) : List Value := cs.take o ++ l.map u8 ++ cs.drop (o + l.length)
theorem putB_length {cs : List Value} {o : Nat} {l : List UInt8} (h : o + l.length ≤ cs.length) : (putB cs o l).length = cs.length := by
  simp [putB]; omega
abbrev srB (rb : Nat) (s : List UInt8) : Res := pt rb [.string (str s), .int .i64 0, .int .i64 (-1)] 116
theorem cStrNew (s : List UInt8) : Fn P G 28 #[.string (str s)] [] fun v H => ∃ rb, v = .pointer (some ⟨rb, 0, none⟩) ∧ H = [srB rb s] := by
  refine fn_intro (args := [_]) Tryz.func28 Tryz.ntmps28 rfl ?_
  refine w_seq ?_
  refine w_region ?_
  refine o_t x_as ?_
  refine o_nil ?_
  refine w_seq ?_
  refine w_region ?_
  refine o_t x_mv ?_
  refine o_t (x_bd hla bd116_0_1_2) ?_
  refine o_bx (fun b5 => ?_)
  refine o_t x_as ?_
  refine o_nil ?_
  refine w_ret (r_1 rfl ⟨_, rfl, rfl⟩)
theorem cReadAt (rb b o len cap off T : Nat) (cs : List Value) (s : List UInt8) (hs : s.length ≤ 2147483647) (hfit : o + len ≤ cs.length) (hoff : off + len ≤ s.length) (h0 : off < s.length) (hlen : len ≤ cap) :
    Fn P G 172 #[.pointer (some ⟨rb, 0, none⟩), .slice (some ⟨b, o, none⟩) len cap, .int .i64 off] [srB rb s, pt b cs T] fun v H => v = .tuple #[.int .i64 len, .nilIface] ∧ H = [srB rb s, pt b (putB cs o ((s.drop off).take len)) T] := by
  have hlt : ((s.drop off).take len).length = len := by simp; omega
  have hdl : (s.drop off).length = s.length - off := by simp
  have hts : (s.drop off).take (s.length - off) = s.drop off := by rw [List.take_of_length_le (by simp)]
  refine fn_intro (args := [_,_,_]) Tryz.func172 Tryz.ntmps172 rfl ?_
  refine w_seq ?_
  refine w_region ?_
  refine o_t x_as ?_
  refine o_t x_as ?_
  refine o_nil ?_
  refine w_seq ?_
  refine w_seq ?_
  refine w_region ?_
  refine o_t x_mv ?_
  refine o_t x_cmp ?_
  refine o_nil ?_
  refine w_cond (t := false) (fun g => rfl) (fun hc => ?_) (fun hc => ?_) -- ('Go.Operand.tmp', 9)
  · cases hc
  refine w_skip ?_
  refine w_seq ?_
  refine w_seq ?_
  refine w_region ?_
  refine o_t x_mv ?_
  refine o_t x_mv ?_
  refine o_t x_nc ?_
  refine o_t (x_fa f116_0) ?_
  refine o_t (x_ld k9) ?_
  refine o_t (x_lens Tryz.underlying9) ?_
  refine o_t x_cmp ?_
  refine o_nil ?_
  refine w_cond (t := false) (fun g => rfl) (fun hc => ?_) (fun hc => ?_) -- ('Go.Operand.tmp', 17)
  · cases hc
  refine w_skip ?_
  refine w_seq ?_
  refine w_region ?_
  refine o_t x_mv ?_
  refine o_t x_mv ?_
  refine o_t x_nc ?_
  refine o_t (x_fa f116_0) ?_
  refine o_t (x_ld k9) ?_
  refine o_t x_mv ?_
  refine o_t (Ex.cast (congrArg (fun z => Value.string (str z)) hts) (x_sls (lo := off) (hi := s.length) Tryz.underlying9)) ?_
  refine o_copys hxa hxa Tryz.underlying78 k5 (pulla) (by omega) ?_
  refine o_t x_as ?_
  refine o_nil ?_
  rw [show min (s.drop off).length len = len by omega]
  have hput : cs.take o ++ ((s.drop off).take len).map u8 ++ cs.drop (o + len) = putB cs o ((s.drop off).take len) := by rw [putB, hlt]
  rw [hput]
  refine w_seq ?_
  refine w_seq ?_
  refine w_region ?_
  refine o_t x_mv ?_
  refine o_t x_mv ?_
  refine o_t (x_lenb Tryz.underlying78) ?_
  refine o_t x_cmp ?_
  refine o_nil ?_
  refine w_cond (t := false) (fun g => rfl) (fun hc => ?_) (fun hc => ?_) -- ('Go.Operand.tmp', 30)
  · cases hc
  refine w_skip ?_
  refine w_ret (r_2 rfl ⟨rfl, rfl⟩)
theorem cReadAtEnd (gl : Glob G ea) (rb b o len cap off T : Nat) (cs : List Value) (s : List UInt8) (hs : s.length ≤ 2147483647) (hfit : o + len ≤ cs.length) (hoff : s.length < off + len) (h0 : off ≤ s.length) (hlen : len ≤ cap) (hl0 : 0 < len) (hl1 : len < 4611686018427387904) :
    Fn P G 172 #[.pointer (some ⟨rb, 0, none⟩), .slice (some ⟨b, o, none⟩) len cap, .int .i64 off] [srB rb s, pt b cs T] fun v H => v = .tuple #[.int .i64 ((s.length - off : Nat) : Int), errV ea 3] ∧ H = [srB rb s, pt b (putB cs o (s.drop off)) T] := by
  have hlt : ((s.drop off).take len) = s.drop off := List.take_of_length_le (by simp; omega)
  have hdl : (s.drop off).length = s.length - off := by simp
  have hts : (s.drop off).take (s.length - off) = s.drop off := by rw [List.take_of_length_le (by simp)]
  refine fn_intro (args := [_,_,_]) Tryz.func172 Tryz.ntmps172 rfl ?_
  refine w_seq ?_
  refine w_region ?_
  refine o_t x_as ?_
  refine o_t x_as ?_
  refine o_nil ?_
  refine w_seq ?_
  refine w_seq ?_
  refine w_region ?_
  refine o_t x_mv ?_
  refine o_t x_cmp ?_
  refine o_nil ?_
  refine w_cond (t := false) (fun g => rfl) (fun hc => ?_) (fun hc => ?_) -- ('Go.Operand.tmp', 9)
  · cases hc
  refine w_skip ?_
  refine w_seq ?_
  refine w_seq ?_
  by_cases he : off = s.length
  · refine w_region ?_
    refine o_t x_mv ?_
    refine o_t x_mv ?_
    refine o_t x_nc ?_
    refine o_t (x_fa f116_0) ?_
    refine o_t (x_ld k9) ?_
    refine o_t (x_lens Tryz.underlying9) ?_
    refine o_t x_cmp ?_
    refine o_nil ?_
    refine w_cond (t := true) (fun g => rfl) (fun hc => ?_) (fun hc => ?_) -- ('Go.Operand.tmp', 17)
    · refine w_seq ?_
      refine w_quiet mixed (by kernel_rfl) ?_
      refine q_t (x_err 3 gl) ?_
      refine q_t x_as ?_
      refine q_t x_as ?_
      refine q_nil ?_
      refine w_ret (r_2 rfl ⟨?_, ?_⟩)
      · rw [he]; simp
      · have : s.drop off = [] := List.drop_eq_nil_of_le (by omega)
        rw [this]; simp [putB]
    · cases hc
  · refine w_region ?_
    refine o_t x_mv ?_
    refine o_t x_mv ?_
    refine o_t x_nc ?_
    refine o_t (x_fa f116_0) ?_
    refine o_t (x_ld k9) ?_
    refine o_t (x_lens Tryz.underlying9) ?_
    refine o_t x_cmp ?_
    refine o_nil ?_
    refine w_cond (t := false) (fun g => rfl) (fun hc => ?_) (fun hc => ?_) -- ('Go.Operand.tmp', 17)
    · cases hc
    refine w_skip ?_
    refine w_seq ?_
    refine w_region ?_
    refine o_t x_mv ?_
    refine o_t x_mv ?_
    refine o_t x_nc ?_
    refine o_t (x_fa f116_0) ?_
    refine o_t (x_ld k9) ?_
    refine o_t x_mv ?_
    refine o_t (Ex.cast (congrArg (fun z => Value.string (str z)) hts) (x_sls (lo := off) (hi := s.length) Tryz.underlying9)) ?_
    refine o_copys hxa hxa Tryz.underlying78 k5 (pulla) (by omega) ?_
    refine o_t x_as ?_
    refine o_nil ?_
    rw [show min (s.drop off).length len = s.length - off by omega, hlt]
    have hput : cs.take o ++ (s.drop off).map u8 ++ cs.drop (o + (s.length - off)) = putB cs o (s.drop off) := by rw [putB, hdl]
    rw [hput]
    refine w_seq ?_
    refine w_seq ?_
    refine w_region ?_
    refine o_t x_mv ?_
    refine o_t x_mv ?_
    refine o_t (x_lenb Tryz.underlying78) ?_
    refine o_t x_cmp ?_
    refine o_nil ?_
    refine w_cond (t := true) (fun g => rfl) (fun hc => ?_) (fun hc => ?_) -- ('Go.Operand.tmp', 30)
    · refine w_region ?_
      refine o_t (x_err 3 gl) ?_
      refine o_t x_as ?_
      refine o_nil ?_
      refine w_ret (r_2 rfl ⟨rfl, rfl⟩)
    · cases hc
end Go.Proofs.YtlmefkhglooepaaGreatDoor
namespace Go.Proofs.YtlmefkhglooepaaGreatDoor
open Go
set_option linter.unusedSimpArgs false
set_option linter.unusedVariables false
section
variable {P : Program} {n : Nat} {G : Nat → Option Obj} {ops : Array Oper} {Q : Post} {rest : List Oper} {L : Loc} {H R H' : List Res}
variable {d : Nat} {x y ix c : Operand} {ty t t' s s' : TypeId} {p : String} {e : Array Edge}
theorem hflat (h : H.flatten = H'.flatten) : HWk H H' := fun F w hs => ⟨hs.os, hs.tape, hs.output, h ▸ hs.nd, h ▸ hs.own, h ▸ hs.apart, hs.frame⟩
theorem Split.all : Split H H [] := by unfold Split; rw [List.append_nil]
theorem Fn.conv {f : FuncId} {args : Array Value} {H2 : List Res} {Q2 Q : Value → List Res → Prop} (h : Fn P G f args H2 Q2) (hH : HWk H H2) (hQ : ∀ v H', Q2 v H' → ∃ H'', HWk H' H'' ∧ Q v H'') : Fn P G f args H Q := by
  intro F hF w hs
  refine (h F hF w (hH F w hs)).mono fun e w' ⟨v, H1, he, h1, h2⟩ => ?_
  obtain ⟨H2, h3, h4⟩ := hQ v H1 h2
  exact ⟨v, H2, he, h3 F w' h1, h4⟩
theorem Fn.post {f : FuncId} {args : Array Value} {Q2 Q : Value → List Res → Prop} (h : Fn P G f args H Q2) (hQ : ∀ v H', Q2 v H' → Q v H') : Fn P G f args H Q :=
  h.conv (HWk.refl H) fun v H' q => ⟨H', HWk.refl _, hQ v H' q⟩
/-- A bound method that is no nil. -/
theorem x_ncm {T : TypeId} {u : Value} {nm : String} {cs : Array Value} (hna : ∀ w, (nilAhead (P.types.size + Made.depth) T u nm).run P w = .ok (some false) w)
    (hx : ∀ g, evl L g x = .func (.method nm) #[.iface T u] cs := by intro g; first | (simp only [evl, val, Nat.reduceEqDiff, ↓reduceIte]; done) | (simp only [evl, val, Nat.reduceEqDiff, ↓reduceIte]; rfl)) (hn : d < n := by decide) :
    Ex P n G ops L H ⟨some d, .nilCheck x, ty, p, e, none⟩ d (.func (.method nm) #[.iface T u] cs) :=
  .mk hn (fun _ _ g w _ => by
    have h1 := hna w
    simp [execOp, hx g, h1])
theorem x_nci {T : TypeId} {u : Value} (hx : ∀ g, evl L g x = .iface T u := by intro g; rfl) (hn : d < n := by decide) :
    Ex P n G ops L H ⟨some d, .nilCheck x, ty, p, e, none⟩ d (.iface T u) := .mk hn (fun _ _ g w _ => by simp [execOp, hx g])
end
section
variable {n : Nat} {G : Nat → Option Obj} {ops : Array Oper} {L : Loc} {H : List Res} {d : Nat} {x : Operand} {ty s t : TypeId} {p : String} {e : Array Edge}
theorem x_ta {c : Bool} {V v : Value} (h : ∀ w, (Instr.typeAssert V s t c).run P w = .ok v w) (hx : ∀ g, evl L g x = V := by intro g; rfl) (hn : d < n := by decide) :
    Ex P n G ops L H ⟨some d, .typeAssert x s t c, ty, p, e, none⟩ d v :=
  .mk hn (fun _ _ g w _ => by have h1 := h w; simp [execOp, hx g, h1])
end
/-- A reader of a text. -/
structure Rdr (G : Nat → Option Obj) (ea : Nat → Addr) (T : TypeId) (u r : Value) (f : FuncId) (S : List UInt8 → Res → Prop) : Prop where
  call : ∀ vs w, (callMethod (.iface T u) "Read" vs).run P w = .ok (.enter f (#[r] ++ vs)) w
  nila : ∀ w, (nilAhead (P.types.size + Made.depth) T u "Read").run P w = .ok (some false) w
  read : ∀ rem k b o len cap cs T', S rem k → 0 < len → len ≤ cap → o + len ≤ cs.length → rem ≠ [] → len ≤ 2147483647 →
    Fn P G f #[r, .slice (some ⟨b, o, none⟩) len cap] [pt b cs T', k] fun v H => ∃ n k', 0 < n ∧ n ≤ len ∧ n ≤ rem.length ∧ v = .tuple #[.int .i64 n, .nilIface] ∧ S (rem.drop n) k' ∧ H = [pt b (putB cs o (rem.take n)) T', k']
  eof : ∀ k b o len cap cs T', S [] k → 0 < len → len ≤ cap → o + len ≤ cs.length → len ≤ 2147483647 →
    Fn P G f #[r, .slice (some ⟨b, o, none⟩) len cap] [pt b cs T', k] fun v H => ∃ k', v = .tuple #[.int .i64 0, errV ea 3] ∧ S [] k' ∧ H = [pt b cs T', k']
end Go.Proofs.YtlmefkhglooepaaGreatDoor
namespace Go.Proofs.YtlmefkhglooepaaGreatDoor
open Go
set_option linter.unusedSimpArgs false
set_option linter.unusedVariables false
variable {G : Nat → Option Obj} {ea : Nat → Addr}
abbrev secB (sb rb base off lim m : Nat) : Res := pt sb [.iface 61 (.pointer (some ⟨rb, 0, none⟩)), .int .i64 base, .int .i64 off, .int .i64 lim, .int .i64 m] 208
theorem cSecNew (rb off m : Nat) (h : off + m ≤ 2147483647) : Fn P G 70 #[.iface 61 (.pointer (some ⟨rb, 0, none⟩)), .int .i64 off, .int .i64 m] [] fun v H => ∃ sb, v = .pointer (some ⟨sb, 0, none⟩) ∧ H = [secB sb rb off off (off + m) m] := by
  refine fn_intro (args := [_,_,_]) Tryz.func70 Tryz.ntmps70 rfl ?_
  refine w_seq ?_
  refine w_region ?_
  refine o_t x_as ?_
  refine o_nil ?_
  refine w_seq ?_
  refine w_region ?_
  refine o_t x_as ?_
  refine o_nil ?_
  refine w_seq ?_
  refine w_seq ?_
  refine w_region ?_
  refine o_t x_mv ?_
  refine o_t x_mv ?_
  refine o_t x_sub ?_
  refine o_t x_cmp ?_
  refine o_nil ?_
  refine w_cond (t := true) (fun g => rfl) (fun hc => ?_) (fun hc => ?_) -- ('Go.Operand.tmp', 11)
  · --
    refine w_region ?_
    refine o_t x_mv ?_
    refine o_t x_mv ?_
    refine o_t x_add ?_
    refine o_t x_as ?_
    refine o_nil ?_
    refine w_seq ?_
    refine w_region ?_
    refine o_t x_mv ?_
    refine o_t x_mv ?_
    refine o_t x_mv ?_
    refine o_t x_mv ?_
    refine o_t x_mv ?_
    refine o_t (x_bd hla bd208_0_1_2_3_4) ?_
    refine o_bx (fun b21 => ?_)
    refine o_t x_as ?_
    refine o_nil ?_
    refine w_ret (r_1 rfl ⟨b21, rfl, ?_⟩)
    rw [show ((m : Int) + off) = ((off + m : Nat) : Int) by omega]
  · cases hc
theorem cSeek (sb rb base off lim m a : Nat) (ha : base ≤ a) (hl : a ≤ 2147483647) (hb : base = 0) : Fn P G 75 #[.pointer (some ⟨sb, 0, none⟩), .int .i64 a, .int .i64 0] [secB sb rb base off lim m] fun v H => v = .tuple #[.int .i64 a, .nilIface] ∧ H = [secB sb rb base a lim m] := by
  subst hb
  refine fn_intro (args := [_,_,_]) Tryz.func75 Tryz.ntmps75 rfl ?_
  refine w_seq ?_
  refine w_region ?_
  refine o_t x_as ?_
  refine o_t x_as ?_
  refine o_nil ?_
  refine w_seq ?_
  refine w_seq ?_
  refine w_region ?_
  refine o_t x_mv ?_
  refine o_nil ?_
  refine w_block ?_ -- 0
  refine w_seq ?_
  refine w_region ?_
  refine o_t x_cmp ?_
  refine o_t x_as ?_
  refine o_nil ?_
  refine w_cond (t := true) (fun g => rfl) (fun hc => ?_) (fun hc => ?_) -- ('Go.Operand.tmp', 10)
  · --
    refine w_region ?_
    refine o_t x_mv ?_
    refine o_t x_mv ?_
    refine o_t x_nc ?_
    refine o_t (x_fa f208_1) ?_
    refine o_t (x_ld k2) ?_
    refine o_t x_add ?_
    refine o_t x_as ?_
    refine o_nil ?_
    refine w_seq ?_
    refine w_seq ?_
    refine w_region ?_
    refine o_t x_mv ?_
    refine o_t x_mv ?_
    refine o_t x_nc ?_
    refine o_t (x_fa f208_1) ?_
    refine o_t (x_ld k2) ?_
    refine o_t x_cmp ?_
    refine o_nil ?_
    refine w_cond (t := false) (fun g => rfl) (fun hc => ?_) (fun hc => ?_) -- ('Go.Operand.tmp', 39)
    · cases hc
    refine w_skip ?_
    refine w_seq ?_
    refine w_region ?_
    refine o_t x_mv ?_
    refine o_t x_mv ?_
    refine o_t x_nc ?_
    refine o_t (x_fa f208_2) ?_
    refine o_st k2 ?_
    refine o_nil ?_
    refine w_seq ?_
    refine w_region ?_
    refine o_t x_mv ?_
    refine o_t x_mv ?_
    refine o_t x_nc ?_
    refine o_t (x_fa f208_1) ?_
    refine o_t (x_ld k2) ?_
    refine o_t x_sub ?_
    refine o_t x_as ?_
    refine o_t x_as ?_
    refine o_nil ?_
    refine w_ret (r_2 rfl ⟨?_, ?_⟩)
    · simp
    · simp [secB]
  · cases hc
/-- A section's state: what is left of it. -/
def secS (sb rb base lim m : Nat) (s : List UInt8) (rem : List UInt8) (k : Res) : Prop :=
  ∃ off, off ≤ lim ∧ rem = (s.drop off).take (lim - off) ∧ k = secB sb rb base off lim m ++ srB rb s
theorem cSecRead (gl : Glob G ea) (sb rb base off lim m b o len cap T : Nat) (cs : List Value) (s : List UInt8) (hs : s.length ≤ 2147483647) (hfit : o + len ≤ cs.length) (hlim : lim ≤ s.length) (hoff : off < lim) (h0 : 0 < len) (hlen : len ≤ cap) (hl1 : len ≤ 2147483647) :
    Fn P G 194 #[.pointer (some ⟨sb, 0, none⟩), .slice (some ⟨b, o, none⟩) len cap] [pt b cs T, secB sb rb base off lim m, srB rb s] fun v H => v = .tuple #[.int .i64 ((min len (lim - off) : Nat) : Int), .nilIface] ∧ H = [pt b (putB cs o ((s.drop off).take (min len (lim - off)))) T, secB sb rb base (off + min len (lim - off)) lim m, srB rb s] := by
  refine fn_intro (args := [_,_]) Tryz.func194 Tryz.ntmps194 rfl ?_
  refine w_seq ?_
  refine w_region ?_
  refine o_t x_as ?_
  refine o_t x_as ?_
  refine o_nil ?_
  refine w_seq ?_
  refine w_seq ?_
  refine w_quiet mixed (by kernel_rfl) ?_
  refine q_t x_mv ?_
  refine q_t x_nc ?_
  refine q_t (x_fa f208_2) ?_
  refine q_t (x_ld k2) ?_
  refine q_t x_mv ?_
  refine q_t x_nc ?_
  refine q_t (x_fa f208_3) ?_
  refine q_t (x_ld k2) ?_
  refine q_t x_cmp ?_
  refine q_nil ?_
  refine w_cond (t := false) (fun g => rfl) (fun hc => ?_) (fun hc => ?_) -- ('Go.Operand.tmp', 15)
  · cases hc
  refine w_skip ?_
  refine w_cut (α := Unit) (fun _ => [(0, .pointer (some ⟨sb, 0, none⟩)), (1, .slice (some ⟨b, o, none⟩) (min len (lim - off)) cap)]) (fun _ => [pt b cs T, secB sb rb base off lim m, srB rb s]) (fun _ => True) ?_ (fun _ _ => ?_)
  · refine w_seq ?_
    refine w_quiet mixed (by kernel_rfl) ?_
    refine q_t x_mv ?_
    refine q_t x_nc ?_
    refine q_t (x_fa f208_3) ?_
    refine q_t (x_ld k2) ?_
    refine q_t x_mv ?_
    refine q_t x_nc ?_
    refine q_t (x_fa f208_2) ?_
    refine q_t (x_ld k2) ?_
    refine q_t x_sub ?_
    refine q_t x_as ?_
    refine q_nil ?_
    refine w_seq ?_
    by_cases hlt : lim - off < len
    · refine w_region ?_
      refine o_t x_mv ?_
      refine o_t (x_lenb Tryz.underlying78) ?_
      refine o_t x_mv ?_
      refine o_t x_cmp ?_
      refine o_nil ?_
      refine w_cond (t := true) (fun g => rfl) (fun hc => ?_) (fun hc => ?_) -- ('Go.Operand.tmp', 29)
      · refine w_region ?_
        refine o_t x_mv ?_
        refine o_t x_mv ?_
        refine o_t (x_sl (lo := 0) (hi := lim - off) (v := .slice (some ⟨b, o, none⟩) (min len (lim - off)) cap) Tryz.underlying78 e78 (hv := by simp [slV]; omega)) ?_
        refine o_t x_as ?_
        refine o_nil ?_
        exact ⟨(), wka, hka, trivial⟩
      · cases hc
    · refine w_region ?_
      refine o_t x_mv ?_
      refine o_t (x_lenb Tryz.underlying78) ?_
      refine o_t x_mv ?_
      refine o_t x_cmp ?_
      refine o_nil ?_
      refine w_cond (t := false) (fun g => rfl) (fun hc => ?_) (fun hc => ?_) -- ('Go.Operand.tmp', 29)
      · cases hc
      · refine w_skip ?_
        rw [show min len (lim - off) = len by omega]
        exact ⟨(), wka, hka, trivial⟩
  have hra := cReadAt (G := G) rb b o (min len (lim - off)) cap off T cs s hs (by omega) (by omega) (by omega) (by omega)
  refine w_seq ?_
  refine w_draw mixed ?_
  refine a_seg (k := 11) _ [(1, 0), (1, 1), (1, 2), (1, 3), (1, 4), (1, 5), (1, 6), (1, 7), (1, 8), (1, 9), (1, 10)] (by kernel_rfl) (HWk.refl _) ?_
  refine h_t rfl x_mv ?_
  refine h_t rfl x_nc ?_
  refine h_t rfl (x_fa f208_0) ?_
  refine h_t rfl (x_ld k64) ?_
  refine h_t rfl x_mv ?_
  refine h_t rfl x_mv ?_
  refine h_t rfl x_nc ?_
  refine h_t rfl (x_fa f208_2) ?_
  refine h_t rfl (x_ld k2) ?_
  refine h_t rfl (x_nci) ?_
  refine h_t rfl x_mv ?_
  refine h_end ?_
  refine a_seg (k := 12) _ [(0, 11)] (by kernel_rfl) hwk_nil ?_
  refine h_one rfl (fun Q' hQ => ?_)
  refine o_inv (m61_ReadAt _) hxa haa spla vca (hra) ?_
  rintro _ HH ⟨rfl, rfl⟩
  simp only [List.cons_append, List.nil_append, List.append_nil]
  refine o_nil (hQ _ _ (h_keep ?_))
  refine h_end ?_
  refine a_seg (k := 13) _ [(1, 12)] (by kernel_rfl) (HWk.refl _) ?_
  refine h_t rfl x_mv ?_
  refine h_end ?_
  refine a_seg (k := 16) _ [(1, 13), (1, 14), (1, 15)] (by kernel_rfl) (HWk.refl _) ?_
  refine h_t rfl x_ex ?_
  refine h_t rfl x_ex ?_
  refine h_t rfl x_as ?_
  refine h_end ?_
  refine a_seg (k := 17) _ [(1, 16)] (by kernel_rfl) (HWk.refl _) ?_
  refine h_t rfl x_as ?_
  refine h_end ?_
  refine a_done rfl ?_
  refine w_seq ?_
  refine w_region ?_
  refine o_t x_mv ?_
  refine o_t x_nc ?_
  refine o_t (x_fa f208_2) ?_
  refine o_t (x_ld k2) ?_
  refine o_t x_mv ?_
  refine o_t x_add ?_
  refine o_t x_nc ?_
  refine o_t (x_fa f208_2) ?_
  refine o_st k2 ?_
  refine o_nil ?_
  refine w_ret (r_2 rfl ⟨rfl, rfl⟩)
theorem secRdr (gl : Glob G ea) (sb rb base lim m : Nat) (s : List UInt8) (hs : s.length ≤ 2147483647) (hlim : lim ≤ s.length) : Rdr G ea 164 (.pointer (some ⟨sb, 0, none⟩)) (.pointer (some ⟨sb, 0, none⟩)) 194 (secS sb rb base lim m s) where
  call := fun vs w => m164_Read _ vs w
  nila := fun w => by kernel_rfl
  read := by
    rintro rem k b o len cap cs T' ⟨off, hoff, rfl, rfl⟩ h0 hlen hfit hne hl1
    have hlt : off < lim := by
      rcases Nat.lt_or_ge off lim with h | h
      · exact h
      · exact absurd (by rw [show lim - off = 0 by omega]; simp) hne
    refine (cSecRead gl sb rb base off lim m b o len cap T' cs s hs hfit hlim hlt h0 hlen hl1).conv (hflat (by simp)) ?_
    rintro v H' ⟨rfl, rfl⟩
    refine ⟨_, hflat (H' := [pt b (putB cs o (((s.drop off).take (lim - off)).take (min len (lim - off)))) T', secB sb rb base (off + min len (lim - off)) lim m ++ srB rb s]) ?_, min len (lim - off), _, by omega, by omega, by simp; omega, rfl, ⟨off + min len (lim - off), by omega, ?_, rfl⟩, rfl⟩
    · rw [List.take_take, show min (min len (lim - off)) (lim - off) = min len (lim - off) by omega]; simp
    · rw [List.drop_take, List.drop_drop]; congr 1; omega
  eof := by
    rintro k b o len cap cs T' ⟨off, hoff, he, rfl⟩ h0 hlen hfit hl1
    have hge : off = lim := by
      have := congrArg List.length he
      simp at this; omega
    subst hge
    refine Fn.conv (H2 := [pt b cs T', secB sb rb base off off m, srB rb s]) (Q2 := fun v H => v = .tuple #[.int .i64 0, errV ea 3] ∧ H = [pt b cs T', secB sb rb base off off m, srB rb s]) ?_ (hflat (by simp)) ?_
    · refine fn_intro (args := [_,_]) Tryz.func194 Tryz.ntmps194 rfl ?_
      refine w_seq ?_
      refine w_region ?_
      refine o_t x_as ?_
      refine o_t x_as ?_
      refine o_nil ?_
      refine w_seq ?_
      refine w_seq ?_
      refine w_quiet mixed (by kernel_rfl) ?_
      refine q_t x_mv ?_
      refine q_t x_nc ?_
      refine q_t (x_fa f208_2) ?_
      refine q_t (x_ld k2) ?_
      refine q_t x_mv ?_
      refine q_t x_nc ?_
      refine q_t (x_fa f208_3) ?_
      refine q_t (x_ld k2) ?_
      refine q_t x_cmp ?_
      refine q_nil ?_
      refine w_cond (t := true) (fun g => rfl) (fun hc => ?_) (fun hc => ?_) -- ('Go.Operand.tmp', 15)
      · refine w_seq ?_
        refine w_quiet mixed (by kernel_rfl) ?_
        refine q_t (x_err 3 gl) ?_
        refine q_t x_as ?_
        refine q_t x_as ?_
        refine q_nil ?_
        refine w_ret (r_2 rfl ⟨rfl, rfl⟩)
      · cases hc
    · rintro v H' ⟨rfl, rfl⟩
      exact ⟨[pt b cs T', secB sb rb base off off m ++ srB rb s], hflat (by simp), _, rfl, ⟨off, by omega, by simp, rfl⟩, rfl⟩
end Go.Proofs.YtlmefkhglooepaaGreatDoor
namespace Go.Proofs.YtlmefkhglooepaaGreatDoor
open Go
set_option linter.unusedSimpArgs false
set_option linter.unusedVariables false
variable {G : Nat → Option Obj} {ea : Nat → Addr}
abbrev brB (br bb : Nat) (T0 : TypeId) (u0 : Value) (r w : Nat) (err : Value) (lb lr : Int) : Res :=
  pt br [.slice (some ⟨bb, 0, none⟩) 4096 4096, .iface T0 u0, .int .i64 r, .int .i64 w, err, .int .i64 lb, .int .i64 lr] 256
theorem cReadErr (br bb : Nat) (T0 : TypeId) (u0 : Value) (r w : Nat) (err : Value) (lb lr : Int) (h1 : err.oneCell' = true) : Fn P G 204 #[.pointer (some ⟨br, 0, none⟩)] [brB br bb T0 u0 r w err lb lr] fun v H => v = err ∧ H = [brB br bb T0 u0 r w .nilIface lb lr] := by
  refine fn_intro (args := [_]) Tryz.func204 Tryz.ntmps204 rfl ?_
  refine w_seq ?_
  refine w_region ?_
  refine o_t x_as ?_
  refine o_nil ?_
  refine w_seq ?_
  refine w_region ?_
  refine o_t x_mv ?_
  refine o_t x_nc ?_
  refine o_t (x_fa f256_4) ?_
  refine o_t (x_ld k58) ?_
  refine o_t x_as ?_
  refine o_nil ?_
  refine w_seq ?_
  refine w_region ?_
  refine o_t x_mv ?_
  refine o_t x_nc ?_
  refine o_t (x_fa f256_4) ?_
  refine o_st k58 ?_
  refine o_nil ?_
  refine w_seq ?_
  refine w_region ?_
  refine o_t x_mv ?_
  refine o_t x_as ?_
  refine o_nil ?_
  refine w_ret (r_1 rfl ⟨rfl, rfl⟩)
def bufS (br bb : Nat) (T0 : TypeId) (u0 : Value) (S0 : List UInt8 → Res → Prop) (rem : List UInt8) (k : Res) : Prop :=
  ∃ r w bc lb lr pend rem0 k0, r ≤ w ∧ w ≤ 4096 ∧ bc.length = 4096 ∧ (bc.drop r).take (w - r) = pend.map u8 ∧ pend.length = w - r ∧ rem = pend ++ rem0 ∧ S0 rem0 k0 ∧ k = brB br bb T0 u0 r w .nilIface lb lr ++ (pt bb bc 5 ++ k0)
theorem rd_mid {b T : Nat} {bc : List Value} {r n : Nat} {l : List UInt8} (h : (bc.drop r).take n = l.map u8) : Rd G [pt b bc T] b r (l.map u8) := by
  refine Rd.pt r _ fun i v hi => ?_
  rw [← h, List.getElem?_take] at hi
  split at hi
  · rw [List.getElem?_drop] at hi; exact hi
  · cases hi
theorem cBufRead (gl : Glob G ea) (br bb : Nat) (T0 : TypeId) (u0 r0 : Value) (f0 : FuncId) (S0 : List UInt8 → Res → Prop) (R : Rdr G ea T0 u0 r0 f0 S0) (hcf : ∀ (a : Array Value) w, (callFunc f0 a).run P w = .ok (.enter f0 a) w)
    (r w : Nat) (bc : List Value) (lb lr : Int) (pend rem0 : List UInt8) (k0 : Res) (hrw : r ≤ w) (hw : w ≤ 4096) (hbc : bc.length = 4096) (hpend : (bc.drop r).take (w - r) = pend.map u8) (hpl : pend.length = w - r) (hS : S0 rem0 k0)
    (b o len cap T : Nat) (cs : List Value) (h0 : 0 < len) (hlen : len ≤ cap) (hfit : o + len ≤ cs.length) (hl1 : len ≤ 2147483647) :
    Fn P G 201 #[.pointer (some ⟨br, 0, none⟩), .slice (some ⟨b, o, none⟩) len cap] [pt b cs T, brB br bb T0 u0 r w .nilIface lb lr, pt bb bc 5, k0] fun v H =>
      (pend ++ rem0 ≠ [] ∧ ∃ n k', 0 < n ∧ n ≤ len ∧ n ≤ (pend ++ rem0).length ∧ v = .tuple #[.int .i64 n, .nilIface] ∧ bufS br bb T0 u0 S0 ((pend ++ rem0).drop n) k' ∧ H = [pt b (putB cs o ((pend ++ rem0).take n)) T, k']) ∨
      (pend ++ rem0 = [] ∧ ∃ k', v = .tuple #[.int .i64 0, errV ea 3] ∧ bufS br bb T0 u0 S0 [] k' ∧ H = [pt b cs T, k']) := by
  refine fn_intro (args := [_,_]) Tryz.func201 Tryz.ntmps201 rfl ?_
  refine w_seq ?_
  refine w_region ?_
  refine o_t x_as ?_
  refine o_t x_as ?_
  refine o_nil ?_
  refine w_seq ?_
  refine w_region ?_
  refine o_t x_mv ?_
  refine o_t (x_lenb Tryz.underlying78) ?_
  refine o_t x_as ?_
  refine o_nil ?_
  refine w_seq ?_
  refine w_seq ?_
  refine w_region ?_
  refine o_t x_mv ?_
  refine o_t x_cmp ?_
  refine o_nil ?_
  refine w_cond (t := false) (fun g => rfl) (fun hc => ?_) (fun hc => ?_) -- ('Go.Operand.tmp', 9)
  · cases hc
  refine w_skip ?_
  refine w_cut (α := Nat × Nat × List Value × List UInt8 × List UInt8 × Res) (fun _ => [(0, .pointer (some ⟨br, 0, none⟩)), (1, .slice (some ⟨b, o, none⟩) len cap)]) (fun x => [pt b cs T, brB br bb T0 u0 x.1 x.2.1 .nilIface lb lr, pt bb x.2.2.1 5, x.2.2.2.2.2])
    (fun x => x.1 < x.2.1 ∧ x.2.1 ≤ 4096 ∧ x.2.2.1.length = 4096 ∧ (x.2.2.1.drop x.1).take (x.2.1 - x.1) = x.2.2.2.1.map u8 ∧ x.2.2.2.1.length = x.2.1 - x.1 ∧ S0 x.2.2.2.2.1 x.2.2.2.2.2 ∧ x.2.2.2.1 ++ x.2.2.2.2.1 = pend ++ rem0) ?_ ?_
  · by_cases hrw' : r = w
    · subst hrw'
      obtain rfl : pend = [] := List.eq_nil_of_length_eq_zero (by omega)
      refine w_seq ?_
      refine w_quiet mixed (by kernel_rfl) ?_
      refine q_t x_mv ?_
      refine q_t x_nc ?_
      refine q_t (x_fa f256_2) ?_
      refine q_t (x_ld k3) ?_
      refine q_t x_mv ?_
      refine q_t x_nc ?_
      refine q_t (x_fa f256_3) ?_
      refine q_t (x_ld k3) ?_
      refine q_t x_cmp ?_
      refine q_nil ?_
      refine w_cond (t := true) (fun g => rfl) (fun hc => ?_) (fun hc => ?_) -- ('Go.Operand.tmp', 23)
      · refine w_seq ?_
        refine w_seq ?_
        refine w_region ?_
        refine o_t x_mv ?_
        refine o_t x_nc ?_
        refine o_t (x_fa f256_4) ?_
        refine o_t (x_ld k58) ?_
        first | refine o_t (x_inil Tryz.underlying58) ?_ | refine o_t (x_isome Tryz.underlying58) ?_
        refine o_nil ?_
        refine w_cond (t := false) (fun g => rfl) (fun hc => ?_) (fun hc => ?_) -- ('Go.Operand.tmp', 28)
        · cases hc
        refine w_skip ?_
        refine w_seq ?_
        refine w_seq ?_
        refine w_region ?_
        refine o_t x_mv ?_
        refine o_t (x_lenb Tryz.underlying78) ?_
        refine o_t x_mv ?_
        refine o_t x_nc ?_
        refine o_t (x_fa f256_0) ?_
        refine o_t (x_ld k78) ?_
        refine o_t (x_lenb Tryz.underlying78) ?_
        refine o_t x_cmp ?_
        refine o_nil ?_
        refine w_cond (fun g => rfl) (fun hc => ?_) (fun hc => ?_) -- ('Go.Operand.tmp', 38)
        · --
          by_cases hne : rem0 = []
          · subst hne
            refine w_seq ?_
            refine w_region ?_
            refine o_t x_mv ?_
            refine o_t x_mv ?_
            refine o_t x_nc ?_
            refine o_t (x_fa f256_1) ?_
            refine o_t (x_ld k170) ?_
            refine o_t x_mv ?_
            refine o_inv R.call hxa haa spla vca ((R.eof k0 b o len cap cs T hS h0 hlen hfit hl1)) ?_
            rintro _ HH ⟨k', rfl, hS', rfl⟩
            simp only [List.cons_append, List.nil_append, List.append_nil]
            refine o_t x_mv ?_
            refine o_t x_ex ?_
            refine o_t x_ex ?_
            refine o_t x_as ?_
            refine o_t x_nc ?_
            refine o_t (x_fa f256_4) ?_
            refine o_st k58 ?_
            refine o_nil ?_
            refine w_seq ?_
            refine w_seq ?_
            refine w_region ?_
            refine o_t x_mv ?_
            refine o_t x_cmp ?_
            refine o_nil ?_
            refine w_cond (t := false) (fun g => rfl) (fun hc => ?_) (fun hc => ?_) -- ('Go.Operand.tmp', 52)
            · cases hc
            refine w_skip ?_
            refine w_seq ?_
            refine w_seq ?_
            refine w_region ?_
            refine o_t x_mv ?_
            refine o_t x_cmp ?_
            refine o_nil ?_
            refine w_cond (t := false) (fun g => rfl) (fun hc => ?_) (fun hc => ?_) -- ('Go.Operand.tmp', 55)
            · cases hc
            refine w_skip ?_
            refine w_seq ?_
            refine w_region ?_
            refine o_t x_mv ?_
            refine o_t x_mv ?_
            refine o_call Tryz.call204 haa spla (cReadErr br bb T0 u0 r r (errV ea 3) lb lr rfl) ?_
            rintro _ _ HH ⟨rfl, rfl⟩ hHH
            simp only [List.cons_append, List.nil_append, List.append_nil] at hHH; subst hHH
            refine o_t x_as ?_
            refine o_t x_as ?_
            refine o_nil ?_
            refine w_ret (r_2 rfl (.inr ⟨by simp, brB br bb T0 u0 r r .nilIface lb lr ++ (pt bb bc 5 ++ k'), rfl, ⟨r, r, bc, lb, lr, [], [], k', by omega, by omega, hbc, by simp, by simp, rfl, hS', rfl⟩, rfl⟩) (hH := HWk.trans (B := [pt b cs T, brB br bb T0 u0 r r .nilIface lb lr, pt bb bc 5, k']) hka (hflat (by simp))))
          · refine w_seq ?_
            refine w_region ?_
            refine o_t x_mv ?_
            refine o_t x_mv ?_
            refine o_t x_nc ?_
            refine o_t (x_fa f256_1) ?_
            refine o_t (x_ld k170) ?_
            refine o_t x_mv ?_
            refine o_inv R.call hxa haa spla vca ((R.read rem0 k0 b o len cap cs T hS h0 hlen hfit hne hl1)) ?_
            rintro _ HH ⟨n, k', hn0, hn1, hn2, rfl, hS', rfl⟩
            simp only [List.cons_append, List.nil_append, List.append_nil]
            refine o_t x_mv ?_
            refine o_t x_ex ?_
            refine o_t x_ex ?_
            refine o_t x_as ?_
            refine o_t x_nc ?_
            refine o_t (x_fa f256_4) ?_
            refine o_st k58 ?_
            refine o_nil ?_
            refine w_seq ?_
            refine w_seq ?_
            refine w_region ?_
            refine o_t x_mv ?_
            refine o_t x_cmp ?_
            refine o_nil ?_
            refine w_cond (t := false) (fun g => rfl) (fun hc => ?_) (fun hc => ?_) -- ('Go.Operand.tmp', 52)
            · cases hc
            refine w_skip ?_
            refine w_seq ?_
            refine w_seq ?_
            refine w_region ?_
            refine o_t x_mv ?_
            refine o_t x_cmp ?_
            refine o_nil ?_
            refine w_cond (t := true) (fun g => rfl) (fun hc => ?_) (fun hc => ?_) -- ('Go.Operand.tmp', 55)
            · have hpl' : ((rem0.take n).map u8).length = n := by simp; omega
              have hcell : ∃ c : UInt8, (putB cs o (rem0.take n))[o + (n - 1)]? = some (.int .u8 c.toNat) := by
                have hg := List.getElem?_eq_getElem (l := rem0) (i := n - 1) (by omega)
                refine ⟨rem0[n - 1]'(by omega), ?_⟩
                rw [putB, List.append_assoc, List.getElem?_append_right (by simp; omega), List.getElem?_append_left (by simp; omega)]
                have e : o + (n - 1) - (cs.take o).length = n - 1 := by simp; omega
                rw [e]
                simp [List.getElem?_take, hg, u8]
                omega
              obtain ⟨cb, hcb⟩ := hcell
              have hcb8 := cb.toNat_lt
              refine w_seq ?_
              refine w_region ?_
              refine o_t x_mv ?_
              refine o_t x_mv ?_
              refine o_t x_mv ?_
              refine o_t x_sub ?_
              refine o_t (x_ia (m := o + (n - 1)) Tryz.underlying78 e78 (hm := by omega)) ?_
              refine o_t (x_ldR k5 (Rd.all.pull (.tail .head)) hcb (hx := fun g => by rw [Nat.zero_add]; rfl)) ?_
              refine o_t (x_cv ⟨_, Tryz.underlying5⟩ Tryz.underlying3) ?_
              refine o_t x_nc ?_
              refine o_t (x_fa f256_5) ?_
              refine o_st k3 ?_
              refine o_nil ?_
              refine w_region ?_
              refine o_t x_mv ?_
              refine o_t x_nc ?_
              refine o_t (x_fa f256_6) ?_
              refine o_st k3 ?_
              refine o_nil ?_
              refine w_seq ?_
              refine w_region ?_
              refine o_t x_mv ?_
              refine o_t x_mv ?_
              refine o_call Tryz.call204 haa spla (cReadErr br bb T0 u0 r r .nilIface cb.toNat (-1) rfl) ?_
              rintro _ _ HH ⟨rfl, rfl⟩ hHH
              simp only [List.cons_append, List.nil_append, List.append_nil] at hHH; subst hHH
              refine o_t x_as ?_
              refine o_t x_as ?_
              refine o_nil ?_
              refine w_ret (r_2 rfl (.inl ⟨by simpa using hne, n, brB br bb T0 u0 r r .nilIface cb.toNat (-1) ++ (pt bb bc 5 ++ k'), hn0, hn1, by simpa using hn2, rfl, ⟨r, r, bc, cb.toNat, -1, [], rem0.drop n, k', by omega, by omega, hbc, by simp, by simp, by simp, hS', rfl⟩, rfl⟩) (hH := HWk.trans (B := [pt b (putB cs o (rem0.take n)) T, brB br bb T0 u0 r r .nilIface cb.toNat (-1), pt bb bc 5, k']) hka (hflat (by simp))))
            · cases hc
        · --
          have hc4 := of_decide_eq_false hc
          refine w_skip ?_
          by_cases hne : rem0 = []
          · subst hne
            refine w_seq ?_
            refine w_region ?_
            refine o_t x_mv ?_
            refine o_t x_nc ?_
            refine o_t (x_fa f256_2) ?_
            refine o_st k3 ?_
            refine o_nil ?_
            refine w_seq ?_
            refine w_region ?_
            refine o_t x_mv ?_
            refine o_t x_nc ?_
            refine o_t (x_fa f256_3) ?_
            refine o_st k3 ?_
            refine o_nil ?_
            refine w_seq ?_
            refine w_draw mixed ?_
            refine a_seg (k := 16) _ [(1, 0), (1, 1), (1, 2), (1, 3), (1, 4), (1, 5), (1, 6), (1, 7), (1, 8), (1, 9), (1, 10), (0, 11), (1, 12), (1, 13), (1, 14), (1, 15)] (by kernel_rfl) (hwk (.cons .head .nil)) ?_
            refine h_t rfl x_mv ?_
            refine h_t rfl x_mv ?_
            refine h_t rfl x_nc ?_
            refine h_t rfl (x_fa f256_1) ?_
            refine h_t rfl (x_ld k170) ?_
            refine h_t rfl x_mv ?_
            refine h_t rfl x_nc ?_
            refine h_t rfl (x_fa f256_0) ?_
            refine h_t rfl (x_ld k78) ?_
            refine h_t rfl (x_nci) ?_
            refine h_t rfl x_mv ?_
            refine h_one rfl (fun Q' hQ => ?_)
            refine o_inv R.call hxa haa spla vca ((R.eof k0 bb 0 4096 4096 bc 5 hS (by decide) (by decide) (by omega) (by decide))) ?_
            rintro _ HH ⟨k', rfl, hS', rfl⟩
            simp only [List.cons_append, List.nil_append, List.append_nil]
            refine o_nil (hQ _ _ (h_keep ?_))
            refine h_t rfl x_mv ?_
            refine h_t rfl x_ex ?_
            refine h_t rfl x_ex ?_
            refine h_t rfl x_as ?_
            refine h_end ?_
            refine a_seg (k := 17) _ [(1, 16)] (by kernel_rfl) (HWk.refl _) ?_
            refine h_t rfl x_nc ?_
            refine h_end ?_
            refine a_seg (k := 18) _ [(1, 17)] (by kernel_rfl) (HWk.refl _) ?_
            refine h_t rfl (x_fa f256_4) ?_
            refine h_end ?_
            refine a_seg (k := 19) _ [(0, 18)] (by kernel_rfl) hwk_nil ?_
            refine h_one rfl (fun Q' hQ => ?_)
            refine o_st k58 ?_
            refine o_nil (hQ _ _ (h_keep ?_))
            refine h_end ?_
            refine a_done rfl ?_
            refine w_seq ?_
            refine w_seq ?_
            refine w_region ?_
            refine o_t x_mv ?_
            refine o_t x_cmp ?_
            refine o_nil ?_
            refine w_cond (t := false) (fun g => rfl) (fun hc => ?_) (fun hc => ?_) -- ('Go.Operand.tmp', 95)
            · cases hc
            refine w_skip ?_
            refine w_seq ?_
            refine w_seq ?_
            refine w_region ?_
            refine o_t x_mv ?_
            refine o_t x_cmp ?_
            refine o_nil ?_
            refine w_cond (t := true) (fun g => rfl) (fun hc => ?_) (fun hc => ?_) -- ('Go.Operand.tmp', 98)
            · refine w_seq ?_
              refine w_region ?_
              refine o_t x_mv ?_
              refine o_call Tryz.call204 haa spla (cReadErr br bb T0 u0 0 0 (errV ea 3) lb lr rfl) ?_
              rintro _ _ HH ⟨rfl, rfl⟩ hHH
              simp only [List.cons_append, List.nil_append, List.append_nil] at hHH; subst hHH
              refine o_t x_as ?_
              refine o_t x_as ?_
              refine o_nil ?_
              refine w_ret (r_2 rfl (.inr ⟨by simp, brB br bb T0 u0 0 0 .nilIface lb lr ++ (pt bb bc 5 ++ k'), rfl, ⟨0, 0, bc, lb, lr, [], [], k', by omega, by omega, hbc, by simp, by simp, rfl, hS', rfl⟩, rfl⟩) (hH := HWk.trans (B := [pt b cs T, brB br bb T0 u0 0 0 .nilIface lb lr, pt bb bc 5, k']) hka (hflat (by simp))))
            · cases hc
          · refine w_seq ?_
            refine w_region ?_
            refine o_t x_mv ?_
            refine o_t x_nc ?_
            refine o_t (x_fa f256_2) ?_
            refine o_st k3 ?_
            refine o_nil ?_
            refine w_seq ?_
            refine w_region ?_
            refine o_t x_mv ?_
            refine o_t x_nc ?_
            refine o_t (x_fa f256_3) ?_
            refine o_st k3 ?_
            refine o_nil ?_
            refine w_seq ?_
            refine w_draw mixed ?_
            refine a_seg (k := 16) _ [(1, 0), (1, 1), (1, 2), (1, 3), (1, 4), (1, 5), (1, 6), (1, 7), (1, 8), (1, 9), (1, 10), (0, 11), (1, 12), (1, 13), (1, 14), (1, 15)] (by kernel_rfl) (hwk (.cons .head .nil)) ?_
            refine h_t rfl x_mv ?_
            refine h_t rfl x_mv ?_
            refine h_t rfl x_nc ?_
            refine h_t rfl (x_fa f256_1) ?_
            refine h_t rfl (x_ld k170) ?_
            refine h_t rfl x_mv ?_
            refine h_t rfl x_nc ?_
            refine h_t rfl (x_fa f256_0) ?_
            refine h_t rfl (x_ld k78) ?_
            refine h_t rfl (x_nci) ?_
            refine h_t rfl x_mv ?_
            refine h_one rfl (fun Q' hQ => ?_)
            refine o_inv R.call hxa haa spla vca ((R.read rem0 k0 bb 0 4096 4096 bc 5 hS (by decide) (by decide) (by omega) hne (by decide))) ?_
            rintro _ HH ⟨n, k', hn0, hn1, hn2, rfl, hS', rfl⟩
            simp only [List.cons_append, List.nil_append, List.append_nil]
            refine o_nil (hQ _ _ (h_keep ?_))
            refine h_t rfl x_mv ?_
            refine h_t rfl x_ex ?_
            refine h_t rfl x_ex ?_
            refine h_t rfl x_as ?_
            refine h_end ?_
            refine a_seg (k := 17) _ [(1, 16)] (by kernel_rfl) (HWk.refl _) ?_
            refine h_t rfl x_nc ?_
            refine h_end ?_
            refine a_seg (k := 18) _ [(1, 17)] (by kernel_rfl) (HWk.refl _) ?_
            refine h_t rfl (x_fa f256_4) ?_
            refine h_end ?_
            refine a_seg (k := 19) _ [(0, 18)] (by kernel_rfl) hwk_nil ?_
            refine h_one rfl (fun Q' hQ => ?_)
            refine o_st k58 ?_
            refine o_nil (hQ _ _ (h_keep ?_))
            refine h_end ?_
            refine a_done rfl ?_
            refine w_seq ?_
            refine w_seq ?_
            refine w_region ?_
            refine o_t x_mv ?_
            refine o_t x_cmp ?_
            refine o_nil ?_
            refine w_cond (t := false) (fun g => rfl) (fun hc => ?_) (fun hc => ?_) -- ('Go.Operand.tmp', 95)
            · cases hc
            refine w_skip ?_
            refine w_seq ?_
            refine w_seq ?_
            refine w_region ?_
            refine o_t x_mv ?_
            refine o_t x_cmp ?_
            refine o_nil ?_
            refine w_cond (t := false) (fun g => rfl) (fun hc => ?_) (fun hc => ?_) -- ('Go.Operand.tmp', 98)
            · cases hc
            refine w_skip ?_
            refine w_region ?_
            refine o_t x_mv ?_
            refine o_t x_nc ?_
            refine o_t (x_fa f256_3) ?_
            refine o_t (x_ld k3) ?_
            refine o_t x_mv ?_
            refine o_t x_add ?_
            refine o_t x_nc ?_
            refine o_t (x_fa f256_3) ?_
            refine o_st k3 ?_
            refine o_nil ?_
            have hpl2 : (rem0.take n).length = n := by simp; omega
            refine ⟨(0, n, putB bc 0 (rem0.take n), rem0.take n, rem0.drop n, k'), wka, ?_, by dsimp only; omega, by dsimp only; omega, ?_, ?_, by dsimp only; omega, hS', ?_⟩
            · dsimp only
              rw [show ((0 : Int) + (n : Int)) = ((n : Nat) : Int) by omega]
              exact hka
            · dsimp only
              rw [putB_length (by omega)]; exact hbc
            · dsimp only
              simp only [putB, List.take_zero, List.nil_append, List.drop_zero, Nat.sub_zero]
              exact List.take_left' (by rw [List.length_map]; exact hpl2)
            · dsimp only
              simp
      · cases hc
    · refine w_seq ?_
      refine w_quiet mixed (by kernel_rfl) ?_
      refine q_t x_mv ?_
      refine q_t x_nc ?_
      refine q_t (x_fa f256_2) ?_
      refine q_t (x_ld k3) ?_
      refine q_t x_mv ?_
      refine q_t x_nc ?_
      refine q_t (x_fa f256_3) ?_
      refine q_t (x_ld k3) ?_
      refine q_t x_cmp ?_
      refine q_nil ?_
      refine w_cond (t := false) (fun g => rfl) (fun hc => ?_) (fun hc => ?_) -- ('Go.Operand.tmp', 23)
      · cases hc
      refine w_skip ?_
      exact ⟨(r, w, bc, pend, rem0, k0), wka, hka, by dsimp only; omega, hw, hbc, hpend, hpl, hS, rfl⟩
  rintro ⟨r, w, bc, pend', rem', k'⟩ ⟨hrw, hw, hbc, hpend, hpl, hS, hpr⟩
  dsimp only at hrw hw hbc hpend hpl hS hpr ⊢
  obtain ⟨n, hn⟩ : ∃ n, min (w - r) len = n := ⟨_, rfl⟩
  have hn0 : 0 < n := by omega
  have hnl : n ≤ len := by omega
  have hnw : n ≤ w - r := by omega
  have hnew : ((pend'.take n).map u8).length = n := by simp; omega
  have hg := List.getElem?_eq_getElem (l := pend') (i := n - 1) (by omega)
  generalize pend'[n - 1]'(by omega) = cb at hg
  have hcb8 := cb.toNat_lt
  have hcell : (pend'.map u8)[n - 1]? = some (.int .u8 cb.toNat) := by simp [hg, u8]
  refine w_seq ?_
  refine w_draw mixed ?_
  refine a_seg (k := 14) _ [(1, 0), (1, 1), (1, 2), (1, 3), (1, 4), (1, 5), (1, 6), (1, 7), (1, 8), (1, 9), (1, 10), (1, 11), (1, 12), (1, 13)] (by kernel_rfl) (HWk.refl _) ?_
  refine h_t rfl x_mv ?_
  refine h_t rfl x_mv ?_
  refine h_t rfl x_nc ?_
  refine h_t rfl (x_fa f256_0) ?_
  refine h_t rfl (x_ld k78) ?_
  refine h_t rfl x_mv ?_
  refine h_t rfl x_nc ?_
  refine h_t rfl (x_fa f256_2) ?_
  refine h_t rfl (x_ld k3) ?_
  refine h_t rfl x_mv ?_
  refine h_t rfl x_nc ?_
  refine h_t rfl (x_fa f256_3) ?_
  refine h_t rfl (x_ld k3) ?_
  refine h_t rfl (x_sl (lo := r) (hi := w) (v := .slice (some ⟨bb, r, none⟩) (w - r) (4096 - r)) Tryz.underlying78 e78 (hv := by simp [slV]; omega)) ?_
  refine h_end ?_
  refine a_seg (k := 15) _ [(0, 14)] (by kernel_rfl) hwk_nil ?_
  refine h_one rfl (fun Q' hQ => ?_)
  refine o_copy (news := (pend'.take n).map u8) hxa hxa Tryz.underlying78 k5 (pulla) ((List.map_take ▸ (rd_mid (T := 5) hpend).take n).pull (.tail (.tail .head))) (by rw [hnew]; exact hn.symm) (by omega) u8_one ?_
  refine o_nil (hQ _ _ (h_keep ?_))
  refine h_end ?_
  refine a_seg (k := 16) _ [(1, 15)] (by kernel_rfl) (HWk.refl _) ?_
  refine h_t rfl x_as ?_
  refine h_end ?_
  refine a_done rfl ?_
  rw [hnew]
  have hput : cs.take o ++ (pend'.take n).map u8 ++ cs.drop (o + n) = putB cs o (pend'.take n) := by rw [putB, show (pend'.take n).length = n by simp; omega]
  rw [hput]
  refine w_seq ?_
  refine w_region ?_
  refine o_t x_mv ?_
  refine o_t x_nc ?_
  refine o_t (x_fa f256_2) ?_
  refine o_t (x_ld k3) ?_
  refine o_t x_mv ?_
  refine o_t x_add ?_
  refine o_t x_nc ?_
  refine o_t (x_fa f256_2) ?_
  refine o_st k3 ?_
  refine o_nil ?_
  refine w_seq ?_
  refine w_draw mixed ?_
  refine a_seg (k := 13) _ [(1, 0), (1, 1), (1, 2), (1, 3), (1, 4), (1, 5), (1, 6), (1, 7), (1, 8), (1, 9), (1, 10), (1, 11), (1, 12)] (by kernel_rfl) (HWk.refl _) ?_
  refine h_t rfl x_mv ?_
  refine h_t rfl x_mv ?_
  refine h_t rfl x_nc ?_
  refine h_t rfl (x_fa f256_0) ?_
  refine h_t rfl (x_ld k78) ?_
  refine h_t rfl x_mv ?_
  refine h_t rfl x_nc ?_
  refine h_t rfl (x_fa f256_2) ?_
  refine h_t rfl (x_ld k3) ?_
  refine h_t rfl x_sub ?_
  refine h_t rfl (x_ia (m := r + (n - 1)) Tryz.underlying78 e78 (hm := by omega)) ?_
  refine h_t rfl (x_ldR k5 ((rd_mid (T := 5) hpend).pull (pulla)) hcell) ?_
  refine h_t rfl (x_cv ⟨_, Tryz.underlying5⟩ Tryz.underlying3) ?_
  refine h_end ?_
  refine a_seg (k := 14) _ [(1, 13)] (by kernel_rfl) (HWk.refl _) ?_
  refine h_t rfl x_nc ?_
  refine h_end ?_
  refine a_seg (k := 15) _ [(1, 14)] (by kernel_rfl) (HWk.refl _) ?_
  refine h_t rfl (x_fa f256_5) ?_
  refine h_end ?_
  refine a_seg (k := 16) _ [(0, 15)] (by kernel_rfl) hwk_nil ?_
  refine h_one rfl (fun Q' hQ => ?_)
  refine o_st k3 ?_
  refine o_nil (hQ _ _ (h_keep ?_))
  refine h_end ?_
  refine a_done rfl ?_
  refine w_seq ?_
  refine w_region ?_
  refine o_t x_mv ?_
  refine o_t x_nc ?_
  refine o_t (x_fa f256_6) ?_
  refine o_st k3 ?_
  refine o_nil ?_
  refine w_seq ?_
  refine w_region ?_
  refine o_t x_mv ?_
  refine o_t x_as ?_
  refine o_t x_as ?_
  refine o_nil ?_
  rw [← hpr]
  refine w_ret (r_2 rfl (.inl ⟨by intro h; have h2 := (List.append_eq_nil_iff.1 h).1; rw [h2] at hpl; simp at hpl; omega, n, brB br bb T0 u0 (r + n) w .nilIface cb.toNat (-1) ++ (pt bb bc 5 ++ k'), hn0, hnl, by simp; omega, rfl, ⟨r + n, w, bc, cb.toNat, -1, pend'.drop n, rem', k', by omega, by omega, hbc, ?_, by simp; omega, ?_, hS, rfl⟩, rfl⟩) (hH := ?_))
  · rw [← List.drop_drop, List.map_drop, ← hpend, List.drop_take]; congr 1; omega
  · rw [List.drop_append_of_le_length (by omega)]
  · rw [List.take_append_of_le_length (by omega)]
    exact HWk.trans (B := [pt b (putB cs o (pend'.take n)) T, brB br bb T0 u0 (r + n) w .nilIface cb.toNat (-1), pt bb bc 5, k']) hka (hflat (by simp))
end Go.Proofs.YtlmefkhglooepaaGreatDoor
namespace Go.Proofs.YtlmefkhglooepaaGreatDoor
open Go
set_option linter.unusedSimpArgs false
set_option linter.unusedVariables false
variable {G : Nat → Option Obj} {ea : Nat → Addr}
theorem bufRdr (gl : Glob G ea) (br bb : Nat) (T0 : TypeId) (u0 r0 : Value) (f0 : FuncId) (S0 : List UInt8 → Res → Prop) (R : Rdr G ea T0 u0 r0 f0 S0) (hcf : ∀ (a : Array Value) w, (callFunc f0 a).run P w = .ok (.enter f0 a) w) :
    Rdr G ea 183 (.pointer (some ⟨br, 0, none⟩)) (.pointer (some ⟨br, 0, none⟩)) 201 (bufS br bb T0 u0 S0) where
  call := fun vs w => m183_Read _ vs w
  nila := fun w => by kernel_rfl
  read := by
    rintro rem k b o len cap cs T' ⟨r, w, bc, lb, lr, pend, rem0, k0, hrw, hw, hbc, hpend, hpl, rfl, hS, rfl⟩ h0 hlen hfit hne hl1
    refine (cBufRead gl br bb T0 u0 r0 f0 S0 R hcf r w bc lb lr pend rem0 k0 hrw hw hbc hpend hpl hS b o len cap T' cs h0 hlen hfit hl1).conv (hflat (by simp)) ?_
    rintro v H' (⟨_, n, k', h1, h2, h3, rfl, h4, rfl⟩ | ⟨h1, _⟩)
    · exact ⟨_, HWk.refl _, n, k', h1, h2, h3, rfl, h4, rfl⟩
    · exact absurd h1 hne
  eof := by
    rintro k b o len cap cs T' ⟨r, w, bc, lb, lr, pend, rem0, k0, hrw, hw, hbc, hpend, hpl, he, hS, rfl⟩ h0 hlen hfit hl1
    refine (cBufRead gl br bb T0 u0 r0 f0 S0 R hcf r w bc lb lr pend rem0 k0 hrw hw hbc hpend hpl hS b o len cap T' cs h0 hlen hfit hl1).conv (hflat (by simp)) ?_
    rintro v H' (⟨h1, _⟩ | ⟨_, k', rfl, h4, rfl⟩)
    · exact absurd he.symm h1
    · exact ⟨_, HWk.refl _, k', rfl, h4, rfl⟩
theorem putB_putB {cs : List Value} {o : Nat} {l m : List UInt8} (h : o + l.length + m.length ≤ cs.length) : putB (putB cs o l) (o + l.length) m = putB cs o (l ++ m) := by
  have h1 : (cs.take o).length = o := by simp; omega
  have h2 : (cs.take o ++ l.map u8).length = o + l.length := by simp; omega
  simp only [putB]
  rw [List.take_left' (by simpa using h2), List.map_append, List.length_append]
  have h3 : (cs.take o ++ l.map u8 ++ cs.drop (o + l.length)).drop (o + l.length + m.length) = cs.drop (o + (l.length + m.length)) := by
    rw [show o + l.length + m.length = (cs.take o ++ l.map u8).length + m.length by rw [h2], List.drop_append, List.drop_eq_nil_of_le (by omega)]
    simp [List.drop_drop, Nat.add_assoc]
    try omega
  rw [h3]; simp
theorem putB_nil (cs : List Value) (o : Nat) : putB cs o [] = cs := by simp [putB]
/-- ReadFull: what comes of it. -/
theorem cReadFull (gl : Glob G ea) (T0 : TypeId) (u0 r0 : Value) (f0 : FuncId) (S : List UInt8 → Res → Prop) (R : Rdr G ea T0 u0 r0 f0 S) (rem : List UInt8) (k : Res) (hS : S rem k)
    (b o len cap T : Nat) (cs : List Value) (hlen : len ≤ cap) (hcap : cap ≤ 2147483647) (hfit : o + len ≤ cs.length) :
    Fn P G 132 #[.iface T0 u0, .slice (some ⟨b, o, none⟩) len cap, .int .i64 len] [pt b cs T, k] fun v H => ∃ k', S (rem.drop len) k' ∧ H = [pt b (putB cs o (rem.take len)) T, k'] ∧
      v = .tuple #[.int .i64 ((min len rem.length : Nat) : Int), if len ≤ rem.length then .nilIface else if rem = [] then errV ea 3 else errV ea 5] := by
  refine fn_intro (args := [_,_,_]) Tryz.func132 Tryz.ntmps132 rfl ?_
  refine w_seq ?_
  refine w_region ?_
  refine o_t x_as ?_
  refine o_t x_as ?_
  refine o_nil ?_
  refine w_seq ?_
  refine w_seq ?_
  refine w_region ?_
  refine o_t x_mv ?_
  refine o_t (x_lenb Tryz.underlying78) ?_
  refine o_t x_mv ?_
  refine o_t x_cmp ?_
  refine o_nil ?_
  refine w_cond (t := false) (fun g => rfl) (fun hc => ?_) (fun hc => ?_) -- ('Go.Operand.tmp', 12)
  · cases hc
  refine w_skip ?_
  refine w_cut (α := Nat × Bool × Res) (fun x => [(2, .int .i64 len), (6, .int .i64 x.1), (7, bif x.2.1 then errV ea 3 else .nilIface)]) (fun x => [pt b (putB cs o (rem.take x.1)) T, x.2.2])
    (fun x => x.1 ≤ len ∧ x.1 ≤ rem.length ∧ S (rem.drop x.1) x.2.2 ∧ ((x.2.1 = false ∧ x.1 = len) ∨ (x.2.1 = true ∧ x.1 = rem.length ∧ x.1 < len))) ?_ ?_
  · refine w_block ?_ -- 0
    refine w_loop (α := Nat × Bool × Res) (fun x => [(0, .iface T0 u0), (1, .slice (some ⟨b, o, none⟩) len cap), (2, .int .i64 len), (6, .int .i64 x.1), (7, bif x.2.1 then errV ea 3 else .nilIface)]) (fun x => [pt b (putB cs o (rem.take x.1)) T, x.2.2])
      (fun x => x.1 ≤ len ∧ x.1 ≤ rem.length ∧ S (rem.drop x.1) x.2.2 ∧ (x.2.1 = false ∨ (x.2.1 = true ∧ x.1 = rem.length ∧ x.1 < len))) (fun x => bif x.2.1 then 0 else len - x.1 + 1) (0, false, k) (wka) (by simp only [List.take_zero, putB_nil]; exact HWk.refl _) ⟨by simp, by simp, hS, .inl rfl⟩ ?_
    rintro ⟨i, e, k1⟩ ⟨hi, hir, hS1, he⟩
    dsimp only at hi hir hS1 he ⊢
    refine w_seq ?_
    refine w_seq ?_
    rcases he with rfl | ⟨rfl, he1, he2⟩
    · by_cases hil : i < len
      · refine w_region ?_
        refine o_t x_mv ?_
        refine o_t x_mv ?_
        refine o_t x_cmp ?_
        refine o_t x_mv ?_
        first | refine o_t (x_g x_mv) ?_ | refine o_t x_gs ?_ | refine o_t x_gu ?_
        first | first | refine o_t (x_g (x_inil' Tryz.underlying58)) ?_ | refine o_t x_gs ?_ | refine o_t x_gu ?_ | first | refine o_t (x_g (x_isome' Tryz.underlying58)) ?_ | refine o_t x_gs ?_ | refine o_t x_gu ?_
        refine o_t x_pick ?_
        refine o_nil ?_
        refine w_cond (t := true) (fun g => rfl) (fun hc => ?_) (fun hc => ?_) -- ('Go.Operand.tmp', 20)
        · refine w_skip ?_
          refine w_block ?_ -- 1
          refine w_seq ?_
          refine w_region ?_
          refine o_t x_as ?_
          refine o_nil ?_
          have hpl : (putB cs o (rem.take i)).length = cs.length := putB_length (by simp; omega)
          obtain ⟨bo, bl, bc', hsv, hbo, hbl, hbc'⟩ : ∃ bo bl bc', slV b o len cap i len 1 = .slice (some ⟨b, bo, none⟩) bl bc' ∧ bo = o + i ∧ bl = len - i ∧ bc' = cap - i := by
            refine ⟨_, _, _, ?_, rfl, rfl, rfl⟩
            simp [slV]; omega
          by_cases hne : rem.drop i = []
          · have hirl : i = rem.length := by
              have := congrArg List.length hne
              simp at this; omega
            have hrd := R.eof k1 b bo bl bc' (putB cs o (rem.take i)) T (hne ▸ hS1) (by omega) (by omega) (by omega) (by omega)
            refine w_seq ?_
            refine w_draw mixed ?_
            refine a_seg (k := 7) _ [(1, 0), (1, 1), (1, 2), (1, 3), (1, 4), (1, 5), (1, 6)] (by kernel_rfl) (HWk.refl _) ?_
            refine h_t rfl x_mv ?_
            refine h_t rfl x_mv ?_
            refine h_t rfl x_mv ?_
            refine h_t rfl (x_sl (lo := i) (hi := len) (v := .slice (some ⟨b, bo, none⟩) bl bc') Tryz.underlying78 e78 (hv := hsv)) ?_
            refine h_t rfl (x_mf haa haa) ?_
            refine h_t rfl (x_ncm R.nila) ?_
            refine h_t rfl x_mv ?_
            refine h_end ?_
            refine a_seg (k := 8) _ [(0, 7)] (by kernel_rfl) hwk_nil ?_
            refine h_one rfl (fun Q' hQ => ?_)
            refine o_inv R.call hxa haa spla vca (hrd) ?_
            rintro _ HH ⟨k2, rfl, hS2, rfl⟩
            simp only [List.cons_append, List.nil_append, List.append_nil]
            refine o_nil (hQ _ _ (h_keep ?_))
            refine h_end ?_
            refine a_seg (k := 9) _ [(1, 8)] (by kernel_rfl) (HWk.refl _) ?_
            refine h_t rfl x_mv ?_
            refine h_end ?_
            refine a_seg (k := 12) _ [(1, 9), (1, 10), (1, 11)] (by kernel_rfl) (HWk.refl _) ?_
            refine h_t rfl x_ex ?_
            refine h_t rfl x_ex ?_
            refine h_t rfl x_as ?_
            refine h_end ?_
            refine a_seg (k := 13) _ [(1, 12)] (by kernel_rfl) (HWk.refl _) ?_
            refine h_t rfl x_as ?_
            refine h_end ?_
            refine a_done rfl ?_
            refine w_region ?_
            refine o_t x_mv ?_
            refine o_t x_mv ?_
            refine o_t x_add ?_
            refine o_t x_as ?_
            refine o_nil ?_
            exact ⟨(i, true, k2), wka, hka, ⟨hi, hir, by dsimp only; rw [hne]; exact hS2, .inr ⟨rfl, hirl, hil⟩⟩, by simp⟩
          · have hrd := R.read (rem.drop i) k1 b bo bl bc' (putB cs o (rem.take i)) T hS1 (by omega) (by omega) (by omega) hne (by omega)
            refine w_seq ?_
            refine w_draw mixed ?_
            refine a_seg (k := 7) _ [(1, 0), (1, 1), (1, 2), (1, 3), (1, 4), (1, 5), (1, 6)] (by kernel_rfl) (HWk.refl _) ?_
            refine h_t rfl x_mv ?_
            refine h_t rfl x_mv ?_
            refine h_t rfl x_mv ?_
            refine h_t rfl (x_sl (lo := i) (hi := len) (v := .slice (some ⟨b, bo, none⟩) bl bc') Tryz.underlying78 e78 (hv := hsv)) ?_
            refine h_t rfl (x_mf haa haa) ?_
            refine h_t rfl (x_ncm R.nila) ?_
            refine h_t rfl x_mv ?_
            refine h_end ?_
            refine a_seg (k := 8) _ [(0, 7)] (by kernel_rfl) hwk_nil ?_
            refine h_one rfl (fun Q' hQ => ?_)
            refine o_inv R.call hxa haa spla vca (hrd) ?_
            rintro _ HH ⟨n, k2, hn0, hn1, hn2, rfl, hS2, rfl⟩
            simp only [List.cons_append, List.nil_append, List.append_nil]
            refine o_nil (hQ _ _ (h_keep ?_))
            refine h_end ?_
            refine a_seg (k := 9) _ [(1, 8)] (by kernel_rfl) (HWk.refl _) ?_
            refine h_t rfl x_mv ?_
            refine h_end ?_
            refine a_seg (k := 12) _ [(1, 9), (1, 10), (1, 11)] (by kernel_rfl) (HWk.refl _) ?_
            refine h_t rfl x_ex ?_
            refine h_t rfl x_ex ?_
            refine h_t rfl x_as ?_
            refine h_end ?_
            refine a_seg (k := 13) _ [(1, 12)] (by kernel_rfl) (HWk.refl _) ?_
            refine h_t rfl x_as ?_
            refine h_end ?_
            refine a_done rfl ?_
            refine w_region ?_
            refine o_t x_mv ?_
            refine o_t x_mv ?_
            refine o_t x_add ?_
            refine o_t x_as ?_
            refine o_nil ?_
            simp only [List.length_drop] at hn2
            refine ⟨(i + n, false, k2), wka, ?_, ⟨by dsimp only; omega, by dsimp only; omega, by dsimp only; rw [← List.drop_drop]; exact hS2, .inl rfl⟩, by dsimp only [cond]; omega⟩
            dsimp only
            have e1 : (rem.take i).length = i := by simp; omega
            have e2 : putB (putB cs o (rem.take i)) bo ((rem.drop i).take n) = putB cs o (rem.take (i + n)) := by
              rw [hbo]
              have h9 := putB_putB (cs := cs) (o := o) (l := rem.take i) (m := (rem.drop i).take n) (by simp; omega)
              rw [e1] at h9
              rw [h9, List.take_add]
            rw [e2]
            exact hka
        · cases hc
      · refine w_region ?_
        refine o_t x_mv ?_
        refine o_t x_mv ?_
        refine o_t x_cmp ?_
        refine o_t x_mv ?_
        first | refine o_t (x_g x_mv) ?_ | refine o_t x_gs ?_ | refine o_t x_gu ?_
        first | first | refine o_t (x_g (x_inil' Tryz.underlying58)) ?_ | refine o_t x_gs ?_ | refine o_t x_gu ?_ | first | refine o_t (x_g (x_isome' Tryz.underlying58)) ?_ | refine o_t x_gs ?_ | refine o_t x_gu ?_
        refine o_t x_pick ?_
        refine o_nil ?_
        refine w_cond (t := false) (fun g => rfl) (fun hc => ?_) (fun hc => ?_) -- ('Go.Operand.tmp', 20)
        · cases hc
        refine w_exit ?_ -- 0
        exact ⟨(i, false, k1), wka, hka, hi, hir, hS1, .inl ⟨rfl, by dsimp only; omega⟩⟩
    · by_cases hil : i < len
      · refine w_region ?_
        refine o_t x_mv ?_
        refine o_t x_mv ?_
        refine o_t x_cmp ?_
        refine o_t x_mv ?_
        first | refine o_t (x_g x_mv) ?_ | refine o_t x_gs ?_ | refine o_t x_gu ?_
        first | first | refine o_t (x_g (x_inil' Tryz.underlying58)) ?_ | refine o_t x_gs ?_ | refine o_t x_gu ?_ | first | refine o_t (x_g (x_isome' Tryz.underlying58)) ?_ | refine o_t x_gs ?_ | refine o_t x_gu ?_
        refine o_t x_pick ?_
        refine o_nil ?_
        refine w_cond (t := false) (fun g => rfl) (fun hc => ?_) (fun hc => ?_) -- ('Go.Operand.tmp', 20)
        · cases hc
        refine w_exit ?_ -- 0
        exact ⟨(i, true, k1), wka, hka, hi, hir, hS1, .inr ⟨rfl, he1, he2⟩⟩
      · exact absurd he2 hil
  rintro ⟨i, e, k1⟩ ⟨hi, hir, hS1, he⟩
  dsimp only at hi hir hS1 he ⊢
  rcases he with ⟨rfl, rfl⟩ | ⟨rfl, rfl, he2⟩
  · refine w_seq ?_
    refine w_seq ?_
    refine w_region ?_
    refine o_t x_mv ?_
    refine o_t x_mv ?_
    refine o_t x_cmp ?_
    refine o_nil ?_
    refine w_cond (t := true) (fun g => rfl) (fun hc => ?_) (fun hc => ?_) -- ('Go.Operand.tmp', 37)
    · refine w_region ?_
      refine o_t x_as ?_
      refine o_nil ?_
      refine w_ret (r_2 rfl ⟨k1, hS1, rfl, ?_⟩)
      rw [if_pos hir, show min i rem.length = i by omega]
    · cases hc
  · refine w_seq ?_
    refine w_seq ?_
    refine w_region ?_
    refine o_t x_mv ?_
    refine o_t x_mv ?_
    refine o_t x_cmp ?_
    refine o_nil ?_
    refine w_cond (t := false) (fun g => rfl) (fun hc => ?_) (fun hc => ?_) -- ('Go.Operand.tmp', 37)
    · cases hc
    have hdr : rem.drop len = [] := List.drop_eq_nil_of_le (by omega)
    have htk : rem.take len = rem := List.take_of_length_le (by omega)
    have hdr' : rem.drop rem.length = [] := List.drop_eq_nil_of_le (by omega)
    rw [hdr'] at hS1
    rw [List.take_length, hdr, htk, if_neg (by omega), show min len rem.length = rem.length by omega]
    by_cases h0 : rem = []
    · have hl0 : rem.length = 0 := by rw [h0]; rfl
      rw [if_pos h0]
      refine w_seq ?_
      refine w_region ?_
      refine o_t x_mv ?_
      refine o_t x_cmp ?_
      refine o_t x_mv ?_
      first | refine o_t (x_g x_mv) ?_ | refine o_t x_gs ?_ | refine o_t x_gu ?_
      first | refine o_t (x_g (x_err 3 gl)) ?_ | refine o_t x_gs ?_ | refine o_t x_gu ?_
      first | refine o_t x_gs ?_ | refine o_t x_gu ?_
      refine o_t x_pick ?_
      refine o_nil ?_
      refine w_cond (t := false) (fun g => rfl) (fun hc => ?_) (fun hc => ?_) -- ('Go.Operand.tmp', 44)
      · cases hc
      refine w_skip ?_
      refine w_ret (r_2 rfl ⟨k1, hS1, rfl, rfl⟩)
    · have hpos : 0 < rem.length := by
        cases rem with
        | nil => exact absurd rfl h0
        | cons => simp
      refine w_seq ?_
      refine w_region ?_
      refine o_t x_mv ?_
      refine o_t x_cmp ?_
      refine o_t x_mv ?_
      first | refine o_t (x_g x_mv) ?_ | refine o_t x_gs ?_ | refine o_t x_gu ?_
      first | refine o_t (x_g (x_err 3 gl)) ?_ | refine o_t x_gs ?_ | refine o_t x_gu ?_
      first | refine o_t (x_g (x_eqe 3 3 gl)) ?_ | refine o_t x_gs ?_ | refine o_t x_gu ?_
      refine o_t x_pick ?_
      refine o_nil ?_
      refine w_cond (t := true) (fun g => rfl) (fun hc => ?_) (fun hc => ?_) -- ('Go.Operand.tmp', 44)
      · refine w_region ?_
        refine o_t (x_err 5 gl) ?_
        refine o_t x_as ?_
        refine o_nil ?_
        refine w_ret (r_2 rfl ⟨k1, hS1, rfl, ?_⟩)
        rw [if_neg h0]
      · cases hc
end Go.Proofs.YtlmefkhglooepaaGreatDoor
namespace Go.Proofs.YtlmefkhglooepaaGreatDoor
open Go
set_option linter.unusedSimpArgs false
set_option linter.unusedVariables false
variable {G : Nat → Option Obj} {ea : Nat → Addr}
theorem cReadFull' (gl : Glob G ea) (T0 : TypeId) (u0 r0 : Value) (f0 : FuncId) (S : List UInt8 → Res → Prop) (R : Rdr G ea T0 u0 r0 f0 S) (rem : List UInt8) (k : Res) (hS : S rem k)
    (b o len cap T : Nat) (cs : List Value) (hlen : len ≤ cap) (hcap : cap ≤ 2147483647) (hfit : o + len ≤ cs.length) :
    Fn P G 103 #[.iface T0 u0, .slice (some ⟨b, o, none⟩) len cap] [pt b cs T, k] fun v H => ∃ k', S (rem.drop len) k' ∧ H = [pt b (putB cs o (rem.take len)) T, k'] ∧
      v = .tuple #[.int .i64 ((min len rem.length : Nat) : Int), if len ≤ rem.length then .nilIface else if rem = [] then errV ea 3 else errV ea 5] := by
  refine fn_intro (args := [_,_]) Tryz.func103 Tryz.ntmps103 rfl ?_
  refine w_seq ?_
  refine w_region ?_
  refine o_t x_as ?_
  refine o_t x_as ?_
  refine o_nil ?_
  refine w_seq ?_
  refine w_region ?_
  refine o_t x_mv ?_
  refine o_t x_mv ?_
  refine o_t x_mv ?_
  refine o_t (x_lenb Tryz.underlying78) ?_
  refine o_call Tryz.call132 haa spla (cReadFull gl T0 u0 r0 f0 S R rem k hS b o len cap T cs hlen hcap hfit) ?_
  rintro _ _ HH ⟨k', hS', rfl, rfl⟩ hHH
  simp only [List.cons_append, List.nil_append, List.append_nil] at hHH; subst hHH
  refine o_t x_ex ?_
  refine o_t x_ex ?_
  refine o_t x_as ?_
  refine o_t x_as ?_
  refine o_nil ?_
  refine w_ret (r_2 rfl ⟨k', hS', rfl, rfl⟩)
theorem cErrNew (s : List UInt8) : Fn P G 50 #[.string (str s)] [] fun v H => ∃ eb, v = .iface 174 (.pointer (some ⟨eb, 0, none⟩)) ∧ H = [pt eb [.string (str s)] 176] := by
  refine fn_intro (args := [_]) Tryz.func50 Tryz.ntmps50 rfl ?_
  refine w_seq ?_
  refine w_region ?_
  refine o_t x_as ?_
  refine o_nil ?_
  refine w_seq ?_
  refine w_region ?_
  refine o_t x_mv ?_
  refine o_t (x_bd hla bd176_0) ?_
  refine o_bx (fun b5 => ?_)
  refine o_t x_p ?_
  refine o_t x_as ?_
  refine o_nil ?_
  refine w_ret (r_1 rfl ⟨_, rfl, rfl⟩)
theorem ta102 (v : Value) (w : World) : (Instr.typeAssert (.iface 164 v) 170 183 true).run P w = .ok (.tuple #[.pointer none, .bool false]) w := by kernel_rfl
theorem cBrReset (br bb : Nat) (T0 : TypeId) (u0 : Value) : Fn P G 131 #[.pointer (some ⟨br, 0, none⟩), .slice (some ⟨bb, 0, none⟩) 4096 4096, .iface T0 u0] [pt br [.slice none 0 0, .nilIface, .int .i64 0, .int .i64 0, .nilIface, .int .i64 0, .int .i64 0] 256] fun v H => H = [brB br bb T0 u0 0 0 .nilIface (-1) (-1)] := by
  refine fn_intro (args := [_,_,_]) Tryz.func131 Tryz.ntmps131 rfl ?_
  refine w_region ?_
  refine o_t x_mv ?_
  refine o_t x_mv ?_
  refine o_t x_mv ?_
  refine o_t (x_bd hla bd256_0_1_5_6) ?_
  refine o_t x_nc ?_
  refine o_sta g256 ?_
  refine o_nil ?_
  exact r_0n rfl rfl
theorem cBrNew (u0 : Value) : Fn P G 76 #[.iface 164 u0] [] fun v H => ∃ br bb, v = .pointer (some ⟨br, 0, none⟩) ∧ H = [brB br bb 164 u0 0 0 .nilIface (-1) (-1), pt bb (List.replicate 4096 (.int .u8 0)) 5] := by
  have h2 : Fn P G 102 #[.iface 164 u0, .int .i64 4096] [] fun v H => ∃ br bb, v = .pointer (some ⟨br, 0, none⟩) ∧ H = [brB br bb 164 u0 0 0 .nilIface (-1) (-1), pt bb (List.replicate 4096 (.int .u8 0)) 5] := by
    refine fn_intro (args := [_,_]) Tryz.func102 Tryz.ntmps102 rfl ?_
    refine w_seq ?_
    refine w_region ?_
    refine o_t x_as ?_
    refine o_nil ?_
    refine w_seq ?_
    refine w_region ?_
    refine o_t x_mv ?_
    refine o_t (x_ta (ta102 u0)) ?_
    refine o_t x_mv ?_
    refine o_t x_ex ?_
    refine o_t x_ex ?_
    refine o_t x_as ?_
    refine o_t x_as ?_
    refine o_nil ?_
    refine w_seq ?_
    refine w_seq ?_
    refine w_region ?_
    refine o_t x_mv ?_
    refine o_t x_mv ?_
    first | refine o_t (x_g x_mv) ?_ | refine o_t x_gs ?_ | refine o_t x_gu ?_
    first | refine o_t (x_g x_nc) ?_ | refine o_t x_gs ?_ | refine o_t x_gu ?_
    first | refine o_t (x_g (x_fa f256_0)) ?_ | refine o_t x_gs ?_ | refine o_t x_gu ?_
    first | refine o_t (x_g (x_ld k78)) ?_ | refine o_t x_gs ?_ | refine o_t x_gu ?_
    first | refine o_t (x_g (x_lenb Tryz.underlying78)) ?_ | refine o_t x_gs ?_ | refine o_t x_gu ?_
    first | refine o_t (x_g x_mv) ?_ | refine o_t x_gs ?_ | refine o_t x_gu ?_
    first | refine o_t (x_g x_cmp) ?_ | refine o_t x_gs ?_ | refine o_t x_gu ?_
    refine o_t x_pick ?_
    refine o_nil ?_
    refine w_cond (t := false) (fun g => rfl) (fun hc => ?_) (fun hc => ?_) -- ('Go.Operand.tmp', 22)
    · cases hc
    refine w_skip ?_
    refine w_seq ?_
    refine w_region ?_
    refine o_al z256 (fun b24 => ?_)
    refine o_t x_as ?_
    refine o_nil ?_
    refine w_seq ?_
    refine w_region ?_
    refine o_t x_mv ?_
    refine o_t x_mv ?_
    refine o_t x_p ?_
    refine o_mk (k := 4096) info5 Tryz.underlying78 rfl rfl (by decide) (by decide) (fun bb => ?_)
    refine o_t x_mv ?_
    refine o_call Tryz.call131 haa spla (cBrReset b24 bb 164 u0) ?_
    rintro _ _ HH rfl hHH
    simp only [List.cons_append, List.nil_append, List.append_nil] at hHH; subst hHH
    refine o_nil ?_
    refine w_seq ?_
    refine w_region ?_
    refine o_t x_mv ?_
    refine o_t x_as ?_
    refine o_nil ?_
    refine w_ret (r_1 rfl ⟨b24, bb, rfl, rfl⟩)
  refine fn_intro (args := [_]) Tryz.func76 Tryz.ntmps76 rfl ?_
  refine w_seq ?_
  refine w_region ?_
  refine o_t x_as ?_
  refine o_nil ?_
  refine w_seq ?_
  refine w_region ?_
  refine o_t x_mv ?_
  refine o_call Tryz.call102 haa spla (h2) ?_
  rintro _ _ HH ⟨br, bb, rfl, rfl⟩ hHH
  simp only [List.cons_append, List.nil_append, List.append_nil] at hHH; subst hHH
  refine o_t x_as ?_
  refine o_nil ?_
  refine w_ret (r_1 rfl ⟨br, bb, rfl, rfl⟩)
end Go.Proofs.YtlmefkhglooepaaGreatDoor
namespace Go.Proofs.YtlmefkhglooepaaGreatDoor
open Go
set_option linter.unusedSimpArgs false
set_option linter.unusedVariables false
variable {G : Nat → Option Obj} {ea : Nat → Addr}
theorem has4 {t : List UInt8} {i : Nat} {b0 b1 b2 b3 : UInt8} (h0 : t[i]? = some b0) (h1 : t[i + 1]? = some b1) (h2 : t[i + 2]? = some b2) (h3 : t[i + 3]? = some b3) :
    Has t i [80, 75, 5, 6] ↔ b0.toNat = 80 ∧ b1.toNat = 75 ∧ b2.toNat = 5 ∧ b3.toNat = 6 := by
  have l3 := (List.getElem?_eq_some_iff.1 h3).1
  have e : (t.drop i).take 4 = [b0, b1, b2, b3] := by
    apply List.ext_getElem?
    intro j
    rw [List.getElem?_take]
    match j with
    | 0 => simp [List.getElem?_drop, h0]
    | 1 => simp [List.getElem?_drop, h1]
    | 2 => simp [List.getElem?_drop, h2]
    | 3 => simp [List.getElem?_drop, h3]
    | j + 4 => simp; omega
  have u : ∀ (b : UInt8) (n : Nat) (hn : n < 256), b = UInt8.ofNat n ↔ b.toNat = n := fun b n hn => by
    constructor
    · rintro rfl; simp; omega
    · intro h; rw [← h]; simp
  unfold Has
  show i + 4 ≤ t.length ∧ (t.drop i).take 4 = [80, 75, 5, 6] ↔ _
  rw [e]
  simp only [List.cons.injEq, and_true]
  rw [show (80 : UInt8) = UInt8.ofNat 80 from rfl, show (75 : UInt8) = UInt8.ofNat 75 from rfl, show (5 : UInt8) = UInt8.ofNat 5 from rfl, show (6 : UInt8) = UInt8.ofNat 6 from rfl,
    u b0 80 (by decide), u b1 75 (by decide), u b2 5 (by decide), u b3 6 (by decide)]
  exact ⟨fun h => h.2, fun h => ⟨by omega, h⟩⟩
/-- One look at a place: whether the sign stands there. -/
def lookI (t : List UInt8) (b cap i : Nat) : Loc := [(0, .slice (some ⟨b, 0, none⟩) t.length cap), (3, .int .i64 i)]
theorem cFindNone (b cap : Nat) (t : List UInt8) (hl : t.length ≤ 2147483647) (hno : ∀ q, q + 22 ≤ t.length → ¬ Has t q [80, 75, 5, 6]) :
    Fn P G 99 #[.slice (some ⟨b, 0, none⟩) t.length cap] [pt b (t.map u8) 5] fun v H => v = .int .i64 (-1) ∧ H = [pt b (t.map u8) 5] := by
  refine fn_intro (args := [_]) Tryz.func99 Tryz.ntmps99 rfl ?_
  refine w_seq ?_
  refine w_region ?_
  refine o_t x_as ?_
  refine o_nil ?_
  refine w_seq ?_
  refine w_seq ?_
  refine w_region ?_
  refine o_t x_mv ?_
  refine o_t (x_lenb Tryz.underlying78) ?_
  refine o_t x_sub ?_
  refine o_t x_as ?_
  refine o_nil ?_
  refine w_block ?_ -- 0
  refine w_loop (α := Int) (fun x => [(0, .slice (some ⟨b, 0, none⟩) t.length cap), (3, .int .i64 x)]) (fun x => [pt b (t.map u8) 5]) (fun x => -22 ≤ x ∧ x + 22 ≤ t.length) (fun x => (x + 23).toNat) (t.length - 22 : Int) (wka) (hka) ⟨by omega, by omega⟩ ?_
  rintro x ⟨hx1, hx2⟩
  refine w_seq ?_
  refine w_seq ?_
  by_cases hx0 : 0 ≤ x
  · obtain ⟨i, rfl⟩ := Int.eq_ofNat_of_zero_le hx0
    have g0 := List.getElem?_eq_getElem (l := t) (i := i) (by omega)
    have g1 := List.getElem?_eq_getElem (l := t) (i := i + 1) (by omega)
    have g2 := List.getElem?_eq_getElem (l := t) (i := i + 2) (by omega)
    have g3 := List.getElem?_eq_getElem (l := t) (i := i + 3) (by omega)
    generalize t[i]'(by omega) = c0 at g0
    generalize t[i + 1]'(by omega) = c1 at g1
    generalize t[i + 2]'(by omega) = c2 at g2
    generalize t[i + 3]'(by omega) = c3 at g3
    have hn := hno i (by omega)
    rw [has4 g0 g1 g2 g3] at hn
    refine w_region ?_
    refine o_t x_mv ?_
    refine o_t x_cmp ?_
    refine o_nil ?_
    refine w_cond (t := true) (fun g => rfl) (fun hc => ?_) (fun hc => ?_) -- ('Go.Operand.tmp', 9)
    · refine w_skip ?_
      refine w_seq ?_
      refine w_block ?_ -- 1
      refine w_cut (α := Unit) (fun _ => [(0, .slice (some ⟨b, 0, none⟩) t.length cap), (3, .int .i64 i), (40, .bool false)]) (fun _ => [pt b (t.map u8) 5]) (fun _ => True) ?_ (fun _ _ => ?_)
      · by_cases e0 : c0.toNat = 80
        · by_cases e1 : c1.toNat = 75
          · by_cases e2 : c2.toNat = 5
            · have e3 : ¬ c3.toNat = 6 := fun e3 => hn ⟨e0, e1, e2, e3⟩
              refine w_region ?_
              refine o_t x_mv ?_
              refine o_t x_mv ?_
              refine o_t (x_ia (m := 0 + i) Tryz.underlying78 e78 (hm := by omega)) ?_
              refine o_t (x_ldR k5 Rd.all (get_u8 g0)) ?_
              refine o_t x_cmp ?_
              refine o_t x_mv ?_
              first | refine o_t (x_g x_mv) ?_ | refine o_t x_gs ?_ | refine o_t x_gu ?_
              first | refine o_t (x_g x_mv) ?_ | refine o_t x_gs ?_ | refine o_t x_gu ?_
              first | refine o_t (x_g x_add) ?_ | refine o_t x_gs ?_ | refine o_t x_gu ?_
              first | refine o_t (x_g (x_ia (m := 0 + (i + 1)) Tryz.underlying78 e78 (hm := by omega))) ?_ | refine o_t x_gs ?_ | refine o_t x_gu ?_
              first | refine o_t (x_g (x_ldR k5 Rd.all (get_u8 g1))) ?_ | refine o_t x_gs ?_ | refine o_t x_gu ?_
              first | refine o_t (x_g x_cmp) ?_ | refine o_t x_gs ?_ | refine o_t x_gu ?_
              refine o_t x_pick ?_
              refine o_t x_mv ?_
              first | refine o_t (x_g x_mv) ?_ | refine o_t x_gs ?_ | refine o_t x_gu ?_
              first | refine o_t (x_g x_mv) ?_ | refine o_t x_gs ?_ | refine o_t x_gu ?_
              first | refine o_t (x_g x_add) ?_ | refine o_t x_gs ?_ | refine o_t x_gu ?_
              first | refine o_t (x_g (x_ia (m := 0 + (i + 2)) Tryz.underlying78 e78 (hm := by omega))) ?_ | refine o_t x_gs ?_ | refine o_t x_gu ?_
              first | refine o_t (x_g (x_ldR k5 Rd.all (get_u8 g2))) ?_ | refine o_t x_gs ?_ | refine o_t x_gu ?_
              first | refine o_t (x_g x_cmp) ?_ | refine o_t x_gs ?_ | refine o_t x_gu ?_
              refine o_t x_pick ?_
              refine o_t x_mv ?_
              first | refine o_t (x_g x_mv) ?_ | refine o_t x_gs ?_ | refine o_t x_gu ?_
              first | refine o_t (x_g x_mv) ?_ | refine o_t x_gs ?_ | refine o_t x_gu ?_
              first | refine o_t (x_g x_add) ?_ | refine o_t x_gs ?_ | refine o_t x_gu ?_
              first | refine o_t (x_g (x_ia (m := 0 + (i + 3)) Tryz.underlying78 e78 (hm := by omega))) ?_ | refine o_t x_gs ?_ | refine o_t x_gu ?_
              first | refine o_t (x_g (x_ldR k5 Rd.all (get_u8 g3))) ?_ | refine o_t x_gs ?_ | refine o_t x_gu ?_
              first | refine o_t (x_g x_cmp) ?_ | refine o_t x_gs ?_ | refine o_t x_gu ?_
              refine o_t x_pick ?_
              refine o_nil ?_
              exact ⟨(), wka, hka, trivial⟩
            · refine w_region ?_
              refine o_t x_mv ?_
              refine o_t x_mv ?_
              refine o_t (x_ia (m := 0 + i) Tryz.underlying78 e78 (hm := by omega)) ?_
              refine o_t (x_ldR k5 Rd.all (get_u8 g0)) ?_
              refine o_t x_cmp ?_
              refine o_t x_mv ?_
              first | refine o_t (x_g x_mv) ?_ | refine o_t x_gs ?_ | refine o_t x_gu ?_
              first | refine o_t (x_g x_mv) ?_ | refine o_t x_gs ?_ | refine o_t x_gu ?_
              first | refine o_t (x_g x_add) ?_ | refine o_t x_gs ?_ | refine o_t x_gu ?_
              first | refine o_t (x_g (x_ia (m := 0 + (i + 1)) Tryz.underlying78 e78 (hm := by omega))) ?_ | refine o_t x_gs ?_ | refine o_t x_gu ?_
              first | refine o_t (x_g (x_ldR k5 Rd.all (get_u8 g1))) ?_ | refine o_t x_gs ?_ | refine o_t x_gu ?_
              first | refine o_t (x_g x_cmp) ?_ | refine o_t x_gs ?_ | refine o_t x_gu ?_
              refine o_t x_pick ?_
              refine o_t x_mv ?_
              first | refine o_t (x_g x_mv) ?_ | refine o_t x_gs ?_ | refine o_t x_gu ?_
              first | refine o_t (x_g x_mv) ?_ | refine o_t x_gs ?_ | refine o_t x_gu ?_
              first | refine o_t (x_g x_add) ?_ | refine o_t x_gs ?_ | refine o_t x_gu ?_
              first | refine o_t (x_g (x_ia (m := 0 + (i + 2)) Tryz.underlying78 e78 (hm := by omega))) ?_ | refine o_t x_gs ?_ | refine o_t x_gu ?_
              first | refine o_t (x_g (x_ldR k5 Rd.all (get_u8 g2))) ?_ | refine o_t x_gs ?_ | refine o_t x_gu ?_
              first | refine o_t (x_g x_cmp) ?_ | refine o_t x_gs ?_ | refine o_t x_gu ?_
              refine o_t x_pick ?_
              refine o_t x_mv ?_
              first | refine o_t (x_g x_mv) ?_ | refine o_t x_gs ?_ | refine o_t x_gu ?_
              first | refine o_t (x_g x_mv) ?_ | refine o_t x_gs ?_ | refine o_t x_gu ?_
              first | refine o_t (x_g x_add) ?_ | refine o_t x_gs ?_ | refine o_t x_gu ?_
              first | (refine o_gy (?_); refine o_t x_gs ?_) | refine o_t x_gs ?_ | refine o_t x_gu ?_
              first | (refine o_gy (?_); refine o_t x_gs ?_) | refine o_t x_gs ?_ | refine o_t x_gu ?_
              first | refine o_t (x_g x_cmp) ?_ | refine o_t x_gs ?_ | refine o_t x_gu ?_
              refine o_t x_pick ?_
              refine o_nil ?_
              exact ⟨(), wka, hka, trivial⟩
          · refine w_region ?_
            refine o_t x_mv ?_
            refine o_t x_mv ?_
            refine o_t (x_ia (m := 0 + i) Tryz.underlying78 e78 (hm := by omega)) ?_
            refine o_t (x_ldR k5 Rd.all (get_u8 g0)) ?_
            refine o_t x_cmp ?_
            refine o_t x_mv ?_
            first | refine o_t (x_g x_mv) ?_ | refine o_t x_gs ?_ | refine o_t x_gu ?_
            first | refine o_t (x_g x_mv) ?_ | refine o_t x_gs ?_ | refine o_t x_gu ?_
            first | refine o_t (x_g x_add) ?_ | refine o_t x_gs ?_ | refine o_t x_gu ?_
            first | refine o_t (x_g (x_ia (m := 0 + (i + 1)) Tryz.underlying78 e78 (hm := by omega))) ?_ | refine o_t x_gs ?_ | refine o_t x_gu ?_
            first | refine o_t (x_g (x_ldR k5 Rd.all (get_u8 g1))) ?_ | refine o_t x_gs ?_ | refine o_t x_gu ?_
            first | refine o_t (x_g x_cmp) ?_ | refine o_t x_gs ?_ | refine o_t x_gu ?_
            refine o_t x_pick ?_
            refine o_t x_mv ?_
            first | refine o_t (x_g x_mv) ?_ | refine o_t x_gs ?_ | refine o_t x_gu ?_
            first | refine o_t (x_g x_mv) ?_ | refine o_t x_gs ?_ | refine o_t x_gu ?_
            first | refine o_t (x_g x_add) ?_ | refine o_t x_gs ?_ | refine o_t x_gu ?_
            first | (refine o_gy (?_); refine o_t x_gs ?_) | refine o_t x_gs ?_ | refine o_t x_gu ?_
            first | (refine o_gy (?_); refine o_t x_gs ?_) | refine o_t x_gs ?_ | refine o_t x_gu ?_
            first | refine o_t (x_g x_cmp) ?_ | refine o_t x_gs ?_ | refine o_t x_gu ?_
            refine o_t x_pick ?_
            refine o_t x_mv ?_
            first | refine o_t (x_g x_mv) ?_ | refine o_t x_gs ?_ | refine o_t x_gu ?_
            first | refine o_t (x_g x_mv) ?_ | refine o_t x_gs ?_ | refine o_t x_gu ?_
            first | refine o_t (x_g x_add) ?_ | refine o_t x_gs ?_ | refine o_t x_gu ?_
            first | (refine o_gy (?_); refine o_t x_gs ?_) | refine o_t x_gs ?_ | refine o_t x_gu ?_
            first | (refine o_gy (?_); refine o_t x_gs ?_) | refine o_t x_gs ?_ | refine o_t x_gu ?_
            first | refine o_t (x_g x_cmp) ?_ | refine o_t x_gs ?_ | refine o_t x_gu ?_
            refine o_t x_pick ?_
            refine o_nil ?_
            exact ⟨(), wka, hka, trivial⟩
        · refine w_region ?_
          refine o_t x_mv ?_
          refine o_t x_mv ?_
          refine o_t (x_ia (m := 0 + i) Tryz.underlying78 e78 (hm := by omega)) ?_
          refine o_t (x_ldR k5 Rd.all (get_u8 g0)) ?_
          refine o_t x_cmp ?_
          refine o_t x_mv ?_
          first | refine o_t (x_g x_mv) ?_ | refine o_t x_gs ?_ | refine o_t x_gu ?_
          first | refine o_t (x_g x_mv) ?_ | refine o_t x_gs ?_ | refine o_t x_gu ?_
          first | refine o_t (x_g x_add) ?_ | refine o_t x_gs ?_ | refine o_t x_gu ?_
          first | (refine o_gy (?_); refine o_t x_gs ?_) | refine o_t x_gs ?_ | refine o_t x_gu ?_
          first | (refine o_gy (?_); refine o_t x_gs ?_) | refine o_t x_gs ?_ | refine o_t x_gu ?_
          first | refine o_t (x_g x_cmp) ?_ | refine o_t x_gs ?_ | refine o_t x_gu ?_
          refine o_t x_pick ?_
          refine o_t x_mv ?_
          first | refine o_t (x_g x_mv) ?_ | refine o_t x_gs ?_ | refine o_t x_gu ?_
          first | refine o_t (x_g x_mv) ?_ | refine o_t x_gs ?_ | refine o_t x_gu ?_
          first | refine o_t (x_g x_add) ?_ | refine o_t x_gs ?_ | refine o_t x_gu ?_
          first | (refine o_gy (?_); refine o_t x_gs ?_) | refine o_t x_gs ?_ | refine o_t x_gu ?_
          first | (refine o_gy (?_); refine o_t x_gs ?_) | refine o_t x_gs ?_ | refine o_t x_gu ?_
          first | refine o_t (x_g x_cmp) ?_ | refine o_t x_gs ?_ | refine o_t x_gu ?_
          refine o_t x_pick ?_
          refine o_t x_mv ?_
          first | refine o_t (x_g x_mv) ?_ | refine o_t x_gs ?_ | refine o_t x_gu ?_
          first | refine o_t (x_g x_mv) ?_ | refine o_t x_gs ?_ | refine o_t x_gu ?_
          first | refine o_t (x_g x_add) ?_ | refine o_t x_gs ?_ | refine o_t x_gu ?_
          first | (refine o_gy (?_); refine o_t x_gs ?_) | refine o_t x_gs ?_ | refine o_t x_gu ?_
          first | (refine o_gy (?_); refine o_t x_gs ?_) | refine o_t x_gs ?_ | refine o_t x_gu ?_
          first | refine o_t (x_g x_cmp) ?_ | refine o_t x_gs ?_ | refine o_t x_gu ?_
          refine o_t x_pick ?_
          refine o_nil ?_
          exact ⟨(), wka, hka, trivial⟩
      refine w_cond (t := false) (fun g => rfl) (fun hc => ?_) (fun hc => ?_) -- ('Go.Operand.tmp', 40)
      · cases hc
      refine w_skip ?_
      refine w_region ?_
      refine o_t x_mv ?_
      refine o_t x_sub ?_
      refine o_t x_as ?_
      refine o_nil ?_
      exact ⟨(i : Int) - 1, wka, hka, ⟨by omega, by omega⟩, by omega⟩
    · cases hc
  · refine w_region ?_
    refine o_t x_mv ?_
    refine o_t x_cmp ?_
    refine o_nil ?_
    refine w_cond (t := false) (fun g => rfl) (fun hc => ?_) (fun hc => ?_) -- ('Go.Operand.tmp', 9)
    · cases hc
    refine w_exit ?_ -- 0
    refine w_seq ?_
    refine w_region ?_
    refine o_t x_as ?_
    refine o_nil ?_
    refine w_ret (r_1 rfl ⟨rfl, rfl⟩)
theorem cFind (b cap p : Nat) (t : List UInt8) (n : Nat) (hl : t.length ≤ 2147483647) (hp22 : p + 22 ≤ t.length) (hp : Has t p [80, 75, 5, 6]) (hno : ∀ q, p < q → ¬ Has t q [80, 75, 5, 6])
    (l0 l1 : UInt8) (hl0 : t[p + 20]? = some l0) (hl1 : t[p + 21]? = some l1) (hn : l0.toNat + l1.toNat * 256 + 22 + p ≤ t.length) :
    Fn P G 99 #[.slice (some ⟨b, 0, none⟩) t.length cap] [pt b (t.map u8) 5] fun v H => v = .int .i64 p ∧ H = [pt b (t.map u8) 5] := by
  refine fn_intro (args := [_]) Tryz.func99 Tryz.ntmps99 rfl ?_
  refine w_seq ?_
  refine w_region ?_
  refine o_t x_as ?_
  refine o_nil ?_
  refine w_seq ?_
  refine w_seq ?_
  refine w_region ?_
  refine o_t x_mv ?_
  refine o_t (x_lenb Tryz.underlying78) ?_
  refine o_t x_sub ?_
  refine o_t x_as ?_
  refine o_nil ?_
  refine w_block ?_ -- 0
  refine w_loop (α := Int) (fun x => [(0, .slice (some ⟨b, 0, none⟩) t.length cap), (3, .int .i64 x)]) (fun x => [pt b (t.map u8) 5]) (fun x => (p : Int) ≤ x ∧ x + 22 ≤ t.length) (fun x => (x + 23).toNat) (t.length - 22 : Int) (wka) (hka) ⟨by omega, by omega⟩ ?_
  rintro x ⟨hx1, hx2⟩
  refine w_seq ?_
  refine w_seq ?_
  by_cases hx0 : 0 ≤ x
  · obtain ⟨i, rfl⟩ := Int.eq_ofNat_of_zero_le hx0
    have g0 := List.getElem?_eq_getElem (l := t) (i := i) (by omega)
    have g1 := List.getElem?_eq_getElem (l := t) (i := i + 1) (by omega)
    have g2 := List.getElem?_eq_getElem (l := t) (i := i + 2) (by omega)
    have g3 := List.getElem?_eq_getElem (l := t) (i := i + 3) (by omega)
    generalize t[i]'(by omega) = c0 at g0
    generalize t[i + 1]'(by omega) = c1 at g1
    generalize t[i + 2]'(by omega) = c2 at g2
    generalize t[i + 3]'(by omega) = c3 at g3
    by_cases hip : i = p
    · subst hip
      rw [has4 g0 g1 g2 g3] at hp
      obtain ⟨e0, e1, e2, e3⟩ := hp
      have hl08 := l0.toNat_lt
      have hl18 := l1.toNat_lt
      refine w_region ?_
      refine o_t x_mv ?_
      refine o_t x_cmp ?_
      refine o_nil ?_
      refine w_cond (t := true) (fun g => rfl) (fun hc => ?_) (fun hc => ?_) -- ('Go.Operand.tmp', 9)
      · refine w_skip ?_
        refine w_seq ?_
        refine w_block ?_ -- 1
        refine w_seq ?_
        refine w_region ?_
        refine o_t x_mv ?_
        refine o_t x_mv ?_
        refine o_t (x_ia (m := 0 + i) Tryz.underlying78 e78 (hm := by omega)) ?_
        refine o_t (x_ldR k5 Rd.all (get_u8 g0)) ?_
        refine o_t x_cmp ?_
        refine o_t x_mv ?_
        first | refine o_t (x_g x_mv) ?_ | refine o_t x_gs ?_ | refine o_t x_gu ?_
        first | refine o_t (x_g x_mv) ?_ | refine o_t x_gs ?_ | refine o_t x_gu ?_
        first | refine o_t (x_g x_add) ?_ | refine o_t x_gs ?_ | refine o_t x_gu ?_
        first | refine o_t (x_g (x_ia (m := 0 + (i + 1)) Tryz.underlying78 e78 (hm := by omega))) ?_ | refine o_t x_gs ?_ | refine o_t x_gu ?_
        first | refine o_t (x_g (x_ldR k5 Rd.all (get_u8 g1))) ?_ | refine o_t x_gs ?_ | refine o_t x_gu ?_
        first | refine o_t (x_g x_cmp) ?_ | refine o_t x_gs ?_ | refine o_t x_gu ?_
        refine o_t x_pick ?_
        refine o_t x_mv ?_
        first | refine o_t (x_g x_mv) ?_ | refine o_t x_gs ?_ | refine o_t x_gu ?_
        first | refine o_t (x_g x_mv) ?_ | refine o_t x_gs ?_ | refine o_t x_gu ?_
        first | refine o_t (x_g x_add) ?_ | refine o_t x_gs ?_ | refine o_t x_gu ?_
        first | refine o_t (x_g (x_ia (m := 0 + (i + 2)) Tryz.underlying78 e78 (hm := by omega))) ?_ | refine o_t x_gs ?_ | refine o_t x_gu ?_
        first | refine o_t (x_g (x_ldR k5 Rd.all (get_u8 g2))) ?_ | refine o_t x_gs ?_ | refine o_t x_gu ?_
        first | refine o_t (x_g x_cmp) ?_ | refine o_t x_gs ?_ | refine o_t x_gu ?_
        refine o_t x_pick ?_
        refine o_t x_mv ?_
        first | refine o_t (x_g x_mv) ?_ | refine o_t x_gs ?_ | refine o_t x_gu ?_
        first | refine o_t (x_g x_mv) ?_ | refine o_t x_gs ?_ | refine o_t x_gu ?_
        first | refine o_t (x_g x_add) ?_ | refine o_t x_gs ?_ | refine o_t x_gu ?_
        first | refine o_t (x_g (x_ia (m := 0 + (i + 3)) Tryz.underlying78 e78 (hm := by omega))) ?_ | refine o_t x_gs ?_ | refine o_t x_gu ?_
        first | refine o_t (x_g (x_ldR k5 Rd.all (get_u8 g3))) ?_ | refine o_t x_gs ?_ | refine o_t x_gu ?_
        first | refine o_t (x_g x_cmp) ?_ | refine o_t x_gs ?_ | refine o_t x_gu ?_
        refine o_t x_pick ?_
        refine o_nil ?_
        refine w_cond (t := true) (fun g => rfl) (fun hc => ?_) (fun hc => ?_) -- ('Go.Operand.tmp', 40)
        · have h1 := or_shl l0.toNat l1.toNat 8 hl08
          have h2 : ((l1.toNat : Int) * 256).toNat = l1.toNat * 2 ^ 8 := by omega
          refine w_cut (α := Unit) (fun _ => [(0, .slice (some ⟨b, 0, none⟩) t.length cap), (3, .int .i64 i), (4, .int .i64 ((l0.toNat + l1.toNat * 256 : Nat) : Int))]) (fun _ => [pt b (t.map u8) 5]) (fun _ => True) ?_ (fun _ _ => ?_)
          · refine w_quiet mixed (by kernel_rfl) ?_
            refine q_t x_mv ?_
            refine q_t x_mv ?_
            refine q_t x_add ?_
            refine q_t x_sub ?_
            refine q_t (x_ia (m := 0 + (i + 20)) Tryz.underlying78 e78 (hm := by omega)) ?_
            refine q_t (x_ldR k5 Rd.all (get_u8 hl0)) ?_
            refine q_t (x_cv ⟨_, Tryz.underlying5⟩ Tryz.underlying3) ?_
            refine q_t x_mv ?_
            refine q_t x_mv ?_
            refine q_t x_add ?_
            refine q_t x_sub ?_
            refine q_t (x_ia (m := 0 + (i + 21)) Tryz.underlying78 e78 (hm := by omega)) ?_
            refine q_t (x_ldR k5 Rd.all (get_u8 hl1)) ?_
            refine q_t (x_cv ⟨_, Tryz.underlying5⟩ Tryz.underlying3) ?_
            refine q_t x_shl ?_
            refine q_t x_or ?_
            refine q_t x_as ?_
            refine q_nil ?_
            exact ⟨(), .cons (fun _ => rfl) (.cons (fun _ => rfl) (.cons (fun _ => congrArg (Value.int _) (by simp only [Int.toNat_natCast, h2, h1])) (.nil _))), hka, trivial⟩
          refine w_seq ?_
          refine w_seq ?_
          refine w_region ?_
          refine o_t x_mv ?_
          refine o_t x_add ?_
          refine o_t x_mv ?_
          refine o_t x_add ?_
          refine o_t x_mv ?_
          refine o_t (x_lenb Tryz.underlying78) ?_
          refine o_t x_cmp ?_
          refine o_nil ?_
          refine w_cond (t := false) (fun g => rfl) (fun hc => ?_) (fun hc => ?_) -- ('Go.Operand.tmp', 63)
          · cases hc
          refine w_skip ?_
          refine w_seq ?_
          refine w_region ?_
          refine o_t x_mv ?_
          refine o_t x_as ?_
          refine o_nil ?_
          refine w_ret (r_1 rfl ⟨rfl, rfl⟩)
        · cases hc
      · cases hc
    have hn := hno i (by omega)
    rw [has4 g0 g1 g2 g3] at hn
    refine w_region ?_
    refine o_t x_mv ?_
    refine o_t x_cmp ?_
    refine o_nil ?_
    refine w_cond (t := true) (fun g => rfl) (fun hc => ?_) (fun hc => ?_) -- ('Go.Operand.tmp', 9)
    · refine w_skip ?_
      refine w_seq ?_
      refine w_block ?_ -- 1
      refine w_cut (α := Unit) (fun _ => [(0, .slice (some ⟨b, 0, none⟩) t.length cap), (3, .int .i64 i), (40, .bool false)]) (fun _ => [pt b (t.map u8) 5]) (fun _ => True) ?_ (fun _ _ => ?_)
      · by_cases e0 : c0.toNat = 80
        · by_cases e1 : c1.toNat = 75
          · by_cases e2 : c2.toNat = 5
            · have e3 : ¬ c3.toNat = 6 := fun e3 => hn ⟨e0, e1, e2, e3⟩
              refine w_region ?_
              refine o_t x_mv ?_
              refine o_t x_mv ?_
              refine o_t (x_ia (m := 0 + i) Tryz.underlying78 e78 (hm := by omega)) ?_
              refine o_t (x_ldR k5 Rd.all (get_u8 g0)) ?_
              refine o_t x_cmp ?_
              refine o_t x_mv ?_
              first | refine o_t (x_g x_mv) ?_ | refine o_t x_gs ?_ | refine o_t x_gu ?_
              first | refine o_t (x_g x_mv) ?_ | refine o_t x_gs ?_ | refine o_t x_gu ?_
              first | refine o_t (x_g x_add) ?_ | refine o_t x_gs ?_ | refine o_t x_gu ?_
              first | refine o_t (x_g (x_ia (m := 0 + (i + 1)) Tryz.underlying78 e78 (hm := by omega))) ?_ | refine o_t x_gs ?_ | refine o_t x_gu ?_
              first | refine o_t (x_g (x_ldR k5 Rd.all (get_u8 g1))) ?_ | refine o_t x_gs ?_ | refine o_t x_gu ?_
              first | refine o_t (x_g x_cmp) ?_ | refine o_t x_gs ?_ | refine o_t x_gu ?_
              refine o_t x_pick ?_
              refine o_t x_mv ?_
              first | refine o_t (x_g x_mv) ?_ | refine o_t x_gs ?_ | refine o_t x_gu ?_
              first | refine o_t (x_g x_mv) ?_ | refine o_t x_gs ?_ | refine o_t x_gu ?_
              first | refine o_t (x_g x_add) ?_ | refine o_t x_gs ?_ | refine o_t x_gu ?_
              first | refine o_t (x_g (x_ia (m := 0 + (i + 2)) Tryz.underlying78 e78 (hm := by omega))) ?_ | refine o_t x_gs ?_ | refine o_t x_gu ?_
              first | refine o_t (x_g (x_ldR k5 Rd.all (get_u8 g2))) ?_ | refine o_t x_gs ?_ | refine o_t x_gu ?_
              first | refine o_t (x_g x_cmp) ?_ | refine o_t x_gs ?_ | refine o_t x_gu ?_
              refine o_t x_pick ?_
              refine o_t x_mv ?_
              first | refine o_t (x_g x_mv) ?_ | refine o_t x_gs ?_ | refine o_t x_gu ?_
              first | refine o_t (x_g x_mv) ?_ | refine o_t x_gs ?_ | refine o_t x_gu ?_
              first | refine o_t (x_g x_add) ?_ | refine o_t x_gs ?_ | refine o_t x_gu ?_
              first | refine o_t (x_g (x_ia (m := 0 + (i + 3)) Tryz.underlying78 e78 (hm := by omega))) ?_ | refine o_t x_gs ?_ | refine o_t x_gu ?_
              first | refine o_t (x_g (x_ldR k5 Rd.all (get_u8 g3))) ?_ | refine o_t x_gs ?_ | refine o_t x_gu ?_
              first | refine o_t (x_g x_cmp) ?_ | refine o_t x_gs ?_ | refine o_t x_gu ?_
              refine o_t x_pick ?_
              refine o_nil ?_
              exact ⟨(), wka, hka, trivial⟩
            · refine w_region ?_
              refine o_t x_mv ?_
              refine o_t x_mv ?_
              refine o_t (x_ia (m := 0 + i) Tryz.underlying78 e78 (hm := by omega)) ?_
              refine o_t (x_ldR k5 Rd.all (get_u8 g0)) ?_
              refine o_t x_cmp ?_
              refine o_t x_mv ?_
              first | refine o_t (x_g x_mv) ?_ | refine o_t x_gs ?_ | refine o_t x_gu ?_
              first | refine o_t (x_g x_mv) ?_ | refine o_t x_gs ?_ | refine o_t x_gu ?_
              first | refine o_t (x_g x_add) ?_ | refine o_t x_gs ?_ | refine o_t x_gu ?_
              first | refine o_t (x_g (x_ia (m := 0 + (i + 1)) Tryz.underlying78 e78 (hm := by omega))) ?_ | refine o_t x_gs ?_ | refine o_t x_gu ?_
              first | refine o_t (x_g (x_ldR k5 Rd.all (get_u8 g1))) ?_ | refine o_t x_gs ?_ | refine o_t x_gu ?_
              first | refine o_t (x_g x_cmp) ?_ | refine o_t x_gs ?_ | refine o_t x_gu ?_
              refine o_t x_pick ?_
              refine o_t x_mv ?_
              first | refine o_t (x_g x_mv) ?_ | refine o_t x_gs ?_ | refine o_t x_gu ?_
              first | refine o_t (x_g x_mv) ?_ | refine o_t x_gs ?_ | refine o_t x_gu ?_
              first | refine o_t (x_g x_add) ?_ | refine o_t x_gs ?_ | refine o_t x_gu ?_
              first | refine o_t (x_g (x_ia (m := 0 + (i + 2)) Tryz.underlying78 e78 (hm := by omega))) ?_ | refine o_t x_gs ?_ | refine o_t x_gu ?_
              first | refine o_t (x_g (x_ldR k5 Rd.all (get_u8 g2))) ?_ | refine o_t x_gs ?_ | refine o_t x_gu ?_
              first | refine o_t (x_g x_cmp) ?_ | refine o_t x_gs ?_ | refine o_t x_gu ?_
              refine o_t x_pick ?_
              refine o_t x_mv ?_
              first | refine o_t (x_g x_mv) ?_ | refine o_t x_gs ?_ | refine o_t x_gu ?_
              first | refine o_t (x_g x_mv) ?_ | refine o_t x_gs ?_ | refine o_t x_gu ?_
              first | refine o_t (x_g x_add) ?_ | refine o_t x_gs ?_ | refine o_t x_gu ?_
              first | (refine o_gy (?_); refine o_t x_gs ?_) | refine o_t x_gs ?_ | refine o_t x_gu ?_
              first | (refine o_gy (?_); refine o_t x_gs ?_) | refine o_t x_gs ?_ | refine o_t x_gu ?_
              first | refine o_t (x_g x_cmp) ?_ | refine o_t x_gs ?_ | refine o_t x_gu ?_
              refine o_t x_pick ?_
              refine o_nil ?_
              exact ⟨(), wka, hka, trivial⟩
          · refine w_region ?_
            refine o_t x_mv ?_
            refine o_t x_mv ?_
            refine o_t (x_ia (m := 0 + i) Tryz.underlying78 e78 (hm := by omega)) ?_
            refine o_t (x_ldR k5 Rd.all (get_u8 g0)) ?_
            refine o_t x_cmp ?_
            refine o_t x_mv ?_
            first | refine o_t (x_g x_mv) ?_ | refine o_t x_gs ?_ | refine o_t x_gu ?_
            first | refine o_t (x_g x_mv) ?_ | refine o_t x_gs ?_ | refine o_t x_gu ?_
            first | refine o_t (x_g x_add) ?_ | refine o_t x_gs ?_ | refine o_t x_gu ?_
            first | refine o_t (x_g (x_ia (m := 0 + (i + 1)) Tryz.underlying78 e78 (hm := by omega))) ?_ | refine o_t x_gs ?_ | refine o_t x_gu ?_
            first | refine o_t (x_g (x_ldR k5 Rd.all (get_u8 g1))) ?_ | refine o_t x_gs ?_ | refine o_t x_gu ?_
            first | refine o_t (x_g x_cmp) ?_ | refine o_t x_gs ?_ | refine o_t x_gu ?_
            refine o_t x_pick ?_
            refine o_t x_mv ?_
            first | refine o_t (x_g x_mv) ?_ | refine o_t x_gs ?_ | refine o_t x_gu ?_
            first | refine o_t (x_g x_mv) ?_ | refine o_t x_gs ?_ | refine o_t x_gu ?_
            first | refine o_t (x_g x_add) ?_ | refine o_t x_gs ?_ | refine o_t x_gu ?_
            first | (refine o_gy (?_); refine o_t x_gs ?_) | refine o_t x_gs ?_ | refine o_t x_gu ?_
            first | (refine o_gy (?_); refine o_t x_gs ?_) | refine o_t x_gs ?_ | refine o_t x_gu ?_
            first | refine o_t (x_g x_cmp) ?_ | refine o_t x_gs ?_ | refine o_t x_gu ?_
            refine o_t x_pick ?_
            refine o_t x_mv ?_
            first | refine o_t (x_g x_mv) ?_ | refine o_t x_gs ?_ | refine o_t x_gu ?_
            first | refine o_t (x_g x_mv) ?_ | refine o_t x_gs ?_ | refine o_t x_gu ?_
            first | refine o_t (x_g x_add) ?_ | refine o_t x_gs ?_ | refine o_t x_gu ?_
            first | (refine o_gy (?_); refine o_t x_gs ?_) | refine o_t x_gs ?_ | refine o_t x_gu ?_
            first | (refine o_gy (?_); refine o_t x_gs ?_) | refine o_t x_gs ?_ | refine o_t x_gu ?_
            first | refine o_t (x_g x_cmp) ?_ | refine o_t x_gs ?_ | refine o_t x_gu ?_
            refine o_t x_pick ?_
            refine o_nil ?_
            exact ⟨(), wka, hka, trivial⟩
        · refine w_region ?_
          refine o_t x_mv ?_
          refine o_t x_mv ?_
          refine o_t (x_ia (m := 0 + i) Tryz.underlying78 e78 (hm := by omega)) ?_
          refine o_t (x_ldR k5 Rd.all (get_u8 g0)) ?_
          refine o_t x_cmp ?_
          refine o_t x_mv ?_
          first | refine o_t (x_g x_mv) ?_ | refine o_t x_gs ?_ | refine o_t x_gu ?_
          first | refine o_t (x_g x_mv) ?_ | refine o_t x_gs ?_ | refine o_t x_gu ?_
          first | refine o_t (x_g x_add) ?_ | refine o_t x_gs ?_ | refine o_t x_gu ?_
          first | (refine o_gy (?_); refine o_t x_gs ?_) | refine o_t x_gs ?_ | refine o_t x_gu ?_
          first | (refine o_gy (?_); refine o_t x_gs ?_) | refine o_t x_gs ?_ | refine o_t x_gu ?_
          first | refine o_t (x_g x_cmp) ?_ | refine o_t x_gs ?_ | refine o_t x_gu ?_
          refine o_t x_pick ?_
          refine o_t x_mv ?_
          first | refine o_t (x_g x_mv) ?_ | refine o_t x_gs ?_ | refine o_t x_gu ?_
          first | refine o_t (x_g x_mv) ?_ | refine o_t x_gs ?_ | refine o_t x_gu ?_
          first | refine o_t (x_g x_add) ?_ | refine o_t x_gs ?_ | refine o_t x_gu ?_
          first | (refine o_gy (?_); refine o_t x_gs ?_) | refine o_t x_gs ?_ | refine o_t x_gu ?_
          first | (refine o_gy (?_); refine o_t x_gs ?_) | refine o_t x_gs ?_ | refine o_t x_gu ?_
          first | refine o_t (x_g x_cmp) ?_ | refine o_t x_gs ?_ | refine o_t x_gu ?_
          refine o_t x_pick ?_
          refine o_t x_mv ?_
          first | refine o_t (x_g x_mv) ?_ | refine o_t x_gs ?_ | refine o_t x_gu ?_
          first | refine o_t (x_g x_mv) ?_ | refine o_t x_gs ?_ | refine o_t x_gu ?_
          first | refine o_t (x_g x_add) ?_ | refine o_t x_gs ?_ | refine o_t x_gu ?_
          first | (refine o_gy (?_); refine o_t x_gs ?_) | refine o_t x_gs ?_ | refine o_t x_gu ?_
          first | (refine o_gy (?_); refine o_t x_gs ?_) | refine o_t x_gs ?_ | refine o_t x_gu ?_
          first | refine o_t (x_g x_cmp) ?_ | refine o_t x_gs ?_ | refine o_t x_gu ?_
          refine o_t x_pick ?_
          refine o_nil ?_
          exact ⟨(), wka, hka, trivial⟩
      refine w_cond (t := false) (fun g => rfl) (fun hc => ?_) (fun hc => ?_) -- ('Go.Operand.tmp', 40)
      · cases hc
      refine w_skip ?_
      refine w_region ?_
      refine o_t x_mv ?_
      refine o_t x_sub ?_
      refine o_t x_as ?_
      refine o_nil ?_
      exact ⟨(i : Int) - 1, wka, hka, ⟨by omega, by omega⟩, by omega⟩
    · cases hc
  · exact absurd (show (0 : Int) ≤ x by omega) hx0
end Go.Proofs.YtlmefkhglooepaaGreatDoor
namespace Go.Proofs.YtlmefkhglooepaaGreatDoor
open Go
set_option linter.unusedSimpArgs false
set_option linter.unusedVariables false
section
variable {P : Program} {n : Nat} {G : Nat → Option Obj} {ops : Array Oper} {L : Loc} {H : List Res}
variable {d : Nat} {x y : Operand} {ty t t' : TypeId} {p : String} {e : Array Edge} {k : IntKind} {a b : Int}
def bitsW (op : BinOp) (k : IntKind) (a b : Int) : Int :=
  match op with
  | .and => k.wrap ((BitVec.ofInt k.bits a &&& BitVec.ofInt k.bits b).toNat : Int)
  | .or => k.wrap ((BitVec.ofInt k.bits a ||| BitVec.ofInt k.bits b).toNat : Int)
  | .xor => k.wrap ((BitVec.ofInt k.bits a ^^^ BitVec.ofInt k.bits b).toNat : Int)
  | _ => k.wrap ((BitVec.ofInt k.bits a &&& ~~~ BitVec.ofInt k.bits b).toNat : Int)
def isBits : BinOp → Bool
  | .and | .or | .xor | .andNot => true
  | _ => false
theorem y_bits {op : BinOp} (hx : ∀ g, evl L g x = .int k a := by intro g; rfl) (hy : ∀ g, evl L g y = .int k b := by intro g; rfl) (ho : isBits op = true := by rfl) (hn : d < n := by decide) :
    Ex P n G ops L H ⟨some d, .binOp op t x y t', ty, p, e, none⟩ d (.int k (bitsW op k a b)) :=
  .mk hn (fun _ _ g w _ => by
    cases op <;> first | (simp [isBits] at ho; done) | (simp [execOp, hx g, hy g, binOp, Op.intBits, eqGuard_int, bitsW]))
theorem r_5 {fn : Func} {Q : Value → List Res → Prop} {H' : List Res} {t1 t2 t3 t4 t5 : Nat} {v1 v2 v3 v4 v5 : Value} (hr : fn.results = #[.tmp t1, .tmp t2, .tmp t3, .tmp t4, .tmp t5])
    (e1 : ∀ g, val L g t1 = v1) (e2 : ∀ g, val L g t2 = v2) (e3 : ∀ g, val L g t3 = v3) (e4 : ∀ g, val L g t4 = v4) (e5 : ∀ g, val L g t5 = v5) (hH : HWk H H') (h : Q (.tuple #[v1, v2, v3, v4, v5]) H') : retP P n fn Q .ret L H := by
  refine ⟨_, _, fun F g a w ha _ => ?_, hH, h⟩
  have h1 := (ha.get t1).trans (e1 g)
  have h2 := (ha.get t2).trans (e2 g)
  have h3 := (ha.get t3).trans (e3 g)
  have h4 := (ha.get t4).trans (e4 g)
  have h5 := (ha.get t5).trans (e5 g)
  simp only [Array.getD_eq_getD_getElem?] at h1 h2 h3 h4 h5
  simp [results, hr, h1, h2, h3, h4, h5]
end
end Go.Proofs.YtlmefkhglooepaaGreatDoor
