/- Package crc32: the tables. Package crc32: slicing by eight. Package crc32: the update; the running checksum. Opening a file of an archive: helpers. Opening a file of an archive; reading its content. Reading a file's content: the reader that checks. impl.Content. impl.Content. The statement's archive as a text of records, in plain Lean. -/
import Derived.Test.YtlmefkhglooepaaGreatDoorPart7
import Derived.Stop.Asserts
set_option linter.unusedSimpArgs false
set_option linter.unusedVariables false
namespace Go.Proofs.YtlmefkhglooepaaGreatDoor
open Go
set_option linter.unusedSimpArgs false
set_option linter.unusedVariables false
variable {G : Nat → Option Obj} {ea : Nat → Addr}
theorem e316 : szOf P 77 = some 1 := by kernel_rfl
theorem e320 : szOf P 316 = some 256 := by kernel_rfl
def comp (c : Nat) : Nat := c ^^^ 4294967295
theorem xlt {a b : Nat} (ha : a < 4294967296) (hb : b < 4294967296) : a ^^^ b < 4294967296 := Nat.xor_lt_two_pow (n := 32) ha hb
theorem comp_lt {c : Nat} (h : c < 4294967296) : comp c < 4294967296 := xlt h (by omega)
theorem xor_twice (m c : Nat) : c ^^^ m ^^^ m = c := by rw [Nat.xor_assoc, Nat.xor_self, Nat.xor_zero]
theorem comp_comp (c : Nat) : comp (comp c) = c := xor_twice 4294967295 c
theorem wrap_xor {m c : Nat} (hm : m < 4294967296) (hc : c < 4294967296) : IntKind.wrap .u32 ((BitVec.ofInt 32 (m : Int) ^^^ BitVec.ofInt 32 (c : Int)).toNat : Int) = ((m ^^^ c : Nat) : Int) := by
  rw [BitVec.toNat_xor, ofInt_nat (by omega) (by simpa using hm), ofInt_nat (by omega) (by simpa using hc)]
  simp only [Int.toNat_natCast]
  exact wrap_lt (by simp only [IntKind.bits]; exact xlt hm hc) (by simp [IntKind.signed])
theorem crcT_comp (l : List UInt8) : crcT l = comp (crcFrom 4294967295 l) := rfl
theorem crcFrom_append (c : Nat) (l m : List UInt8) : crcFrom c (l ++ m) = crcFrom (crcFrom c l) m := by simp [crcFrom]
section
variable {n : Nat} {ops : Array Oper} {L : Loc} {H : List Res} {d : Nat} {x y : Operand} {ty t t' : TypeId} {p : String} {e : Array Edge}
theorem x_com {c : Nat} (hx : ∀ g, evl L g x = .int .u32 (c : Nat) := by intro g; rfl) (hc : c < 4294967296 := by assumption) (hn : d < n := by decide) :
    Ex P n G ops L H ⟨some d, .unOp .xor t x, ty, p, e, none⟩ d (.int .u32 (comp c : Nat)) :=
  .mk hn (fun _ _ g w _ => by
    have h1 : IntKind.wrap .u32 ((BitVec.ofInt 32 4294967295 ^^^ BitVec.ofInt 32 (c : Int)).toNat : Int) = ((comp c : Nat) : Int) := by
      have := wrap_xor (m := 4294967295) (c := c) (by omega) hc
      rw [Nat.xor_comm 4294967295 c] at this
      exact this
    have h2 : (Op.unary .xor (.int .u32 (c : Int))).run P w = .ok (.int .u32 (comp c : Nat)) w := by
      show (Op.intBits .xor .u32 (if IntKind.u32.signed then -1 else IntKind.u32.max) c).run P w = _
      have h3 : (if IntKind.u32.signed then (-1 : Int) else IntKind.u32.max) = 4294967295 := by simp [IntKind.signed, IntKind.max, IntKind.bits]
      rw [h3]
      show (pure (Value.int .u32 (IntKind.wrap .u32 ((BitVec.ofInt 32 4294967295 ^^^ BitVec.ofInt 32 (c : Int)).toNat : Int))) : Sem Value).run P w = _
      rw [h1]; rfl
    simp [execOp, hx g, h2])
theorem x_xr {a b : Nat} (hx : ∀ g, evl L g x = .int .u32 (a : Nat) := by intro g; rfl) (hy : ∀ g, evl L g y = .int .u32 (b : Nat) := by intro g; rfl) (ha : a < 4294967296 := by repeat' (first | assumption | apply xlt)) (hb : b < 4294967296 := by repeat' (first | assumption | apply xlt)) (hn : d < n := by decide) :
    Ex P n G ops L H ⟨some d, .binOp .xor t x y t', ty, p, e, none⟩ d (.int .u32 ((a ^^^ b : Nat) : Int)) :=
  x_xor hx hy ⟨by omega, by simp only [Int.toNat_natCast]; exact ⟨by simp only [IntKind.bits]; omega, by simp [IntKind.signed]⟩⟩ ⟨by omega, by simp only [Int.toNat_natCast]; exact ⟨by simp only [IntKind.bits]; omega, by simp [IntKind.signed]⟩⟩ hn
theorem x_xr8 {a b : Nat} (hx : ∀ g, evl L g x = .int .u8 (a : Nat) := by intro g; rfl) (hy : ∀ g, evl L g y = .int .u8 (b : Nat) := by intro g; rfl) (ha : a < 256 := by omega) (hb : b < 256 := by omega) (hn : d < n := by decide) :
    Ex P n G ops L H ⟨some d, .binOp .xor t x y t', ty, p, e, none⟩ d (.int .u8 ((a ^^^ b : Nat) : Int)) :=
  x_xor hx hy ⟨by omega, by simp only [Int.toNat_natCast]; exact ⟨by simp only [IntKind.bits]; omega, by simp [IntKind.signed]⟩⟩ ⟨by omega, by simp only [Int.toNat_natCast]; exact ⟨by simp only [IntKind.bits]; omega, by simp [IntKind.signed]⟩⟩ hn
theorem x_srN {a j M : Nat} {k' : IntKind} (hM : M = 2 ^ j := by rfl) (hj : j ≤ 31 := by decide) (hx : ∀ g, evl L g x = .int .u32 (a : Nat) := by intro g; rfl) (hy : ∀ g, evl L g y = .int k' (j : Nat) := by intro g; rfl) (hn : d < n := by decide) :
    Ex P n G ops L H ⟨some d, .binOp .shr t x y t', ty, p, e, none⟩ d (.int .u32 ((a / M : Nat) : Int)) := by
  subst hM
  exact x_shr (c := ((2 ^ j : Nat) : Int)) hx hy (by omega) (by simp only [Int.toNat_natCast, IntKind.bits]; rw [Nat.min_eq_left (by omega)]; simp) (Int.natCast_nonneg _) (by simp) hn
end
/-- The tables' cells. -/
def tabC (F : Nat → Nat) : List Value := (List.range 2048).map fun k => .int .u32 (F k : Nat)
theorem tabC_len (F : Nat → Nat) : (tabC F).length = 2048 := by simp [tabC]
theorem tabC_get {F : Nat → Nat} {k : Nat} (h : k < 2048) : (tabC F)[k]? = some (.int .u32 (F k : Nat)) := by simp [tabC, h]
theorem tabC_zero : List.replicate 2048 (Value.int .u32 0) = tabC fun _ => 0 := by
  apply List.ext_getElem?
  intro k
  by_cases h : k < 2048
  · rw [tabC_get h, List.getElem?_replicate, if_pos h]; rfl
  · rw [List.getElem?_eq_none (by rw [List.length_replicate]; omega), List.getElem?_eq_none (by rw [tabC_len]; omega)]
def upd (F : Nat → Nat) (m x : Nat) : Nat → Nat := fun k => if k = m then x else F k
theorem tabC_set (F : Nat → Nat) (m x : Nat) : (tabC F).set m (.int .u32 (x : Nat)) = tabC (upd F m x) := by
  apply List.ext_getElem?
  intro k
  rw [List.getElem?_set]
  by_cases h : k < 2048
  · rw [tabC_get h, tabC_get h]
    by_cases hk : m = k
    · subst hk; simp [upd, h, tabC_len]
    · rw [if_neg hk, upd, if_neg (fun e => hk e.symm)]
  · have e1 : ∀ F, (tabC F)[k]? = none := fun F => List.getElem?_eq_none (by rw [tabC_len]; omega)
    rw [e1, e1, tabC_len]
    split
    · rw [if_neg (by omega)]
    · rfl
theorem upd_same (F : Nat → Nat) (m x : Nat) : upd F m x m = x := if_pos rfl
theorem upd_ne (F : Nat → Nat) {m k : Nat} (x : Nat) (h : k ≠ m) : upd F m x k = F k := if_neg h
theorem cbits_lt' (k c : Nat) (h : c < 4294967296) : cbits k c < 4294967296 := cbits_lt k h
theorem cPopulate (tb : Nat) (F : Nat → Nat) : Fn P G 190 #[.int .u32 3988292384, .pointer (some ⟨tb, 0, none⟩)] [pt tb (tabC F) 320] fun v H => ∃ F', (∀ k, k < 256 → F' k = zk 1 k) ∧ H = [pt tb (tabC F') 320] := by
  refine fn_intro (args := [_,_]) Tryz.func190 Tryz.ntmps190 rfl ?_
  refine w_seq ?_
  refine w_region ?_
  refine o_t x_as ?_
  refine o_nil ?_
  refine w_block ?_ -- 0
  refine w_loop (α := Nat × (Nat → Nat)) (fun x => [(0, .int .u32 3988292384), (1, .pointer (some ⟨tb, 0, none⟩)), (4, .int .i64 x.1)]) (fun x => [pt tb (tabC x.2) 320]) (fun x => x.1 ≤ 256 ∧ ∀ k, k < x.1 → x.2 k = zk 1 k) (fun x => 256 - x.1) (0, F) (wka) (hka) ⟨by simp, by intro k hk; simp at hk⟩ ?_
  rintro ⟨i, F⟩ ⟨hi, hF⟩
  dsimp only at hi hF ⊢
  refine w_seq ?_
  refine w_seq ?_
  by_cases hil : i < 256
  case neg =>
    obtain rfl : i = 256 := by omega
    refine w_region ?_
    refine o_t x_mv ?_
    refine o_t x_cmp ?_
    refine o_nil ?_
    refine w_cond (t := false) (fun g => rfl) (fun hc => ?_) (fun hc => ?_) -- ('Go.Operand.tmp', 8)
    · cases hc
    refine w_exit ?_ -- 0
    exact r_0n rfl ⟨F, hF, rfl⟩
  refine w_region ?_
  refine o_t x_mv ?_
  refine o_t x_cmp ?_
  refine o_nil ?_
  refine w_cond (t := true) (fun g => rfl) (fun hc => ?_) (fun hc => ?_) -- ('Go.Operand.tmp', 8)
  case refine_2 => cases hc
  refine w_skip ?_
  refine w_seq ?_
  refine w_block ?_ -- 1
  refine w_seq ?_
  refine w_region ?_
  refine o_t x_mv ?_
  refine o_t (x_cv ⟨_, Tryz.underlying3⟩ Tryz.underlying77) ?_
  refine o_t x_as ?_
  refine o_nil ?_
  refine w_cut (α := Unit) (fun _ => [(0, .int .u32 3988292384), (1, .pointer (some ⟨tb, 0, none⟩)), (4, .int .i64 i), (5, .int .u32 ((cbits 8 i : Nat) : Int))]) (fun _ => [pt tb (tabC F) 320]) (fun _ => True) ?_ (fun _ _ => ?_)
  · refine w_seq ?_
    refine w_region ?_
    refine o_t x_as ?_
    refine o_nil ?_
    refine w_block ?_ -- 2
    refine w_loop (α := Nat) (fun x => [(0, .int .u32 3988292384), (1, .pointer (some ⟨tb, 0, none⟩)), (4, .int .i64 i), (5, .int .u32 ((cbits x i : Nat) : Int)), (6, .int .i64 x)]) (fun x => [pt tb (tabC F) 320]) (fun x => x ≤ 8) (fun x => 8 - x) 0 (wka) (hka) (by decide) ?_
    intro j hj
    have hcl := cbits_lt' j i (by omega)
    have hsn := cbits_snoc j i
    obtain ⟨c, hc0⟩ : ∃ c, cbits j i = c := ⟨_, rfl⟩
    rw [hc0] at hcl hsn
    refine w_seq ?_
    refine w_seq ?_
    by_cases hjl : j < 8
    case neg =>
      obtain rfl : j = 8 := by omega
      refine w_region ?_
      refine o_t x_mv ?_
      refine o_t x_cmp ?_
      refine o_nil ?_
      refine w_cond (t := false) (fun g => rfl) (fun hc => ?_) (fun hc => ?_) -- ('Go.Operand.tmp', 14)
      · cases hc
      refine w_exit ?_ -- 2
      exact ⟨(), wka, hka, trivial⟩
    rw [hc0]
    refine w_region ?_
    refine o_t x_mv ?_
    refine o_t x_cmp ?_
    refine o_nil ?_
    refine w_cond (t := true) (fun g => rfl) (fun hc => ?_) (fun hc => ?_) -- ('Go.Operand.tmp', 14)
    case refine_2 => cases hc
    refine w_skip ?_
    refine w_cut (α := Unit) (fun _ => [(0, .int .u32 3988292384), (1, .pointer (some ⟨tb, 0, none⟩)), (4, .int .i64 i), (5, .int .u32 ((cbit c : Nat) : Int)), (6, .int .i64 j)]) (fun _ => [pt tb (tabC F) 320]) (fun _ => True) ?_ (fun _ _ => ?_)
    · refine w_block ?_ -- 3
      refine w_seq ?_
      by_cases hb : c % 2 = 1
      · refine w_region ?_
        refine o_t x_mv ?_
        refine o_t (x_am 1) ?_
        refine o_t x_cmp ?_
        refine o_nil ?_
        refine w_cond (t := true) (fun g => rfl) (fun hc => ?_) (fun hc => ?_) -- ('Go.Operand.tmp', 19)
        · --
          refine w_region ?_
          refine o_t x_mv ?_
          refine o_t (x_shr (z := ((c / 2 : Nat) : Int)) (hz := by omega)) ?_
          refine o_t x_mv ?_
          refine o_t (Ex.cast (congrArg (fun z : Nat => Value.int .u32 (z : Int)) (show c / 2 ^^^ 3988292384 = cbit c by rw [cbit, if_pos hb])) (x_xr (b := 3988292384) (ha := by omega) (hb := by decide))) ?_
          refine o_t x_as ?_
          refine o_nil ?_
          exact ⟨(), wka, hka, trivial⟩
        · cases hc
      · refine w_region ?_
        refine o_t x_mv ?_
        refine o_t (x_am 1) ?_
        refine o_t x_cmp ?_
        refine o_nil ?_
        refine w_cond (t := false) (fun g => rfl) (fun hc => ?_) (fun hc => ?_) -- ('Go.Operand.tmp', 19)
        · cases hc
        · --
          refine w_region ?_
          refine o_t x_mv ?_
          refine o_t (x_shr (z := ((cbit c : Nat) : Int)) (hz := by rw [cbit, if_neg hb]; omega)) ?_
          refine o_t x_as ?_
          refine o_nil ?_
          exact ⟨(), wka, hka, trivial⟩
    refine w_region ?_
    refine o_t x_mv ?_
    refine o_t x_add ?_
    refine o_t x_as ?_
    refine o_nil ?_
    exact ⟨j + 1, .cons (fun _ => rfl) (.cons (fun _ => rfl) (.cons (fun _ => rfl) (.cons (fun _ => congrArg (fun z : Nat => Value.int .u32 (z : Int)) hsn.symm) (.cons (fun _ => rfl) (.nil _))))), hka, by omega, by omega⟩
  refine w_region ?_
  refine o_t x_mv ?_
  refine o_t x_mv ?_
  refine o_t x_mv ?_
  refine o_t x_nc ?_
  refine o_t (x_iaa (m := i) Tryz.underlying316 e316 (hm := by omega)) ?_
  refine o_st k77 ?_ (hi := by rw [tabC_len]; omega) (hc := tabC_set F i (cbits 8 i))
  refine o_nil ?_
  refine w_region ?_
  refine o_t x_mv ?_
  refine o_t x_add ?_
  refine o_t x_as ?_
  refine o_nil ?_
  refine ⟨(i + 1, upd F i (cbits 8 i)), wka, hka, ⟨by dsimp only; omega, ?_⟩, by dsimp only; omega⟩
  dsimp only
  intro k hk
  by_cases hki : k = i
  · subst hki; rw [upd_same]; rfl
  · rw [upd_ne _ _ hki]; exact hF k (by omega)
end Go.Proofs.YtlmefkhglooepaaGreatDoor
namespace Go.Proofs.YtlmefkhglooepaaGreatDoor
open Go
set_option linter.unusedSimpArgs false
set_option linter.unusedVariables false
variable {G : Nat → Option Obj} {ea : Nat → Addr}
/-- The tables as far as they are made. -/
structure TabD (F : Nat → Nat) (i j : Nat) : Prop where
  zero : ∀ k, k < 256 → F k = zk 1 k
  rest : ∀ j' i', 1 ≤ j' → j' < 8 → i' < 256 → (i' < i ∨ (i' = i ∧ j' < j)) → F (j' * 256 + i') = zk (j' + 1) i'
def TabOK (F : Nat → Nat) : Prop := ∀ j i, j < 8 → i < 256 → F (j * 256 + i) = zk (j + 1) i
theorem TabD.done {F : Nat → Nat} {j : Nat} (h : TabD F 256 j) : TabOK F := by
  intro j i hj hi
  by_cases h0 : j = 0
  · subst h0; rw [Nat.zero_mul, Nat.zero_add]; exact h.zero i hi
  · exact h.rest j i (by omega) hj hi (.inl hi)
theorem TabD.next {F : Nat → Nat} {i : Nat} (h : TabD F i 8) : TabD F (i + 1) 1 :=
  ⟨h.zero, fun j' i' h1 h2 h3 h4 => h.rest j' i' h1 h2 h3 (by omega)⟩
theorem TabD.step {F : Nat → Nat} {i j : Nat} (h : TabD F i j) (hj : 1 ≤ j) (hj8 : j < 8) (hi : i < 256) : TabD (upd F (j * 256 + i) (zk (j + 1) i)) i (j + 1) := by
  refine ⟨fun k hk => ?_, fun j' i' h1 h2 h3 h4 => ?_⟩
  · rw [upd_ne _ _ (by omega)]; exact h.zero k hk
  · by_cases he : j' * 256 + i' = j * 256 + i
    · have e1 : j' = j := by omega
      have e2 : i' = i := by omega
      subst e1; subst e2; rw [upd_same]
    · rw [upd_ne _ _ he]
      refine h.rest j' i' h1 h2 h3 ?_
      rcases h4 with h4 | ⟨rfl, h4⟩
      · exact .inl h4
      · exact .inr ⟨rfl, by omega⟩
section
variable {n : Nat} {ops : Array Oper} {L : Loc} {H : List Res} {d : Nat} {x y : Operand} {ty t t' : TypeId} {p : String} {e : Array Edge}
theorem x_orN {a b c : Nat} (hc : a ||| b = c) (ha : a < 4294967296) (hb : b < 4294967296) (hx : ∀ g, evl L g x = .int .u32 (a : Nat) := by intro g; rfl) (hy : ∀ g, evl L g y = .int .u32 (b : Nat) := by intro g; rfl) (hn : d < n := by decide) :
    Ex P n G ops L H ⟨some d, .binOp .or t x y t', ty, p, e, none⟩ d (.int .u32 (c : Nat)) := by
  subst hc
  exact x_or hx hy ⟨by omega, by simp only [Int.toNat_natCast]; exact ⟨by simp only [IntKind.bits]; omega, by simp [IntKind.signed]⟩⟩ ⟨by omega, by simp only [Int.toNat_natCast]; exact ⟨by simp only [IntKind.bits]; omega, by simp [IntKind.signed]⟩⟩ hn
end
theorem cMakeTab : Fn P G 187 #[.int .u32 3988292384] [] fun v H => ∃ tb F, v = .pointer (some ⟨tb, 0, none⟩) ∧ TabOK F ∧ H = [pt tb (tabC F) 320] := by
  refine fn_intro (args := [_]) Tryz.func187 Tryz.ntmps187 rfl ?_
  refine w_seq ?_
  refine w_region ?_
  refine o_t x_as ?_
  refine o_nil ?_
  refine w_seq ?_
  refine w_region ?_
  refine o_al z320 (fun b7 => ?_)
  refine o_t x_as ?_
  refine o_nil ?_
  rw [tabC_zero]
  refine w_seq ?_
  refine w_region ?_
  refine o_t x_mv ?_
  refine o_t x_mv ?_
  refine o_t x_nc ?_
  refine o_t (x_iaa (m := 0) Tryz.underlying320 e320 (hm := by rfl)) ?_
  refine o_call Tryz.call190 haa spla (cPopulate b7 _) ?_
  rintro _ _ HH ⟨F0, hF0, rfl⟩ hHH
  simp only [List.cons_append, List.nil_append, List.append_nil] at hHH; subst hHH
  refine o_nil ?_
  refine w_cut (α := Nat → Nat) (fun F => [(3, .pointer (some ⟨b7, 0, none⟩))]) (fun F => [pt b7 (tabC F) 320]) (fun F => TabOK F) ?_ ?_
  · refine w_seq ?_
    refine w_region ?_
    refine o_t x_as ?_
    refine o_nil ?_
    refine w_block ?_ -- 0
    refine w_loop (α := Nat × (Nat → Nat)) (fun x => [(3, .pointer (some ⟨b7, 0, none⟩)), (4, .int .i64 x.1)]) (fun x => [pt b7 (tabC x.2) 320]) (fun x => x.1 ≤ 256 ∧ TabD x.2 x.1 1) (fun x => 256 - x.1) (0, F0) (wka) (hka) ⟨by simp, hF0, fun j' i' h1 h2 h3 h4 => by dsimp only at h4; omega⟩ ?_
    rintro ⟨i, F⟩ ⟨hi, hF⟩
    dsimp only at hi hF ⊢
    refine w_seq ?_
    refine w_seq ?_
    by_cases hil : i < 256
    case neg =>
      obtain rfl : i = 256 := by omega
      refine w_region ?_
      refine o_t x_mv ?_
      refine o_t x_cmp ?_
      refine o_nil ?_
      refine w_cond (t := false) (fun g => rfl) (fun hc => ?_) (fun hc => ?_) -- ('Go.Operand.tmp', 14)
      · cases hc
      refine w_exit ?_ -- 0
      exact ⟨F, wka, hka, hF.done⟩
    refine w_region ?_
    refine o_t x_mv ?_
    refine o_t x_cmp ?_
    refine o_nil ?_
    refine w_cond (t := true) (fun g => rfl) (fun hc => ?_) (fun hc => ?_) -- ('Go.Operand.tmp', 14)
    case refine_2 => cases hc
    refine w_skip ?_
    refine w_cut (α := Nat → Nat) (fun F => [(3, .pointer (some ⟨b7, 0, none⟩)), (4, .int .i64 i)]) (fun F => [pt b7 (tabC F) 320]) (fun F => TabD F i 8) ?_ ?_
    · refine w_block ?_ -- 1
      refine w_seq ?_
      refine w_region ?_
      refine o_t x_mv ?_
      refine o_t x_mv ?_
      refine o_t x_nc ?_
      refine o_t (x_iaa (m := 0) Tryz.underlying320 e320 (hm := by rfl)) ?_
      refine o_t (x_iaa (m := i) Tryz.underlying316 e316 (hm := by omega)) ?_
      refine o_t (x_ld k77 (hv := tabC_get (by omega))) ?_
      refine o_t x_as ?_
      refine o_nil ?_
      rw [hF.zero i hil]
      refine w_seq ?_
      refine w_region ?_
      refine o_t x_as ?_
      refine o_nil ?_
      refine w_block ?_ -- 2
      refine w_loop (α := Nat × (Nat → Nat)) (fun x => [(3, .pointer (some ⟨b7, 0, none⟩)), (4, .int .i64 i), (5, .int .u32 ((zk x.1 i : Nat) : Int)), (6, .int .i64 x.1)]) (fun x => [pt b7 (tabC x.2) 320]) (fun x => 1 ≤ x.1 ∧ x.1 ≤ 8 ∧ TabD x.2 i x.1) (fun x => 8 - x.1) (1, F) (wka) (hka) ⟨by simp, by simp, hF⟩ ?_
      rintro ⟨j, F⟩ ⟨hj1, hj, hF⟩
      dsimp only at hj1 hj hF ⊢
      have hcl := zk_lt j (c := i) (by omega)
      have htn := tab_next j i
      refine w_seq ?_
      refine w_seq ?_
      by_cases hjl : j < 8
      case neg =>
        obtain rfl : j = 8 := by omega
        refine w_region ?_
        refine o_t x_mv ?_
        refine o_t x_cmp ?_
        refine o_nil ?_
        refine w_cond (t := false) (fun g => rfl) (fun hc => ?_) (fun hc => ?_) -- ('Go.Operand.tmp', 24)
        · cases hc
        refine w_exit ?_ -- 2
        exact ⟨F, wka, hka, hF⟩
      refine w_region ?_
      refine o_t x_mv ?_
      refine o_t x_cmp ?_
      refine o_nil ?_
      refine w_cond (t := true) (fun g => rfl) (fun hc => ?_) (fun hc => ?_) -- ('Go.Operand.tmp', 24)
      case refine_2 => cases hc
      refine w_skip ?_
      obtain ⟨c, hc0⟩ : ∃ c, zk j i = c := ⟨_, rfl⟩
      rw [hc0] at hcl htn ⊢
      have hz1 := hF.zero (c % 256) (by omega)
      have hz2 := zk_lt 1 (c := c % 256) (by omega)
      have hz3 : c / 256 < 4294967296 := by omega
      refine w_cut (α := Unit) (fun _ => [(3, .pointer (some ⟨b7, 0, none⟩)), (4, .int .i64 i), (5, .int .u32 ((zk (j + 1) i : Nat) : Int)), (6, .int .i64 j)]) (fun _ => [pt b7 (tabC (upd F (j * 256 + i) (zk (j + 1) i))) 320]) (fun _ => True) ?_ (fun _ _ => ?_)
      · refine w_block ?_ -- 3
        refine w_seq ?_
        refine w_region ?_
        refine o_t x_mv ?_
        refine o_t x_mv ?_
        refine o_t (x_am 8) ?_
        refine o_t x_nc ?_
        refine o_t (x_iaa (m := 0) Tryz.underlying320 e320 (hm := by rfl)) ?_
        refine o_t (x_iaa (m := c % 256) Tryz.underlying316 e316 (hr := by omega) (hm := by omega)) ?_
        refine o_t (Ex.cast (congrArg (fun z : Nat => Value.int .u32 (z : Int)) hz1) (x_ld k77 (hv := tabC_get (by omega)))) ?_
        refine o_t x_mv ?_
        refine o_t (x_srN (M := 256) (j := 8)) ?_
        refine o_t (Ex.cast (congrArg (fun z : Nat => Value.int .u32 (z : Int)) (show zk 1 (c % 256) ^^^ c / 256 = zk (j + 1) i from htn)) x_xr) ?_
        refine o_t x_as ?_
        refine o_nil ?_
        refine w_region ?_
        refine o_t x_mv ?_
        refine o_t x_mv ?_
        refine o_t x_mv ?_
        refine o_t x_mv ?_
        refine o_t x_nc ?_
        refine o_t (x_iaa (m := j * 256) Tryz.underlying320 e320 (hm := by omega)) ?_
        refine o_t (x_iaa (m := j * 256 + i) Tryz.underlying316 e316 (hm := by omega)) ?_
        refine o_st k77 ?_ (hi := by rw [tabC_len]; omega) (hc := tabC_set F (j * 256 + i) (zk (j + 1) i))
        refine o_nil ?_
        exact ⟨(), wka, hka, trivial⟩
      refine w_region ?_
      refine o_t x_mv ?_
      refine o_t x_add ?_
      refine o_t x_as ?_
      refine o_nil ?_
      exact ⟨(j + 1, upd F (j * 256 + i) (zk (j + 1) i)), wka, hka, ⟨by dsimp only; omega, by dsimp only; omega, hF.step hj1 hjl hil⟩, by dsimp only; omega⟩
    intro F hF
    refine w_region ?_
    refine o_t x_mv ?_
    refine o_t x_add ?_
    refine o_t x_as ?_
    refine o_nil ?_
    exact ⟨(i + 1, F), wka, hka, ⟨by dsimp only; omega, hF.next⟩, by dsimp only; omega⟩
  intro F hF
  refine w_seq ?_
  refine w_region ?_
  refine o_t x_mv ?_
  refine o_t x_as ?_
  refine o_nil ?_
  refine w_ret (r_1 rfl ⟨b7, F, rfl, hF, rfl⟩)
theorem TabOK.get {F : Nat → Nat} (h : TabOK F) {j i : Nat} (hj : j < 8) (hi : i < 256) : (tabC F)[j * 256 + i]? = some (.int .u32 (zk (j + 1) i : Nat)) := by
  rw [tabC_get (by omega), h j i hj hi]
/-- Four bytes as a number. -/
theorem cLe32' (v : Value) (r : Res) (l : List UInt8) (b0 b1 b2 b3 : UInt8) (t : List UInt8) (hl : l = b0 :: b1 :: b2 :: b3 :: t) (h : Sl G r v l) : Fn P G 188 #[v] [r] fun v' H => v' = .int .u32 (num [b0, b1, b2, b3] : Nat) ∧ H = [r] := by
  obtain ⟨b, o, cap, rfl, hc, hr⟩ := h
  have h0 := b0.toNat_lt
  have h1 := b1.toNat_lt
  have h2 := b2.toNat_lt
  have h3 := b3.toNat_lt
  have hll : 4 ≤ l.length := by rw [hl]; simp
  have g0 : (l.map u8)[0]? = some (.int .u8 b0.toNat) := by rw [hl]; rfl
  have g1 : (l.map u8)[1]? = some (.int .u8 b1.toNat) := by rw [hl]; rfl
  have g2 : (l.map u8)[2]? = some (.int .u8 b2.toNat) := by rw [hl]; rfl
  have g3 : (l.map u8)[3]? = some (.int .u8 b3.toNat) := by rw [hl]; rfl
  have fitu : ∀ m : Nat, m < 4294967296 → fitB .u32 m := fun m h => ⟨by simp only [IntKind.bits]; omega, by simp [IntKind.signed]⟩
  have or1 : b0.toNat ||| b1.toNat * 256 = b0.toNat + b1.toNat * 256 := or_shl _ _ 8 h0
  have or2 : b0.toNat + b1.toNat * 256 ||| b2.toNat * 65536 = b0.toNat + b1.toNat * 256 + b2.toNat * 65536 := or_shl _ _ 16 (by omega)
  have or3 : b0.toNat + b1.toNat * 256 + b2.toNat * 65536 ||| b3.toNat * 16777216 = b0.toNat + b1.toNat * 256 + b2.toNat * 65536 + b3.toNat * 16777216 := or_shl _ _ 24 (by omega)
  refine fn_intro (args := [_]) Tryz.func188 Tryz.ntmps188 rfl ?_
  refine w_seq ?_
  refine w_region ?_
  refine o_t x_as ?_
  refine o_nil ?_
  refine w_seq ?_
  refine w_region ?_
  refine o_t x_mv ?_
  refine o_t (x_ia (m := o + 3) Tryz.underlying78 e78 (hm := by simp)) ?_
  refine o_t (x_ldR k5 hr g3) ?_
  refine o_nil ?_
  refine w_seq ?_
  refine w_quiet mixed (by kernel_rfl) ?_
  refine q_t x_mv ?_
  refine q_t (x_ia (m := o + 0) Tryz.underlying78 e78 (hm := by simp)) ?_
  refine q_t (x_ldR k5 hr g0) ?_
  refine q_t (x_cv ⟨_, Tryz.underlying5⟩ Tryz.underlying77) ?_
  refine q_t x_mv ?_
  refine q_t (x_ia (m := o + 1) Tryz.underlying78 e78 (hm := by simp)) ?_
  refine q_t (x_ldR k5 hr g1) ?_
  refine q_t (x_cv ⟨_, Tryz.underlying5⟩ Tryz.underlying77) ?_
  refine q_t (x_shl (z := ((b1.toNat * 256 : Nat) : Int)) (hz := (w_u32 (by omega)).trans (by omega))) ?_
  refine q_t (x_orN or1 (by omega) (by omega)) ?_
  refine q_t x_mv ?_
  refine q_t (x_ia (m := o + 2) Tryz.underlying78 e78 (hm := by simp)) ?_
  refine q_t (x_ldR k5 hr g2) ?_
  refine q_t (x_cv ⟨_, Tryz.underlying5⟩ Tryz.underlying77) ?_
  refine q_t (x_shl (z := ((b2.toNat * 65536 : Nat) : Int)) (hz := (w_u32 (by omega)).trans (by omega))) ?_
  refine q_t (x_orN or2 (by omega) (by omega)) ?_
  refine q_t x_mv ?_
  refine q_t (x_ia (m := o + 3) Tryz.underlying78 e78 (hm := by simp)) ?_
  refine q_t (x_ldR k5 hr g3) ?_
  refine q_t (x_cv ⟨_, Tryz.underlying5⟩ Tryz.underlying77) ?_
  refine q_t (x_shl (z := ((b3.toNat * 16777216 : Nat) : Int)) (hz := (w_u32 (by omega)).trans (by omega))) ?_
  refine q_t (x_orN or3 (by omega) (by omega)) ?_
  refine q_t x_as ?_
  refine q_nil ?_
  refine w_ret (r_1 rfl ⟨?_, rfl⟩)
  refine congrArg (Value.int .u32) ?_
  simp only [num]; omega
end Go.Proofs.YtlmefkhglooepaaGreatDoor
namespace Go.Proofs.YtlmefkhglooepaaGreatDoor
open Go
set_option linter.unusedSimpArgs false
set_option linter.unusedVariables false
variable {G : Nat → Option Obj} {ea : Nat → Addr}
theorem wu8 (c : Nat) : IntKind.wrap .u8 (c : Int) = ((c % 256 : Nat) : Int) := by simp [IntKind.wrap, IntKind.bits, IntKind.signed]
theorem crcFrom_take (c : Nat) (l : List UInt8) (j : Nat) (b : UInt8) (h : l[j]? = some b) : crcFrom c (l.take (j + 1)) = cbyte (crcFrom c (l.take j)) b := by
  rw [List.take_add_one, h]; simp [crcFrom]
theorem eight : ∀ (m : List UInt8), 8 < m.length → ∃ b0 b1 b2 b3 b4 b5 b6 b7 t, b0 :: b1 :: b2 :: b3 :: b4 :: b5 :: b6 :: b7 :: t = m
  | b0 :: b1 :: b2 :: b3 :: b4 :: b5 :: b6 :: b7 :: t, _ => ⟨b0, b1, b2, b3, b4, b5, b6, b7, t, rfl⟩
  | [], h => by simp at h
  | [_], h => by simp at h
  | [_, _], h => by simp at h
  | [_, _, _], h => by simp at h
  | [_, _, _, _], h => by simp at h
  | [_, _, _, _, _], h => by simp at h
  | [_, _, _, _, _, _], h => by simp at h
  | [_, _, _, _, _, _, _], h => by simp at h
theorem cSimpleUpd (tb : Nat) (F : Nat → Nat) (hT : TabOK F) (c : Nat) (hcb : c < 4294967296) (v : Value) (r : Res) (l : List UInt8) (h : Sl G r v l) (hl : l.length ≤ 2147483647) :
    Fn P G 189 #[.int .u32 (c : Nat), .pointer (some ⟨tb, 0, none⟩), v] [pt tb (tabC F) 320, r] fun v' H => v' = .int .u32 (comp (crcFrom (comp c) l) : Nat) ∧ H = [pt tb (tabC F) 320, r] := by
  obtain ⟨b, o, cap, rfl, hcap, hr⟩ := h
  have hcc := comp_lt hcb
  refine fn_intro (args := [_,_,_]) Tryz.func189 Tryz.ntmps189 rfl ?_
  refine w_seq ?_
  refine w_region ?_
  refine o_t x_as ?_
  refine o_nil ?_
  refine w_seq ?_
  refine w_region ?_
  refine o_t x_mv ?_
  refine o_t (x_com) ?_
  refine o_t x_as ?_
  refine o_nil ?_
  refine w_cut (α := Unit) (fun _ => [(0, .int .u32 ((crcFrom (comp c) l : Nat) : Int))]) (fun _ => [pt tb (tabC F) 320, r]) (fun _ => True) ?_ (fun _ _ => ?_)
  · refine w_seq ?_
    refine w_region ?_
    refine o_t x_mv ?_
    refine o_t (x_lenb Tryz.underlying78) ?_
    refine o_t x_mv ?_
    refine o_nil ?_
    refine w_block ?_ -- 0
    refine w_loop (α := Nat) (fun x => [(0, .int .u32 ((crcFrom (comp c) (l.take x) : Nat) : Int)), (1, .pointer (some ⟨tb, 0, none⟩)), (11, .slice (some ⟨b, o, none⟩) l.length cap), (12, .int .i64 l.length), (13, .int .i64 x)]) (fun x => [pt tb (tabC F) 320, r]) (fun x => x ≤ l.length) (fun x => l.length - x) 0 (wka) (hka) (Nat.zero_le _) ?_
    intro j hj
    refine w_seq ?_
    by_cases hjl : j < l.length
    case neg =>
      obtain rfl : j = l.length := by omega
      rw [List.take_length]
      refine w_region ?_
      refine o_t x_cmp ?_
      refine o_nil ?_
      refine w_seq ?_
      refine w_cond (t := false) (fun g => rfl) (fun hc => ?_) (fun hc => ?_) -- ('Go.Operand.tmp', 14)
      · cases hc
      refine w_exit ?_ -- 0
      exact ⟨(), wka, hka, trivial⟩
    have g0 := List.getElem?_eq_getElem (l := l) (i := j) hjl
    generalize l[j]'hjl = x at g0
    have hx8 := x.toNat_lt
    have hcl := crcFrom_lt (l.take j) hcc
    have hst := crcFrom_take (comp c) l j x g0
    obtain ⟨q, hq⟩ : ∃ q, crcFrom (comp c) (l.take j) = q := ⟨_, rfl⟩
    rw [hq] at hcl hst ⊢
    have htb := tab_byte q x
    have hz := zk_lt 1 (c := q % 256 ^^^ x.toNat) (by have := Nat.xor_lt_two_pow (n := 8) (x := q % 256) (y := x.toNat) (by omega) hx8; omega)
    have hz2 : q / 256 < 4294967296 := by omega
    have hxm : q % 256 ^^^ x.toNat < 256 := Nat.xor_lt_two_pow (n := 8) (by omega) hx8
    refine w_region ?_
    refine o_t x_cmp ?_
    refine o_nil ?_
    refine w_seq ?_
    refine w_cond (t := true) (fun g => rfl) (fun hc => ?_) (fun hc => ?_) -- ('Go.Operand.tmp', 14)
    case refine_2 => cases hc
    refine w_skip ?_
    refine w_seq ?_
    refine w_block ?_ -- 1
    refine w_seq ?_
    refine w_region ?_
    refine o_t (x_ia (m := o + j) Tryz.underlying78 e78 (hm := by omega)) ?_
    refine o_t (x_ldR k5 (hr.pull (.tail .head)) (get_u8 g0)) ?_
    refine o_t x_as ?_
    refine o_nil ?_
    refine w_region ?_
    refine o_t x_mv ?_
    refine o_t x_mv ?_
    refine o_t (x_cv (z := ((q % 256 : Nat) : Int)) ⟨_, Tryz.underlying77⟩ Tryz.underlying5 (hz := wu8 q)) ?_
    refine o_t x_mv ?_
    refine o_t (x_xr8) ?_
    refine o_t x_nc ?_
    refine o_t (x_iaa (m := 0 * 256 + (q % 256 ^^^ x.toNat)) Tryz.underlying316 e316 (hr := by omega) (hm := by omega)) ?_
    refine o_t (x_ld k77 (hv := hT.get (by decide) hxm)) ?_
    refine o_t x_mv ?_
    refine o_t (x_srN (M := 256) (j := 8)) ?_
    refine o_t (Ex.cast (congrArg (fun z : Nat => Value.int .u32 (z : Int)) (show zk (0 + 1) (q % 256 ^^^ x.toNat) ^^^ q / 256 = crcFrom (comp c) (l.take (j + 1)) from htb.trans hst.symm)) x_xr) ?_
    refine o_t x_as ?_
    refine o_nil ?_
    refine w_region ?_
    refine o_t x_add ?_
    refine o_t x_mv ?_
    refine o_nil ?_
    exact ⟨j + 1, wka, hka, by omega, by omega⟩
  have hfin := crcFrom_lt l hcc
  refine w_seq ?_
  refine w_region ?_
  refine o_t x_mv ?_
  refine o_t (x_com) ?_
  refine o_t x_as ?_
  refine o_nil ?_
  refine w_ret (r_1 rfl ⟨rfl, rfl⟩)
theorem cSlicing (tb : Nat) (F : Nat → Nat) (hT : TabOK F) (c : Nat) (hcb : c < 4294967296) (v : Value) (r : Res) (l : List UInt8) (h : Sl G r v l) (hl : l.length ≤ 2147483647) :
    Fn P G 186 #[.int .u32 (c : Nat), .pointer (some ⟨tb, 0, none⟩), v] [pt tb (tabC F) 320, r] fun v' H => v' = .int .u32 (comp (crcFrom (comp c) l) : Nat) ∧ H = [pt tb (tabC F) 320, r] := by
  obtain ⟨b, o, cap, hve, hcap, hr⟩ := id h
  have hcc := comp_lt hcb
  refine fn_intro (args := [_,_,_]) Tryz.func186 Tryz.ntmps186 rfl ?_
  refine w_seq ?_
  refine w_region ?_
  refine o_t x_as ?_
  refine o_nil ?_
  refine w_cut (α := Nat × List UInt8 × Value) (fun x => [(0, .int .u32 (x.1 : Nat)), (1, .pointer (some ⟨tb, 0, none⟩)), (2, x.2.2)]) (fun x => [pt tb (tabC F) 320, r]) (fun x => Sl G r x.2.2 x.2.1 ∧ x.1 < 4294967296 ∧ x.2.1.length ≤ 2147483647 ∧ crcFrom (comp x.1) x.2.1 = crcFrom (comp c) l) ?_ ?_
  · refine w_seq ?_
    by_cases h16 : 16 ≤ l.length
    case neg =>
      refine w_region ?_
      refine o_t x_mv ?_
      refine o_t (x_lenb Tryz.underlying78 (hx := fun g => by subst hve; rfl)) ?_
      refine o_t x_cmp ?_
      refine o_nil ?_
      refine w_cond (t := false) (fun g => rfl) (fun hc => ?_) (fun hc => ?_) -- ('Go.Operand.tmp', 9)
      · cases hc
      refine w_skip ?_
      exact ⟨(c, l, v), wka, hka, h, hcb, hl, rfl⟩
    refine w_region ?_
    refine o_t x_mv ?_
    refine o_t (x_lenb Tryz.underlying78 (hx := fun g => by subst hve; rfl)) ?_
    refine o_t x_cmp ?_
    refine o_nil ?_
    refine w_cond (t := true) (fun g => rfl) (fun hc => ?_) (fun hc => ?_) -- ('Go.Operand.tmp', 9)
    case refine_2 => cases hc
    refine w_seq ?_
    refine w_region ?_
    refine o_t x_mv ?_
    refine o_t (x_com) ?_
    refine o_t x_as ?_
    refine o_nil ?_
    clear hr hcap hve
    refine w_cut (α := Nat × List UInt8 × Value) (fun x => [(0, .int .u32 (x.1 : Nat)), (1, .pointer (some ⟨tb, 0, none⟩)), (2, x.2.2)]) (fun x => [pt tb (tabC F) 320, r]) (fun x => Sl G r x.2.2 x.2.1 ∧ x.1 < 4294967296 ∧ x.2.1.length ≤ 2147483647 ∧ crcFrom x.1 x.2.1 = crcFrom (comp c) l) ?_ ?_
    · refine w_block ?_ -- 0
      refine w_loop (α := Nat × List UInt8 × Value) (fun x => [(0, .int .u32 (x.1 : Nat)), (1, .pointer (some ⟨tb, 0, none⟩)), (2, x.2.2)]) (fun x => [pt tb (tabC F) 320, r]) (fun x => Sl G r x.2.2 x.2.1 ∧ x.1 < 4294967296 ∧ x.2.1.length ≤ 2147483647 ∧ crcFrom x.1 x.2.1 = crcFrom (comp c) l) (fun x => x.2.1.length) (comp c, l, v) (wka) (hka) ⟨h, hcc, hl, rfl⟩ ?_
      rintro ⟨q, m, v⟩ ⟨hS, hq, hml, hcr⟩
      dsimp only at hS hq hml hcr ⊢
      obtain ⟨b, o, cap, rfl, hcap, hr⟩ := id hS
      refine w_seq ?_
      refine w_seq ?_
      by_cases h8 : 8 < m.length
      case neg =>
        refine w_region ?_
        refine o_t x_mv ?_
        refine o_t (x_lenb Tryz.underlying78) ?_
        refine o_t x_cmp ?_
        refine o_nil ?_
        refine w_cond (t := false) (fun g => rfl) (fun hc => ?_) (fun hc => ?_) -- ('Go.Operand.tmp', 14)
        · cases hc
        refine w_exit ?_ -- 0
        exact ⟨(q, m, _), wka, hka, hS, hq, hml, hcr⟩
      obtain ⟨b0, b1, b2, b3, b4, b5, b6, b7, t, hm⟩ := eight m h8
      have hd8 : m.drop 8 = t := by rw [← hm]; rfl
      have hcat : crcFrom (crcFrom q [b0, b1, b2, b3, b4, b5, b6, b7]) t = crcFrom q m := by rw [← crcFrom_append, ← hm]; simp only [List.cons_append, List.nil_append]
      have g4 : (m.map u8)[4]? = some (.int .u8 b4.toNat) := by rw [← hm]; rfl
      have g5 : (m.map u8)[5]? = some (.int .u8 b5.toNat) := by rw [← hm]; rfl
      have g6 : (m.map u8)[6]? = some (.int .u8 b6.toNat) := by rw [← hm]; rfl
      have g7 : (m.map u8)[7]? = some (.int .u8 b7.toNat) := by rw [← hm]; rfl
      have hle := cLe32' (G := G) _ r m b0 b1 b2 b3 (b4 :: b5 :: b6 :: b7 :: t) hm.symm hS
      have h4 := b4.toNat_lt
      have h5 := b5.toNat_lt
      have h6 := b6.toNat_lt
      have h7 := b7.toNat_lt
      have hnum := num_lt [b0, b1, b2, b3]
      rw [show [b0, b1, b2, b3].length = 4 from rfl, show (256 : Nat) ^ 4 = 4294967296 by decide] at hnum
      refine w_region ?_
      refine o_t x_mv ?_
      refine o_t (x_lenb Tryz.underlying78) ?_
      refine o_t x_cmp ?_
      refine o_nil ?_
      refine w_cond (t := true) (fun g => rfl) (fun hc => ?_) (fun hc => ?_) -- ('Go.Operand.tmp', 14)
      case refine_2 => cases hc
      refine w_skip ?_
      refine w_block ?_ -- 1
      refine w_seq ?_
      refine w_region ?_
      refine o_t x_mv ?_
      refine o_t x_mv ?_
      refine o_call Tryz.call188 haa spla (hle) ?_
      rintro _ _ HH ⟨rfl, rfl⟩ hHH
      simp only [List.cons_append, List.nil_append, List.append_nil] at hHH; subst hHH
      refine o_t (x_xr) ?_
      refine o_t x_as ?_
      refine o_nil ?_
      have ht8 := fun d hd => tab_eight q d b0 b1 b2 b3 b4 b5 b6 b7 hd
      have ht8 := ht8 _ rfl
      have hxq := xlt hq hnum
      obtain ⟨c, hc0⟩ : ∃ c, q ^^^ num [b0, b1, b2, b3] = c := ⟨_, rfl⟩
      rw [hc0] at ht8 hxq ⊢
      have z1 := zk_lt (0 + 1) (c := b7.toNat) (by omega)
      have z2 := zk_lt (1 + 1) (c := b6.toNat) (by omega)
      have z3 := zk_lt (2 + 1) (c := b5.toNat) (by omega)
      have z4 := zk_lt (3 + 1) (c := b4.toNat) (by omega)
      have z5 := zk_lt (4 + 1) (c := c / 16777216) (by omega)
      have z6 := zk_lt (5 + 1) (c := c / 65536 % 256) (by omega)
      have z7 := zk_lt (6 + 1) (c := c / 256 % 256) (by omega)
      have z8 := zk_lt (7 + 1) (c := c % 256) (by omega)
      have d4 : c / 16777216 < 256 := Nat.div_lt_of_lt_mul hxq
      have d5 : c / 65536 % 256 < 256 := Nat.mod_lt _ (by decide)
      have d6 : c / 256 % 256 < 256 := Nat.mod_lt _ (by decide)
      have d7 : c % 256 < 256 := Nat.mod_lt _ (by decide)
      have hsl := Sl.drop (m := 8) (by omega) hcap hr
      rw [hd8] at hsl
      refine w_weak (L' := [(0, .int .u32 (c : Nat)), (1, .pointer (some ⟨tb, 0, none⟩)), (2, .slice (some ⟨b, o, none⟩) m.length cap)]) (H' := [pt tb (tabC F) 320, r]) wka hka ?_
      refine w_seq ?_
      refine w_quiet mixed (by kernel_rfl) ?_
      refine q_t x_mv ?_
      refine q_t x_mv ?_
      refine q_t (x_ia (m := o + 7) Tryz.underlying78 e78 (hr := by omega) (hm := by omega)) ?_
      refine q_t (x_ldR k5 (hr.pull (.tail .head)) g7) ?_
      refine q_t x_nc ?_
      refine q_t (x_iaa (m := 0 * 256) Tryz.underlying320 e320 (hm := by rfl)) ?_
      refine q_t (x_iaa (m := 0 * 256 + b7.toNat) Tryz.underlying316 e316 (hm := by omega)) ?_
      refine q_t (x_ld k77 (hv := hT.get (j := 0) (i := b7.toNat) (by decide) h7)) ?_
      refine q_t x_mv ?_
      refine q_t x_mv ?_
      refine q_t (x_ia (m := o + 6) Tryz.underlying78 e78 (hr := by omega) (hm := by omega)) ?_
      refine q_t (x_ldR k5 (hr.pull (.tail .head)) g6) ?_
      refine q_t x_nc ?_
      refine q_t (x_iaa (m := 1 * 256) Tryz.underlying320 e320 (hm := by rfl)) ?_
      refine q_t (x_iaa (m := 1 * 256 + b6.toNat) Tryz.underlying316 e316 (hm := by omega)) ?_
      refine q_t (x_ld k77 (hv := hT.get (j := 1) (i := b6.toNat) (by decide) h6)) ?_
      refine q_t (x_xr (ha := z1) (hb := z2)) ?_
      refine q_t x_mv ?_
      refine q_t x_mv ?_
      refine q_t (x_ia (m := o + 5) Tryz.underlying78 e78 (hr := by omega) (hm := by omega)) ?_
      refine q_t (x_ldR k5 (hr.pull (.tail .head)) g5) ?_
      refine q_t x_nc ?_
      refine q_t (x_iaa (m := 2 * 256) Tryz.underlying320 e320 (hm := by rfl)) ?_
      refine q_t (x_iaa (m := 2 * 256 + b5.toNat) Tryz.underlying316 e316 (hm := by omega)) ?_
      refine q_t (x_ld k77 (hv := hT.get (j := 2) (i := b5.toNat) (by decide) h5)) ?_
      refine q_t (x_xr (ha := (xlt z1 z2)) (hb := z3)) ?_
      refine q_t x_mv ?_
      refine q_t x_mv ?_
      refine q_t (x_ia (m := o + 4) Tryz.underlying78 e78 (hr := by omega) (hm := by omega)) ?_
      refine q_t (x_ldR k5 (hr.pull (.tail .head)) g4) ?_
      refine q_t x_nc ?_
      refine q_t (x_iaa (m := 3 * 256) Tryz.underlying320 e320 (hm := by rfl)) ?_
      refine q_t (x_iaa (m := 3 * 256 + b4.toNat) Tryz.underlying316 e316 (hm := by omega)) ?_
      refine q_t (x_ld k77 (hv := hT.get (j := 3) (i := b4.toNat) (by decide) h4)) ?_
      refine q_t (x_xr (ha := (xlt (xlt z1 z2) z3)) (hb := z4)) ?_
      refine q_t x_mv ?_
      refine q_t x_mv ?_
      refine q_t (x_srN (M := 16777216) (j := 24)) ?_
      refine q_t x_nc ?_
      refine q_t (x_iaa (m := 4 * 256) Tryz.underlying320 e320 (hm := by rfl)) ?_
      refine q_t (x_iaa (m := 4 * 256 + c / 16777216) Tryz.underlying316 e316 (hr := by omega) (hm := by omega)) ?_
      refine q_t (x_ld k77 (hv := hT.get (j := 4) (i := c / 16777216) (by decide) d4)) ?_
      refine q_t (x_xr (ha := (xlt (xlt (xlt z1 z2) z3) z4)) (hb := z5)) ?_
      refine q_t x_mv ?_
      refine q_t x_mv ?_
      refine q_t (x_srN (M := 65536) (j := 16)) ?_
      refine q_t (x_am 8) ?_
      refine q_t x_nc ?_
      refine q_t (x_iaa (m := 5 * 256) Tryz.underlying320 e320 (hm := by rfl)) ?_
      refine q_t (x_iaa (m := 5 * 256 + c / 65536 % 256) Tryz.underlying316 e316 (hr := by omega) (hm := by omega)) ?_
      refine q_t (x_ld k77 (hv := hT.get (j := 5) (i := c / 65536 % 256) (by decide) d5)) ?_
      refine q_t (x_xr (ha := (xlt (xlt (xlt (xlt z1 z2) z3) z4) z5)) (hb := z6)) ?_
      refine q_t x_mv ?_
      refine q_t x_mv ?_
      refine q_t (x_srN (M := 256) (j := 8)) ?_
      refine q_t (x_am 8) ?_
      refine q_t x_nc ?_
      refine q_t (x_iaa (m := 6 * 256) Tryz.underlying320 e320 (hm := by rfl)) ?_
      refine q_t (x_iaa (m := 6 * 256 + c / 256 % 256) Tryz.underlying316 e316 (hr := by omega) (hm := by omega)) ?_
      refine q_t (x_ld k77 (hv := hT.get (j := 6) (i := c / 256 % 256) (by decide) d6)) ?_
      refine q_t (x_xr (ha := (xlt (xlt (xlt (xlt (xlt z1 z2) z3) z4) z5) z6)) (hb := z7)) ?_
      refine q_t x_mv ?_
      refine q_t x_mv ?_
      refine q_t (x_am 8) ?_
      refine q_t x_nc ?_
      refine q_t (x_iaa (m := 7 * 256) Tryz.underlying320 e320 (hm := by rfl)) ?_
      refine q_t (x_iaa (m := 7 * 256 + c % 256) Tryz.underlying316 e316 (hr := by omega) (hm := by omega)) ?_
      refine q_t (x_ld k77 (hv := hT.get (j := 7) (i := c % 256) (by decide) d7)) ?_
      refine q_t (x_xr (ha := (xlt (xlt (xlt (xlt (xlt (xlt z1 z2) z3) z4) z5) z6) z7)) (hb := z8)) ?_
      refine q_t x_as ?_
      refine q_nil ?_
      refine w_region ?_
      refine o_t x_mv ?_
      refine o_t (x_sl (lo := 8) (hi := m.length) (v := slV b o m.length cap 8 m.length 1) Tryz.underlying78 e78 (hv := rfl)) ?_
      refine o_t x_as ?_
      refine o_nil ?_
      have htl : t.length < m.length := by rw [← hm]; simp; omega
      refine ⟨(crcFrom q [b0, b1, b2, b3, b4, b5, b6, b7], t, _), .cons (fun _ => congrArg (fun z : Nat => Value.int .u32 (z : Int)) ht8) (.cons (fun _ => rfl) (.cons (fun _ => rfl) (.nil _))), hka, ⟨hsl, crcFrom_lt _ hq, by dsimp only; omega, by dsimp only; rw [hcat]; exact hcr⟩, htl⟩
    rintro ⟨q, m, v⟩ ⟨hS, hq, hml, hcr⟩
    dsimp only at hS hq hml hcr ⊢
    refine w_region ?_
    refine o_t x_mv ?_
    refine o_t (x_com) ?_
    refine o_t x_as ?_
    refine o_nil ?_
    exact ⟨(comp q, m, v), wka, hka, hS, comp_lt hq, hml, by dsimp only; rw [comp_comp]; exact hcr⟩
  rintro ⟨q, m, v⟩ ⟨hS, hq, hml, hcr⟩
  dsimp only at hS hq hml hcr ⊢
  have csu := cSimpleUpd (G := G) tb F hT q hq v r m hS hml
  obtain ⟨b, o, cap, rfl, hcap, hr⟩ := id hS
  refine w_seq ?_
  refine w_seq ?_
  by_cases h0 : m = []
  · have hl0 : m.length = 0 := by rw [h0]; rfl
    refine w_region ?_
    refine o_t x_mv ?_
    refine o_t (x_lenb Tryz.underlying78) ?_
    refine o_t x_cmp ?_
    refine o_nil ?_
    refine w_cond (t := true) (fun g => rfl) (fun hc => ?_) (fun hc => ?_) -- ('Go.Operand.tmp', 94)
    · --
      refine w_seq ?_
      refine w_region ?_
      refine o_t x_mv ?_
      refine o_t x_as ?_
      refine o_nil ?_
      refine w_ret (r_1 rfl ⟨?_, rfl⟩)
      rw [← hcr, h0]
      show _ = Value.int .u32 (comp (comp q) : Nat)
      rw [comp_comp]
    · cases hc
  · have hl0 : 0 < m.length := List.length_pos_iff.2 h0
    refine w_region ?_
    refine o_t x_mv ?_
    refine o_t (x_lenb Tryz.underlying78) ?_
    refine o_t x_cmp ?_
    refine o_nil ?_
    refine w_cond (t := false) (fun g => rfl) (fun hc => ?_) (fun hc => ?_) -- ('Go.Operand.tmp', 94)
    · cases hc
    refine w_skip ?_
    refine w_seq ?_
    refine w_region ?_
    refine o_t x_mv ?_
    refine o_t x_mv ?_
    refine o_t x_nc ?_
    refine o_t (x_iaa (m := 0) Tryz.underlying320 e320 (hm := by rfl)) ?_
    refine o_t x_mv ?_
    refine o_call Tryz.call189 haa spla (csu) ?_
    rintro _ _ HH ⟨rfl, rfl⟩ hHH
    simp only [List.cons_append, List.nil_append, List.append_nil] at hHH; subst hHH
    refine o_t x_as ?_
    refine o_nil ?_
    refine w_ret (r_1 rfl ⟨?_, rfl⟩)
    rw [hcr]
theorem cUpdate (c : Nat) (hcb : c < 4294967296) (v : Value) (r : Res) (l : List UInt8) (h : Sl G r v l) (hl : l.length ≤ 2147483647) :
    Fn P G 185 #[.int .u32 (c : Nat), v] [r] fun v' H => v' = .int .u32 (comp (crcFrom (comp c) l) : Nat) ∧ H = [r] := by
  refine fn_intro (args := [_,_]) Tryz.func185 Tryz.ntmps185 rfl ?_
  refine w_seq ?_
  refine w_region ?_
  refine o_t x_as ?_
  refine o_nil ?_
  refine w_seq ?_
  refine w_region ?_
  refine o_t x_mv ?_
  refine o_call Tryz.call187 haa spla (cMakeTab) ?_
  rintro _ _ HH ⟨tb, F, rfl, hT, rfl⟩ hHH
  simp only [List.cons_append, List.nil_append, List.append_nil] at hHH; subst hHH
  refine o_t x_mv ?_
  refine o_call Tryz.call186 haa spla (cSlicing tb F hT c hcb v r l h hl) ?_
  rintro _ _ HH ⟨rfl, rfl⟩ hHH
  simp only [List.cons_append, List.nil_append, List.append_nil] at hHH; subst hHH
  refine o_t x_as ?_
  refine o_nil ?_
  refine w_ret (r_1 rfl ⟨rfl, rfl⟩)
/-- The running checksum. -/
abbrev crcB (hb : Nat) (l : List UInt8) : Res := pt hb [.int .u32 (crcT l : Nat)] 145
theorem cHashWrite (hb : Nat) (l : List UInt8) (v : Value) (r : Res) (m : List UInt8) (h : Sl G r v m) (hm : m.length ≤ 2147483647) :
    Fn P G 184 #[.pointer (some ⟨hb, 0, none⟩), v] [crcB hb l, r] fun v' H => v' = .tuple #[.int .i64 m.length, .nilIface] ∧ H = [crcB hb (l ++ m), r] := by
  have cu := cUpdate (G := G) (crcT l) (crcT_lt l) v r m h hm
  rw [show comp (crcFrom (comp (crcT l)) m) = crcT (l ++ m) by rw [crcT_comp, crcT_comp, comp_comp, crcFrom_append]] at cu
  obtain ⟨b, o, cap, rfl, hcap, hr⟩ := h
  refine fn_intro (args := [_,_]) Tryz.func184 Tryz.ntmps184 rfl ?_
  refine w_seq ?_
  refine w_region ?_
  refine o_t x_as ?_
  refine o_t x_as ?_
  refine o_nil ?_
  refine w_seq ?_
  refine w_region ?_
  refine o_t x_mv ?_
  refine o_t x_mv ?_
  refine o_t x_nc ?_
  refine o_t (x_fa f145_0) ?_
  refine o_t (x_ld k77) ?_
  refine o_t x_mv ?_
  refine o_call Tryz.call185 haa spla (cu) ?_
  rintro _ _ HH ⟨rfl, rfl⟩ hHH
  simp only [List.cons_append, List.nil_append, List.append_nil] at hHH; subst hHH
  refine o_t x_nc ?_
  refine o_t (x_fa f145_0) ?_
  refine o_st k77 ?_
  refine o_nil ?_
  refine w_seq ?_
  refine w_region ?_
  refine o_t x_mv ?_
  refine o_t (x_lenb Tryz.underlying78) ?_
  refine o_t x_as ?_
  refine o_t x_as ?_
  refine o_nil ?_
  refine w_ret (r_2 rfl ⟨rfl, rfl⟩)
theorem cSum32 (hb : Nat) (l : List UInt8) : Fn P G 116 #[.pointer (some ⟨hb, 0, none⟩)] [crcB hb l] fun v' H => v' = .int .u32 (crcT l : Nat) ∧ H = [crcB hb l] := by
  refine fn_intro (args := [_]) Tryz.func116 Tryz.ntmps116 rfl ?_
  refine w_seq ?_
  refine w_region ?_
  refine o_t x_as ?_
  refine o_nil ?_
  refine w_seq ?_
  refine w_region ?_
  refine o_t x_mv ?_
  refine o_t x_nc ?_
  refine o_t (x_fa f145_0) ?_
  refine o_t (x_ld k77) ?_
  refine o_t x_as ?_
  refine o_nil ?_
  refine w_ret (r_1 rfl ⟨rfl, rfl⟩)
end Go.Proofs.YtlmefkhglooepaaGreatDoor
namespace Go.Proofs.YtlmefkhglooepaaGreatDoor
open Go
set_option linter.unusedSimpArgs false
set_option linter.unusedVariables false
variable {G : Nat → Option Obj} {ea : Nat → Addr}
theorem isDir_drop (l : List UInt8) (h : l ≠ []) : decide (l.drop (l.length - 1) = [47]) = isDir l := by
  obtain ⟨x, hx⟩ : ∃ x, l.getLast? = some x := by
    cases hl : l.getLast? with
    | none => exact absurd (List.getLast?_eq_none_iff.1 hl) h
    | some x => exact ⟨x, rfl⟩
  have hp : 0 < l.length := List.length_pos_iff.2 h
  have hd : l.drop (l.length - 1) = [x] := by
    have h1 : l[l.length - 1]? = some x := by rw [← List.getLast?_eq_getElem?]; exact hx
    have h2 := (List.getElem?_eq_some_iff.1 h1)
    rw [List.drop_eq_getElem_cons (by omega), h2.2, List.drop_eq_nil_of_le (by omega)]
  rw [hd, isDir, hx]
  by_cases h47 : x = 47
  · subst h47; simp
  · simp [h47]
theorem cSuffix (l : List UInt8) (hl : l.length < 4611686018427387904) : Fn P G 61 #[.string (str l), .string (str [47])] [] fun v H => v = .bool (isDir l) ∧ H = [] := by
  have h91 : Fn P G 91 #[.string (str l), .string (str [47])] [] fun v H => v = .bool (isDir l) ∧ H = [] := by
    by_cases h : l = []
    · have h0 : l.length = 0 := by rw [h]; rfl
      have hd : isDir l = false := by rw [h]; rfl
      refine fn_intro (args := [_,_]) Tryz.func91 Tryz.ntmps91 rfl ?_
      refine w_seq ?_
      refine w_region ?_
      refine o_t x_as ?_
      refine o_nil ?_
      refine w_seq ?_
      refine w_region ?_
      refine o_t x_mv ?_
      refine o_t (x_lens Tryz.underlying9) ?_
      refine o_t x_mv ?_
      refine o_t (x_lens (l := [47]) Tryz.underlying9) ?_
      refine o_t (x_cmp (r := false) (hr := decide_eq_false (by rw [h0]; decide))) ?_
      refine o_t x_mv ?_
      first | refine o_t (x_g x_mv) ?_ | refine o_t x_gs ?_ | refine o_t x_gu ?_
      first | refine o_t (x_g x_mv) ?_ | refine o_t x_gs ?_ | refine o_t x_gu ?_
      first | refine o_t (x_g (x_lens Tryz.underlying9)) ?_ | refine o_t x_gs ?_ | refine o_t x_gu ?_
      first | refine o_t (x_g x_mv) ?_ | refine o_t x_gs ?_ | refine o_t x_gu ?_
      first | refine o_t (x_g (x_lens Tryz.underlying9)) ?_ | refine o_t x_gs ?_ | refine o_t x_gu ?_
      first | refine o_t (x_g x_sub) ?_ | refine o_t x_gs ?_ | refine o_t x_gu ?_
      first | refine o_t (x_g (x_sls Tryz.underlying9)) ?_ | refine o_t x_gs ?_ | refine o_t x_gu ?_
      first | refine o_t (x_g x_mv) ?_ | refine o_t x_gs ?_ | refine o_t x_gu ?_
      first | refine o_t (x_g x_eqs) ?_ | refine o_t x_gs ?_ | refine o_t x_gu ?_
      refine o_t x_pick ?_
      refine o_t x_as ?_
      refine o_nil ?_
      rw [hd]
      refine w_ret (r_1 rfl ⟨rfl, rfl⟩)
    · have h0 : 0 < l.length := List.length_pos_iff.2 h
      have htk : (l.drop (l.length - 1)).take (l.length - (l.length - 1)) = l.drop (l.length - 1) := List.take_of_length_le (by simp)
      have hd := isDir_drop l h
      refine fn_intro (args := [_,_]) Tryz.func91 Tryz.ntmps91 rfl ?_
      refine w_seq ?_
      refine w_region ?_
      refine o_t x_as ?_
      refine o_nil ?_
      refine w_seq ?_
      refine w_region ?_
      refine o_t x_mv ?_
      refine o_t (x_lens Tryz.underlying9) ?_
      refine o_t x_mv ?_
      refine o_t (x_lens (l := [47]) Tryz.underlying9) ?_
      refine o_t (x_cmp (r := true) (hr := decide_eq_true (by simp; omega))) ?_
      refine o_t x_mv ?_
      first | refine o_t (x_g x_mv) ?_ | refine o_t x_gs ?_ | refine o_t x_gu ?_
      first | refine o_t (x_g x_mv) ?_ | refine o_t x_gs ?_ | refine o_t x_gu ?_
      first | refine o_t (x_g (x_lens Tryz.underlying9)) ?_ | refine o_t x_gs ?_ | refine o_t x_gu ?_
      first | refine o_t (x_g x_mv) ?_ | refine o_t x_gs ?_ | refine o_t x_gu ?_
      first | refine o_t (x_g (x_lens (l := [47]) Tryz.underlying9)) ?_ | refine o_t x_gs ?_ | refine o_t x_gu ?_
      first | refine o_t (x_g (x_sub (z := ((l.length - 1 : Nat) : Int)) (hz := (w_i64 (by simp; omega)).trans (by simp; omega)))) ?_ | refine o_t x_gs ?_ | refine o_t x_gu ?_
      first | refine o_t (x_g (Ex.cast (congrArg (fun z => Value.string (str z)) htk) (x_sls (lo := l.length - 1) (hi := l.length) Tryz.underlying9))) ?_ | refine o_t x_gs ?_ | refine o_t x_gu ?_
      first | refine o_t (x_g x_mv) ?_ | refine o_t x_gs ?_ | refine o_t x_gu ?_
      first | refine o_t (x_g (x_eqs (m := [47]) (r := isDir l) (hr := hd))) ?_ | refine o_t x_gs ?_ | refine o_t x_gu ?_
      refine o_t x_pick ?_
      refine o_t x_as ?_
      refine o_nil ?_
      refine w_ret (r_1 rfl ⟨rfl, rfl⟩)
  refine fn_intro (args := [_,_]) Tryz.func61 Tryz.ntmps61 rfl ?_
  refine w_seq ?_
  refine w_region ?_
  refine o_t x_as ?_
  refine o_nil ?_
  refine w_seq ?_
  refine w_region ?_
  refine o_t x_mv ?_
  refine o_t x_mv ?_
  refine o_call Tryz.call91 haa spla (h91) ?_
  rintro _ _ HH ⟨rfl, rfl⟩ hHH
  simp only [List.cons_append, List.nil_append, List.append_nil] at hHH; subst hHH
  refine o_t x_as ?_
  refine o_nil ?_
  refine w_ret (r_1 rfl ⟨rfl, rfl⟩)
theorem and8 {z : Int} (h : 0 ≤ z) : (!decide (((z.toNat &&& (8 : Int).toNat : Nat) : Int) = 0)) = decide (z / 8 % 2 = 1) := by
  obtain ⟨m, rfl⟩ := Int.eq_ofNat_of_zero_le h
  rw [show (8 : Int).toNat = 2 ^ 3 from rfl, Int.toNat_natCast]
  have hb : (m &&& 2 ^ 3).testBit 3 = m.testBit 3 := by rw [Nat.testBit_and, Nat.testBit_two_pow]; simp
  have ht : m.testBit 3 = decide (m / 2 ^ 3 % 2 = 1) := Nat.testBit_eq_decide_div_mod_eq
  by_cases hq : m / 2 ^ 3 % 2 = 1
  · have h1 : m &&& 2 ^ 3 ≠ 0 := by intro h0; rw [h0, ht, decide_eq_true hq] at hb; simp at hb
    rw [decide_eq_false (by omega), decide_eq_true (by omega)]; rfl
  · have h1 : m &&& 2 ^ 3 = 0 := by
      apply Nat.eq_of_testBit_eq
      intro i
      rw [Nat.testBit_and, Nat.testBit_two_pow]
      by_cases hi : 3 = i
      · subst hi; rw [ht, decide_eq_false hq]; simp
      · simp [hi]
    rw [decide_eq_true (by omega), decide_eq_false (by omega)]; rfl
theorem cHasDesc (fb : Nat) (h : Hd) (hf : 0 ≤ h.flags ∧ h.flags ≤ 65535) (non : Bool) (w e l xv zp zi : Value) (pos : Nat) : Fn P G 72 #[.pointer (some ⟨fb, 0, none⟩)] [fileH fb h non w e l xv zp zi pos] fun v H => v = .bool (decide (h.flags / 8 % 2 = 1)) ∧ H = [fileH fb h non w e l xv zp zi pos] := by
  refine fn_intro (args := [_]) Tryz.func72 Tryz.ntmps72 rfl ?_
  refine w_seq ?_
  refine w_region ?_
  refine o_t x_as ?_
  refine o_nil ?_
  refine w_seq ?_
  refine w_region ?_
  refine o_t x_mv ?_
  refine o_t x_nc ?_
  refine o_t (x_fa f80_5) ?_
  refine o_t (x_ld k72) ?_
  refine o_t x_and ?_
  refine o_t (x_ne (r := decide (h.flags / 8 % 2 = 1)) (hr := and8 hf.1)) ?_
  refine o_t x_as ?_
  refine o_nil ?_
  refine w_ret (r_1 rfl ⟨rfl, rfl⟩)
theorem cBody (fb rb : Nat) (h : Hd) (non : Bool) (w e l xv zp : Value) (pos : Nat) (s : List UInt8) (lh : Hd) (hh : Has s pos (localT lh)) (n1 : lh.name.length ≤ 60000) (n2 : lh.extra.length ≤ 60000) (hs : s.length ≤ 2147483647) :
    Fn P G 69 #[.pointer (some ⟨fb, 0, none⟩)] [fileH fb h non w e l xv zp (.iface 61 (.pointer (some ⟨rb, 0, none⟩))) pos, srB rb s] fun v H => v = .tuple #[.int .i64 (localT lh).length, .nilIface] ∧ H = [fileH fb h non w e l xv zp (.iface 61 (.pointer (some ⟨rb, 0, none⟩))) pos, srB rb s] := by
  have c := localAt hh
  have hlen := hh.len
  rw [localT_length] at hlen ⊢
  obtain ⟨t, ht⟩ : ∃ t, (s.drop pos).take 30 = t := ⟨_, rfl⟩
  have htl : t.length = 30 := by rw [← ht, List.length_take, List.length_drop]; omega
  have hT : ∀ {a : Nat} {u : List UInt8}, Has s (pos + a) u → a + u.length ≤ 30 → Has t a u := fun hx hy => by rw [← ht]; exact ((Has.drop1 (by omega)).2 hx).take hy
  have en : (num (i2 lh.name.length) : Int) = lh.name.length := num_i2 (by omega)
  have ex : (num (i2 lh.extra.length) : Int) = lh.extra.length := num_i2 (by omega)
  have hra := fun b => cReadAt (G := G) rb b 0 30 30 pos 197 (List.replicate 30 (.int .u8 0)) s hs (by simp) (by omega) (by omega) (Nat.le_refl _)
  have hput : putB (List.replicate 30 (.int .u8 0)) 0 t = t.map u8 := putB_all (by simp [htl])
  rw [ht, hput] at hra
  refine fn_intro (args := [_]) Tryz.func69 Tryz.ntmps69 rfl ?_
  refine w_seq ?_
  refine w_region ?_
  refine o_t x_as ?_
  refine o_t x_as ?_
  refine o_nil ?_
  refine w_seq ?_
  refine w_region ?_
  refine o_al z197 (fun b4 => ?_)
  refine o_nil ?_
  refine w_seq ?_
  refine w_seq ?_
  refine w_draw mixed ?_
  refine a_seg (k := 11) _ [(1, 0), (1, 1), (1, 2), (1, 3), (1, 4), (1, 5), (1, 6), (1, 7), (1, 8), (1, 9), (1, 10)] (by kernel_rfl) (HWk.refl _) ?_
  refine h_t rfl x_mv ?_
  refine h_t rfl x_nc ?_
  refine h_t rfl (x_fa f82_2) ?_
  refine h_t rfl (x_ld k64) ?_
  refine h_t rfl (x_sla Tryz.underlying197 e197) ?_
  refine h_t rfl x_mv ?_
  refine h_t rfl x_nc ?_
  refine h_t rfl (x_fa f82_3) ?_
  refine h_t rfl (x_ld k2) ?_
  refine h_t rfl (x_nci) ?_
  refine h_t rfl x_mv ?_
  refine h_end ?_
  refine a_seg (k := 12) _ [(0, 11)] (by kernel_rfl) hwk_nil ?_
  refine h_one rfl (fun Q' hQ => ?_)
  refine o_inv (m61_ReadAt _) hxa haa spla vca ((hra b4)) ?_
  rintro _ HH ⟨rfl, rfl⟩
  simp only [List.cons_append, List.nil_append, List.append_nil]
  refine o_nil (hQ _ _ (h_keep ?_))
  refine h_end ?_
  refine a_seg (k := 13) _ [(1, 12)] (by kernel_rfl) (HWk.refl _) ?_
  refine h_t rfl x_mv ?_
  refine h_end ?_
  refine a_seg (k := 16) _ [(1, 13), (1, 14), (1, 15)] (by kernel_rfl) (HWk.refl _) ?_
  refine h_t rfl x_ex ?_
  refine h_t rfl x_ex ?_
  refine h_t rfl x_as ?_
  refine h_end ?_
  refine a_seg (k := 17) _ [(1, 16)] (by kernel_rfl) (HWk.refl _) ?_
  refine h_t rfl x_as ?_
  refine h_end ?_
  refine a_done rfl ?_
  refine w_seq ?_
  refine w_region ?_
  refine o_t x_mv ?_
  first | refine o_t (x_inil Tryz.underlying58) ?_ | refine o_t (x_isome Tryz.underlying58) ?_
  refine o_nil ?_
  refine w_cond (t := false) (fun g => rfl) (fun hc => ?_) (fun hc => ?_) -- ('Go.Operand.tmp', 27)
  · cases hc
  refine w_skip ?_
  refine w_seq ?_
  refine w_region ?_
  refine o_t (x_sla Tryz.underlying197 e197) ?_
  refine o_al z204 (fun b7 => ?_)
  refine o_st k204 ?_
  refine o_nil ?_
  have hs0 : Sl G (pt b4 (t.map u8) 197) (.slice (some ⟨b4, 0, none⟩) 30 30) (t.drop 0) := ⟨b4, 0, 30, by rw [List.drop_zero, htl], by rw [List.drop_zero, htl]; decide, by rw [List.drop_zero]; exact Rd.all⟩
  refine w_seq ?_
  refine w_seq ?_
  refine w_region ?_
  refine o_call Tryz.call96 haa spla (cRb32H b7 _ _ t 0 [80, 75, 3, 4] 67324752 hs0 (hT c.sig (by decide)) rfl (by decide)) ?_
  rintro _ _ HH ⟨rfl, v1, hs4, rfl⟩ hHH
  simp only [List.cons_append, List.nil_append, List.append_nil] at hHH; subst hHH
  refine o_t x_as ?_
  refine o_nil ?_
  refine w_seq ?_
  refine w_region ?_
  refine o_t x_mv ?_
  refine o_t x_ne ?_
  refine o_nil ?_
  refine w_cond (t := false) (fun g => rfl) (fun hc => ?_) (fun hc => ?_) -- ('Go.Operand.tmp', 32)
  · cases hc
  refine w_skip ?_
  obtain ⟨vb, vo, vc, hve, hvc, hvr⟩ := id hs4
  have ht4 : (t.drop (0 + 4)).length = 26 := by rw [List.length_drop]; omega
  rw [ht4] at hve hvc
  subst hve
  have hs26 : Sl G (pt b4 (t.map u8) 197) (slV vb vo 26 vc 22 26 1) (t.drop 26) := by
    have := Sl.drop (m := 22) (l := t.drop (0 + 4)) (by omega) (by omega : (t.drop (0 + 4)).length ≤ vc) hvr
    rw [List.drop_drop, ht4] at this; exact this
  refine w_seq ?_
  refine w_region ?_
  refine o_t (x_ld k204) ?_
  refine o_t (x_sl (lo := 22) (hi := 26) (v := slV vb vo 26 vc 22 26 1) Tryz.underlying204 e204 (hv := rfl)) ?_
  refine o_st k204 ?_
  refine o_nil ?_
  refine w_seq ?_
  refine w_region ?_
  refine o_call Tryz.call97 haa spla (cRb16H b7 _ _ t 26 (i2 lh.name.length) lh.name.length hs26 (hT c.nlen (by simp)) (by simp) en) ?_
  rintro _ _ HH ⟨rfl, v2, hs28, rfl⟩ hHH
  simp only [List.cons_append, List.nil_append, List.append_nil] at hHH; subst hHH
  refine o_t (x_cv ⟨_, Tryz.underlying72⟩ Tryz.underlying3) ?_
  refine o_t x_as ?_
  refine o_nil ?_
  refine w_seq ?_
  refine w_region ?_
  refine o_call Tryz.call97 haa spla (cRb16H b7 _ _ t 28 (i2 lh.extra.length) lh.extra.length hs28 (hT c.xlen (by simp)) (by simp) ex) ?_
  rintro _ _ HH ⟨rfl, v3, hs30, rfl⟩ hHH
  simp only [List.cons_append, List.nil_append, List.append_nil] at hHH; subst hHH
  refine o_t (x_cv ⟨_, Tryz.underlying72⟩ Tryz.underlying3) ?_
  refine o_t x_as ?_
  refine o_nil ?_
  refine w_seq ?_
  refine w_region ?_
  refine o_t x_mv ?_
  refine o_t x_add ?_
  refine o_t x_mv ?_
  refine o_t x_add ?_
  refine o_t x_as ?_
  refine o_t x_as ?_
  refine o_nil ?_
  refine w_ret (r_2 rfl ⟨?_, rfl⟩)
  exact congrArg (fun z => Value.tuple #[.int .i64 z, .nilIface]) (by omega)
theorem ta130 (v : Value) (w : World) : (Instr.typeAssert (.iface 164 v) 170 287 true).run P w = .ok (.tuple #[.nilIface, .bool false]) w := run_typeAssert_lacksB Tryz.underlying287 (by kernel_rfl) (by kernel_rfl) v 170 w
theorem lk66 (w : World) : (Instr.lookup 66 (.map none) (.int .u16 0) false).run P w = .ok .nilFunc w := by kernel_rfl
section
variable {n : Nat} {ops : Array Oper} {L : Loc} {H : List Res} {d : Nat} {x : Operand} {ty t t' : TypeId} {p : String} {e : Array Edge} {ps rs : Array TypeId} {vr : Bool}
theorem x_lk {V K v : Value} {y : Operand} (h : ∀ w, (Instr.lookup t V K false).run P w = .ok v w) (hx : ∀ g, evl L g x = V := by intro g; rfl) (hy : ∀ g, evl L g y = K := by intro g; rfl) (hn : d < n := by decide) :
    Ex P n G ops L H ⟨some d, .lookup t x y false, ty, p, e, none⟩ d v :=
  .mk hn (fun _ _ g w _ => by have h1 := h w; simp [execOp, hx g, hy g, h1])
theorem x_fnil (hi : P.underlying t = some (.func ps rs vr)) (hx : ∀ g, evl L g x = .nilFunc := by intro g; rfl) (hn : d < n := by decide) :
    Ex P n G ops L H ⟨some d, .binOp .eql t x (.const .nilFunc) t', ty, p, e, none⟩ d (.bool true) :=
  .mk hn (fun _ _ g w _ => by
    have h0 := eqR (P := P) (t := t) (va := .nilFunc) (vb := .nilFunc) (r := true) (w := w) (fun d => by simp [Op.equalIn, run_underlying hi])
    simp [execOp, hx g, show ∀ z, evl L g (.const z) = z from fun _ => rfl, eqGuard, binOp, h0])
theorem x_fsome {f : Go.Fn} {fs cs : Array Value} (hi : P.underlying t = some (.func ps rs vr)) (hx : ∀ g, evl L g x = .func f fs cs := by intro g; rfl) (hn : d < n := by decide) :
    Ex P n G ops L H ⟨some d, .binOp .eql t x (.const .nilFunc) t', ty, p, e, none⟩ d (.bool false) :=
  .mk hn (fun _ _ g w _ => by
    have h0 := eqR (P := P) (t := t) (va := .func f fs cs) (vb := .nilFunc) (r := false) (w := w) (fun d => by simp [Op.equalIn, run_underlying hi])
    simp [execOp, hx g, show ∀ z, evl L g (.const z) = z from fun _ => rfl, eqGuard, binOp, h0])
end
theorem cNopC (u0 : Value) : Fn P G 130 #[.iface 164 u0] [] fun v H => v = .iface 291 (.agg #[.iface 164 u0]) ∧ H = [] := by
  refine fn_intro (args := [_]) Tryz.func130 Tryz.ntmps130 rfl ?_
  refine w_seq ?_
  refine w_region ?_
  refine o_t x_as ?_
  refine o_nil ?_
  refine w_seq ?_
  refine w_seq ?_
  refine w_region ?_
  refine o_t x_mv ?_
  refine o_t (x_ta (ta130 u0)) ?_
  refine o_t x_mv ?_
  refine o_t x_ex ?_
  refine o_t x_ex ?_
  refine o_t x_as ?_
  refine o_t x_as ?_
  refine o_nil ?_
  refine w_seq ?_
  refine w_region ?_
  refine o_t x_mv ?_
  refine o_nil ?_
  refine w_cond (t := false) (fun g => rfl) (fun hc => ?_) (fun hc => ?_) -- ('Go.Operand.tmp', 10)
  · cases hc
  refine w_skip ?_
  refine w_seq ?_
  refine w_region ?_
  refine o_t x_mv ?_
  refine o_t (x_bd hla bd291_0) ?_
  refine o_t x_p ?_
  refine o_t x_as ?_
  refine o_nil ?_
  refine w_ret (r_1 rfl ⟨rfl, rfl⟩)
theorem cDecomp (zb : Nat) (zi fv : Value) (c : List UInt8) : Fn P G 71 #[.pointer (some ⟨zb, 0, none⟩), .int .u16 0] [zrB zb zi fv c] fun v H => v = .func (.func 130) #[] #[] ∧ H = [zrB zb zi fv c] := by
  have h98 : Fn P G 98 #[.int .u16 0] [] fun v H => v = .func (.func 130) #[] #[] ∧ H = [] := by
    refine fn_intro (args := [_]) Tryz.func98 Tryz.ntmps98 rfl ?_
    refine w_seq ?_
    refine w_region ?_
    refine o_t x_as ?_
    refine o_nil ?_
    refine w_seq ?_
    refine w_seq ?_
    refine w_region ?_
    refine o_t x_mv ?_
    refine o_t x_cmp ?_
    refine o_nil ?_
    refine w_cond (t := true) (fun g => rfl) (fun hc => ?_) (fun hc => ?_) -- ('Go.Operand.tmp', 4)
    · --
      refine w_seq ?_
      refine w_region ?_
      refine o_t x_as ?_
      refine o_nil ?_
      refine w_ret (r_1 rfl ⟨rfl, rfl⟩)
    · cases hc
  refine fn_intro (args := [_,_]) Tryz.func71 Tryz.ntmps71 rfl ?_
  refine w_seq ?_
  refine w_region ?_
  refine o_t x_as ?_
  refine o_nil ?_
  refine w_seq ?_
  refine w_region ?_
  refine o_t x_mv ?_
  refine o_t x_nc ?_
  refine o_t (x_fa f68_3) ?_
  refine o_t (x_ld k66) ?_
  refine o_t x_mv ?_
  refine o_t (x_lk lk66) ?_
  refine o_t x_as ?_
  refine o_nil ?_
  refine w_seq ?_
  refine w_seq ?_
  refine w_region ?_
  refine o_t x_mv ?_
  refine o_t (x_fnil Tryz.underlying167) ?_
  refine o_nil ?_
  refine w_cond (t := true) (fun g => rfl) (fun hc => ?_) (fun hc => ?_) -- ('Go.Operand.tmp', 13)
  · --
    refine w_region ?_
    refine o_t x_mv ?_
    refine o_call Tryz.call98 haa spla (h98) ?_
    rintro _ _ HH ⟨rfl, rfl⟩ hHH
    simp only [List.cons_append, List.nil_append, List.append_nil] at hHH; subst hHH
    refine o_t x_as ?_
    refine o_nil ?_
    refine w_seq ?_
    refine w_region ?_
    refine o_t x_mv ?_
    refine o_t x_as ?_
    refine o_nil ?_
    refine w_ret (r_1 rfl ⟨rfl, rfl⟩)
  · cases hc
end Go.Proofs.YtlmefkhglooepaaGreatDoor
namespace Go.Proofs.YtlmefkhglooepaaGreatDoor
open Go
set_option linter.unusedSimpArgs false
set_option linter.unusedVariables false
variable {G : Nat → Option Obj} {ea : Nat → Addr}
/-- The block of a reader that checks. -/
abbrev crB (cb sb hb fb : Nat) (n : Nat) (dv : Value) : Res :=
  pt cb [.iface 291 (.agg #[.iface 164 (.pointer (some ⟨sb, 0, none⟩))]), .pointer (some ⟨hb, 0, none⟩), .int .u64 n, .pointer (some ⟨fb, 0, none⟩), dv, .nilIface] 173
/-- What stands behind the content, where it is told so. -/
def DescR (rb : Nat) (s : List UInt8) (r : ZR) (dv : Value) (dr : Res) : Prop :=
  (dv = .nilIface ∧ dr = []) ∨ ∃ sb2 b2, dv = .iface 164 (.pointer (some ⟨sb2, 0, none⟩)) ∧ dr = secB sb2 rb b2 b2 (b2 + 16) 16 ∧ Has s b2 (descT (crcT r.data) r.data.length)
theorem cOpenDir (fb rb zb : Nat) (s body : List UInt8) (r : ZR) (h : Readable s r) (hs : s.length ≤ 2147483647) (hd : isDir r.h.name = true) (non : Bool) (w e l xv fv : Value) (c : List UInt8) (gl : Glob G ea) :
    Fn P G 44 #[.pointer (some ⟨fb, 0, none⟩)] [fileH fb r.h non w e l xv (.pointer (some ⟨zb, 0, none⟩)) (.iface 61 (.pointer (some ⟨rb, 0, none⟩))) r.pos, zrB zb (.iface 61 (.pointer (some ⟨rb, 0, none⟩))) fv c, srB rb s]
      fun v H => ∃ db, v = .tuple #[.iface 161 (.pointer (some ⟨db, 0, none⟩)), .nilIface] ∧ H = [pt db [errV ea 3] 163] := by
  have hn := h.ok.ok.name
  have hb := cBody (G := G) fb rb r.h non w e l xv (.pointer (some ⟨zb, 0, none⟩)) r.pos s r.lh (Has.app.1 h.ok.here).1 (by rw [h.ok.name]; omega) h.ok.xlen hs
  have hsf := cSuffix (G := G) r.h.name (by omega)
  have hdat := h.dir hd
  have hsz : r.h.size = 0 := by rw [h.size, hdat]; rfl
  rw [hd] at hsf
  refine fn_intro (args := [_]) Tryz.func44 Tryz.ntmps44 rfl ?_
  refine w_seq ?_
  refine w_region ?_
  refine o_t x_as ?_
  refine o_t x_as ?_
  refine o_nil ?_
  refine w_seq ?_
  refine w_region ?_
  refine o_t x_mv ?_
  refine o_call Tryz.call69 haa spla (hb) ?_
  rintro _ _ HH ⟨rfl, rfl⟩ hHH
  simp only [List.cons_append, List.nil_append, List.append_nil] at hHH; subst hHH
  refine o_t x_mv ?_
  refine o_t x_ex ?_
  refine o_t x_ex ?_
  refine o_t x_as ?_
  refine o_t x_as ?_
  refine o_nil ?_
  refine w_seq ?_
  refine w_seq ?_
  refine w_region ?_
  refine o_t x_mv ?_
  first | refine o_t (x_inil Tryz.underlying58) ?_ | refine o_t (x_isome Tryz.underlying58) ?_
  refine o_nil ?_
  refine w_cond (t := false) (fun g => rfl) (fun hc => ?_) (fun hc => ?_) -- ('Go.Operand.tmp', 17)
  · cases hc
  refine w_skip ?_
  refine w_seq ?_
  refine w_seq ?_
  refine w_region ?_
  refine o_t x_mv ?_
  refine o_t x_nc ?_
  refine o_t (x_fa f82_0) ?_
  refine o_t (x_fa f80_0) ?_
  refine o_t (x_ld k9) ?_
  refine o_call Tryz.call61 haa spla (hsf) ?_
  rintro _ _ HH ⟨rfl, rfl⟩ hHH
  simp only [List.cons_append, List.nil_append, List.append_nil] at hHH; subst hHH
  refine o_nil ?_
  refine w_cond (t := true) (fun g => rfl) (fun hc => ?_) (fun hc => ?_) -- ('Go.Operand.tmp', 24)
  case refine_2 => cases hc
  refine w_seq ?_
  refine w_region ?_
  refine o_t x_mv ?_
  refine o_t x_nc ?_
  refine o_t (x_fa f82_0) ?_
  refine o_t (x_fa f80_14) ?_
  refine o_t (x_ld k73) ?_
  refine o_t x_ne ?_
  refine o_nil ?_
  refine w_cond (t := false) (fun g => rfl) (fun hc => ?_) (fun hc => ?_) -- ('Go.Operand.tmp', 30)
  · cases hc
  · --
    refine w_seq ?_
    refine w_region ?_
    refine o_t (x_err 3 gl) ?_
    refine o_t (x_bd hla bd163_0) ?_
    refine o_bx (fun b37 => ?_)
    refine o_t x_p ?_
    refine o_t x_as ?_
    refine o_t x_as ?_
    refine o_nil ?_
    refine w_ret (r_2 rfl ⟨_, rfl, rfl⟩)
theorem cOpen (fb rb zb : Nat) (s : List UInt8) (r : ZR) (h : Readable s r) (hs : s.length ≤ 2147483647) (hd : isDir r.h.name = false) (non : Bool) (w e l xv fv : Value) (c : List UInt8) (gl : Glob G ea) :
    Fn P G 44 #[.pointer (some ⟨fb, 0, none⟩)] [fileH fb r.h non w e l xv (.pointer (some ⟨zb, 0, none⟩)) (.iface 61 (.pointer (some ⟨rb, 0, none⟩))) r.pos, zrB zb (.iface 61 (.pointer (some ⟨rb, 0, none⟩))) fv c, srB rb s]
      fun v H => ∃ cb sb hb base dv dr, v = .tuple #[.iface 171 (.pointer (some ⟨cb, 0, none⟩)), .nilIface] ∧ Has s base r.data ∧ DescR rb s r dv dr ∧
        H = [crB cb sb hb fb 0 dv, crcB hb [], secB sb rb base base (base + r.data.length) r.data.length, dr, fileH fb r.h non w e l xv (.pointer (some ⟨zb, 0, none⟩)) (.iface 61 (.pointer (some ⟨rb, 0, none⟩))) r.pos, srB rb s] := by
  have hn := h.ok.ok.name
  obtain ⟨hl1, hl2⟩ := Has.app.1 h.ok.here
  have hb := cBody (G := G) fb rb r.h non w e l xv (.pointer (some ⟨zb, 0, none⟩)) r.pos s r.lh hl1 (by rw [h.ok.name]; omega) h.ok.xlen hs
  have hsf := cSuffix (G := G) r.h.name (by omega)
  rw [hd] at hsf
  have hlen := hl2.len
  have hsm := h.small
  have hpk := h.ok.packed
  have hme := h.meth
  obtain ⟨base, hbase⟩ : ∃ base, r.pos + (localT r.lh).length = base := ⟨_, rfl⟩
  rw [hbase] at hl2 hlen
  have hde := h.desc hd
  rw [List.length_append, ← Nat.add_assoc, hbase] at hde
  have cs1 := cSecNew (G := G) rb base r.data.length (by omega)
  have cdc := cDecomp (G := G) zb (.iface 61 (.pointer (some ⟨rb, 0, none⟩))) fv c
  obtain ⟨F, hF⟩ : ∃ F, fileH fb r.h non w e l xv (.pointer (some ⟨zb, 0, none⟩)) (.iface 61 (.pointer (some ⟨rb, 0, none⟩))) r.pos = F := ⟨_, rfl⟩
  refine fn_intro (args := [_]) Tryz.func44 Tryz.ntmps44 rfl ?_
  refine w_seq ?_
  refine w_region ?_
  refine o_t x_as ?_
  refine o_t x_as ?_
  refine o_nil ?_
  refine w_seq ?_
  refine w_region ?_
  refine o_t x_mv ?_
  refine o_call Tryz.call69 haa spla (hb) ?_
  rintro _ _ HH ⟨rfl, rfl⟩ hHH
  simp only [List.cons_append, List.nil_append, List.append_nil] at hHH; subst hHH
  refine o_t x_mv ?_
  refine o_t x_ex ?_
  refine o_t x_ex ?_
  refine o_t x_as ?_
  refine o_t x_as ?_
  refine o_nil ?_
  refine w_seq ?_
  refine w_seq ?_
  refine w_region ?_
  refine o_t x_mv ?_
  first | refine o_t (x_inil Tryz.underlying58) ?_ | refine o_t (x_isome Tryz.underlying58) ?_
  refine o_nil ?_
  refine w_cond (t := false) (fun g => rfl) (fun hc => ?_) (fun hc => ?_) -- ('Go.Operand.tmp', 17)
  · cases hc
  refine w_skip ?_
  refine w_seq ?_
  refine w_seq ?_
  refine w_region ?_
  refine o_t x_mv ?_
  refine o_t x_nc ?_
  refine o_t (x_fa f82_0) ?_
  refine o_t (x_fa f80_0) ?_
  refine o_t (x_ld k9) ?_
  refine o_call Tryz.call61 haa spla (hsf) ?_
  rintro _ _ HH ⟨rfl, rfl⟩ hHH
  simp only [List.cons_append, List.nil_append, List.append_nil] at hHH; subst hHH
  refine o_nil ?_
  refine w_cond (t := false) (fun g => rfl) (fun hc => ?_) (fun hc => ?_) -- ('Go.Operand.tmp', 24)
  · cases hc
  refine w_skip ?_
  refine w_seq ?_
  refine w_region ?_
  refine o_t x_mv ?_
  refine o_t x_nc ?_
  refine o_t (x_fa f82_0) ?_
  refine o_t (x_fa f80_13) ?_
  refine o_t (x_ld k73) ?_
  refine o_t (x_cv (z := (r.data.length : Int)) ⟨_, Tryz.underlying73⟩ Tryz.underlying2 (hz := (w_i64 (by omega)).trans (by omega))) ?_
  refine o_t x_as ?_
  refine o_nil ?_
  refine w_seq ?_
  refine w_draw mixed ?_
  refine a_seg (k := 11) _ [(1, 0), (1, 1), (1, 2), (1, 3), (1, 4), (1, 5), (1, 6), (1, 7), (1, 8), (1, 9), (1, 10)] (by kernel_rfl) (HWk.refl _) ?_
  refine h_t rfl x_mv ?_
  refine h_t rfl x_nc ?_
  refine h_t rfl (x_fa f82_2) ?_
  refine h_t rfl (x_ld k64) ?_
  refine h_t rfl x_mv ?_
  refine h_t rfl x_nc ?_
  refine h_t rfl (x_fa f82_3) ?_
  refine h_t rfl (x_ld k2) ?_
  refine h_t rfl x_mv ?_
  refine h_t rfl (x_add (z := (base : Int)) (hz := (w_i64 (by omega)).trans (by omega))) ?_
  refine h_t rfl x_mv ?_
  refine h_end ?_
  refine a_seg (k := 12) _ [(0, 11)] (by kernel_rfl) hwk_nil ?_
  refine h_one rfl (fun Q' hQ => ?_)
  refine o_call Tryz.call70 haa spla (cs1) ?_
  rintro _ _ HH ⟨sb, rfl, rfl⟩ hHH
  simp only [List.cons_append, List.nil_append, List.append_nil] at hHH; subst hHH
  refine o_nil (hQ _ _ (h_keep ?_))
  refine h_end ?_
  refine a_seg (k := 13) _ [(1, 12)] (by kernel_rfl) (HWk.refl _) ?_
  refine h_t rfl x_as ?_
  refine h_end ?_
  refine a_done rfl ?_
  refine w_seq ?_
  refine w_draw mixed ?_
  refine a_seg (k := 9) _ [(1, 0), (1, 1), (1, 2), (1, 3), (1, 4), (1, 5), (1, 6), (1, 7), (1, 8)] (by kernel_rfl) (HWk.refl _) ?_
  refine h_t rfl x_mv ?_
  refine h_t rfl x_nc ?_
  refine h_t rfl (x_fa f82_1) ?_
  refine h_t rfl (x_ld k56) ?_
  refine h_t rfl x_mv ?_
  refine h_t rfl x_nc ?_
  refine h_t rfl (x_fa f82_0) ?_
  refine h_t rfl (x_fa f80_6) ?_
  refine h_t rfl (Ex.cast (congrArg (Value.int .u16) hme) (x_ld k72)) ?_
  refine h_end ?_
  refine a_seg (k := 10) _ [(0, 9)] (by kernel_rfl) hwk_nil ?_
  refine h_one rfl (fun Q' hQ => ?_)
  refine o_call Tryz.call71 haa spla (cdc) ?_
  rintro _ _ HH ⟨rfl, rfl⟩ hHH
  simp only [List.cons_append, List.nil_append, List.append_nil] at hHH; subst hHH
  refine o_nil (hQ _ _ (h_keep ?_))
  refine h_end ?_
  refine a_seg (k := 11) _ [(1, 10)] (by kernel_rfl) (HWk.refl _) ?_
  refine h_t rfl x_as ?_
  refine h_end ?_
  refine a_done rfl ?_
  refine w_seq ?_
  refine w_seq ?_
  refine w_region ?_
  refine o_t x_mv ?_
  refine o_t (x_fsome Tryz.underlying167) ?_
  refine o_nil ?_
  refine w_cond (t := false) (fun g => rfl) (fun hc => ?_) (fun hc => ?_) -- ('Go.Operand.tmp', 68)
  · cases hc
  refine w_skip ?_
  refine w_seq ?_
  refine w_region ?_
  refine o_t x_mv ?_
  refine o_t x_mv ?_
  refine o_t x_p ?_
  refine o_cv Tryz.call130 hxa haa spla vca (cNopC _) ?_
  rintro _ HH ⟨rfl, rfl⟩
  simp only [List.cons_append, List.nil_append, List.append_nil]
  refine o_t x_as ?_
  refine o_nil ?_
  refine w_seq ?_
  refine w_region ?_
  refine o_t x_as ?_
  refine o_nil ?_
  refine w_cut (α := Value × Res) (fun x => [(0, .pointer (some ⟨fb, 0, none⟩)), (9, .iface 291 (.agg #[.iface 164 (.pointer (some ⟨sb, 0, none⟩))])), (10, x.1)]) (fun x => [x.2, secB sb rb base base (base + r.data.length) r.data.length, fileH fb r.h non w e l xv (.pointer (some ⟨zb, 0, none⟩)) (.iface 61 (.pointer (some ⟨rb, 0, none⟩))) r.pos, srB rb s]) (fun x => DescR rb s r x.1 x.2) ?_ ?_
  · refine w_seq ?_
    by_cases hfl : r.h.flags / 8 % 2 = 1
    · have hde := hde hfl
      have hdl := hde.len
      rw [descT_length] at hdl
      have cs2 := cSecNew (G := G) rb (base + r.data.length) 16 (by omega)
      refine w_region ?_
      refine o_t x_mv ?_
      refine o_t x_nc ?_
      refine o_t (x_fa f82_0) ?_
      refine o_call Tryz.call72 haa spla (cHasDesc fb r.h h.ok.ok.flags non w e l xv (.pointer (some ⟨zb, 0, none⟩)) (.iface 61 (.pointer (some ⟨rb, 0, none⟩))) r.pos) ?_
      rintro _ _ HH ⟨rfl, rfl⟩ hHH
      simp only [List.cons_append, List.nil_append, List.append_nil] at hHH; subst hHH
      refine o_nil ?_
      refine w_cond (t := true) (fun g => by simp only [evl, val, Nat.reduceEqDiff, ↓reduceIte, decide_eq_true hfl]) (fun hc => ?_) (fun hc => ?_) -- ('Go.Operand.tmp', 77)
      · --
        refine w_draw mixed ?_
        refine a_seg (k := 12) _ [(1, 0), (1, 1), (1, 2), (1, 3), (1, 4), (1, 5), (1, 6), (1, 7), (1, 8), (1, 9), (1, 10), (1, 11)] (by kernel_rfl) (HWk.refl _) ?_
        refine h_t rfl x_mv ?_
        refine h_t rfl x_nc ?_
        refine h_t rfl (x_fa f82_2) ?_
        refine h_t rfl (x_ld k64) ?_
        refine h_t rfl x_mv ?_
        refine h_t rfl x_nc ?_
        refine h_t rfl (x_fa f82_3) ?_
        refine h_t rfl (x_ld k2) ?_
        refine h_t rfl x_mv ?_
        refine h_t rfl (x_add (z := (base : Int)) (hz := (w_i64 (by omega)).trans (by omega))) ?_
        refine h_t rfl x_mv ?_
        refine h_t rfl (x_add (z := ((base + r.data.length : Nat) : Int)) (hz := (w_i64 (by omega)).trans (by omega))) ?_
        refine h_end ?_
        refine a_seg (k := 13) _ [(0, 12)] (by kernel_rfl) hwk_nil ?_
        refine h_one rfl (fun Q' hQ => ?_)
        refine o_call Tryz.call70 haa spla (cs2) ?_
        rintro _ _ HH ⟨sb2, rfl, rfl⟩ hHH
        simp only [List.cons_append, List.nil_append, List.append_nil] at hHH; subst hHH
        refine o_nil (hQ _ _ (h_keep ?_))
        refine h_end ?_
        refine a_seg (k := 14) _ [(1, 13)] (by kernel_rfl) (HWk.refl _) ?_
        refine h_t rfl x_p ?_
        refine h_end ?_
        refine a_seg (k := 15) _ [(1, 14)] (by kernel_rfl) (HWk.refl _) ?_
        refine h_t rfl x_as ?_
        refine h_end ?_
        refine a_done rfl ?_
        exact ⟨(.iface 164 (.pointer (some ⟨sb2, 0, none⟩)), secB sb2 rb (base + r.data.length) (base + r.data.length) (base + r.data.length + 16) 16), wka, hka, .inr ⟨sb2, base + r.data.length, rfl, rfl, hde⟩⟩
      · cases hc
    · refine w_region ?_
      refine o_t x_mv ?_
      refine o_t x_nc ?_
      refine o_t (x_fa f82_0) ?_
      refine o_call Tryz.call72 haa spla (cHasDesc fb r.h h.ok.ok.flags non w e l xv (.pointer (some ⟨zb, 0, none⟩)) (.iface 61 (.pointer (some ⟨rb, 0, none⟩))) r.pos) ?_
      rintro _ _ HH ⟨rfl, rfl⟩ hHH
      simp only [List.cons_append, List.nil_append, List.append_nil] at hHH; subst hHH
      refine o_nil ?_
      refine w_cond (t := false) (fun g => by simp only [evl, val, Nat.reduceEqDiff, ↓reduceIte, decide_eq_false hfl]) (fun hc => ?_) (fun hc => ?_) -- ('Go.Operand.tmp', 77)
      · cases hc
      · --
        refine w_skip ?_
        refine ⟨(.nilIface, []), wka, ?_, .inl ⟨rfl, rfl⟩⟩
        exact HWk.trans (B := [secB sb rb base base (base + r.data.length) r.data.length, fileH fb r.h non w e l xv (.pointer (some ⟨zb, 0, none⟩)) (.iface 61 (.pointer (some ⟨rb, 0, none⟩))) r.pos, srB rb s]) hka (hflat (by simp))
  rintro ⟨dv, dr⟩ hdr
  dsimp only at hdr ⊢
  have hdv1 : dv.oneCell' = true := by rcases hdr with ⟨rfl, _⟩ | ⟨_, _, rfl, _⟩ <;> rfl
  refine w_seq ?_
  refine w_region ?_
  refine o_t x_mv ?_
  refine o_al z145 (fun b93 => ?_)
  refine o_t x_mv ?_
  refine o_t x_mv ?_
  refine o_t (x_bd hla (bd173_0_1_3_4 (h4 := hdv1))) ?_
  refine o_bx (fun b97 => ?_)
  refine o_t x_p ?_
  refine o_t x_as ?_
  refine o_nil ?_
  refine w_seq ?_
  refine w_region ?_
  refine o_t x_mv ?_
  refine o_t x_as ?_
  refine o_t x_as ?_
  refine o_nil ?_
  refine w_ret (r_2 rfl ⟨_, sb, _, base, dv, dr, rfl, hl2, hdr, rfl⟩)
end Go.Proofs.YtlmefkhglooepaaGreatDoor
namespace Go.Proofs.YtlmefkhglooepaaGreatDoor
open Go
set_option linter.unusedSimpArgs false
set_option linter.unusedVariables false
variable {G : Nat → Option Obj} {ea : Nat → Addr}
theorem cSecEof (gl : Glob G ea) (sb rb base lim m : Nat) (v : Value) : Fn P G 194 #[.pointer (some ⟨sb, 0, none⟩), v] [secB sb rb base lim lim m] fun v H => v = .tuple #[.int .i64 0, errV ea 3] ∧ H = [secB sb rb base lim lim m] := by
  refine fn_intro (args := [_,_]) Tryz.func194 Tryz.ntmps194 rfl ?_
  refine w_seq ?_
  refine w_region ?_
  refine o_t x_as ?_
  refine o_t x_as ?_
  refine o_nil ?_
  refine w_seq ?_
  refine w_seq ?_
  refine w_quiet mixed (by kernel_rfl) ?_
  refine q_t x_mv ?_
  refine q_t x_nc ?_
  refine q_t (x_fa f208_2) ?_
  refine q_t (x_ld k2) ?_
  refine q_t x_mv ?_
  refine q_t x_nc ?_
  refine q_t (x_fa f208_3) ?_
  refine q_t (x_ld k2) ?_
  refine q_t x_cmp ?_
  refine q_nil ?_
  refine w_cond (t := true) (fun g => rfl) (fun hc => ?_) (fun hc => ?_) -- ('Go.Operand.tmp', 15)
  · refine w_seq ?_
    refine w_quiet mixed (by kernel_rfl) ?_
    refine q_t (x_err 3 gl) ?_
    refine q_t x_as ?_
    refine q_t x_as ?_
    refine q_nil ?_
    refine w_ret (r_2 rfl ⟨rfl, rfl⟩)
  · cases hc
theorem cDescr (gl : Glob G ea) (sb rb b2 fb : Nat) (s : List UInt8) (hs : s.length ≤ 2147483647) (crc n : Nat) (hcrc : crc < 4294967296) (hh : Has s b2 (descT crc n)) (h : Hd) (hc : h.crc = crc) (non : Bool) (w e l xv zp zi : Value) (pos : Nat) :
    Fn P G 199 #[.iface 164 (.pointer (some ⟨sb, 0, none⟩)), .pointer (some ⟨fb, 0, none⟩)] [secB sb rb b2 b2 (b2 + 16) 16, fileH fb h non w e l xv zp zi pos, srB rb s] fun v H => v = .nilIface ∧ H = [fileH fb h non w e l xv zp zi pos, srB rb s] := by
  have hlen := hh.len
  rw [descT_length] at hlen
  have RD := secRdr gl sb rb b2 (b2 + 16) 16 s hs hlen
  obtain ⟨t, ht⟩ : ∃ t, descT crc n = t := ⟨_, rfl⟩
  have htl : t.length = 16 := by rw [← ht]; simp
  have hts : (s.drop b2).take 16 = t := by rw [← ht]; exact hh.eq 16 (by simp)
  have hS0 : secS sb rb b2 (b2 + 16) 16 s t (secB sb rb b2 b2 (b2 + 16) 16 ++ srB rb s) := ⟨b2, by omega, by rw [Nat.add_sub_cancel_left, hts], rfl⟩
  have hT4 : t.take 4 = [80, 75, 7, 8] := by rw [← ht]; rfl
  have hT8 : Has t 4 (i4 crc) := by
    have := Has.mid' [80, 75, 7, 8] (i4 (crc : Int)) (i4 n ++ i4 n)
    rw [← ht]; simpa [descT] using this
  have q : (num (i4 (crc : Int)) : Int) = crc := num_i4 (by omega)
  have z16 : ∀ m : Nat, m ≤ 16 → (List.replicate 16 (Value.int .u8 0)).take m = List.replicate m (.int .u8 0) := fun m hm => by rw [List.take_replicate]; congr 1; omega
  have c1 := fun b5 => cReadFull' gl 164 (.pointer (some ⟨sb, 0, none⟩)) _ _ _ RD t _ hS0 b5 0 4 16 323 [.int .u8 0, .int .u8 0, .int .u8 0, .int .u8 0, .int .u8 0, .int .u8 0, .int .u8 0, .int .u8 0, .int .u8 0, .int .u8 0, .int .u8 0, .int .u8 0, .int .u8 0, .int .u8 0, .int .u8 0, .int .u8 0] (by decide) (by decide) (by decide)
  rw [hT4, if_pos (by omega), show min 4 t.length = 4 by omega] at c1
  obtain ⟨cs1, hcs1, hcs1l, hcs14⟩ : ∃ cs1, putB [.int .u8 0, .int .u8 0, .int .u8 0, .int .u8 0, .int .u8 0, .int .u8 0, .int .u8 0, .int .u8 0, .int .u8 0, .int .u8 0, .int .u8 0, .int .u8 0, .int .u8 0, .int .u8 0, .int .u8 0, .int .u8 0] 0 [80, 75, 7, 8] = cs1 ∧ cs1.length = 16 ∧ cs1.take 4 = [80, 75, 7, 8].map u8 := ⟨_, rfl, rfl, rfl⟩
  rw [hcs1] at c1
  refine fn_intro (args := [_,_]) Tryz.func199 Tryz.ntmps199 rfl ?_
  refine w_seq ?_
  refine w_region ?_
  refine o_t x_as ?_
  refine o_nil ?_
  refine w_seq ?_
  refine w_region ?_
  refine o_al z323 (fun b5 => ?_)
  refine o_nil ?_
  refine w_seq ?_
  refine w_seq ?_
  refine w_weak (L' := [(0, .iface 164 (.pointer (some ⟨sb, 0, none⟩))), (1, .pointer (some ⟨fb, 0, none⟩)), (5, .pointer (some ⟨b5, 0, none⟩))]) (H' := [pt b5 [.int .u8 0, .int .u8 0, .int .u8 0, .int .u8 0, .int .u8 0, .int .u8 0, .int .u8 0, .int .u8 0, .int .u8 0, .int .u8 0, .int .u8 0, .int .u8 0, .int .u8 0, .int .u8 0, .int .u8 0, .int .u8 0] 323, fileH fb h non w e l xv zp zi pos, secB sb rb b2 b2 (b2 + 16) 16 ++ srB rb s]) wka (HWk.trans (B := [pt b5 [.int .u8 0, .int .u8 0, .int .u8 0, .int .u8 0, .int .u8 0, .int .u8 0, .int .u8 0, .int .u8 0, .int .u8 0, .int .u8 0, .int .u8 0, .int .u8 0, .int .u8 0, .int .u8 0, .int .u8 0, .int .u8 0] 323, fileH fb h non w e l xv zp zi pos, secB sb rb b2 b2 (b2 + 16) 16, srB rb s]) hka (hflat (by simp))) ?_
  refine w_region ?_
  refine o_t x_mv ?_
  refine o_t (x_sla (lo := 0) (hi := 4) (v := .slice (some ⟨b5, 0, none⟩) 4 16) Tryz.underlying323 e323) ?_
  refine o_call Tryz.call103 haa spla (c1 b5) ?_
  rintro _ _ HH ⟨k1, hS1, rfl, rfl⟩ hHH
  simp only [List.cons_append, List.nil_append, List.append_nil] at hHH; subst hHH
  refine o_t x_mv ?_
  refine o_t x_ex ?_
  refine o_t x_ex ?_
  refine o_t x_as ?_
  refine o_t x_as ?_
  refine o_nil ?_
  refine w_seq ?_
  refine w_region ?_
  refine o_t x_mv ?_
  first | refine o_t (x_inil Tryz.underlying58) ?_ | refine o_t (x_isome Tryz.underlying58) ?_
  refine o_nil ?_
  refine w_cond (t := false) (fun g => rfl) (fun hc => ?_) (fun hc => ?_) -- ('Go.Operand.tmp', 20)
  · cases hc
  refine w_skip ?_
  refine w_seq ?_
  refine w_region ?_
  refine o_t x_as ?_
  refine o_nil ?_
  refine w_seq ?_
  refine w_region ?_
  refine o_t (x_sla (lo := 0) (hi := 4) (v := .slice (some ⟨b5, 0, none⟩) 4 16) Tryz.underlying323 e323) ?_
  refine o_al z204 (fun b9 => ?_)
  refine o_st k204 ?_
  refine o_nil ?_
  have hs1 : Sl G (pt b5 cs1 323) (.slice (some ⟨b5, 0, none⟩) 4 16) ([80, 75, 7, 8] : List UInt8) := ⟨b5, 0, 16, rfl, by decide, Rd.pt 0 _ (fun i v hi => by
    rw [← hcs14] at hi; rw [Nat.zero_add]; rw [List.getElem?_take] at hi; split at hi; exact hi; cases hi)⟩
  refine w_seq ?_
  refine w_seq ?_
  refine w_region ?_
  refine o_call Tryz.call96 haa spla (cRb32H b9 _ _ [80, 75, 7, 8] 0 [80, 75, 7, 8] 134695760 hs1 ⟨by decide, rfl⟩ rfl (by decide)) ?_
  rintro _ _ HH ⟨rfl, v2, hs2, rfl⟩ hHH
  simp only [List.cons_append, List.nil_append, List.append_nil] at hHH; subst hHH
  refine o_t x_ne ?_
  refine o_nil ?_
  refine w_cond (t := false) (fun g => rfl) (fun hc => ?_) (fun hc => ?_) -- ('Go.Operand.tmp', 24)
  · cases hc
  refine w_skip ?_
  have c2 := cReadFull' gl 164 (.pointer (some ⟨sb, 0, none⟩)) _ _ _ RD (t.drop 4) k1 hS1 b5 0 12 16 323 cs1 (by decide) (by decide) (by omega)
  rw [if_pos (by rw [List.length_drop]; omega), show min 12 (t.drop 4).length = 12 by rw [List.length_drop]; omega] at c2
  obtain ⟨u, hu⟩ : ∃ u, (t.drop 4).take 12 = u := ⟨_, rfl⟩
  have hul : u.length = 12 := by rw [← hu, List.length_take, List.length_drop]; omega
  have hU : Has u 0 (i4 crc) := by rw [← hu]; exact ((Has.drop1 (by omega)).2 hT8).take (by simp)
  rw [hu] at c2
  refine w_seq ?_
  refine w_seq ?_
  refine w_region ?_
  refine o_t x_mv ?_
  refine o_t x_mv ?_
  refine o_t (x_sla (lo := 0) (hi := 12) (v := .slice (some ⟨b5, 0, none⟩) 12 16) Tryz.underlying323 e323) ?_
  refine o_call Tryz.call103 haa spla (c2) ?_
  rintro _ _ HH ⟨K2, hS2, rfl, rfl⟩ hHH
  simp only [List.cons_append, List.nil_append, List.append_nil] at hHH; subst hHH
  refine o_t x_mv ?_
  refine o_t x_ex ?_
  refine o_t x_ex ?_
  refine o_t x_as ?_
  refine o_t x_as ?_
  refine o_nil ?_
  refine w_seq ?_
  refine w_region ?_
  refine o_t x_mv ?_
  first | refine o_t (x_inil Tryz.underlying58) ?_ | refine o_t (x_isome Tryz.underlying58) ?_
  refine o_nil ?_
  refine w_cond (t := false) (fun g => rfl) (fun hc => ?_) (fun hc => ?_) -- ('Go.Operand.tmp', 35)
  · cases hc
  refine w_skip ?_
  refine w_seq ?_
  refine w_region ?_
  refine o_t (x_sla (lo := 0) (hi := 12) (v := .slice (some ⟨b5, 0, none⟩) 12 16) Tryz.underlying323 e323) ?_
  refine o_al z204 (fun b12 => ?_)
  refine o_st k204 ?_
  refine o_nil ?_
  have hs5 : Sl G (pt b5 (putB cs1 0 u) 323) (.slice (some ⟨b5, 0, none⟩) 12 16) (u.drop 0) := ⟨b5, 0, 16, by rw [List.drop_zero, hul], by rw [List.drop_zero, hul]; decide, Rd.pt 0 _ (fun i v hi => by
    rw [List.drop_zero] at hi
    rw [Nat.zero_add, putB, List.take_zero, List.nil_append, List.getElem?_append_left (List.getElem?_eq_some_iff.1 hi).1]; exact hi)⟩
  have cr := cRb32H (G := G) b12 _ _ u 0 (i4 crc) crc hs5 hU (by simp) q
  refine w_weak (L' := [(1, .pointer (some ⟨fb, 0, none⟩)), (12, .pointer (some ⟨b12, 0, none⟩))]) (H' := [fileH fb h non w e l xv zp zi pos, pt b12 [.slice (some ⟨b5, 0, none⟩) 12 16] 204, pt b5 (putB cs1 0 u) 323, K2]) wka hka ?_
  refine w_seq ?_
  refine w_seq ?_
  refine w_draw mixed ?_
  refine a_seg (k := 6) _ [(1, 1), (1, 2), (1, 3), (1, 4), (1, 5), (0, 0)] (by kernel_rfl) (hwk (.cons .head .nil)) ?_
  refine h_t rfl x_mv ?_
  refine h_t rfl x_nc ?_
  refine h_t rfl (x_fa f82_0) ?_
  refine h_t rfl (x_fa f80_10) ?_
  refine h_t rfl (x_ld k77) ?_
  refine h_one rfl (fun Q' hQ => ?_)
  refine o_call Tryz.call96 haa spla (cr) ?_
  rintro _ _ HH ⟨rfl, v6, hs6, rfl⟩ hHH
  simp only [List.cons_append, List.nil_append, List.append_nil] at hHH; subst hHH
  refine o_nil (hQ _ _ (h_keep ?_))
  refine h_end ?_
  refine a_seg (k := 7) _ [(1, 6)] (by kernel_rfl) (HWk.refl _) ?_
  refine h_t rfl x_ne ?_
  refine h_end ?_
  refine a_done rfl ?_
  refine w_cond (t := false) (fun g => rfl) (fun hc => ?_) (fun hc => ?_) -- ('Go.Operand.tmp', 44)
  · cases hc
  refine w_skip ?_
  refine w_seq ?_
  refine w_region ?_
  refine o_t x_as ?_
  refine o_nil ?_
  refine w_ret (r_1 rfl ⟨rfl, rfl⟩ (hH := ?_))
  obtain ⟨off, _, _, rfl⟩ := hS2
  exact HWk.trans (B := [fileH fb h non w e l xv zp zi pos, secB sb rb b2 off (b2 + 16) 16 ++ srB rb s]) hka (HWk.trans (B := [fileH fb h non w e l xv zp zi pos, secB sb rb b2 off (b2 + 16) 16, srB rb s]) (hflat (by simp)) hka)
/-- A read that gives bytes. -/
theorem cCrRead (gl : Glob G ea) (cb sb hb fb rb base : Nat) (dv : Value) (s : List UInt8) (r : ZR) (h : Readable s r) (hs : s.length ≤ 2147483647) (hB : Has s base r.data) (con rem : List UInt8) (hcr : r.data = con ++ rem) (hne : rem ≠ [])
    (non : Bool) (w e l xv zp zi : Value) (b o len cap T : Nat) (cs : List Value) (h0 : 0 < len) (hlen : len ≤ cap) (hfit : o + len ≤ cs.length) (hl1 : len ≤ 2147483647) :
    Fn P G 198 #[.pointer (some ⟨cb, 0, none⟩), .slice (some ⟨b, o, none⟩) len cap] [pt b cs T, crB cb sb hb fb con.length dv, crcB hb con, secB sb rb base (base + con.length) (base + r.data.length) r.data.length, fileH fb r.h non w e l xv zp zi r.pos, srB rb s]
      fun v H => ∃ n, 0 < n ∧ n ≤ len ∧ n ≤ rem.length ∧ v = .tuple #[.int .i64 n, .nilIface] ∧
        H = [pt b (putB cs o (rem.take n)) T, crB cb sb hb fb (con.length + n) dv, crcB hb (con ++ rem.take n), secB sb rb base (base + con.length + n) (base + r.data.length) r.data.length, fileH fb r.h non w e l xv zp zi r.pos, srB rb s] := by
  have hsm := h.small
  have hsz := h.size
  have hrl : 0 < rem.length := List.length_pos_iff.2 hne
  have hBl := hB.len
  have hdl : r.data.length = con.length + rem.length := by rw [hcr, List.length_append]
  obtain ⟨n, hn⟩ : ∃ n, min len rem.length = n := ⟨_, rfl⟩
  have hrem : (s.drop (base + con.length)).take n = rem.take n := by
    have h1 := hB.2
    have h2 : (s.drop base).take r.data.length = con ++ rem := by rw [h1, hcr]
    have h3 : ((s.drop base).take r.data.length).drop con.length = rem := by rw [h2, List.drop_left]
    rw [List.drop_take, List.drop_drop] at h3
    rw [← h3, List.take_take, Nat.min_eq_left (by omega)]
  have crd := cSecRead gl sb rb base (base + con.length) (base + r.data.length) r.data.length b o len cap T cs s hs hfit (by omega) (by omega) h0 hlen hl1
  rw [show base + r.data.length - (base + con.length) = rem.length by omega, hn, hrem] at crd
  have hnl : (rem.take n).length = n := by rw [List.length_take]; omega
  have hsl : Sl G (pt b (putB cs o (rem.take n)) T) (.slice (some ⟨b, o, none⟩) n cap) (rem.take n) := ⟨b, o, cap, by rw [hnl], by rw [hnl]; omega, Rd.pt o _ (fun i v hi => by
    have hi2 := (List.getElem?_eq_some_iff.1 hi).1
    rw [List.length_map, hnl] at hi2
    have ho : (cs.take o).length = o := by rw [List.length_take]; omega
    rw [putB, List.append_assoc, List.getElem?_append_right (by omega), ho, Nat.add_sub_cancel_left, List.getElem?_append_left (by rw [List.length_map, hnl]; exact hi2)]
    exact hi)⟩
  have chw := cHashWrite (G := G) hb con _ _ (rem.take n) hsl (by omega)
  refine fn_intro (args := [_,_]) Tryz.func198 Tryz.ntmps198 rfl ?_
  refine w_seq ?_
  refine w_region ?_
  refine o_t x_as ?_
  refine o_t x_as ?_
  refine o_nil ?_
  refine w_seq ?_
  refine w_seq ?_
  refine w_region ?_
  refine o_t x_mv ?_
  refine o_t x_nc ?_
  refine o_t (x_fa f173_5) ?_
  refine o_t (x_ld k58) ?_
  first | refine o_t (x_inil Tryz.underlying58) ?_ | refine o_t (x_isome Tryz.underlying58) ?_
  refine o_nil ?_
  refine w_cond (t := false) (fun g => rfl) (fun hc => ?_) (fun hc => ?_) -- ('Go.Operand.tmp', 11)
  · cases hc
  refine w_skip ?_
  refine w_seq ?_
  refine w_region ?_
  refine o_t x_mv ?_
  refine o_t x_nc ?_
  refine o_t (x_fa f173_0) ?_
  refine o_t (x_ld k105) ?_
  refine o_t x_mv ?_
  refine o_inv (m291_Read 0 _) hxa haa spla vca (crd) ?_
  rintro _ HH ⟨rfl, rfl⟩
  simp only [List.cons_append, List.nil_append, List.append_nil]
  refine o_t x_mv ?_
  refine o_t x_ex ?_
  refine o_t x_ex ?_
  refine o_t x_as ?_
  refine o_t x_as ?_
  refine o_nil ?_
  refine w_weak (L' := [(0, .pointer (some ⟨cb, 0, none⟩)), (1, .slice (some ⟨b, o, none⟩) len cap), (4, .int .i64 n), (5, .nilIface)]) (H' := [crB cb sb hb fb con.length dv, pt b (putB cs o (rem.take n)) T, crcB hb con, secB sb rb base (base + con.length + n) (base + r.data.length) r.data.length, fileH fb r.h non w e l xv zp zi r.pos, srB rb s]) wka hka ?_
  refine w_seq ?_
  refine w_draw mixed ?_
  refine a_seg (k := 7) _ [(1, 0), (1, 1), (1, 2), (1, 3), (1, 4), (1, 5), (1, 6)] (by kernel_rfl) (hwk (.cons .head .nil)) ?_
  refine h_t rfl x_mv ?_
  refine h_t rfl x_nc ?_
  refine h_t rfl (x_fa f173_1) ?_
  refine h_t rfl (x_ld k143) ?_
  refine h_t rfl x_mv ?_
  refine h_t rfl x_mv ?_
  refine h_t rfl (x_sl (lo := 0) (hi := n) (v := .slice (some ⟨b, o, none⟩) n cap) Tryz.underlying78 e78 (hv := by simp [slV])) ?_
  refine h_end ?_
  refine a_seg (k := 8) _ [(0, 7)] (by kernel_rfl) hwk_nil ?_
  refine h_one rfl (fun Q' hQ => ?_)
  refine o_call Tryz.call184 haa spla (chw) ?_
  rintro _ _ HH ⟨rfl, rfl⟩ hHH
  simp only [List.cons_append, List.nil_append, List.append_nil] at hHH; subst hHH
  refine o_nil (hQ _ _ (h_keep ?_))
  refine h_end ?_
  refine a_done rfl ?_
  refine w_seq ?_
  refine w_region ?_
  refine o_t x_mv ?_
  refine o_t x_nc ?_
  refine o_t (x_fa f173_2) ?_
  refine o_t (x_ld k73) ?_
  refine o_t x_mv ?_
  refine o_t (x_cv ⟨_, Tryz.underlying3⟩ Tryz.underlying73) ?_
  refine o_t (x_add (z := ((con.length + n : Nat) : Int)) (hz := (w_u64 (by omega)).trans (by omega))) ?_
  refine o_t x_nc ?_
  refine o_t (x_fa f173_2) ?_
  refine o_st k73 ?_
  refine o_nil ?_
  refine w_seq ?_
  refine w_seq ?_
  refine w_quiet mixed (by kernel_rfl) ?_
  refine q_t x_mv ?_
  refine q_t x_nc ?_
  refine q_t (x_fa f173_2) ?_
  refine q_t (x_ld k73) ?_
  refine q_t x_mv ?_
  refine q_t x_nc ?_
  refine q_t (x_fa f173_3) ?_
  refine q_t (x_ld k69) ?_
  refine q_t x_nc ?_
  refine q_t (x_fa f82_0) ?_
  refine q_t (x_fa f80_14) ?_
  refine q_t (x_ld k73) ?_
  refine q_t x_cmp ?_
  refine q_nil ?_
  refine w_cond (t := false) (fun g => rfl) (fun hc => ?_) (fun hc => ?_) -- ('Go.Operand.tmp', 54)
  · cases hc
  refine w_skip ?_
  refine w_seq ?_
  refine w_seq ?_
  refine w_region ?_
  refine o_t x_mv ?_
  first | refine o_t (x_inil' Tryz.underlying58) ?_ | refine o_t (x_isome' Tryz.underlying58) ?_
  refine o_nil ?_
  refine w_cond (t := true) (fun g => rfl) (fun hc => ?_) (fun hc => ?_) -- ('Go.Operand.tmp', 57)
  · --
    refine w_ret (r_2 rfl ⟨n, by omega, by omega, by omega, rfl, rfl⟩)
  · cases hc
/-- The read at the end. -/
theorem cCrEof (gl : Glob G ea) (cb sb hb fb rb base : Nat) (dv : Value) (dr : Res) (s : List UInt8) (r : ZR) (h : Readable s r) (hs : s.length ≤ 2147483647) (hdr : DescR rb s r dv dr)
    (non : Bool) (w e l xv zp zi : Value) (b o len cap T : Nat) (cs : List Value) (hlen : len ≤ cap) :
    Fn P G 198 #[.pointer (some ⟨cb, 0, none⟩), .slice (some ⟨b, o, none⟩) len cap] [pt b cs T, crB cb sb hb fb r.data.length dv, crcB hb r.data, secB sb rb base (base + r.data.length) (base + r.data.length) r.data.length, dr, fileH fb r.h non w e l xv zp zi r.pos, srB rb s]
      fun v H => v = .tuple #[.int .i64 0, errV ea 3] ∧ H = [pt b cs T] := by
  have hsm := h.small
  have hsz := h.size
  have hcrc := h.crc
  have hcl := crcT_lt r.data
  have crd := cSecEof gl sb rb base (base + r.data.length) r.data.length (.slice (some ⟨b, o, none⟩) len cap)
  have hsl : Sl G (pt b cs T) (.slice (some ⟨b, o, none⟩) 0 cap) [] := ⟨b, o, cap, rfl, Nat.zero_le _, Rd.pt o _ (fun i v hi => by simp at hi)⟩
  have chw := cHashWrite (G := G) hb r.data _ _ [] hsl (by simp)
  rw [List.append_nil] at chw
  refine fn_intro (args := [_,_]) Tryz.func198 Tryz.ntmps198 rfl ?_
  refine w_seq ?_
  refine w_region ?_
  refine o_t x_as ?_
  refine o_t x_as ?_
  refine o_nil ?_
  refine w_seq ?_
  refine w_seq ?_
  refine w_region ?_
  refine o_t x_mv ?_
  refine o_t x_nc ?_
  refine o_t (x_fa f173_5) ?_
  refine o_t (x_ld k58) ?_
  first | refine o_t (x_inil Tryz.underlying58) ?_ | refine o_t (x_isome Tryz.underlying58) ?_
  refine o_nil ?_
  refine w_cond (t := false) (fun g => rfl) (fun hc => ?_) (fun hc => ?_) -- ('Go.Operand.tmp', 11)
  · cases hc
  refine w_skip ?_
  refine w_seq ?_
  refine w_region ?_
  refine o_t x_mv ?_
  refine o_t x_nc ?_
  refine o_t (x_fa f173_0) ?_
  refine o_t (x_ld k105) ?_
  refine o_t x_mv ?_
  refine o_inv (m291_Read 0 _) hxa haa spla vca (crd) ?_
  rintro _ HH ⟨rfl, rfl⟩
  simp only [List.cons_append, List.nil_append, List.append_nil]
  refine o_t x_mv ?_
  refine o_t x_ex ?_
  refine o_t x_ex ?_
  refine o_t x_as ?_
  refine o_t x_as ?_
  refine o_nil ?_
  refine w_weak (L' := [(0, .pointer (some ⟨cb, 0, none⟩)), (1, .slice (some ⟨b, o, none⟩) len cap), (4, .int .i64 0), (5, errV ea 3)]) (H' := [crB cb sb hb fb r.data.length dv, pt b cs T, crcB hb r.data, dr, fileH fb r.h non w e l xv zp zi r.pos, srB rb s]) wka hka ?_
  refine w_seq ?_
  refine w_draw mixed ?_
  refine a_seg (k := 7) _ [(1, 0), (1, 1), (1, 2), (1, 3), (1, 4), (1, 5), (1, 6)] (by kernel_rfl) (hwk (.cons .head .nil)) ?_
  refine h_t rfl x_mv ?_
  refine h_t rfl x_nc ?_
  refine h_t rfl (x_fa f173_1) ?_
  refine h_t rfl (x_ld k143) ?_
  refine h_t rfl x_mv ?_
  refine h_t rfl x_mv ?_
  refine h_t rfl (x_sl (lo := 0) (hi := 0) (v := .slice (some ⟨b, o, none⟩) 0 cap) Tryz.underlying78 e78 (hv := by simp [slV])) ?_
  refine h_end ?_
  refine a_seg (k := 8) _ [(0, 7)] (by kernel_rfl) hwk_nil ?_
  refine h_one rfl (fun Q' hQ => ?_)
  refine o_call Tryz.call184 haa spla (chw) ?_
  rintro _ _ HH ⟨rfl, rfl⟩ hHH
  simp only [List.cons_append, List.nil_append, List.append_nil] at hHH; subst hHH
  refine o_nil (hQ _ _ (h_keep ?_))
  refine h_end ?_
  refine a_done rfl ?_
  refine w_seq ?_
  refine w_region ?_
  refine o_t x_mv ?_
  refine o_t x_nc ?_
  refine o_t (x_fa f173_2) ?_
  refine o_t (x_ld k73) ?_
  refine o_t x_mv ?_
  refine o_t (x_cv ⟨_, Tryz.underlying3⟩ Tryz.underlying73) ?_
  refine o_t (x_add (z := (r.data.length : Int)) (hz := (w_u64 (by omega)).trans (by omega))) ?_
  refine o_t x_nc ?_
  refine o_t (x_fa f173_2) ?_
  refine o_st k73 ?_
  refine o_nil ?_
  refine w_seq ?_
  refine w_seq ?_
  refine w_quiet mixed (by kernel_rfl) ?_
  refine q_t x_mv ?_
  refine q_t x_nc ?_
  refine q_t (x_fa f173_2) ?_
  refine q_t (x_ld k73) ?_
  refine q_t x_mv ?_
  refine q_t x_nc ?_
  refine q_t (x_fa f173_3) ?_
  refine q_t (x_ld k69) ?_
  refine q_t x_nc ?_
  refine q_t (x_fa f82_0) ?_
  refine q_t (x_fa f80_14) ?_
  refine q_t (x_ld k73) ?_
  refine q_t x_cmp ?_
  refine q_nil ?_
  refine w_cond (t := false) (fun g => rfl) (fun hc => ?_) (fun hc => ?_) -- ('Go.Operand.tmp', 54)
  · cases hc
  refine w_skip ?_
  refine w_seq ?_
  refine w_seq ?_
  refine w_region ?_
  refine o_t x_mv ?_
  first | refine o_t (x_inil' Tryz.underlying58) ?_ | refine o_t (x_isome' Tryz.underlying58) ?_
  refine o_nil ?_
  refine w_cond (t := false) (fun g => rfl) (fun hc => ?_) (fun hc => ?_) -- ('Go.Operand.tmp', 57)
  · cases hc
  refine w_skip ?_
  refine w_seq ?_
  refine w_seq ?_
  refine w_region ?_
  refine o_t x_mv ?_
  refine o_t (x_err 3 gl) ?_
  refine o_t (x_eqe 3 3 gl) ?_
  refine o_nil ?_
  refine w_cond (t := true) (fun g => rfl) (fun hc => ?_) (fun hc => ?_) -- ('Go.Operand.tmp', 60)
  case refine_2 => cases hc
  refine w_seq ?_
  refine w_seq ?_
  refine w_quiet mixed (by kernel_rfl) ?_
  refine q_t x_mv ?_
  refine q_t x_nc ?_
  refine q_t (x_fa f173_2) ?_
  refine q_t (x_ld k73) ?_
  refine q_t x_mv ?_
  refine q_t x_nc ?_
  refine q_t (x_fa f173_3) ?_
  refine q_t (x_ld k69) ?_
  refine q_t x_nc ?_
  refine q_t (x_fa f82_0) ?_
  refine q_t (x_fa f80_14) ?_
  refine q_t (x_ld k73) ?_
  refine q_t x_ne ?_
  refine q_nil ?_
  refine w_cond (t := false) (fun g => rfl) (fun hc => ?_) (fun hc => ?_) -- ('Go.Operand.tmp', 73)
  · cases hc
  refine w_skip ?_
  refine w_seq ?_
  rcases hdr with ⟨rfl, rfl⟩ | ⟨sb2, b2, rfl, rfl, hh⟩
  · refine w_region ?_
    refine o_t x_mv ?_
    refine o_t x_nc ?_
    refine o_t (x_fa f173_4) ?_
    refine o_t (x_ld k170) ?_
    first | refine o_t (x_inil Tryz.underlying170) ?_ | refine o_t (x_isome Tryz.underlying170) ?_
    refine o_nil ?_
    refine w_cond (t := false) (fun g => rfl) (fun hc => ?_) (fun hc => ?_) -- ('Go.Operand.tmp', 79)
    · cases hc
    · --
      refine w_seq ?_
      by_cases hz : r.h.crc = 0
      · refine w_draw mixed ?_
        refine a_seg (k := 1) _ [(1, 0)] (by kernel_rfl) (HWk.refl _) ?_
        refine h_t rfl x_mv ?_
        refine h_end ?_
        refine a_seg (k := 2) _ [(1, 1)] (by kernel_rfl) (HWk.refl _) ?_
        refine h_t rfl x_nc ?_
        refine h_end ?_
        refine a_seg (k := 3) _ [(1, 2)] (by kernel_rfl) (HWk.refl _) ?_
        refine h_t rfl (x_fa f173_3) ?_
        refine h_end ?_
        refine a_seg (k := 4) _ [(1, 3)] (by kernel_rfl) (HWk.refl _) ?_
        refine h_t rfl (x_ld k69) ?_
        refine h_end ?_
        refine a_seg (k := 5) _ [(1, 4)] (by kernel_rfl) (HWk.refl _) ?_
        refine h_t rfl x_nc ?_
        refine h_end ?_
        refine a_seg (k := 6) _ [(1, 5)] (by kernel_rfl) (HWk.refl _) ?_
        refine h_t rfl (x_fa f82_0) ?_
        refine h_end ?_
        refine a_seg (k := 7) _ [(1, 6)] (by kernel_rfl) (HWk.refl _) ?_
        refine h_t rfl (x_fa f80_10) ?_
        refine h_end ?_
        refine a_seg (k := 8) _ [(1, 7)] (by kernel_rfl) (HWk.refl _) ?_
        refine h_t rfl (x_ld k77) ?_
        refine h_end ?_
        refine a_seg (k := 9) _ [(1, 8)] (by kernel_rfl) (HWk.refl _) ?_
        refine h_t rfl x_ne ?_
        refine h_end ?_
        refine a_seg (k := 10) _ [(1, 9)] (by kernel_rfl) (HWk.refl _) ?_
        refine h_t rfl x_mv ?_
        refine h_end ?_
        refine a_seg (k := 23) _ [(1, 10), (1, 11), (1, 12), (1, 13), (1, 15), (1, 16), (1, 17), (1, 18), (1, 19), (1, 20), (1, 21), (1, 22), (0, 14)] (by kernel_rfl) hka ?_
        first | refine h_t rfl (x_g x_mv) ?_ | refine h_t rfl x_gs ?_ | refine h_t rfl x_gu ?_
        first | refine h_t rfl (x_g x_nc) ?_ | refine h_t rfl x_gs ?_ | refine h_t rfl x_gu ?_
        first | refine h_t rfl (x_g (x_fa f173_1)) ?_ | refine h_t rfl x_gs ?_ | refine h_t rfl x_gu ?_
        first | refine h_t rfl (x_g (x_ld k143)) ?_ | refine h_t rfl x_gs ?_ | refine h_t rfl x_gu ?_
        first | refine h_t rfl (x_g x_mv) ?_ | refine h_t rfl x_gs ?_ | refine h_t rfl x_gu ?_
        first | refine h_t rfl (x_g x_nc) ?_ | refine h_t rfl x_gs ?_ | refine h_t rfl x_gu ?_
        first | refine h_t rfl (x_g (x_fa f173_3)) ?_ | refine h_t rfl x_gs ?_ | refine h_t rfl x_gu ?_
        first | refine h_t rfl (x_g (x_ld k69)) ?_ | refine h_t rfl x_gs ?_ | refine h_t rfl x_gu ?_
        first | refine h_t rfl (x_g x_nc) ?_ | refine h_t rfl x_gs ?_ | refine h_t rfl x_gu ?_
        first | refine h_t rfl (x_g (x_fa f82_0)) ?_ | refine h_t rfl x_gs ?_ | refine h_t rfl x_gu ?_
        first | refine h_t rfl (x_g (x_fa f80_10)) ?_ | refine h_t rfl x_gs ?_ | refine h_t rfl x_gu ?_
        first | refine h_t rfl (x_g (x_ld k77)) ?_ | refine h_t rfl x_gs ?_ | refine h_t rfl x_gu ?_
        refine h_one rfl (fun Q' hQ => ?_)
        first | (refine o_gy (?_); refine o_t x_gs ?_) | refine o_t x_gs ?_ | refine o_t x_gu ?_
        refine o_nil (hQ _ _ (h_keep ?_))
        refine h_end ?_
        refine a_seg (k := 24) _ [(1, 23)] (by kernel_rfl) (HWk.refl _) ?_
        first | refine h_t rfl (x_g x_ne) ?_ | refine h_t rfl x_gs ?_ | refine h_t rfl x_gu ?_
        refine h_end ?_
        refine a_seg (k := 25) _ [(1, 24)] (by kernel_rfl) (HWk.refl _) ?_
        refine h_t rfl x_pick ?_
        refine h_end ?_
        refine a_done rfl ?_
        refine w_cond (t := false) (fun g => rfl) (fun hc => ?_) (fun hc => ?_) -- ('Go.Operand.tmp', 135)
        · cases hc
        · --
          refine w_skip ?_
          refine w_seq ?_
          refine w_region ?_
          refine o_t x_mv ?_
          refine o_t x_mv ?_
          refine o_t x_nc ?_
          refine o_t (x_fa f173_5) ?_
          refine o_st k58 ?_
          refine o_nil ?_
          refine w_ret (r_2 rfl ⟨rfl, rfl⟩)
      · refine w_draw mixed ?_
        refine a_seg (k := 1) _ [(1, 0)] (by kernel_rfl) (hwk (.cons .head (.cons .head (.cons .head .nil)))) ?_
        refine h_t rfl x_mv ?_
        refine h_end ?_
        refine a_seg (k := 2) _ [(1, 1)] (by kernel_rfl) (HWk.refl _) ?_
        refine h_t rfl x_nc ?_
        refine h_end ?_
        refine a_seg (k := 3) _ [(1, 2)] (by kernel_rfl) (HWk.refl _) ?_
        refine h_t rfl (x_fa f173_3) ?_
        refine h_end ?_
        refine a_seg (k := 4) _ [(1, 3)] (by kernel_rfl) (HWk.refl _) ?_
        refine h_t rfl (x_ld k69) ?_
        refine h_end ?_
        refine a_seg (k := 5) _ [(1, 4)] (by kernel_rfl) (HWk.refl _) ?_
        refine h_t rfl x_nc ?_
        refine h_end ?_
        refine a_seg (k := 6) _ [(1, 5)] (by kernel_rfl) (HWk.refl _) ?_
        refine h_t rfl (x_fa f82_0) ?_
        refine h_end ?_
        refine a_seg (k := 7) _ [(1, 6)] (by kernel_rfl) (HWk.refl _) ?_
        refine h_t rfl (x_fa f80_10) ?_
        refine h_end ?_
        refine a_seg (k := 8) _ [(1, 7)] (by kernel_rfl) (HWk.refl _) ?_
        refine h_t rfl (x_ld k77) ?_
        refine h_end ?_
        refine a_seg (k := 9) _ [(1, 8)] (by kernel_rfl) (HWk.refl _) ?_
        refine h_t rfl x_ne ?_
        refine h_end ?_
        refine a_seg (k := 10) _ [(1, 9)] (by kernel_rfl) (HWk.refl _) ?_
        refine h_t rfl x_mv ?_
        refine h_end ?_
        refine a_seg (k := 23) _ [(1, 10), (1, 11), (1, 12), (1, 13), (1, 15), (1, 16), (1, 17), (1, 18), (1, 19), (1, 20), (1, 21), (1, 22), (0, 14)] (by kernel_rfl) hka ?_
        first | refine h_t rfl (x_g x_mv) ?_ | refine h_t rfl x_gs ?_ | refine h_t rfl x_gu ?_
        first | refine h_t rfl (x_g x_nc) ?_ | refine h_t rfl x_gs ?_ | refine h_t rfl x_gu ?_
        first | refine h_t rfl (x_g (x_fa f173_1)) ?_ | refine h_t rfl x_gs ?_ | refine h_t rfl x_gu ?_
        first | refine h_t rfl (x_g (x_ld k143)) ?_ | refine h_t rfl x_gs ?_ | refine h_t rfl x_gu ?_
        first | refine h_t rfl (x_g x_mv) ?_ | refine h_t rfl x_gs ?_ | refine h_t rfl x_gu ?_
        first | refine h_t rfl (x_g x_nc) ?_ | refine h_t rfl x_gs ?_ | refine h_t rfl x_gu ?_
        first | refine h_t rfl (x_g (x_fa f173_3)) ?_ | refine h_t rfl x_gs ?_ | refine h_t rfl x_gu ?_
        first | refine h_t rfl (x_g (x_ld k69)) ?_ | refine h_t rfl x_gs ?_ | refine h_t rfl x_gu ?_
        first | refine h_t rfl (x_g x_nc) ?_ | refine h_t rfl x_gs ?_ | refine h_t rfl x_gu ?_
        first | refine h_t rfl (x_g (x_fa f82_0)) ?_ | refine h_t rfl x_gs ?_ | refine h_t rfl x_gu ?_
        first | refine h_t rfl (x_g (x_fa f80_10)) ?_ | refine h_t rfl x_gs ?_ | refine h_t rfl x_gu ?_
        first | refine h_t rfl (x_g (x_ld k77)) ?_ | refine h_t rfl x_gs ?_ | refine h_t rfl x_gu ?_
        refine h_one rfl (fun Q' hQ => ?_)
        first | (refine o_gy (?_); refine o_call Tryz.call116 haa spla (cSum32 hb r.data) ?_; rintro _ _ HH ⟨rfl, rfl⟩ hHH; simp only [List.cons_append, List.nil_append, List.append_nil] at hHH; subst hHH) | refine o_t x_gs ?_ | refine o_t x_gu ?_
        refine o_nil (hQ _ _ (h_keep ?_))
        refine h_end ?_
        refine a_seg (k := 24) _ [(1, 23)] (by kernel_rfl) (HWk.refl _) ?_
        first | refine h_t rfl (x_g x_ne) ?_ | refine h_t rfl x_gs ?_ | refine h_t rfl x_gu ?_
        refine h_end ?_
        refine a_seg (k := 25) _ [(1, 24)] (by kernel_rfl) (HWk.refl _) ?_
        refine h_t rfl x_pick ?_
        refine h_end ?_
        refine a_done rfl ?_
        refine w_cond (t := false) (fun g => rfl) (fun hc => ?_) (fun hc => ?_) -- ('Go.Operand.tmp', 135)
        · cases hc
        · --
          refine w_skip ?_
          refine w_seq ?_
          refine w_region ?_
          refine o_t x_mv ?_
          refine o_t x_mv ?_
          refine o_t x_nc ?_
          refine o_t (x_fa f173_5) ?_
          refine o_st k58 ?_
          refine o_nil ?_
          refine w_ret (r_2 rfl ⟨rfl, rfl⟩)
  · have cd := cDescr gl sb2 rb b2 fb s hs (crcT r.data) r.data.length hcl hh r.h hcrc non w e l xv zp zi r.pos
    refine w_region ?_
    refine o_t x_mv ?_
    refine o_t x_nc ?_
    refine o_t (x_fa f173_4) ?_
    refine o_t (x_ld k170) ?_
    first | refine o_t (x_inil Tryz.underlying170) ?_ | refine o_t (x_isome Tryz.underlying170) ?_
    refine o_nil ?_
    refine w_cond (t := true) (fun g => rfl) (fun hc => ?_) (fun hc => ?_) -- ('Go.Operand.tmp', 79)
    case refine_2 => cases hc
    refine w_seq ?_
    refine w_weak (L' := [(0, .pointer (some ⟨cb, 0, none⟩)), (4, .int .i64 0), (5, errV ea 3)]) (H' := [crB cb sb hb fb r.data.length (.iface 164 (.pointer (some ⟨sb2, 0, none⟩))), fileH fb r.h non w e l xv zp zi r.pos, crcB hb r.data, secB sb2 rb b2 b2 (b2 + 16) 16, pt b cs T, srB rb s]) wka hka ?_
    refine w_draw mixed ?_
    refine a_seg (k := 8) _ [(1, 0), (1, 1), (1, 2), (1, 3), (1, 4), (1, 5), (1, 6), (1, 7)] (by kernel_rfl) (hwk (.cons .head .nil)) ?_
    refine h_t rfl x_mv ?_
    refine h_t rfl x_nc ?_
    refine h_t rfl (x_fa f173_4) ?_
    refine h_t rfl (x_ld k170) ?_
    refine h_t rfl x_mv ?_
    refine h_t rfl x_nc ?_
    refine h_t rfl (x_fa f173_3) ?_
    refine h_t rfl (x_ld k69) ?_
    refine h_end ?_
    refine a_seg (k := 9) _ [(0, 8)] (by kernel_rfl) hwk_nil ?_
    refine h_one rfl (fun Q' hQ => ?_)
    refine o_call Tryz.call199 haa spla (cd) ?_
    rintro _ _ HH ⟨rfl, rfl⟩ hHH
    simp only [List.cons_append, List.nil_append, List.append_nil] at hHH; subst hHH
    refine o_nil (hQ _ _ (h_keep ?_))
    refine h_end ?_
    refine a_seg (k := 10) _ [(1, 9)] (by kernel_rfl) (HWk.refl _) ?_
    refine h_t rfl x_as ?_
    refine h_end ?_
    refine a_done rfl ?_
    refine w_seq ?_
    refine w_region ?_
    refine o_t x_mv ?_
    first | refine o_t (x_inil Tryz.underlying58) ?_ | refine o_t (x_isome Tryz.underlying58) ?_
    refine o_nil ?_
    refine w_cond (t := false) (fun g => rfl) (fun hc => ?_) (fun hc => ?_) -- ('Go.Operand.tmp', 90)
    · cases hc
    · --
      refine w_seq ?_
      refine w_weak (L' := [(0, .pointer (some ⟨cb, 0, none⟩)), (4, .int .i64 0), (5, errV ea 3)]) (H' := [crB cb sb hb fb r.data.length (.iface 164 (.pointer (some ⟨sb2, 0, none⟩))), fileH fb r.h non w e l xv zp zi r.pos, crcB hb r.data, pt b cs T]) wka hka ?_
      refine w_draw mixed ?_
      refine a_seg (k := 13) _ [(1, 0), (1, 1), (1, 2), (1, 3), (1, 5), (1, 6), (1, 7), (1, 8), (1, 9), (1, 10), (1, 11), (1, 12), (0, 4)] (by kernel_rfl) (hwk (.cons .head (.cons .head (.cons .head .nil)))) ?_
      refine h_t rfl x_mv ?_
      refine h_t rfl x_nc ?_
      refine h_t rfl (x_fa f173_1) ?_
      refine h_t rfl (x_ld k143) ?_
      refine h_t rfl x_mv ?_
      refine h_t rfl x_nc ?_
      refine h_t rfl (x_fa f173_3) ?_
      refine h_t rfl (x_ld k69) ?_
      refine h_t rfl x_nc ?_
      refine h_t rfl (x_fa f82_0) ?_
      refine h_t rfl (x_fa f80_10) ?_
      refine h_t rfl (x_ld k77) ?_
      refine h_one rfl (fun Q' hQ => ?_)
      refine o_call Tryz.call116 haa spla (cSum32 hb r.data) ?_
      rintro _ _ HH ⟨rfl, rfl⟩ hHH
      simp only [List.cons_append, List.nil_append, List.append_nil] at hHH; subst hHH
      refine o_nil (hQ _ _ (h_keep ?_))
      refine h_end ?_
      refine a_seg (k := 14) _ [(1, 13)] (by kernel_rfl) (HWk.refl _) ?_
      refine h_t rfl x_ne ?_
      refine h_end ?_
      refine a_done rfl ?_
      refine w_cond (t := false) (fun g => rfl) (fun hc => ?_) (fun hc => ?_) -- ('Go.Operand.tmp', 109)
      · cases hc
      · --
        refine w_skip ?_
        refine w_seq ?_
        refine w_region ?_
        refine o_t x_mv ?_
        refine o_t x_mv ?_
        refine o_t x_nc ?_
        refine o_t (x_fa f173_5) ?_
        refine o_st k58 ?_
        refine o_nil ?_
        refine w_ret (r_2 rfl ⟨rfl, rfl⟩)
end Go.Proofs.YtlmefkhglooepaaGreatDoor
namespace Go.Proofs.YtlmefkhglooepaaGreatDoor
open Go
set_option linter.unusedSimpArgs false
set_option linter.unusedVariables false
variable {G : Nat → Option Obj} {ea : Nat → Addr}
/-- A reader of a text to its end. -/
structure RdE (G : Nat → Option Obj) (ea : Nat → Addr) (T : TypeId) (u : Value) (f : FuncId) (S : List UInt8 → Res → Prop) : Prop where
  call : ∀ vs w, (callMethod (.iface T u) "Read" vs).run P w = .ok (.enter f (#[u] ++ vs)) w
  read : ∀ rem k b cs, S rem k → cs.length = 512 → rem ≠ [] →
    Fn P G f #[u, .slice (some ⟨b, 0, none⟩) 512 512] [pt b cs 5, k] fun v H => ∃ n k', 0 < n ∧ n ≤ 512 ∧ n ≤ rem.length ∧ v = .tuple #[.int .i64 n, .nilIface] ∧ S (rem.drop n) k' ∧ H = [pt b (putB cs 0 (rem.take n)) 5, k']
  eof : ∀ k b cs, S [] k → cs.length = 512 → Fn P G f #[u, .slice (some ⟨b, 0, none⟩) 512 512] [pt b cs 5, k] fun v H => v = .tuple #[.int .i64 0, errV ea 3] ∧ H = [pt b cs 5]
/-- A contract beside other resources. -/
theorem Fn.frame {f : FuncId} {args : Array Value} {H : List Res} {Q : Value → List Res → Prop} (h : Fn P G f args H Q) (R : List Res) : Fn P G f args (H ++ R) fun v H' => ∃ H1, Q v H1 ∧ H' = H1 ++ R := by
  intro F hF w hs
  refine (h (F.add R) (hF.add hs) w hs.split).mono fun e w' ⟨v, H1, he, h1, h2⟩ => ?_
  exact ⟨v, H1 ++ R, he, hs.join h1, H1, h2, rfl⟩
theorem cAll (gl : Glob G ea) (T : TypeId) (u : Value) (f : FuncId) (S : List UInt8 → Res → Prop) (R : RdE G ea T u f S) (data : List UInt8) (k : Res) (hS : S data k) (hd : data.length ≤ 1048576) :
    Fn P G 46 #[.iface T u] [k] fun v H => v = .tuple #[.string (str data), .int .i64 0] ∧ H = [] := by
  refine fn_intro (args := [_]) Tryz.func46 Tryz.ntmps46 rfl ?_
  refine w_seq ?_
  refine w_region ?_
  refine o_t x_as ?_
  refine o_t x_as ?_
  refine o_nil ?_
  refine w_seq ?_
  refine w_region ?_
  refine o_bs0 Tryz.underlying78 e78 (fun b => ?_)
  refine o_t x_as ?_
  refine o_nil ?_
  refine w_seq ?_
  refine w_region ?_
  refine o_mk (k := 512) info5 Tryz.underlying78 rfl rfl (by decide) (by decide) (fun bb => ?_)
  refine o_t x_as ?_
  refine o_nil ?_
  refine w_block ?_ -- 0
  refine w_loop (α := Nat × Value × Res × List Value × Res) (fun x => [(0, .iface T u), (4, x.2.1), (5, .slice (some ⟨bb, 0, none⟩) 512 512)]) (fun x => [x.2.2.1, pt bb x.2.2.2.1 5, x.2.2.2.2])
    (fun x => x.1 ≤ data.length ∧ Own 5 1 x.2.1 x.1 ((data.take x.1).map u8) x.2.2.1 ∧ x.2.2.2.1.length = 512 ∧ S (data.drop x.1) x.2.2.2.2) (fun x => data.length - x.1) (0, .slice (some ⟨b, 0, none⟩) 0 0, pt b [] 5, List.replicate 512 (.int .u8 0), k) (wka) (hka)
    ⟨Nat.zero_le _, by simpa using Own.empty 5 1 b, List.length_replicate, hS⟩ ?_
  rintro ⟨i, v, r, cs, k⟩ ⟨hi, hO, hcs, hS⟩
  dsimp only at hi hO hcs hS ⊢
  refine w_block ?_ -- 1
  by_cases hne : data.drop i = []
  · have hil : i = data.length := by have := congrArg List.length hne; simp at this; omega
    subst hil
    rw [hne] at hS
    rw [List.take_length] at hO
    refine w_seq ?_
    refine w_region ?_
    refine o_t x_mv ?_
    refine o_t x_mv ?_
    refine o_inv R.call hxa haa spla vca ((R.eof k bb cs hS hcs)) ?_
    rintro _ HH ⟨rfl, rfl⟩
    simp only [List.cons_append, List.nil_append, List.append_nil]
    refine o_t x_mv ?_
    refine o_t x_ex ?_
    refine o_t x_ex ?_
    refine o_t x_as ?_
    refine o_t x_as ?_
    refine o_nil ?_
    refine w_seq ?_
    refine w_region ?_
    refine o_t x_mv ?_
    refine o_t x_mv ?_
    refine o_t x_mv ?_
    refine o_t (x_sl (lo := 0) (hi := 0) (v := .slice (some ⟨bb, 0, none⟩) 0 512) Tryz.underlying78 e78) ?_
    refine o_app info5 Tryz.underlying78 rfl hO (pulla) (b := bb) (o := 0) (q := 0) (cp := 512) (news := []) (Rd.pull (r := pt bb cs 5) (Rd.pt 0 [] (fun i v hi => by simp at hi)) .head) rfl (by simp) (by simp [maxLen]; omega) (by omega) (fun v' r' hO' => ?_)
    refine o_t x_as ?_
    refine o_nil ?_
    rw [List.append_nil, Nat.add_zero] at hO'
    refine w_seq ?_
    refine w_seq ?_
    refine w_region ?_
    refine o_t x_mv ?_
    refine o_t (x_err 3 gl) ?_
    refine o_t (x_eqe 3 3 gl) ?_
    refine o_nil ?_
    refine w_cond (t := true) (fun g => rfl) (fun hc => ?_) (fun hc => ?_) -- ('Go.Operand.tmp', 23)
    · --
      refine w_seq ?_
      refine w_region ?_
      refine o_t x_mv ?_
      refine o_t (x_own2s Tryz.underlying78 Tryz.underlying5 Tryz.underlying9 hO' (pulla)) ?_
      refine o_t x_as ?_
      refine o_t x_as ?_
      refine o_nil ?_
      refine w_ret (r_2 rfl ⟨rfl, rfl⟩)
    · cases hc
  · have hil : i < data.length := by
      rcases Nat.lt_or_ge i data.length with h | h
      · exact h
      · exact absurd (List.drop_eq_nil_of_le h) hne
    refine w_seq ?_
    refine w_region ?_
    refine o_t x_mv ?_
    refine o_t x_mv ?_
    refine o_inv R.call hxa haa spla vca ((R.read (data.drop i) k bb cs hS hcs hne)) ?_
    rintro _ HH ⟨n, k', hn0, hn1, hn2, rfl, hS', rfl⟩
    simp only [List.cons_append, List.nil_append, List.append_nil]
    refine o_t x_mv ?_
    refine o_t x_ex ?_
    refine o_t x_ex ?_
    refine o_t x_as ?_
    refine o_t x_as ?_
    refine o_nil ?_
    rw [List.length_drop] at hn2
    have hnl : ((data.drop i).take n).length = n := by rw [List.length_take, List.length_drop]; omega
    have hcs' : (putB cs 0 ((data.drop i).take n)).length = 512 := by rw [putB_length (by omega)]; exact hcs
    have hrd : Rd G [pt bb (putB cs 0 ((data.drop i).take n)) 5] bb 0 (((data.drop i).take n).map u8) := Rd.pt 0 _ (fun i v hi => by
      rw [Nat.zero_add, putB, List.take_zero, List.nil_append, List.getElem?_append_left (List.getElem?_eq_some_iff.1 hi).1]; exact hi)
    refine w_weak (L' := [(0, .iface T u), (4, v), (5, .slice (some ⟨bb, 0, none⟩) 512 512), (6, .int .i64 n), (7, .nilIface)]) (H' := [r, pt bb (putB cs 0 ((data.drop i).take n)) 5, k']) wka hka ?_
    refine w_seq ?_
    refine w_region ?_
    refine o_t x_mv ?_
    refine o_t x_mv ?_
    refine o_t x_mv ?_
    refine o_t (x_sl (lo := 0) (hi := n) (v := .slice (some ⟨bb, 0, none⟩) n 512) Tryz.underlying78 e78 (hv := by simp [slV])) ?_
    refine o_app info5 Tryz.underlying78 rfl hO (pulla) (b := bb) (o := 0) (q := n) (cp := 512) (news := ((data.drop i).take n).map u8) (hrd.pull .head) (by rw [List.length_map, hnl, Nat.mul_one]) u8_one (by simp [maxLen]; omega) (by omega) (fun v' r' hO' => ?_)
    refine o_t x_as ?_
    refine o_nil ?_
    refine w_seq ?_
    refine w_seq ?_
    refine w_region ?_
    refine o_t x_mv ?_
    refine o_t (x_err 3 gl) ?_
    refine o_t (x_eqn 3) ?_
    refine o_nil ?_
    refine w_cond (t := false) (fun g => rfl) (fun hc => ?_) (fun hc => ?_) -- ('Go.Operand.tmp', 23)
    · cases hc
    refine w_skip ?_
    refine w_seq ?_
    refine w_region ?_
    refine o_t x_mv ?_
    first | refine o_t (x_inil Tryz.underlying58) ?_ | refine o_t (x_isome Tryz.underlying58) ?_
    refine o_nil ?_
    refine w_cond (t := false) (fun g => rfl) (fun hc => ?_) (fun hc => ?_) -- ('Go.Operand.tmp', 27)
    · cases hc
    refine w_skip ?_
    refine ⟨(i + n, v', r', putB cs 0 ((data.drop i).take n), k'), wka, hka, ⟨by dsimp only; omega, ?_, hcs', by dsimp only; rw [← List.drop_drop]; exact hS'⟩, by dsimp only; omega⟩
    dsimp only
    rw [List.take_add, List.map_append]; exact hO'
theorem dirRd (db : Nat) : RdE G ea 161 (.pointer (some ⟨db, 0, none⟩)) 193 (fun rem k => rem = [] ∧ k = pt db [errV ea 3] 163) where
  call := fun vs w => m161_Read _ vs w
  read := by rintro rem k b cs ⟨rfl, _⟩ _ h; exact absurd rfl h
  eof := by
    rintro k b cs ⟨_, rfl⟩ hcs
    refine fn_intro (args := [_,_]) Tryz.func193 Tryz.ntmps193 rfl ?_
    refine w_seq ?_
    refine w_region ?_
    refine o_t x_as ?_
    refine o_t x_as ?_
    refine o_nil ?_
    refine w_seq ?_
    refine w_quiet mixed (by kernel_rfl) ?_
    refine q_t x_mv ?_
    refine q_t x_nc ?_
    refine q_t (x_fa f163_0) ?_
    refine q_t (x_ld k58) ?_
    refine q_t x_as ?_
    refine q_t x_as ?_
    refine q_nil ?_
    refine w_ret (r_2 rfl ⟨rfl, rfl⟩)
/-- What a reader that checks holds. -/
def CrS (cb sb hb fb rb base : Nat) (dv : Value) (dr : Res) (s : List UInt8) (r : ZR) (non : Bool) (w e l xv zp zi : Value) (rem : List UInt8) (k : Res) : Prop :=
  ∃ con, r.data = con ++ rem ∧ k = crB cb sb hb fb con.length dv ++ (crcB hb con ++ (secB sb rb base (base + con.length) (base + r.data.length) r.data.length ++ (dr ++ (fileH fb r.h non w e l xv zp zi r.pos ++ srB rb s))))
theorem crRd (gl : Glob G ea) (cb sb hb fb rb base : Nat) (dv : Value) (dr : Res) (s : List UInt8) (r : ZR) (h : Readable s r) (hs : s.length ≤ 2147483647) (hB : Has s base r.data) (hdr : DescR rb s r dv dr) (non : Bool) (w e l xv zp zi : Value) :
    RdE G ea 171 (.pointer (some ⟨cb, 0, none⟩)) 198 (CrS cb sb hb fb rb base dv dr s r non w e l xv zp zi) where
  call := fun vs w => m171_Read _ vs w
  read := by
    rintro rem k b cs ⟨con, hcr, rfl⟩ hcs hne
    refine (cCrRead gl cb sb hb fb rb base dv s r h hs hB con rem hcr hne non w e l xv zp zi b 0 512 512 5 cs (by decide) (by decide) (by omega) (by decide)).frame [dr] |>.conv ?_ ?_
    · exact HWk.trans (B := [pt b cs 5, crB cb sb hb fb con.length dv, crcB hb con, secB sb rb base (base + con.length) (base + r.data.length) r.data.length, dr, fileH fb r.h non w e l xv zp zi r.pos, srB rb s]) (hflat (by simp)) hka
    · rintro v H ⟨H1, ⟨n, h1, h2, h3, rfl, rfl⟩, rfl⟩
      have hnl : (con ++ rem.take n).length = con.length + n := by rw [List.length_append, List.length_take]; omega
      refine ⟨[pt b (putB cs 0 (rem.take n)) 5, crB cb sb hb fb (con.length + n) dv ++ (crcB hb (con ++ rem.take n) ++ (secB sb rb base (base + con.length + n) (base + r.data.length) r.data.length ++ (dr ++ (fileH fb r.h non w e l xv zp zi r.pos ++ srB rb s))))], ?_, n, _, h1, h2, h3, rfl, ⟨con ++ rem.take n, by rw [List.append_assoc, List.take_append_drop]; exact hcr, by rw [hnl, Nat.add_assoc]⟩, rfl⟩
      exact HWk.trans (B := [pt b (putB cs 0 (rem.take n)) 5, crB cb sb hb fb (con.length + n) dv, crcB hb (con ++ rem.take n), secB sb rb base (base + con.length + n) (base + r.data.length) r.data.length, dr, fileH fb r.h non w e l xv zp zi r.pos, srB rb s]) hka (hflat (by simp))
  eof := by
    rintro k b cs ⟨con, hcr, rfl⟩ hcs
    rw [List.append_nil] at hcr
    subst hcr
    refine (cCrEof gl cb sb hb fb rb base dv dr s r h hs hdr non w e l xv zp zi b 0 512 512 5 cs (by decide)).conv (hflat (by simp)) ?_
    rintro v H ⟨rfl, rfl⟩
    exact ⟨_, HWk.refl _, rfl, rfl⟩
end Go.Proofs.YtlmefkhglooepaaGreatDoor
namespace Go.Proofs.YtlmefkhglooepaaGreatDoor
open Go
set_option linter.unusedSimpArgs false
set_option linter.unusedVariables false
variable {G : Nat → Option Obj} {ea : Nat → Addr}
theorem cFile (gl : Glob G ea) (s body : List UInt8) (rs : List ZR) (c : List UInt8) (z : Zip s body rs c) (k : Nat) (r : ZR) (hr : rs[k]? = some r) :
    Fn P G 43 #[.string (str s), .int .i64 k] [] fun v H => ∃ fb zb rb fv w e l xv, v = .tuple #[.pointer (some ⟨fb, 0, none⟩), .int .i64 0] ∧
      H = [fileH fb r.h (nonT r.h) w e l xv (.pointer (some ⟨zb, 0, none⟩)) (.iface 61 (.pointer (some ⟨rb, 0, none⟩))) r.pos, zrB zb (.iface 61 (.pointer (some ⟨rb, 0, none⟩))) fv c, srB rb s] := by
  have hl := z.len
  have hmany := z.many
  have hk := (List.getElem?_eq_some_iff.1 hr).1
  refine fn_intro (args := [_,_]) Tryz.func43 Tryz.ntmps43 rfl ?_
  refine w_seq ?_
  refine w_region ?_
  refine o_t x_as ?_
  refine o_t x_as ?_
  refine o_nil ?_
  refine w_seq ?_
  refine w_region ?_
  refine o_t x_mv ?_
  refine o_call Tryz.call28 haa spla (cStrNew s) ?_
  rintro _ _ HH ⟨rb, rfl, rfl⟩ hHH
  simp only [List.cons_append, List.nil_append, List.append_nil] at hHH; subst hHH
  refine o_t x_p ?_
  refine o_t x_mv ?_
  refine o_t (x_lens Tryz.underlying9) ?_
  refine o_call Tryz.call27 haa spla (cNewReader gl rb s body rs c z) ?_
  rintro _ _ HH ⟨zb, fv, ps, ro, fr, rfl, hO, hF, rfl⟩ hHH
  simp only [List.cons_append, List.nil_append, List.append_nil] at hHH; subst hHH
  refine o_t x_mv ?_
  refine o_t x_ex ?_
  refine o_t x_ex ?_
  refine o_t x_as ?_
  refine o_t x_as ?_
  refine o_nil ?_
  refine w_seq ?_
  refine w_seq ?_
  refine w_region ?_
  refine o_t x_mv ?_
  first | refine o_t (x_inil Tryz.underlying58) ?_ | refine o_t (x_isome Tryz.underlying58) ?_
  refine o_nil ?_
  refine w_cond (t := false) (fun g => rfl) (fun hc => ?_) (fun hc => ?_) -- ('Go.Operand.tmp', 18)
  · cases hc
  refine w_skip ?_
  obtain ⟨p, a, pre, post, hp, ⟨fb, w, e, l, xv, xr, rfl, hxs, rfl⟩, rfl⟩ := hF.get hr
  obtain ⟨bo, oo, co, rfl, hco, hrd⟩ := hO.arr.some (by omega)
  refine w_weak (L' := [(1, .int .i64 k), (6, .pointer (some ⟨zb, 0, none⟩))]) (H' := [zrB zb (.iface 61 (.pointer (some ⟨rb, 0, none⟩))) (.slice (some ⟨bo, oo, none⟩) rs.length co) c, fileH fb r.h (nonT r.h) w e l xv (.pointer (some ⟨zb, 0, none⟩)) (.iface 61 (.pointer (some ⟨rb, 0, none⟩))) r.pos, srB rb s, ro]) wka (HWk.trans (B := [zrB zb (.iface 61 (.pointer (some ⟨rb, 0, none⟩))) (.slice (some ⟨bo, oo, none⟩) rs.length co) c, pre ++ (fileH fb r.h (nonT r.h) w e l xv (.pointer (some ⟨zb, 0, none⟩)) (.iface 61 (.pointer (some ⟨rb, 0, none⟩))) r.pos ++ xr ++ post), srB rb s, ro]) hka (HWk.trans (B := [zrB zb (.iface 61 (.pointer (some ⟨rb, 0, none⟩))) (.slice (some ⟨bo, oo, none⟩) rs.length co) c, pre, fileH fb r.h (nonT r.h) w e l xv (.pointer (some ⟨zb, 0, none⟩)) (.iface 61 (.pointer (some ⟨rb, 0, none⟩))) r.pos, xr, post, srB rb s, ro]) (hflat (by simp)) hka)) ?_
  refine w_seq ?_
  refine w_seq ?_
  refine w_region ?_
  refine o_t x_mv ?_
  refine o_t x_cmp ?_
  refine o_t x_mv ?_
  first | refine o_t (x_g x_mv) ?_ | refine o_t x_gs ?_ | refine o_t x_gu ?_
  first | refine o_t (x_g x_mv) ?_ | refine o_t x_gs ?_ | refine o_t x_gu ?_
  first | refine o_t (x_g x_nc) ?_ | refine o_t x_gs ?_ | refine o_t x_gu ?_
  first | refine o_t (x_g (x_fa f68_1)) ?_ | refine o_t x_gs ?_ | refine o_t x_gu ?_
  first | refine o_t (x_g (x_ld k65)) ?_ | refine o_t x_gs ?_ | refine o_t x_gu ?_
  first | refine o_t (x_g (x_lenb Tryz.underlying65)) ?_ | refine o_t x_gs ?_ | refine o_t x_gu ?_
  first | refine o_t (x_g x_cmp) ?_ | refine o_t x_gs ?_ | refine o_t x_gu ?_
  refine o_t x_pick ?_
  refine o_nil ?_
  refine w_cond (t := false) (fun g => rfl) (fun hc => ?_) (fun hc => ?_) -- ('Go.Operand.tmp', 31)
  · cases hc
  refine w_skip ?_
  refine w_seq ?_
  refine w_region ?_
  refine o_t x_mv ?_
  refine o_t x_nc ?_
  refine o_t (x_fa f68_1) ?_
  refine o_t (x_ld k65) ?_
  refine o_t x_mv ?_
  refine o_t (x_ia (m := oo + k) Tryz.underlying65 e65 (hm := by omega)) ?_
  refine o_t (x_ldR k69 (hrd.pull (pulla)) hp) ?_
  refine o_t x_as ?_
  refine o_t x_as ?_
  refine o_nil ?_
  refine w_ret (r_2 rfl ⟨fb, zb, rb, _, w, e, l, xv, rfl, rfl⟩)
theorem cContentOf (gl : Glob G ea) (s body : List UInt8) (rs : List ZR) (c : List UInt8) (z : Zip s body rs c) (k : Nat) (r : ZR) (hr : rs[k]? = some r) (h : Readable s r) :
    Fn P G 23 #[.string (str s), .int .i64 k] [] fun v H => v = .tuple #[.string (str r.data), .int .i64 0] ∧ H = [] := by
  have hl := z.len
  have hsm := h.small
  refine fn_intro (args := [_,_]) Tryz.func23 Tryz.ntmps23 rfl ?_
  refine w_seq ?_
  refine w_region ?_
  refine o_t x_as ?_
  refine o_t x_as ?_
  refine o_nil ?_
  refine w_seq ?_
  refine w_region ?_
  refine o_t x_mv ?_
  refine o_t x_mv ?_
  refine o_call Tryz.call43 haa spla (cFile gl s body rs c z k r hr) ?_
  rintro _ _ HH ⟨fb, zb, rb, fv, w, e, l, xv, rfl, rfl⟩ hHH
  simp only [List.cons_append, List.nil_append, List.append_nil] at hHH; subst hHH
  refine o_t x_mv ?_
  refine o_t x_ex ?_
  refine o_t x_ex ?_
  refine o_t x_as ?_
  refine o_t x_as ?_
  refine o_nil ?_
  refine w_seq ?_
  refine w_seq ?_
  refine w_region ?_
  refine o_t x_mv ?_
  refine o_t x_ne ?_
  refine o_nil ?_
  refine w_cond (t := false) (fun g => rfl) (fun hc => ?_) (fun hc => ?_) -- ('Go.Operand.tmp', 17)
  · cases hc
  refine w_skip ?_
  refine w_seq ?_
  cases hd : isDir r.h.name with
  | true =>
    have hdat := h.dir hd
    refine w_region ?_
    refine o_t x_mv ?_
    refine o_call Tryz.call44 haa spla (cOpenDir fb rb zb s body r h hl hd (nonT r.h) w e l xv fv c gl) ?_
    rintro _ _ HH ⟨db, rfl, rfl⟩ hHH
    simp only [List.cons_append, List.nil_append, List.append_nil] at hHH; subst hHH
    refine o_t x_mv ?_
    refine o_t x_ex ?_
    refine o_t x_ex ?_
    refine o_t x_as ?_
    refine o_t x_as ?_
    refine o_nil ?_
    refine w_seq ?_
    refine w_seq ?_
    refine w_region ?_
    refine o_t x_mv ?_
    first | refine o_t (x_inil Tryz.underlying58) ?_ | refine o_t (x_isome Tryz.underlying58) ?_
    refine o_nil ?_
    refine w_cond (t := false) (fun g => rfl) (fun hc => ?_) (fun hc => ?_) -- ('Go.Operand.tmp', 25)
    · cases hc
    refine w_skip ?_
    refine w_seq ?_
    have ca := cAll gl 161 (.pointer (some ⟨db, 0, none⟩)) 193 _ (dirRd (G := G) (ea := ea) db) r.data (pt db [errV ea 3] 163) ⟨hdat, rfl⟩ hsm
    refine w_region ?_
    refine o_t x_mv ?_
    refine o_call Tryz.call46 haa spla (ca) ?_
    rintro _ _ HH ⟨rfl, rfl⟩ hHH
    simp only [List.cons_append, List.nil_append, List.append_nil] at hHH; subst hHH
    refine o_t x_ex ?_
    refine o_t x_ex ?_
    refine o_t x_as ?_
    refine o_t x_as ?_
    refine o_nil ?_
    refine w_ret (r_2 rfl ⟨rfl, rfl⟩)
  | false =>
    refine w_region ?_
    refine o_t x_mv ?_
    refine o_call Tryz.call44 haa spla (cOpen fb rb zb s r h hl hd (nonT r.h) w e l xv fv c gl) ?_
    rintro _ _ HH ⟨cb, sb, hb, base, dv, dr, rfl, hB, hdr, rfl⟩ hHH
    simp only [List.cons_append, List.nil_append, List.append_nil] at hHH; subst hHH
    refine o_t x_mv ?_
    refine o_t x_ex ?_
    refine o_t x_ex ?_
    refine o_t x_as ?_
    refine o_t x_as ?_
    refine o_nil ?_
    refine w_seq ?_
    refine w_seq ?_
    refine w_region ?_
    refine o_t x_mv ?_
    first | refine o_t (x_inil Tryz.underlying58) ?_ | refine o_t (x_isome Tryz.underlying58) ?_
    refine o_nil ?_
    refine w_cond (t := false) (fun g => rfl) (fun hc => ?_) (fun hc => ?_) -- ('Go.Operand.tmp', 25)
    · cases hc
    refine w_skip ?_
    refine w_seq ?_
    have ca := cAll gl 171 (.pointer (some ⟨cb, 0, none⟩)) 198 _ (crRd gl cb sb hb fb rb base dv dr s r h hl hB hdr (nonT r.h) w e l xv (.pointer (some ⟨zb, 0, none⟩)) (.iface 61 (.pointer (some ⟨rb, 0, none⟩)))) r.data _ ⟨[], rfl, rfl⟩ hsm
    refine w_weak (L' := [(8, .iface 171 (.pointer (some ⟨cb, 0, none⟩)))]) (H' := [crB cb sb hb fb (List.length (α := UInt8) []) dv ++ (crcB hb [] ++ (secB sb rb base (base + List.length (α := UInt8) []) (base + r.data.length) r.data.length ++ (dr ++ (fileH fb r.h (nonT r.h) w e l xv (.pointer (some ⟨zb, 0, none⟩)) (.iface 61 (.pointer (some ⟨rb, 0, none⟩))) r.pos ++ srB rb s))))]) wka (HWk.trans (B := [crB cb sb hb fb 0 dv, crcB hb [], secB sb rb base base (base + r.data.length) r.data.length, dr, fileH fb r.h (nonT r.h) w e l xv (.pointer (some ⟨zb, 0, none⟩)) (.iface 61 (.pointer (some ⟨rb, 0, none⟩))) r.pos, srB rb s]) hka (hflat (by simp))) ?_
    refine w_region ?_
    refine o_t x_mv ?_
    refine o_call Tryz.call46 haa spla (ca) ?_
    rintro _ _ HH ⟨rfl, rfl⟩ hHH
    simp only [List.cons_append, List.nil_append, List.append_nil] at hHH; subst hHH
    refine o_t x_ex ?_
    refine o_t x_ex ?_
    refine o_t x_as ?_
    refine o_t x_as ?_
    refine o_nil ?_
    refine w_ret (r_2 rfl ⟨rfl, rfl⟩)
end Go.Proofs.YtlmefkhglooepaaGreatDoor
namespace Go.Proofs.YtlmefkhglooepaaGreatDoor
open Go
theorem zipA {l : List En} {c : List UInt8} (h : GoodP (l.map stored) c) : Zip (archT (l.map stored) c) (filesT (l.map stored)) (recsA (l.map stored) 0) c ∧
    ∀ r ∈ recsA (l.map stored) 0, dirsOK (l.map stored) → RecOK (archT (l.map stored) c) r ∧ r.pos ≤ 1500000000 ∧ (r.h.flags / 8 % 2 = 0 → Readable (archT (l.map stored) c) r) := by
  have hlen := archT_len h.oks h.many h.com
  have hf := filesT_len h.oks
  have hn := h.many
  have key : ∀ r ∈ recsA (l.map stored) 0, ∃ e ∈ l, r = ⟨(stored e).h, (stored e).h, r.pos, e.data⟩ ∧ r.pos ≤ 1500000000 ∧ RecOK (archT (l.map stored) c) r := by
    intro r hr
    obtain ⟨e, he, h2, h3, h4⟩ := recsA_here (l.map stored) [] (dirT (l.map stored) 0 ++ endT (l.map stored).length (dirT (l.map stored) 0).length (filesT (l.map stored)).length c) r hr
    obtain ⟨e0, he0, rfl⟩ := List.mem_map.1 he
    have hok := h.oks _ he
    have hfl : (filesT (l.map stored)).length ≤ (archT (l.map stored) c).length := by simp only [archT, List.length_append]; omega
    have hp : r.pos ≤ 1500000000 := by simp only [List.length_nil] at h3; omega
    refine ⟨e0, he0, h2, hp, ?_⟩
    rw [h2]
    refine ⟨hok.1, rfl, rfl, hok.1.extra, rfl, by show r.pos ≤ _; omega, ?_⟩
    have e2 : ([] : List UInt8) ++ (filesT (l.map stored) ++ (dirT (l.map stored) 0 ++ endT (l.map stored).length (dirT (l.map stored) 0).length (filesT (l.map stored)).length c)) = archT (l.map stored) c := by simp [archT]
    rw [e2] at h4
    exact h4
  refine ⟨⟨?_, fun r hr => (key r hr).choose_spec.2.2.2, h.one, by rw [recsA_length]; exact h.many, h.com, by omega⟩, fun r hr hd => ?_⟩
  · rw [recsA_length, recsA_dir]; simp [archT]
  · obtain ⟨e, he, h2, h3, h4⟩ := key r hr
    refine ⟨h4, h3, fun hs => ?_⟩
    have hok := h.oks _ (List.mem_map.2 ⟨e, he, rfl⟩)
    refine ⟨h4, by rw [h2]; rfl, by rw [h2]; rfl, by rw [h2]; rfl, fun hdir => ?_, by rw [h2]; exact hok.2, fun _ hx => by rw [hs] at hx; cases hx⟩
    rw [h2] at hdir ⊢
    have := hd _ (List.mem_map.2 ⟨e, he, rfl⟩) (of_decide_eq_true hdir)
    exact this
end Go.Proofs.YtlmefkhglooepaaGreatDoor
