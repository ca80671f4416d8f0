/- The directory's headers: readDirectoryHeader. The directory's headers: where they end. The end of the directory: readDirectoryEnd. zip.NewReader. -/
import Derived.Test.YtlmefkhglooepaaGreatDoorPart5
set_option linter.unusedSimpArgs false
set_option linter.unusedVariables false
namespace Go.Proofs.YtlmefkhglooepaaGreatDoor
open Go
set_option linter.unusedSimpArgs false
set_option linter.unusedVariables false
variable {G : Nat → Option Obj} {ea : Nat → Addr}
theorem Sl.one {r : Res} {v : Value} {l : List UInt8} (h : Sl G r v l) : v.oneCell' = true := by obtain ⟨b, o, cap, rfl, _⟩ := h; rfl
theorem tm1 {w e : Int} {l : Value} (hl : l.oneCell' = true) : ∀ u ∈ [Value.int .u64 w, .int .i64 e, l], u.oneCell' = true := by
  intro u hu; simp only [List.mem_cons, List.not_mem_nil, or_false] at hu; rcases hu with rfl | rfl | rfl <;> first | rfl | assumption
/-- A file's block, its header read. -/
abbrev fileH (fb : Nat) (h : Hd) (non : Bool) (w e l xv zp zi : Value) (pos : Nat) : Res :=
  fileB fb (.string (str h.name)) (.string (str h.comment)) (.bool non) (.int .u16 h.creator) (.int .u16 h.reader) (.int .u16 h.flags) (.int .u16 h.method) w e l (.int .u16 h.time) (.int .u16 h.date) (.int .u32 h.crc) (.int .u32 h.packed) (.int .u32 h.size) (.int .u64 h.packed) (.int .u64 h.size) xv (.int .u32 h.ext) zp zi (.int .i64 pos)
theorem central_drop (h : Hd) (pos : Nat) (rem' : List UInt8) : (centralT h pos ++ rem').drop 46 = (h.name ++ h.extra ++ h.comment) ++ rem' := by
  have e : centralT h pos ++ rem' = ([80, 75, 1, 2] ++ i2 h.creator ++ i2 h.reader ++ fieldsT h ++ i2 h.name.length ++ i2 h.extra.length ++ i2 h.comment.length ++ i2 0 ++ i2 0 ++ i4 h.ext ++ i4 pos) ++ ((h.name ++ h.extra ++ h.comment) ++ rem') := by
    simp only [centralT, List.append_assoc]
  rw [e]
  exact List.drop_left' (by simp only [List.length_append, i2_length, i4_length, fieldsT_length, List.length_cons, List.length_nil])
theorem cDirHeader (gl : Glob G ea) (T0 : TypeId) (u0 r0 : Value) (f0 : FuncId) (S : List UInt8 → Res → Prop) (R : Rdr G ea T0 u0 r0 f0 S) (h : Hd) (pos : Nat) (ok : Ok h) (hpos : pos ≤ 4294967294) (rem' : List UInt8) (k : Res)
    (hS : S (centralT h pos ++ rem') k) (fb : Nat) (zp zi : Value) :
    Fn P G 77 #[.pointer (some ⟨fb, 0, none⟩), .iface T0 u0] [fileB fb (.string ⟨#[]⟩) (.string ⟨#[]⟩) (.bool false) (.int .u16 0) (.int .u16 0) (.int .u16 0) (.int .u16 0) (.int .u64 0) (.int .i64 0) (.pointer none) (.int .u16 0) (.int .u16 0) (.int .u32 0) (.int .u32 0) (.int .u32 0) (.int .u64 0) (.int .u64 0) (.slice none 0 0) (.int .u32 0) zp zi (.int .i64 0), k]
      fun v H => v = .nilIface ∧ ∃ k' w e l xv xr, S rem' k' ∧ Sl G xr xv h.extra ∧
        H = [fileH fb h (nonT h) w e l xv zp zi pos, xr, k'] := by
  have hnl := ok.name; have hxl := ok.extra; have hcl := ok.comment
  obtain ⟨l, hl⟩ : ∃ l, (centralT h pos ++ rem').take 46 = l := ⟨_, rfl⟩
  obtain ⟨rem2, hrem2⟩ : ∃ rem2, (centralT h pos ++ rem').drop 46 = rem2 := ⟨_, rfl⟩
  have hrem2e : rem2 = (h.name ++ h.extra ++ h.comment) ++ rem' := by
    rw [← hrem2]; exact central_drop h pos rem'
  have hll : l.length = 46 := by rw [← hl]; simp; omega
  have hrl : 46 ≤ (centralT h pos ++ rem').length := by simp; omega
  have hc0 : Has (centralT h pos ++ rem') 0 (centralT h pos) := by simpa using Has.mid' [] (centralT h pos) rem'
  have c := centralAt hc0
  have hh : ∀ {a : Nat} {t : List UInt8}, Has (centralT h pos ++ rem') a t → a + t.length ≤ 46 → Has l a t := fun hx hy => by rw [← hl]; exact hx.take hy
  have epos : (num (i4 (pos : Int)) : Int) = pos := num_i4 (by omega)
  have en : (num (i2 h.name.length) : Int) = h.name.length := num_i2 (by omega)
  have ex : (num (i2 h.extra.length) : Int) = h.extra.length := num_i2 (by omega)
  have ec : (num (i2 h.comment.length) : Int) = h.comment.length := num_i2 (by omega)
  have hput : putB (List.replicate 46 (.int .u8 0)) 0 l = l.map u8 := putB_all (by rw [hll]; simp)
  have c1 := fun b5 => cReadFull' gl T0 u0 r0 f0 S R (centralT h pos ++ rem') k hS b5 0 46 46 199 (List.replicate 46 (.int .u8 0)) (by decide) (by decide) (by simp)
  rw [hl, hrem2, if_pos hrl, show min 46 (centralT h pos ++ rem').length = 46 by omega, hput] at c1
  clear hl hrem2 hput
  refine fn_intro (args := [_,_]) Tryz.func77 Tryz.ntmps77 rfl ?_
  refine w_seq ?_
  refine w_region ?_
  refine o_t x_as ?_
  refine o_nil ?_
  refine w_scope ?_
  refine w_seq ?_
  refine w_region ?_
  refine o_al z199 (fun b5 => ?_)
  refine o_nil ?_
  refine w_seq ?_
  refine w_seq ?_
  refine w_region ?_
  refine o_t x_mv ?_
  refine o_t (x_sla Tryz.underlying199 e199) ?_
  refine o_call Tryz.call103 haa spla (c1 b5) ?_
  rintro _ _ HH ⟨K1, hS1, rfl, rfl⟩ hHH
  simp only [List.cons_append, List.nil_append, List.append_nil] at hHH; subst hHH
  refine o_t x_mv ?_
  refine o_t x_ex ?_
  refine o_t x_ex ?_
  refine o_t x_as ?_
  refine o_t x_as ?_
  refine o_nil ?_
  refine w_seq ?_
  refine w_region ?_
  refine o_t x_mv ?_
  first | refine o_t (x_inil Tryz.underlying58) ?_ | refine o_t (x_isome Tryz.underlying58) ?_
  refine o_nil ?_
  refine w_cond (t := false) (fun g => rfl) (fun hc => ?_) (fun hc => ?_) -- ('Go.Operand.tmp', 42)
  · cases hc
  refine w_skip ?_
  refine w_seq ?_
  refine w_region ?_
  refine o_t (x_sla Tryz.underlying199 e199) ?_
  refine o_al z204 (fun b8 => ?_)
  refine o_st k204 ?_
  refine o_nil ?_
  have hSl : Sl G (pt b5 (l.map u8) 199) (.slice (some ⟨b5, 0, none⟩) 46 46) (l.drop 0) := ⟨b5, 0, 46, by rw [List.drop_zero, hll], by rw [List.drop_zero, hll]; decide, by rw [List.drop_zero]; exact Rd.all⟩
  have d1 := cRb32H b8 _ _ l 0 [80, 75, 1, 2] 33639248 hSl (hh c.sig (by decide)) rfl (by decide)
  refine w_seq ?_
  refine w_seq ?_
  refine w_region ?_
  refine o_call Tryz.call96 haa spla (d1) ?_
  rintro _ _ HH ⟨rfl, v1, hs1, rfl⟩ hHH
  simp only [List.cons_append, List.nil_append, List.append_nil] at hHH; subst hHH
  refine o_t x_as ?_
  refine o_nil ?_
  refine w_seq ?_
  refine w_region ?_
  refine o_t x_mv ?_
  refine o_t x_ne ?_
  refine o_nil ?_
  refine w_cond (t := false) (fun g => rfl) (fun hc => ?_) (fun hc => ?_) -- ('Go.Operand.tmp', 47)
  · cases hc
  refine w_skip ?_
  refine w_weak (L' := [(0, .pointer (some ⟨fb, 0, none⟩)), (1, .iface T0 u0), (8, .pointer (some ⟨b8, 0, none⟩))]) (H' := [pt b8 [v1] 204, pt b5 (l.map u8) 199, fileB fb (.string ⟨#[]⟩) (.string ⟨#[]⟩) (.bool false) (.int .u16 0) (.int .u16 0) (.int .u16 0) (.int .u16 0) (.int .u64 0) (.int .i64 0) (.pointer none) (.int .u16 0) (.int .u16 0) (.int .u32 0) (.int .u32 0) (.int .u32 0) (.int .u64 0) (.int .u64 0) (.slice none 0 0) (.int .u32 0) zp zi (.int .i64 0), K1]) wka hka ?_
  refine w_seq ?_
  refine w_region ?_
  refine o_t x_mv ?_
  refine o_call Tryz.call97 haa spla (cRb16H b8 v1 _ l 4 (i2 h.creator) h.creator hs1 (hh c.creator (by simp)) (by simp) (num_i2 ok.creator)) ?_
  rintro _ _ HH ⟨rfl, v2, hs2, rfl⟩ hHH
  simp only [List.cons_append, List.nil_append, List.append_nil] at hHH; subst hHH
  refine o_t x_nc ?_
  refine o_t (x_fa f82_0) ?_
  refine o_t (x_fa f80_3) ?_
  refine o_st k72 ?_
  refine o_nil ?_
  refine w_seq ?_
  refine w_region ?_
  refine o_t x_mv ?_
  refine o_call Tryz.call97 haa spla (cRb16H b8 v2 _ l 6 (i2 h.reader) h.reader hs2 (hh c.reader (by simp)) (by simp) (num_i2 ok.reader)) ?_
  rintro _ _ HH ⟨rfl, v3, hs3, rfl⟩ hHH
  simp only [List.cons_append, List.nil_append, List.append_nil] at hHH; subst hHH
  refine o_t x_nc ?_
  refine o_t (x_fa f82_0) ?_
  refine o_t (x_fa f80_4) ?_
  refine o_st k72 ?_
  refine o_nil ?_
  refine w_seq ?_
  refine w_region ?_
  refine o_t x_mv ?_
  refine o_call Tryz.call97 haa spla (cRb16H b8 v3 _ l 8 (i2 h.flags) h.flags hs3 (hh c.flags (by simp)) (by simp) (num_i2 ok.flags)) ?_
  rintro _ _ HH ⟨rfl, v4, hs4, rfl⟩ hHH
  simp only [List.cons_append, List.nil_append, List.append_nil] at hHH; subst hHH
  refine o_t x_nc ?_
  refine o_t (x_fa f82_0) ?_
  refine o_t (x_fa f80_5) ?_
  refine o_st k72 ?_
  refine o_nil ?_
  refine w_seq ?_
  refine w_region ?_
  refine o_t x_mv ?_
  refine o_call Tryz.call97 haa spla (cRb16H b8 v4 _ l 10 (i2 h.method) h.method hs4 (hh c.method (by simp)) (by simp) (num_i2 ok.method)) ?_
  rintro _ _ HH ⟨rfl, v5, hs5, rfl⟩ hHH
  simp only [List.cons_append, List.nil_append, List.append_nil] at hHH; subst hHH
  refine o_t x_nc ?_
  refine o_t (x_fa f82_0) ?_
  refine o_t (x_fa f80_6) ?_
  refine o_st k72 ?_
  refine o_nil ?_
  refine w_seq ?_
  refine w_region ?_
  refine o_t x_mv ?_
  refine o_call Tryz.call97 haa spla (cRb16H b8 v5 _ l 12 (i2 h.time) h.time hs5 (hh c.time (by simp)) (by simp) (num_i2 ok.time)) ?_
  rintro _ _ HH ⟨rfl, v6, hs6, rfl⟩ hHH
  simp only [List.cons_append, List.nil_append, List.append_nil] at hHH; subst hHH
  refine o_t x_nc ?_
  refine o_t (x_fa f82_0) ?_
  refine o_t (x_fa f80_8) ?_
  refine o_st k72 ?_
  refine o_nil ?_
  refine w_seq ?_
  refine w_region ?_
  refine o_t x_mv ?_
  refine o_call Tryz.call97 haa spla (cRb16H b8 v6 _ l 14 (i2 h.date) h.date hs6 (hh c.date (by simp)) (by simp) (num_i2 ok.date)) ?_
  rintro _ _ HH ⟨rfl, v7, hs7, rfl⟩ hHH
  simp only [List.cons_append, List.nil_append, List.append_nil] at hHH; subst hHH
  refine o_t x_nc ?_
  refine o_t (x_fa f82_0) ?_
  refine o_t (x_fa f80_9) ?_
  refine o_st k72 ?_
  refine o_nil ?_
  refine w_seq ?_
  refine w_region ?_
  refine o_t x_mv ?_
  refine o_call Tryz.call96 haa spla (cRb32H b8 v7 _ l 16 (i4 h.crc) h.crc hs7 (hh c.crc (by simp)) (by simp) (num_i4 ok.crc)) ?_
  rintro _ _ HH ⟨rfl, v8, hs8, rfl⟩ hHH
  simp only [List.cons_append, List.nil_append, List.append_nil] at hHH; subst hHH
  refine o_t x_nc ?_
  refine o_t (x_fa f82_0) ?_
  refine o_t (x_fa f80_10) ?_
  refine o_st k77 ?_
  refine o_nil ?_
  have hpk := ok.packed; have hsz := ok.size
  refine w_seq ?_
  refine w_region ?_
  refine o_t x_mv ?_
  refine o_call Tryz.call96 haa spla (cRb32H b8 v8 _ l 20 (i4 h.packed) h.packed hs8 (hh c.packed (by simp)) (by simp) (num_i4 ⟨hpk.1, by omega⟩)) ?_
  rintro _ _ HH ⟨rfl, v9, hs9, rfl⟩ hHH
  simp only [List.cons_append, List.nil_append, List.append_nil] at hHH; subst hHH
  refine o_t x_nc ?_
  refine o_t (x_fa f82_0) ?_
  refine o_t (x_fa f80_11) ?_
  refine o_st k77 ?_
  refine o_nil ?_
  refine w_seq ?_
  refine w_region ?_
  refine o_t x_mv ?_
  refine o_call Tryz.call96 haa spla (cRb32H b8 v9 _ l 24 (i4 h.size) h.size hs9 (hh c.size (by simp)) (by simp) (num_i4 ⟨hsz.1, by omega⟩)) ?_
  rintro _ _ HH ⟨rfl, v10, hs10, rfl⟩ hHH
  simp only [List.cons_append, List.nil_append, List.append_nil] at hHH; subst hHH
  refine o_t x_nc ?_
  refine o_t (x_fa f82_0) ?_
  refine o_t (x_fa f80_12) ?_
  refine o_st k77 ?_
  refine o_nil ?_
  refine w_weak (L' := [(0, .pointer (some ⟨fb, 0, none⟩)), (1, .iface T0 u0), (8, .pointer (some ⟨b8, 0, none⟩))]) (H' := [pt b8 [v10] 204, pt b5 (l.map u8) 199, fileB fb (.string ⟨#[]⟩) (.string ⟨#[]⟩) (.bool false) (.int .u16 h.creator) (.int .u16 h.reader) (.int .u16 h.flags) (.int .u16 h.method) (.int .u64 0) (.int .i64 0) (.pointer none) (.int .u16 h.time) (.int .u16 h.date) (.int .u32 h.crc) (.int .u32 h.packed) (.int .u32 h.size) (.int .u64 0) (.int .u64 0) (.slice none 0 0) (.int .u32 0) zp zi (.int .i64 0), K1]) wka hka ?_
  refine w_seq ?_
  refine w_region ?_
  refine o_t x_mv ?_
  refine o_t x_mv ?_
  refine o_t x_nc ?_
  refine o_t (x_fa f82_0) ?_
  refine o_t (x_fa f80_11) ?_
  refine o_t (x_ld k77) ?_
  refine o_t (x_cv ⟨_, Tryz.underlying77⟩ Tryz.underlying73) ?_
  refine o_t x_nc ?_
  refine o_t (x_fa f82_0) ?_
  refine o_t (x_fa f80_13) ?_
  refine o_st k73 ?_
  refine o_nil ?_
  refine w_seq ?_
  refine w_region ?_
  refine o_t x_mv ?_
  refine o_t x_mv ?_
  refine o_t x_nc ?_
  refine o_t (x_fa f82_0) ?_
  refine o_t (x_fa f80_12) ?_
  refine o_t (x_ld k77) ?_
  refine o_t (x_cv ⟨_, Tryz.underlying77⟩ Tryz.underlying73) ?_
  refine o_t x_nc ?_
  refine o_t (x_fa f82_0) ?_
  refine o_t (x_fa f80_14) ?_
  refine o_st k73 ?_
  refine o_nil ?_
  refine w_seq ?_
  refine w_region ?_
  refine o_call Tryz.call97 haa spla (cRb16H b8 v10 _ l 28 (i2 h.name.length) h.name.length hs10 (hh c.nlen (by simp)) (by simp) en) ?_
  rintro _ _ HH ⟨rfl, v11, hs11, rfl⟩ hHH
  simp only [List.cons_append, List.nil_append, List.append_nil] at hHH; subst hHH
  refine o_t (x_cv ⟨_, Tryz.underlying72⟩ Tryz.underlying3) ?_
  refine o_t x_as ?_
  refine o_nil ?_
  refine w_seq ?_
  refine w_region ?_
  refine o_call Tryz.call97 haa spla (cRb16H b8 v11 _ l 30 (i2 h.extra.length) h.extra.length hs11 (hh c.xlen (by simp)) (by simp) ex) ?_
  rintro _ _ HH ⟨rfl, v12, hs12, rfl⟩ hHH
  simp only [List.cons_append, List.nil_append, List.append_nil] at hHH; subst hHH
  refine o_t (x_cv ⟨_, Tryz.underlying72⟩ Tryz.underlying3) ?_
  refine o_t x_as ?_
  refine o_nil ?_
  refine w_seq ?_
  refine w_region ?_
  refine o_call Tryz.call97 haa spla (cRb16H b8 v12 _ l 32 (i2 h.comment.length) h.comment.length hs12 (hh c.clen (by simp)) (by simp) ec) ?_
  rintro _ _ HH ⟨rfl, v13, hs13, rfl⟩ hHH
  simp only [List.cons_append, List.nil_append, List.append_nil] at hHH; subst hHH
  refine o_t (x_cv ⟨_, Tryz.underlying72⟩ Tryz.underlying3) ?_
  refine o_t x_as ?_
  refine o_nil ?_
  refine w_seq ?_
  have hsl13 : ∃ b o cap, v13 = .slice (some ⟨b, o, none⟩) 12 cap ∧ 12 ≤ cap ∧ Rd G [pt b5 (l.map u8) 199] b o ((l.drop 34).map u8) := by
    obtain ⟨b, o, cap, rfl, hcc, hr⟩ := hs13
    have : (l.drop (32 + 2)).length = 12 := by simp; omega
    rw [this] at hcc
    exact ⟨b, o, cap, by rw [this], hcc, hr⟩
  obtain ⟨b13, o13, cap13, rfl, hcap13, hr13⟩ := hsl13
  refine w_region ?_
  refine o_t (x_ld k204) ?_
  refine o_t (x_sl (lo := 4) (hi := 12) (v := slV b13 o13 12 cap13 4 12 1) Tryz.underlying204 e204 (hv := rfl)) ?_
  refine o_st k204 ?_
  refine o_nil ?_
  have hs14 : Sl G (pt b5 (l.map u8) 199) (slV b13 o13 12 cap13 4 12 1) (l.drop 38) := by
    have hl34 : (l.drop 34).length = 12 := by simp; omega
    have := Sl.drop (m := 4) (l := l.drop 34) (by omega) (by omega : (l.drop 34).length ≤ cap13) hr13
    rw [List.drop_drop, hl34] at this
    exact this
  refine w_seq ?_
  refine w_region ?_
  refine o_t x_mv ?_
  refine o_call Tryz.call96 haa spla (cRb32H b8 _ _ l 38 (i4 h.ext) h.ext hs14 (hh c.ext (by simp)) (by simp) (num_i4 ok.ext)) ?_
  rintro _ _ HH ⟨rfl, v15, hs15, rfl⟩ hHH
  simp only [List.cons_append, List.nil_append, List.append_nil] at hHH; subst hHH
  refine o_t x_nc ?_
  refine o_t (x_fa f82_0) ?_
  refine o_t (x_fa f80_16) ?_
  refine o_st k77 ?_
  refine o_nil ?_
  refine w_seq ?_
  refine w_region ?_
  refine o_t x_mv ?_
  refine o_call Tryz.call96 haa spla (cRb32H b8 _ _ l 42 (i4 pos) pos hs15 (hh c.off (by simp)) (by simp) epos) ?_
  rintro _ _ HH ⟨rfl, v16, hs16, rfl⟩ hHH
  simp only [List.cons_append, List.nil_append, List.append_nil] at hHH; subst hHH
  refine o_t (x_cv ⟨_, Tryz.underlying77⟩ Tryz.underlying2) ?_
  refine o_t x_nc ?_
  refine o_t (x_fa f82_3) ?_
  refine o_st k2 ?_
  refine o_nil ?_
  refine w_weak (L' := [(0, .pointer (some ⟨fb, 0, none⟩)), (1, .iface T0 u0), (10, .int .i64 h.name.length), (11, .int .i64 h.extra.length), (12, .int .i64 h.comment.length)]) (H' := [fileB fb (.string ⟨#[]⟩) (.string ⟨#[]⟩) (.bool false) (.int .u16 h.creator) (.int .u16 h.reader) (.int .u16 h.flags) (.int .u16 h.method) (.int .u64 0) (.int .i64 0) (.pointer none) (.int .u16 h.time) (.int .u16 h.date) (.int .u32 h.crc) (.int .u32 h.packed) (.int .u32 h.size) (.int .u64 h.packed) (.int .u64 h.size) (.slice none 0 0) (.int .u32 h.ext) zp zi (.int .i64 pos), K1]) wka hka ?_
  obtain ⟨D, hD⟩ : ∃ D, h.name ++ h.extra ++ h.comment = D := ⟨_, rfl⟩
  have hDl : D.length = h.name.length + h.extra.length + h.comment.length := by rw [← hD]; simp only [List.length_append]
  rw [hD] at hrem2e
  have dn : (D.drop 0).take (h.name.length - 0) = h.name := by rw [← hD, List.append_assoc]; simp
  have dx : (D.drop h.name.length).take (h.name.length + h.extra.length - h.name.length) = h.extra := by rw [← hD, List.append_assoc, List.drop_left, Nat.add_sub_cancel_left, List.take_left]
  have dc : (D.drop (h.name.length + h.extra.length)).take (D.length - (h.name.length + h.extra.length)) = h.comment := by
    rw [hDl, Nat.add_sub_cancel_left, ← hD, ← List.length_append, List.drop_left, List.take_length]
  have c2 := fun bd => cReadFull' gl T0 u0 r0 f0 S R rem2 K1 hS1 bd 0 D.length D.length 5 (List.replicate D.length (.int .u8 0)) (by omega) (by omega) (by simp)
  have hput2 : putB (List.replicate D.length (.int .u8 0)) 0 D = D.map u8 := putB_all (by simp)
  have ht2 : rem2.take D.length = D := by rw [hrem2e]; exact List.take_left
  have hd2 : rem2.drop D.length = rem' := by rw [hrem2e]; exact List.drop_left
  have hl2 : D.length ≤ rem2.length := by rw [hrem2e]; simp
  rw [ht2, hd2, if_pos hl2, hput2, show min D.length rem2.length = D.length by omega] at c2
  clear ht2 hd2 hl2 hput2 hrem2e
  refine w_seq ?_
  refine w_region ?_
  refine o_t x_mv ?_
  refine o_t x_mv ?_
  refine o_t x_add ?_
  refine o_t x_mv ?_
  refine o_t x_add ?_
  refine o_mk (k := D.length) info5 Tryz.underlying78 rfl rfl (by omega) (by omega) (fun bd => ?_) (hx := by intro g; simp only [evl, val, Nat.reduceEqDiff, ↓reduceIte]; exact congrArg (Value.int .i64) (by omega)) (hy := by intro g; simp only [evl, val, Nat.reduceEqDiff, ↓reduceIte]; exact congrArg (Value.int .i64) (by omega))
  refine o_t x_as ?_
  refine o_nil ?_
  refine w_seq ?_
  refine w_seq ?_
  refine w_region ?_
  refine o_t x_mv ?_
  refine o_t x_mv ?_
  refine o_call Tryz.call103 haa spla (c2 bd) ?_
  rintro _ _ HH ⟨K2, hS2, rfl, rfl⟩ hHH
  simp only [List.cons_append, List.nil_append, List.append_nil] at hHH; subst hHH
  refine o_t x_mv ?_
  refine o_t x_ex ?_
  refine o_t x_ex ?_
  refine o_t x_as ?_
  refine o_t x_as ?_
  refine o_nil ?_
  refine w_seq ?_
  refine w_region ?_
  refine o_t x_mv ?_
  first | refine o_t (x_inil Tryz.underlying58) ?_ | refine o_t (x_isome Tryz.underlying58) ?_
  refine o_nil ?_
  refine w_cond (t := false) (fun g => rfl) (fun hc => ?_) (fun hc => ?_) -- ('Go.Operand.tmp', 145)
  · cases hc
  refine w_skip ?_
  have hrd : Rd G [pt bd (D.map u8) 5] bd 0 (D.map u8) := Rd.all
  have sn := Sl.mid (lo := 0) (hi := h.name.length) (by omega) (by omega) (Nat.le_refl _) hrd
  have sx := Sl.mid (lo := h.name.length) (hi := h.name.length + h.extra.length) (by omega) (by omega) (Nat.le_refl _) hrd
  have sc := Sl.mid (lo := h.name.length + h.extra.length) (hi := D.length) (by omega) (by omega) (Nat.le_refl _) hrd
  rw [dn] at sn
  rw [dx] at sx
  rw [dc] at sc
  refine w_seq ?_
  refine w_region ?_
  refine o_t x_mv ?_
  refine o_t x_mv ?_
  refine o_t x_mv ?_
  refine o_t (x_sl (lo := 0) (hi := h.name.length) (v := slV bd 0 D.length D.length 0 h.name.length 1) Tryz.underlying78 e78 (hv := rfl)) ?_
  refine o_t (x_b2S Tryz.underlying78 Tryz.underlying5 Tryz.underlying9 sn) ?_
  refine o_t x_nc ?_
  refine o_t (x_fa f82_0) ?_
  refine o_t (x_fa f80_0) ?_
  refine o_st k9 ?_
  refine o_nil ?_
  refine w_seq ?_
  refine w_region ?_
  refine o_t x_mv ?_
  refine o_t x_mv ?_
  refine o_t x_mv ?_
  refine o_t x_mv ?_
  refine o_t x_mv ?_
  refine o_t x_add ?_
  refine o_t (x_sl (lo := h.name.length) (hi := h.name.length + h.extra.length) (v := slV bd 0 D.length D.length h.name.length (h.name.length + h.extra.length) 1) Tryz.underlying78 e78 (hv := rfl)) ?_
  refine o_t x_nc ?_
  refine o_t (x_fa f82_0) ?_
  refine o_t (x_fa f80_15) ?_
  refine o_st k78 ?_
  refine o_nil ?_
  refine w_seq ?_
  refine w_region ?_
  refine o_t x_mv ?_
  refine o_t x_mv ?_
  refine o_t x_mv ?_
  refine o_t x_mv ?_
  refine o_t x_add ?_
  refine o_t (x_sl (lo := h.name.length + h.extra.length) (hi := D.length) (v := slV bd 0 D.length D.length (h.name.length + h.extra.length) D.length 1) Tryz.underlying78 e78 (hv := rfl)) ?_
  refine o_t (x_b2S Tryz.underlying78 Tryz.underlying5 Tryz.underlying9 sc) ?_
  refine o_t x_nc ?_
  refine o_t (x_fa f82_0) ?_
  refine o_t (x_fa f80_1) ?_
  refine o_st k9 ?_
  refine o_nil ?_
  obtain ⟨xv, hxv⟩ : ∃ xv, slV bd 0 D.length D.length h.name.length (h.name.length + h.extra.length) 1 = xv := ⟨_, rfl⟩
  obtain ⟨xr, hxr⟩ : ∃ xr, pt bd (D.map u8) 5 = xr := ⟨_, rfl⟩
  have hx1 : xv.oneCell' = true := by rw [← hxv]; rfl
  rw [hxr, hxv] at sx
  refine w_weak (L' := [(0, .pointer (some ⟨fb, 0, none⟩))]) (H' := [fileB fb (.string (str h.name)) (.string (str h.comment)) (.bool false) (.int .u16 h.creator) (.int .u16 h.reader) (.int .u16 h.flags) (.int .u16 h.method) (.int .u64 0) (.int .i64 0) (.pointer none) (.int .u16 h.time) (.int .u16 h.date) (.int .u32 h.crc) (.int .u32 h.packed) (.int .u32 h.size) (.int .u64 h.packed) (.int .u64 h.size) xv (.int .u32 h.ext) zp zi (.int .i64 pos), xr, K2]) wka (by rw [← hxv, ← hxr]; exact hka) ?_
  refine w_seq ?_
  refine w_region ?_
  refine o_t x_mv ?_
  refine o_t x_nc ?_
  refine o_t (x_fa f82_0) ?_
  refine o_t (x_fa f80_0) ?_
  refine o_t (x_ld k9) ?_
  refine o_call Tryz.call54 haa spla (cDetect gl h.name (by omega)) ?_
  rintro _ _ HH ⟨rfl, rfl⟩ hHH
  simp only [List.cons_append, List.nil_append, List.append_nil] at hHH; subst hHH
  refine o_t x_mv ?_
  refine o_t x_ex ?_
  refine o_t x_ex ?_
  refine o_t x_as ?_
  refine o_t x_as ?_
  refine o_nil ?_
  refine w_seq ?_
  refine w_region ?_
  refine o_t x_mv ?_
  refine o_t x_nc ?_
  refine o_t (x_fa f82_0) ?_
  refine o_t (x_fa f80_1) ?_
  refine o_t (x_ld k9) ?_
  refine o_call Tryz.call54 haa spla (cDetect gl h.comment (by omega)) ?_
  rintro _ _ HH ⟨rfl, rfl⟩ hHH
  simp only [List.cons_append, List.nil_append, List.append_nil] at hHH; subst hHH
  refine o_t x_mv ?_
  refine o_t x_ex ?_
  refine o_t x_ex ?_
  refine o_t x_as ?_
  refine o_t x_as ?_
  refine o_nil ?_
  refine w_cut (α := Unit) (fun _ => [(0, .pointer (some ⟨fb, 0, none⟩))]) (fun _ => [fileH fb h (nonT h) (.int .u64 0) (.int .i64 0) (.pointer none) xv zp zi pos, xr, K2]) (fun _ => True) ?_ (fun _ _ => ?_)
  · have hnon : nonT h = (!(validT h.name).1 || !(validT h.comment).1 || ((validT h.name).2 || (validT h.comment).2) && decide (h.flags / 2048 % 2 = 0)) := rfl
    generalize (validT h.name).1 = a1 at hnon ⊢
    generalize (validT h.name).2 = a2 at hnon ⊢
    generalize (validT h.comment).1 = b1 at hnon ⊢
    generalize (validT h.comment).2 = b2 at hnon ⊢
    have hfl := ok.flags
    refine w_block ?_
    refine w_seq ?_
    cases a1 with
    | false =>
      rw [show nonT h = true by rw [hnon]; rfl]
      refine w_region ?_
      refine o_t x_mv ?_
      refine o_t x_not ?_
      refine o_t x_mv ?_
      first | refine o_t (x_g x_mv) ?_ | refine o_t x_gs ?_ | refine o_t x_gu ?_
      first | refine o_t (x_g x_not) ?_ | refine o_t x_gs ?_ | refine o_t x_gu ?_
      refine o_t x_pick ?_
      refine o_t x_as ?_
      refine o_nil ?_
      refine w_cond (t := true) (fun g => rfl) (fun hc => ?_) (fun hc => ?_) -- ('Go.Operand.tmp', 204)
      · --
        refine w_region ?_
        refine o_t x_mv ?_
        refine o_t x_nc ?_
        refine o_t (x_fa f82_0) ?_
        refine o_t (x_fa f80_2) ?_
        refine o_st k4 ?_
        refine o_nil ?_
        exact ⟨(), wka, hka, trivial⟩
      · cases hc
    | true =>
    cases b1 with
    | false =>
      rw [show nonT h = true by rw [hnon]; rfl]
      refine w_region ?_
      refine o_t x_mv ?_
      refine o_t x_not ?_
      refine o_t x_mv ?_
      first | refine o_t (x_g x_mv) ?_ | refine o_t x_gs ?_ | refine o_t x_gu ?_
      first | refine o_t (x_g x_not) ?_ | refine o_t x_gs ?_ | refine o_t x_gu ?_
      refine o_t x_pick ?_
      refine o_t x_as ?_
      refine o_nil ?_
      refine w_cond (t := true) (fun g => rfl) (fun hc => ?_) (fun hc => ?_) -- ('Go.Operand.tmp', 204)
      · --
        refine w_region ?_
        refine o_t x_mv ?_
        refine o_t x_nc ?_
        refine o_t (x_fa f82_0) ?_
        refine o_t (x_fa f80_2) ?_
        refine o_st k4 ?_
        refine o_nil ?_
        exact ⟨(), wka, hka, trivial⟩
      · cases hc
    | true =>
    refine w_region ?_
    refine o_t x_mv ?_
    refine o_t x_not ?_
    refine o_t x_mv ?_
    first | refine o_t (x_g x_mv) ?_ | refine o_t x_gs ?_ | refine o_t x_gu ?_
    first | refine o_t (x_g x_not) ?_ | refine o_t x_gs ?_ | refine o_t x_gu ?_
    refine o_t x_pick ?_
    refine o_t x_as ?_
    refine o_nil ?_
    refine w_cond (t := false) (fun g => rfl) (fun hc => ?_) (fun hc => ?_) -- ('Go.Operand.tmp', 204)
    · cases hc
    refine w_seq ?_
    cases a2 with
    | true =>
      rw [show nonT h = decide (h.flags / 2048 % 2 = 0) by rw [hnon]; simp]
      refine w_region ?_
      refine o_t x_mv ?_
      refine o_t x_not ?_
      refine o_t x_mv ?_
      first | refine o_t (x_g x_mv) ?_ | refine o_t x_gs ?_ | refine o_t x_gu ?_
      first | refine o_t (x_g x_not) ?_ | refine o_t x_gs ?_ | refine o_t x_gu ?_
      refine o_t x_pick ?_
      refine o_t x_as ?_
      refine o_nil ?_
      refine w_cond (t := false) (fun g => rfl) (fun hc => ?_) (fun hc => ?_) -- ('Go.Operand.tmp', 215)
      · cases hc
      · --
        refine w_region ?_
        refine o_t x_mv ?_
        refine o_t x_mv ?_
        refine o_t x_nc ?_
        refine o_t (x_fa f82_0) ?_
        refine o_t (x_fa f80_5) ?_
        refine o_t (x_ld k72) ?_
        refine o_t x_and ?_
        refine o_t (x_cmp (r := decide (h.flags / 2048 % 2 = 0)) (hr := and2048 hfl.1)) ?_
        refine o_t x_nc ?_
        refine o_t (x_fa f82_0) ?_
        refine o_t (x_fa f80_2) ?_
        refine o_st k4 ?_
        refine o_nil ?_
        exact ⟨(), wka, hka, trivial⟩
    | false =>
    cases b2 with
    | true =>
      rw [show nonT h = decide (h.flags / 2048 % 2 = 0) by rw [hnon]; simp]
      refine w_region ?_
      refine o_t x_mv ?_
      refine o_t x_not ?_
      refine o_t x_mv ?_
      first | refine o_t (x_g x_mv) ?_ | refine o_t x_gs ?_ | refine o_t x_gu ?_
      first | refine o_t (x_g x_not) ?_ | refine o_t x_gs ?_ | refine o_t x_gu ?_
      refine o_t x_pick ?_
      refine o_t x_as ?_
      refine o_nil ?_
      refine w_cond (t := false) (fun g => rfl) (fun hc => ?_) (fun hc => ?_) -- ('Go.Operand.tmp', 215)
      · cases hc
      · --
        refine w_region ?_
        refine o_t x_mv ?_
        refine o_t x_mv ?_
        refine o_t x_nc ?_
        refine o_t (x_fa f82_0) ?_
        refine o_t (x_fa f80_5) ?_
        refine o_t (x_ld k72) ?_
        refine o_t x_and ?_
        refine o_t (x_cmp (r := decide (h.flags / 2048 % 2 = 0)) (hr := and2048 hfl.1)) ?_
        refine o_t x_nc ?_
        refine o_t (x_fa f82_0) ?_
        refine o_t (x_fa f80_2) ?_
        refine o_st k4 ?_
        refine o_nil ?_
        exact ⟨(), wka, hka, trivial⟩
    | false =>
      rw [show nonT h = false by rw [hnon]; simp]
      refine w_region ?_
      refine o_t x_mv ?_
      refine o_t x_not ?_
      refine o_t x_mv ?_
      first | refine o_t (x_g x_mv) ?_ | refine o_t x_gs ?_ | refine o_t x_gu ?_
      first | refine o_t (x_g x_not) ?_ | refine o_t x_gs ?_ | refine o_t x_gu ?_
      refine o_t x_pick ?_
      refine o_t x_as ?_
      refine o_nil ?_
      refine w_cond (t := true) (fun g => rfl) (fun hc => ?_) (fun hc => ?_) -- ('Go.Operand.tmp', 215)
      · --
        refine w_region ?_
        refine o_t x_mv ?_
        refine o_t x_nc ?_
        refine o_t (x_fa f82_0) ?_
        refine o_t (x_fa f80_2) ?_
        refine o_st k4 ?_
        refine o_nil ?_
        exact ⟨(), wka, hka, trivial⟩
      · cases hc
  refine w_seq ?_
  refine w_region ?_
  refine o_al z76 (fun b20 => ?_)
  refine o_nil ?_
  refine w_seq ?_
  refine w_label ?_
  refine w_cut (α := Int × Int × Value) (fun x => [(0, .pointer (some ⟨fb, 0, none⟩)), (20, .pointer (some ⟨b20, 0, none⟩))]) (fun x => [tmB b20 x.1 x.2.1 x.2.2, fileH fb h (nonT h) (.int .u64 0) (.int .i64 0) (.pointer none) xv zp zi pos, xr, K2]) (fun x => x.2.2.oneCell' = true) ?_ ?_
  · refine w_seq ?_
    refine w_region ?_
    refine o_t x_mv ?_
    refine o_t x_nc ?_
    refine o_t (x_fa f82_0) ?_
    refine o_t (x_fa f80_15) ?_
    refine o_t (x_ld k78) ?_
    refine o_al z204 (fun b21 => ?_)
    refine o_st k204 ?_
    refine o_nil ?_
    refine w_block ?_ -- 1
    refine w_loop (α := Nat × Value × List UInt8 × Int × Int × Value) (fun x => [(0, .pointer (some ⟨fb, 0, none⟩)), (20, .pointer (some ⟨b20, 0, none⟩)), (21, .pointer (some ⟨x.1, 0, none⟩))]) (fun x => [tmB b20 x.2.2.2.1 x.2.2.2.2.1 x.2.2.2.2.2, pt x.1 [x.2.1] 204, fileH fb h (nonT h) (.int .u64 0) (.int .i64 0) (.pointer none) xv zp zi pos, xr, K2])
      (fun x => Sl G xr x.2.1 x.2.2.1 ∧ x.2.2.1.length ≤ 60000 ∧ x.2.2.2.2.2.oneCell' = true) (fun x => x.2.2.1.length) (b21, xv, h.extra, 0, 0, .pointer none) (wka) (hka) ⟨sx, hxl, rfl⟩ ?_
    rintro ⟨b21, v, l, w, e, loc⟩ ⟨hsl, hll, hloc⟩
    dsimp only at hsl hll hloc ⊢
    have hvo := hsl.one
    obtain ⟨lb, lo, lc, hve, hlc, hlr⟩ := id hsl
    refine w_seq ?_
    refine w_seq ?_
    by_cases h4 : 4 ≤ l.length
    case neg =>
      refine w_region ?_
      refine o_t (x_ld k204) ?_
      refine o_t (x_lenb Tryz.underlying204 (hx := fun g => by subst hve; rfl)) ?_
      refine o_t x_cmp ?_
      refine o_nil ?_
      refine w_cond (t := false) (fun g => rfl) (fun hc => ?_) (fun hc => ?_) -- ('Go.Operand.tmp', 233)
      · cases hc
      refine w_exit ?_ -- 1
      exact ⟨(w, e, loc), wka, hka, hloc⟩
    refine w_region ?_
    refine o_t (x_ld k204) ?_
    refine o_t (x_lenb Tryz.underlying204 (hx := fun g => by subst hve; rfl)) ?_
    refine o_t x_cmp ?_
    refine o_nil ?_
    refine w_cond (t := true) (fun g => rfl) (fun hc => ?_) (fun hc => ?_) -- ('Go.Operand.tmp', 233)
    case refine_2 => cases hc
    refine w_skip ?_
    refine w_cut (α := Value × List UInt8 × Int × Int × Value) (fun x => [(0, .pointer (some ⟨fb, 0, none⟩)), (20, .pointer (some ⟨b20, 0, none⟩)), (21, .pointer (some ⟨b21, 0, none⟩))]) (fun x => [tmB b20 x.2.2.1 x.2.2.2.1 x.2.2.2.2, pt b21 [x.1] 204, fileH fb h (nonT h) (.int .u64 0) (.int .i64 0) (.pointer none) xv zp zi pos, xr, K2])
      (fun x => Sl G xr x.1 x.2.1 ∧ x.2.1.length < l.length ∧ x.2.2.2.2.oneCell' = true) ?_ ?_
    case refine_2 =>
      rintro ⟨v', l', w', e', loc'⟩ ⟨hsl', hlt', hloc'⟩
      dsimp only at hsl' hlt' hloc' ⊢
      have hvo' := hsl'.one
      refine w_seq ?_
      refine w_region ?_
      refine o_t (x_ld k204) ?_
      refine o_nil ?_
      refine w_region ?_
      refine o_al z204 (fun b21 => ?_)
      refine o_st k204 ?_
      refine o_nil ?_
      exact ⟨(b21, v', l', w', e', loc'), wka, hka, ⟨hsl', by dsimp only; omega, hloc'⟩, hlt'⟩
    refine w_block ?_ -- 2
    have n1 := num_lt (l.take 2)
    have n2 := num_lt ((l.drop 2).take 2)
    rw [show (l.take 2).length = 2 by rw [List.length_take]; omega] at n1
    rw [show ((l.drop 2).take 2).length = 2 by rw [List.length_take, List.length_drop]; omega] at n2
    have c1 := cRb16 b21 v xr l hsl (by omega)
    obtain ⟨tg, htg⟩ : ∃ tg, num (l.take 2) = tg := ⟨_, rfl⟩
    rw [htg] at c1 n1
    refine w_seq ?_
    refine w_region ?_
    refine o_call Tryz.call97 haa spla (c1) ?_
    rintro _ _ HH ⟨rfl, v1, hs1, rfl⟩ hHH
    simp only [List.cons_append, List.nil_append, List.append_nil] at hHH; subst hHH
    refine o_t x_as ?_
    refine o_nil ?_
    have c2 := cRb16 b21 v1 xr _ hs1 (by rw [List.length_drop]; omega)
    obtain ⟨m, hm⟩ : ∃ m, num ((l.drop 2).take 2) = m := ⟨_, rfl⟩
    obtain ⟨l2, hl2⟩ : ∃ l2, (l.drop 2).drop 2 = l2 := ⟨_, rfl⟩
    have hl2l : l2.length = l.length - 4 := by rw [← hl2, List.length_drop, List.length_drop]; omega
    rw [hm, hl2] at c2
    rw [hm] at n2
    refine w_seq ?_
    refine w_region ?_
    refine o_call Tryz.call97 haa spla (c2) ?_
    rintro _ _ HH ⟨rfl, v2, hs2, rfl⟩ hHH
    simp only [List.cons_append, List.nil_append, List.append_nil] at hHH; subst hHH
    refine o_t (x_cv ⟨_, Tryz.underlying72⟩ Tryz.underlying3) ?_
    refine o_t x_as ?_
    refine o_nil ?_
    obtain ⟨lb2, lo2, lc2, hve2, hlc2, hlr2⟩ := id hs2
    refine w_seq ?_
    refine w_seq ?_
    by_cases hbad : l2.length < m
    · refine w_region ?_
      refine o_t (x_ld k204) ?_
      refine o_t (x_lenb Tryz.underlying204 (hx := fun g => by subst hve2; rfl)) ?_
      refine o_t x_mv ?_
      refine o_t x_cmp ?_
      refine o_nil ?_
      refine w_cond (t := true) (fun g => rfl) (fun hc => ?_) (fun hc => ?_) -- ('Go.Operand.tmp', 240)
      · --
        refine w_exit ?_ -- 1
        exact ⟨(w, e, loc), wka, hka, hloc⟩
      · cases hc
    refine w_region ?_
    refine o_t (x_ld k204) ?_
    refine o_t (x_lenb Tryz.underlying204 (hx := fun g => by subst hve2; rfl)) ?_
    refine o_t x_mv ?_
    refine o_t x_cmp ?_
    refine o_nil ?_
    refine w_cond (t := false) (fun g => rfl) (fun hc => ?_) (fun hc => ?_) -- ('Go.Operand.tmp', 240)
    · cases hc
    refine w_skip ?_
    have hFl : (l2.take m).length = m := by simp; omega
    have hl3 : (l2.drop m).length < l.length := by simp; omega
    refine w_seq ?_
    refine w_region ?_
    refine o_t x_mv ?_
    refine o_call Tryz.call104 haa spla (cRbSub b21 v2 xr l2 m hs2 (by omega) (by omega)) ?_
    rintro _ _ HH ⟨⟨Fb, Fo, Fc, rfl, hFc, hFr⟩, v3, hs3, rfl⟩ hHH
    simp only [List.cons_append, List.nil_append, List.append_nil] at hHH; subst hHH
    refine o_al z204 (fun b24 => ?_)
    refine o_st k204 ?_
    refine o_nil ?_
    have hsF : Sl G xr (.slice (some ⟨Fb, Fo, none⟩) (l2.take m).length Fc) (l2.take m) := ⟨Fb, Fo, Fc, rfl, hFc, hFr⟩
    obtain ⟨vF, hvFe⟩ : ∃ vF, Value.slice (some ⟨Fb, Fo, none⟩) (l2.take m).length Fc = vF := ⟨_, rfl⟩
    refine w_weak (L' := [(0, .pointer (some ⟨fb, 0, none⟩)), (20, .pointer (some ⟨b20, 0, none⟩)), (21, .pointer (some ⟨b21, 0, none⟩)), (22, .int .u16 tg), (24, .pointer (some ⟨b24, 0, none⟩))]) (H' := [pt b24 [vF] 204, tmB b20 w e loc, pt b21 [v3] 204, fileH fb h (nonT h) (.int .u64 0) (.int .i64 0) (.pointer none) xv zp zi pos, xr, K2]) wka (by rw [← hvFe]; exact hka) ?_
    rw [hvFe] at hsF
    obtain ⟨F, hF⟩ : ∃ F, l2.take m = F := ⟨_, rfl⟩
    rw [hF] at hsF hFl
    clear hFc hFr hvFe
    have hvF := hsF.one
    obtain ⟨Fb, Fo, Fc, hFe, hFc, hFr⟩ := id hsF
    refine w_seq ?_
    refine w_region ?_
    refine o_t x_mv ?_
    refine o_nil ?_
    refine w_block ?_ -- 3
    refine w_seq ?_
    refine w_region ?_
    refine o_t (x_cmp (hr := rfl)) ?_
    refine o_t x_as ?_
    refine o_nil ?_
    refine w_cond (fun g => rfl) (fun hc => ?_) (fun hc => ?_) -- ('Go.Operand.tmp', 244)
    · --
      have hsz := ok.size; have hpk := ok.packed
      refine w_seq ?_
      refine w_seq ?_
      refine w_region ?_
      refine o_t x_mv ?_
      refine o_t x_nc ?_
      refine o_t (x_fa f82_0) ?_
      refine o_t (x_fa f80_12) ?_
      refine o_t (x_ld k77) ?_
      refine o_t x_cmp ?_
      refine o_nil ?_
      refine w_cond (t := false) (fun g => rfl) (fun hc => ?_) (fun hc => ?_) -- ('Go.Operand.tmp', 251)
      · cases hc
      refine w_skip ?_
      refine w_seq ?_
      refine w_seq ?_
      refine w_region ?_
      refine o_t x_mv ?_
      refine o_t x_nc ?_
      refine o_t (x_fa f82_0) ?_
      refine o_t (x_fa f80_11) ?_
      refine o_t (x_ld k77) ?_
      refine o_t x_cmp ?_
      refine o_nil ?_
      refine w_cond (t := false) (fun g => rfl) (fun hc => ?_) (fun hc => ?_) -- ('Go.Operand.tmp', 266)
      · cases hc
      refine w_skip ?_
      refine w_seq ?_
      refine w_region ?_
      refine o_t x_mv ?_
      refine o_t x_nc ?_
      refine o_t (x_fa f82_3) ?_
      refine o_t (x_ld k2) ?_
      refine o_t x_cmp ?_
      refine o_nil ?_
      refine w_cond (t := false) (fun g => rfl) (fun hc => ?_) (fun hc => ?_) -- ('Go.Operand.tmp', 280)
      · cases hc
      refine w_skip ?_
      exact ⟨(v3, l2.drop m, w, e, loc), wka, hka, hs3, hl3, hloc⟩
    · --
      refine w_seq ?_
      refine w_region ?_
      refine o_t (x_cmp (hr := rfl)) ?_
      refine o_t x_as ?_
      refine o_nil ?_
      refine w_cond (fun g => rfl) (fun hc => ?_) (fun hc => ?_) -- ('Go.Operand.tmp', 290)
      · --
        refine w_seq ?_
        refine w_seq ?_
        by_cases hm4 : F.length < 4
        · refine w_region ?_
          refine o_t (x_ld k204) ?_
          refine o_t (x_lenb Tryz.underlying204 (hx := fun g => by subst hFe; rfl)) ?_
          refine o_t x_cmp ?_
          refine o_nil ?_
          refine w_cond (t := true) (fun g => rfl) (fun hc => ?_) (fun hc => ?_) -- ('Go.Operand.tmp', 294)
          · --
            refine w_exit ?_ -- 2
            exact ⟨(v3, l2.drop m, w, e, loc), wka, hka, hs3, hl3, hloc⟩
          · cases hc
        refine w_region ?_
        refine o_t (x_ld k204) ?_
        refine o_t (x_lenb Tryz.underlying204 (hx := fun g => by subst hFe; rfl)) ?_
        refine o_t x_cmp ?_
        refine o_nil ?_
        refine w_cond (t := false) (fun g => rfl) (fun hc => ?_) (fun hc => ?_) -- ('Go.Operand.tmp', 294)
        · cases hc
        refine w_skip ?_
        refine w_seq ?_
        refine w_region ?_
        refine o_call Tryz.call96 haa spla (cRb32 b24 vF xr F hsF (by omega)) ?_
        rintro _ _ HH ⟨rfl, vG, hsG, rfl⟩ hHH
        simp only [List.cons_append, List.nil_append, List.append_nil] at hHH; subst hHH
        refine o_nil ?_
        refine w_block ?_ -- 4
        refine w_loop (α := Value × List UInt8 × Int × Int × Value) (fun x => [(0, .pointer (some ⟨fb, 0, none⟩)), (20, .pointer (some ⟨b20, 0, none⟩)), (21, .pointer (some ⟨b21, 0, none⟩)), (24, .pointer (some ⟨b24, 0, none⟩))]) (fun x => [pt b24 [x.1] 204, tmB b20 x.2.2.1 x.2.2.2.1 x.2.2.2.2, pt b21 [v3] 204, fileH fb h (nonT h) (.int .u64 0) (.int .i64 0) (.pointer none) xv zp zi pos, xr, K2])
          (fun x => Sl G xr x.1 x.2.1 ∧ x.2.1.length ≤ 65535 ∧ x.2.2.2.2.oneCell' = true) (fun x => x.2.1.length) (vG, F.drop 4, w, e, loc) (wka) (hka) ⟨hsG, by simp; omega, hloc⟩ ?_
        rintro ⟨v4, F4, w4, e4, loc4⟩ ⟨hs4, hF4, hloc4⟩
        dsimp only at hs4 hF4 hloc4 ⊢
        have hv4 := hs4.one
        obtain ⟨b4, o4, c4, hv4e, hc4, hr4⟩ := id hs4
        refine w_seq ?_
        refine w_seq ?_
        by_cases h44 : 4 ≤ F4.length
        case neg =>
          refine w_region ?_
          refine o_t (x_ld k204) ?_
          refine o_t (x_lenb Tryz.underlying204 (hx := fun g => by subst hv4e; rfl)) ?_
          refine o_t x_cmp ?_
          refine o_nil ?_
          refine w_cond (t := false) (fun g => rfl) (fun hc => ?_) (fun hc => ?_) -- ('Go.Operand.tmp', 298)
          · cases hc
          refine w_exit ?_ -- 4
          exact ⟨(v3, l2.drop m, w4, e4, loc4), wka, hka, hs3, hl3, hloc4⟩
        refine w_region ?_
        refine o_t (x_ld k204) ?_
        refine o_t (x_lenb Tryz.underlying204 (hx := fun g => by subst hv4e; rfl)) ?_
        refine o_t x_cmp ?_
        refine o_nil ?_
        refine w_cond (t := true) (fun g => rfl) (fun hc => ?_) (fun hc => ?_) -- ('Go.Operand.tmp', 298)
        case refine_2 => cases hc
        refine w_skip ?_
        refine w_block ?_ -- 5
        have m1 := num_lt (F4.take 2)
        have m2 := num_lt ((F4.drop 2).take 2)
        rw [show (F4.take 2).length = 2 by rw [List.length_take]; omega] at m1
        rw [show ((F4.drop 2).take 2).length = 2 by rw [List.length_take, List.length_drop]; omega] at m2
        have e1 := cRb16 b24 v4 xr F4 hs4 (by omega)
        obtain ⟨tg4, htg4⟩ : ∃ tg, num (F4.take 2) = tg := ⟨_, rfl⟩
        rw [htg4] at e1 m1
        refine w_seq ?_
        refine w_region ?_
        refine o_call Tryz.call97 haa spla (e1) ?_
        rintro _ _ HH ⟨rfl, v5, hs5, rfl⟩ hHH
        simp only [List.cons_append, List.nil_append, List.append_nil] at hHH; subst hHH
        refine o_t x_as ?_
        refine o_nil ?_
        have e2 := cRb16 b24 v5 xr _ hs5 (by rw [List.length_drop]; omega)
        obtain ⟨m4, hm4⟩ : ∃ m, num ((F4.drop 2).take 2) = m := ⟨_, rfl⟩
        obtain ⟨F5, hF5⟩ : ∃ l2, (F4.drop 2).drop 2 = l2 := ⟨_, rfl⟩
        have hF5l : F5.length = F4.length - 4 := by rw [← hF5, List.length_drop, List.length_drop]; omega
        rw [hm4, hF5] at e2
        rw [hm4] at m2
        refine w_seq ?_
        refine w_region ?_
        refine o_call Tryz.call97 haa spla (e2) ?_
        rintro _ _ HH ⟨rfl, v6, hs6, rfl⟩ hHH
        simp only [List.cons_append, List.nil_append, List.append_nil] at hHH; subst hHH
        refine o_t (x_cv ⟨_, Tryz.underlying72⟩ Tryz.underlying3) ?_
        refine o_t x_as ?_
        refine o_nil ?_
        have hv6 := hs6.one
        obtain ⟨b6, o6, c6, hv6e, hc6, hr6⟩ := id hs6
        refine w_seq ?_
        refine w_seq ?_
        by_cases hbad4 : F5.length < m4
        · refine w_region ?_
          refine o_t (x_ld k204) ?_
          refine o_t (x_lenb Tryz.underlying204 (hx := fun g => by subst hv6e; rfl)) ?_
          refine o_t x_mv ?_
          refine o_t x_cmp ?_
          refine o_nil ?_
          refine w_cond (t := true) (fun g => rfl) (fun hc => ?_) (fun hc => ?_) -- ('Go.Operand.tmp', 305)
          · --
            refine w_exit ?_ -- 2
            exact ⟨(v3, l2.drop m, w4, e4, loc4), wka, hka, hs3, hl3, hloc4⟩
          · cases hc
        refine w_region ?_
        refine o_t (x_ld k204) ?_
        refine o_t (x_lenb Tryz.underlying204 (hx := fun g => by subst hv6e; rfl)) ?_
        refine o_t x_mv ?_
        refine o_t x_cmp ?_
        refine o_nil ?_
        refine w_cond (t := false) (fun g => rfl) (fun hc => ?_) (fun hc => ?_) -- ('Go.Operand.tmp', 305)
        · cases hc
        refine w_skip ?_
        have hlt5 : (F5.drop m4).length < F4.length := by simp; omega
        refine w_seq ?_
        refine w_region ?_
        refine o_t x_mv ?_
        refine o_call Tryz.call104 haa spla (cRbSub b24 v6 xr F5 m4 hs6 (by omega) (by omega)) ?_
        rintro _ _ HH ⟨⟨b7, o7, c7, rfl, hc7, hr7⟩, v7, hs7, rfl⟩ hHH
        simp only [List.cons_append, List.nil_append, List.append_nil] at hHH; subst hHH
        refine o_al z204 (fun b27 => ?_)
        refine o_st k204 ?_
        refine o_nil ?_
        have hsA : Sl G xr (.slice (some ⟨b7, o7, none⟩) (F5.take m4).length c7) (F5.take m4) := ⟨b7, o7, c7, rfl, hc7, hr7⟩
        refine w_seq ?_
        refine w_seq ?_
        by_cases hgo : tg4 = 1 ∧ m4 = 24
        case neg =>
          by_cases ht1 : tg4 = 1
          · refine w_region ?_
            refine o_t x_mv ?_
            refine o_t x_ne ?_
            refine o_t x_mv ?_
            first | refine o_t (x_g x_mv) ?_ | refine o_t x_gs ?_ | refine o_t x_gu ?_
            first | refine o_t (x_g x_ne) ?_ | refine o_t x_gs ?_ | refine o_t x_gu ?_
            refine o_t x_pick ?_
            refine o_nil ?_
            refine w_cond (t := true) (fun g => rfl) (fun hc => ?_) (fun hc => ?_) -- ('Go.Operand.tmp', 313)
            · --
              refine w_exit ?_ -- 5
              exact ⟨(v7, F5.drop m4, w4, e4, loc4), wka, hka, ⟨hs7, by dsimp only; omega, hloc4⟩, hlt5⟩
            · cases hc
          · refine w_region ?_
            refine o_t x_mv ?_
            refine o_t x_ne ?_
            refine o_t x_mv ?_
            first | refine o_t (x_g x_mv) ?_ | refine o_t x_gs ?_ | refine o_t x_gu ?_
            first | refine o_t (x_g x_ne) ?_ | refine o_t x_gs ?_ | refine o_t x_gu ?_
            refine o_t x_pick ?_
            refine o_nil ?_
            refine w_cond (t := true) (fun g => rfl) (fun hc => ?_) (fun hc => ?_) -- ('Go.Operand.tmp', 313)
            · --
              refine w_exit ?_ -- 5
              exact ⟨(v7, F5.drop m4, w4, e4, loc4), wka, hka, ⟨hs7, by dsimp only; omega, hloc4⟩, hlt5⟩
            · cases hc
        obtain ⟨hgo1, hgo2⟩ := hgo
        refine w_region ?_
        refine o_t x_mv ?_
        refine o_t x_ne ?_
        refine o_t x_mv ?_
        first | refine o_t (x_g x_mv) ?_ | refine o_t x_gs ?_ | refine o_t x_gu ?_
        first | refine o_t (x_g x_ne) ?_ | refine o_t x_gs ?_ | refine o_t x_gu ?_
        refine o_t x_pick ?_
        refine o_nil ?_
        refine w_cond (t := false) (fun g => rfl) (fun hc => ?_) (fun hc => ?_) -- ('Go.Operand.tmp', 313)
        · cases hc
        refine w_skip ?_
        refine w_seq ?_
        refine w_region ?_
        refine o_call Tryz.call105 haa spla (cRb64 b27 _ xr _ hsA (by simp; omega)) ?_
        rintro _ _ HH ⟨rfl, vA, hsA2, rfl⟩ hHH
        simp only [List.cons_append, List.nil_append, List.append_nil] at hHH; subst hHH
        refine o_t (x_cv ⟨_, Tryz.underlying73⟩ Tryz.underlying2 (hz := rfl)) ?_
        refine o_t x_as ?_
        refine o_nil ?_
        refine w_seq ?_
        refine w_region ?_
        refine o_t x_mv ?_
        refine o_t (x_quo (hz := rfl)) ?_
        refine o_t x_as ?_
        refine o_nil ?_
        refine w_seq ?_
        refine w_region ?_
        refine o_t x_mv ?_
        refine o_t (x_rem (hz := rfl)) ?_
        refine o_t (x_mul (hz := rfl)) ?_
        refine o_t x_as ?_
        refine o_nil ?_
        refine w_seq ?_
        refine w_region ?_
        refine o_call Tryz.call107 haa spla (cUTC) ?_
        rintro _ _ HH ⟨bu, rfl, rfl⟩ hHH
        simp only [List.cons_append, List.nil_append, List.append_nil] at hHH; subst hHH
        refine o_call Tryz.call106 haa spla (cDate _ _ _ _ _ _ _ bu) ?_
        rintro _ _ HH ⟨⟨w8, e8, l8, hl8, rfl⟩, rfl⟩ hHH
        simp only [List.cons_append, List.nil_append, List.append_nil] at hHH; subst hHH
        refine o_al z76 (fun b31 => ?_)
        refine o_sta g76 ?_ (h1 := tm1 hl8)
        refine o_nil ?_
        refine w_region ?_
        refine o_t (x_lda g76) ?_
        refine o_call Tryz.call57 haa spla (cTimeUnix _ _ _ hl8) ?_
        rintro _ _ HH ⟨z8, rfl, rfl⟩ hHH
        simp only [List.cons_append, List.nil_append, List.append_nil] at hHH; subst hHH
        refine o_t x_mv ?_
        refine o_t (x_add (hz := rfl)) ?_
        refine o_t x_mv ?_
        refine o_call Tryz.call108 haa spla (cUnix _ _) ?_
        rintro _ _ HH ⟨⟨w9, e9, l9, hl9, rfl⟩, rfl⟩ hHH
        simp only [List.cons_append, List.nil_append, List.append_nil] at hHH; subst hHH
        refine o_sta g76 ?_ (h1 := tm1 hl9)
        refine o_nil ?_
        exact ⟨(v7, F5.drop m4, w9, e9, l9), wka, hka, ⟨hs7, by dsimp only; omega, hl9⟩, hlt5⟩
      · --
        refine w_cut (α := Bool) (fun x => [(0, .pointer (some ⟨fb, 0, none⟩)), (20, .pointer (some ⟨b20, 0, none⟩)), (21, .pointer (some ⟨b21, 0, none⟩)), (24, .pointer (some ⟨b24, 0, none⟩)), (243, .int .u16 tg), (329, .bool x)]) (fun x => [pt b24 [vF] 204, tmB b20 w e loc, pt b21 [v3] 204, fileH fb h (nonT h) (.int .u64 0) (.int .i64 0) (.pointer none) xv zp zi pos, xr, K2]) (fun _ => True) ?_ ?_
        · refine w_seq ?_
          refine w_region ?_
          refine o_t (x_cmp (hr := rfl)) ?_
          refine o_t x_as ?_
          refine o_nil ?_
          refine w_cond (fun g => rfl) (fun hc => ?_) (fun hc => ?_) -- ('Go.Operand.tmp', 329)
          · --
            refine w_skip ?_
            exact ⟨_, .cons (fun _ => rfl) (.cons (fun _ => rfl) (.cons (fun _ => rfl) (.cons (fun _ => rfl) (.cons (fun _ => rfl) (.cons (fun _ => rfl) (.nil _)))))), hka, trivial⟩
          · --
            refine w_region ?_
            refine o_t (x_cmp (hr := rfl)) ?_
            refine o_t x_as ?_
            refine o_nil ?_
            exact ⟨_, .cons (fun _ => rfl) (.cons (fun _ => rfl) (.cons (fun _ => rfl) (.cons (fun _ => rfl) (.cons (fun _ => rfl) (.cons (fun _ => rfl) (.nil _)))))), hka, trivial⟩
        rintro q _
        refine w_cond (fun g => rfl) (fun hc => ?_) (fun hc => ?_) -- ('Go.Operand.tmp', 329)
        · --
          refine w_seq ?_
          refine w_seq ?_
          by_cases hm8 : F.length < 8
          · refine w_region ?_
            refine o_t (x_ld k204) ?_
            refine o_t (x_lenb Tryz.underlying204 (hx := fun g => by subst hFe; rfl)) ?_
            refine o_t x_cmp ?_
            refine o_nil ?_
            refine w_cond (t := true) (fun g => rfl) (fun hc => ?_) (fun hc => ?_) -- ('Go.Operand.tmp', 334)
            · --
              refine w_exit ?_ -- 2
              exact ⟨(v3, l2.drop m, w, e, loc), wka, hka, hs3, hl3, hloc⟩
            · cases hc
          refine w_region ?_
          refine o_t (x_ld k204) ?_
          refine o_t (x_lenb Tryz.underlying204 (hx := fun g => by subst hFe; rfl)) ?_
          refine o_t x_cmp ?_
          refine o_nil ?_
          refine w_cond (t := false) (fun g => rfl) (fun hc => ?_) (fun hc => ?_) -- ('Go.Operand.tmp', 334)
          · cases hc
          refine w_skip ?_
          refine w_seq ?_
          refine w_region ?_
          refine o_call Tryz.call96 haa spla (cRb32 b24 vF xr F hsF (by omega)) ?_
          rintro _ _ HH ⟨rfl, vG, hsG, rfl⟩ hHH
          simp only [List.cons_append, List.nil_append, List.append_nil] at hHH; subst hHH
          refine o_nil ?_
          refine w_seq ?_
          refine w_region ?_
          refine o_call Tryz.call96 haa spla (cRb32 b24 vG xr _ hsG (by rw [List.length_drop]; omega)) ?_
          rintro _ _ HH ⟨rfl, vG2, hsG2, rfl⟩ hHH
          simp only [List.cons_append, List.nil_append, List.append_nil] at hHH; subst hHH
          refine o_t (x_cv ⟨_, Tryz.underlying77⟩ Tryz.underlying2 (hz := rfl)) ?_
          refine o_t x_as ?_
          refine o_nil ?_
          refine w_region ?_
          refine o_t x_mv ?_
          refine o_call Tryz.call108 haa spla (cUnix _ _) ?_
          rintro _ _ HH ⟨⟨w9, e9, l9, hl9, rfl⟩, rfl⟩ hHH
          simp only [List.cons_append, List.nil_append, List.append_nil] at hHH; subst hHH
          refine o_sta g76 ?_ (h1 := tm1 hl9)
          refine o_nil ?_
          exact ⟨(v3, l2.drop m, w9, e9, l9), wka, hka, hs3, hl3, hl9⟩
        · --
          refine w_seq ?_
          refine w_region ?_
          refine o_t (x_cmp (hr := rfl)) ?_
          refine o_t x_as ?_
          refine o_nil ?_
          refine w_cond (fun g => rfl) (fun hc => ?_) (fun hc => ?_) -- ('Go.Operand.tmp', 340)
          · --
            refine w_seq ?_
            refine w_seq ?_
            by_cases hm5 : F.length < 5
            · refine w_region ?_
              refine o_t (x_ld k204) ?_
              refine o_t (x_lenb Tryz.underlying204 (hx := fun g => by subst hFe; rfl)) ?_
              refine o_t x_cmp ?_
              refine o_t x_mv ?_
              first | (refine o_gy (?_); refine o_t x_gs ?_) | refine o_t x_gs ?_ | refine o_t x_gu ?_
              first | refine o_t (x_g x_and) ?_ | refine o_t x_gs ?_ | refine o_t x_gu ?_
              first | refine o_t (x_g x_cmp) ?_ | refine o_t x_gs ?_ | refine o_t x_gu ?_
              refine o_t x_pick ?_
              refine o_nil ?_
              refine w_cond (t := true) (fun g => rfl) (fun hc => ?_) (fun hc => ?_) -- ('Go.Operand.tmp', 349)
              · --
                refine w_exit ?_ -- 2
                exact ⟨(v3, l2.drop m, w, e, loc), wka, hka, hs3, hl3, hloc⟩
              · cases hc
            obtain ⟨x, F2, hF2⟩ : ∃ x F2, F = x :: F2 := by
              cases F with
              | nil => simp at hm5
              | cons x F2 => exact ⟨x, F2, rfl⟩
            rw [hF2] at hsF
            have hF2l : F2.length = F.length - 1 := by rw [hF2]; rfl
            refine w_region ?_
            refine o_t (x_ld k204) ?_
            refine o_t (x_lenb Tryz.underlying204 (hx := fun g => by subst hFe; rfl)) ?_
            refine o_t (x_cmp) ?_
            refine o_t x_mv ?_
            first | (refine o_gy (?_); refine o_call Tryz.call109 haa spla (cRb8 b24 vF xr x F2 hsF) ?_; rintro _ _ HH ⟨rfl, vG, hsG, rfl⟩ hHH; simp only [List.cons_append, List.nil_append, List.append_nil] at hHH; subst hHH) | refine o_t x_gs ?_ | refine o_t x_gu ?_
            first | refine o_t (x_g y_bits) ?_ | refine o_t x_gs ?_ | refine o_t x_gu ?_
            first | refine o_t (x_g (x_cmp (hr := rfl))) ?_ | refine o_t x_gs ?_ | refine o_t x_gu ?_
            refine o_t x_pick ?_
            refine o_nil ?_
            refine w_cond (fun g => rfl) (fun hc => ?_) (fun hc => ?_) -- ('Go.Operand.tmp', 349)
            · --
              refine w_exit ?_ -- 2
              exact ⟨(v3, l2.drop m, w, e, loc), wka, hka, hs3, hl3, hloc⟩
            refine w_skip ?_
            refine w_seq ?_
            refine w_region ?_
            refine o_call Tryz.call96 haa spla (cRb32 b24 vG xr F2 hsG (by omega)) ?_
            rintro _ _ HH ⟨rfl, vG2, hsG2, rfl⟩ hHH
            simp only [List.cons_append, List.nil_append, List.append_nil] at hHH; subst hHH
            refine o_t (x_cv ⟨_, Tryz.underlying77⟩ Tryz.underlying2 (hz := rfl)) ?_
            refine o_t x_as ?_
            refine o_nil ?_
            refine w_region ?_
            refine o_t x_mv ?_
            refine o_call Tryz.call108 haa spla (cUnix _ _) ?_
            rintro _ _ HH ⟨⟨w9, e9, l9, hl9, rfl⟩, rfl⟩ hHH
            simp only [List.cons_append, List.nil_append, List.append_nil] at hHH; subst hHH
            refine o_sta g76 ?_ (h1 := tm1 hl9)
            refine o_nil ?_
            exact ⟨(v3, l2.drop m, w9, e9, l9), wka, hka, hs3, hl3, hl9⟩
          · --
            refine w_skip ?_
            exact ⟨(v3, l2.drop m, w, e, loc), wka, hka, hs3, hl3, hloc⟩
  rintro ⟨w, e, loc⟩ hloc
  dsimp only at hloc ⊢
  refine w_seq ?_
  refine w_draw mixed ?_
  refine a_seg (k := 12) _ [(1, 0), (1, 1), (1, 2), (1, 3), (1, 4), (1, 5), (1, 6), (1, 7), (1, 8), (1, 9), (2, 10), (3, 11)] (by kernel_rfl) (HWk.refl _) ?_
  refine h_t rfl x_mv ?_
  refine h_t rfl x_nc ?_
  refine h_t rfl (x_fa f82_0) ?_
  refine h_t rfl (x_fa f80_9) ?_
  refine h_t rfl (x_ld k72) ?_
  refine h_t rfl x_mv ?_
  refine h_t rfl x_nc ?_
  refine h_t rfl (x_fa f82_0) ?_
  refine h_t rfl (x_fa f80_8) ?_
  refine h_t rfl (x_ld k72) ?_
  refine h_two (α := {x : Nat × Int × Int × Value // x.2.2.2.oneCell' = true}) (fun x => [(0, .pointer (some ⟨fb, 0, none⟩)), (20, .pointer (some ⟨b20, 0, none⟩)), (34, .pointer (some ⟨x.1.1, 0, none⟩)), (365, .agg #[.int .u64 x.1.2.1, .int .i64 x.1.2.2.1, x.1.2.2.2])]) (fun x => [tmB x.1.1 0 0 (.pointer none), tmB b20 w e loc, fileH fb h (nonT h) (.int .u64 0) (.int .i64 0) (.pointer none) xv zp zi pos, xr, K2]) rfl rfl (fun x => hka) (by refine o_call Tryz.call110 haa spla (cDosTime _ _) ?_; rintro _ _ HH ⟨⟨w, e, l, hl, rfl⟩, rfl⟩ hHH; simp only [List.cons_append, List.nil_append, List.append_nil] at hHH; subst hHH; refine o_nil ?_; exact ⟨hka, by refine o_al z76 (fun b => ?_); refine o_nil ?_; exact ⟨⟨(b, w, e, l), hl⟩, wka, hka⟩⟩) (by refine o_al z76 (fun b => ?_); refine o_nil ?_; exact ⟨hka, by refine o_call Tryz.call110 haa spla (cDosTime _ _) ?_; rintro _ _ HH ⟨⟨w, e, l, hl, rfl⟩, rfl⟩ hHH; simp only [List.cons_append, List.nil_append, List.append_nil] at hHH; subst hHH; refine o_nil ?_; exact ⟨⟨(b, w, e, l), hl⟩, wka, hka⟩⟩) (fun x => ?_); obtain ⟨⟨b34, w3, e3, l3⟩, hl3⟩ := x; dsimp only at hl3 ⊢
  refine h_end ?_
  refine a_seg (k := 13) _ [(0, 12)] (by kernel_rfl) hwk_nil ?_
  refine h_one rfl (fun Q' hQ => ?_)
  refine o_sta g76 ?_ (h1 := tm1 hl3)
  refine o_nil (hQ _ _ (h_keep ?_))
  refine h_end ?_
  refine a_done rfl ?_
  refine w_seq ?_
  refine w_region ?_
  refine o_t x_mv ?_
  refine o_t (x_lda g76) ?_
  refine o_t x_nc ?_
  refine o_t (x_fa f82_0) ?_
  refine o_t (x_fa f80_7) ?_
  refine o_sta g76 ?_ (h1 := tm1 hl3)
  refine o_nil ?_
  refine w_seq ?_
  refine w_seq ?_
  refine w_region ?_
  refine o_t (x_lda g76) ?_
  refine o_call Tryz.call55 haa spla (cIsZero w e loc hloc) ?_
  rintro _ _ HH ⟨rfl, rfl⟩ hHH
  simp only [List.cons_append, List.nil_append, List.append_nil] at hHH; subst hHH
  refine o_t x_not ?_
  refine o_nil ?_
  refine w_cond (fun g => rfl) (fun hc => ?_) (fun hc => ?_) -- ('Go.Operand.tmp', 373)
  · --
    refine w_seq ?_
    refine w_region ?_
    refine o_t x_mv ?_
    refine o_t (x_lda g76) ?_
    refine o_call Tryz.call111 haa spla (cTimeUTC w e loc hloc) ?_
    rintro _ _ HH ⟨⟨w5, e5, l5, hl5, rfl⟩, rfl⟩ hHH
    simp only [List.cons_append, List.nil_append, List.append_nil] at hHH; subst hHH
    refine o_t x_nc ?_
    refine o_t (x_fa f82_0) ?_
    refine o_t (x_fa f80_7) ?_
    refine o_sta g76 ?_ (h1 := tm1 hl5)
    refine o_nil ?_
    refine w_seq ?_
    have hti := ok.time; have hda := ok.date
    by_cases ht0 : h.time = 0
    · by_cases hd0 : h.date = 0
      · refine w_region ?_
        refine o_t x_mv ?_
        refine o_t x_nc ?_
        refine o_t (x_fa f82_0) ?_
        refine o_t (x_fa f80_8) ?_
        refine o_t (x_ld k72) ?_
        refine o_t x_ne ?_
        refine o_t x_mv ?_
        first | refine o_t (x_g x_mv) ?_ | refine o_t x_gs ?_ | refine o_t x_gu ?_
        first | refine o_t (x_g x_nc) ?_ | refine o_t x_gs ?_ | refine o_t x_gu ?_
        first | refine o_t (x_g (x_fa f82_0)) ?_ | refine o_t x_gs ?_ | refine o_t x_gu ?_
        first | refine o_t (x_g (x_fa f80_9)) ?_ | refine o_t x_gs ?_ | refine o_t x_gu ?_
        first | refine o_t (x_g (x_ld k72)) ?_ | refine o_t x_gs ?_ | refine o_t x_gu ?_
        first | refine o_t (x_g x_ne) ?_ | refine o_t x_gs ?_ | refine o_t x_gu ?_
        refine o_t x_pick ?_
        refine o_nil ?_
        refine w_cond (t := false) (fun g => rfl) (fun hc => ?_) (fun hc => ?_) -- ('Go.Operand.tmp', 393)
        · cases hc
        refine w_skip ?_
        refine w_seq ?_
        refine w_region ?_
        refine o_t x_as ?_
        refine o_nil ?_
        refine w_ret (r_1 rfl ⟨rfl, K2, _, _, _, xv, xr, hS2, sx, rfl⟩)
      · refine w_region ?_
        refine o_t x_mv ?_
        refine o_t x_nc ?_
        refine o_t (x_fa f82_0) ?_
        refine o_t (x_fa f80_8) ?_
        refine o_t (x_ld k72) ?_
        refine o_t x_ne ?_
        refine o_t x_mv ?_
        first | refine o_t (x_g x_mv) ?_ | refine o_t x_gs ?_ | refine o_t x_gu ?_
        first | refine o_t (x_g x_nc) ?_ | refine o_t x_gs ?_ | refine o_t x_gu ?_
        first | refine o_t (x_g (x_fa f82_0)) ?_ | refine o_t x_gs ?_ | refine o_t x_gu ?_
        first | refine o_t (x_g (x_fa f80_9)) ?_ | refine o_t x_gs ?_ | refine o_t x_gu ?_
        first | refine o_t (x_g (x_ld k72)) ?_ | refine o_t x_gs ?_ | refine o_t x_gu ?_
        first | refine o_t (x_g x_ne) ?_ | refine o_t x_gs ?_ | refine o_t x_gu ?_
        refine o_t x_pick ?_
        refine o_nil ?_
        refine w_cond (t := true) (fun g => rfl) (fun hc => ?_) (fun hc => ?_) -- ('Go.Operand.tmp', 393)
        · --
          refine w_draw mixed ?_
          refine a_seg (k := 7) _ [(1, 0), (1, 1), (1, 2), (1, 3), (0, 4), (0, 5), (0, 6)] (by kernel_rfl) (HWk.refl _) ?_
          refine h_t rfl x_mv ?_
          refine h_t rfl (x_lda g76) ?_
          refine h_t rfl (x_lda g76) ?_
          refine h_t rfl (x_lda g76) ?_
          refine h_one rfl (fun Q' hQ => ?_)
          refine o_call Tryz.call114 haa spla (cSub _ _ _ hl3 _ _ _ hloc) ?_
          rintro _ _ HH ⟨z, rfl, rfl⟩ hHH
          simp only [List.cons_append, List.nil_append, List.append_nil] at hHH; subst hHH
          refine o_nil (hQ _ _ (h_keep ?_))
          refine h_one rfl (fun Q' hQ => ?_)
          refine o_call Tryz.call113 haa spla (cTimeZone _) ?_
          rintro _ _ HH ⟨lb, u, nm, z9, t9, x9, s9, e9, q9, rfl, rfl⟩ hHH
          simp only [List.cons_append, List.nil_append, List.append_nil] at hHH; subst hHH
          refine o_nil (hQ _ _ (h_keep ?_))
          refine h_one rfl (fun Q' hQ => ?_)
          refine o_call Tryz.call112 haa spla (cTimeIn _ _ _ hloc _ _ _ _ _ _ _ _ _) ?_
          rintro _ _ HH ⟨⟨w6, e6, l6, hl6, rfl⟩, rfl⟩ hHH
          simp only [List.cons_append, List.nil_append, List.append_nil] at hHH; subst hHH
          refine o_nil (hQ _ _ (h_keep ?_))
          refine h_end ?_
          refine a_seg (k := 8) _ [(1, 7)] (by kernel_rfl) (HWk.refl _) ?_
          refine h_t rfl x_nc ?_
          refine h_end ?_
          refine a_seg (k := 9) _ [(1, 8)] (by kernel_rfl) (HWk.refl _) ?_
          refine h_t rfl (x_fa f82_0) ?_
          refine h_end ?_
          refine a_seg (k := 10) _ [(1, 9)] (by kernel_rfl) (HWk.refl _) ?_
          refine h_t rfl (x_fa f80_7) ?_
          refine h_end ?_
          refine a_seg (k := 11) _ [(0, 10)] (by kernel_rfl) hwk_nil ?_
          refine h_one rfl (fun Q' hQ => ?_)
          refine o_sta g76 ?_ (h1 := tm1 hl6)
          refine o_nil (hQ _ _ (h_keep ?_))
          refine h_end ?_
          refine a_done rfl ?_
          refine w_seq ?_
          refine w_region ?_
          refine o_t x_as ?_
          refine o_nil ?_
          refine w_ret (r_1 rfl ⟨rfl, K2, _, _, _, xv, xr, hS2, sx, rfl⟩)
        · cases hc
    · refine w_region ?_
      refine o_t x_mv ?_
      refine o_t x_nc ?_
      refine o_t (x_fa f82_0) ?_
      refine o_t (x_fa f80_8) ?_
      refine o_t (x_ld k72) ?_
      refine o_t x_ne ?_
      refine o_t x_mv ?_
      first | refine o_t (x_g x_mv) ?_ | refine o_t x_gs ?_ | refine o_t x_gu ?_
      first | refine o_t (x_g x_nc) ?_ | refine o_t x_gs ?_ | refine o_t x_gu ?_
      first | refine o_t (x_g (x_fa f82_0)) ?_ | refine o_t x_gs ?_ | refine o_t x_gu ?_
      first | refine o_t (x_g (x_fa f80_9)) ?_ | refine o_t x_gs ?_ | refine o_t x_gu ?_
      first | refine o_t (x_g (x_ld k72)) ?_ | refine o_t x_gs ?_ | refine o_t x_gu ?_
      first | refine o_t (x_g x_ne) ?_ | refine o_t x_gs ?_ | refine o_t x_gu ?_
      refine o_t x_pick ?_
      refine o_nil ?_
      refine w_cond (t := true) (fun g => rfl) (fun hc => ?_) (fun hc => ?_) -- ('Go.Operand.tmp', 393)
      · --
        refine w_draw mixed ?_
        refine a_seg (k := 7) _ [(1, 0), (1, 1), (1, 2), (1, 3), (0, 4), (0, 5), (0, 6)] (by kernel_rfl) (HWk.refl _) ?_
        refine h_t rfl x_mv ?_
        refine h_t rfl (x_lda g76) ?_
        refine h_t rfl (x_lda g76) ?_
        refine h_t rfl (x_lda g76) ?_
        refine h_one rfl (fun Q' hQ => ?_)
        refine o_call Tryz.call114 haa spla (cSub _ _ _ hl3 _ _ _ hloc) ?_
        rintro _ _ HH ⟨z, rfl, rfl⟩ hHH
        simp only [List.cons_append, List.nil_append, List.append_nil] at hHH; subst hHH
        refine o_nil (hQ _ _ (h_keep ?_))
        refine h_one rfl (fun Q' hQ => ?_)
        refine o_call Tryz.call113 haa spla (cTimeZone _) ?_
        rintro _ _ HH ⟨lb, u, nm, z9, t9, x9, s9, e9, q9, rfl, rfl⟩ hHH
        simp only [List.cons_append, List.nil_append, List.append_nil] at hHH; subst hHH
        refine o_nil (hQ _ _ (h_keep ?_))
        refine h_one rfl (fun Q' hQ => ?_)
        refine o_call Tryz.call112 haa spla (cTimeIn _ _ _ hloc _ _ _ _ _ _ _ _ _) ?_
        rintro _ _ HH ⟨⟨w6, e6, l6, hl6, rfl⟩, rfl⟩ hHH
        simp only [List.cons_append, List.nil_append, List.append_nil] at hHH; subst hHH
        refine o_nil (hQ _ _ (h_keep ?_))
        refine h_end ?_
        refine a_seg (k := 8) _ [(1, 7)] (by kernel_rfl) (HWk.refl _) ?_
        refine h_t rfl x_nc ?_
        refine h_end ?_
        refine a_seg (k := 9) _ [(1, 8)] (by kernel_rfl) (HWk.refl _) ?_
        refine h_t rfl (x_fa f82_0) ?_
        refine h_end ?_
        refine a_seg (k := 10) _ [(1, 9)] (by kernel_rfl) (HWk.refl _) ?_
        refine h_t rfl (x_fa f80_7) ?_
        refine h_end ?_
        refine a_seg (k := 11) _ [(0, 10)] (by kernel_rfl) hwk_nil ?_
        refine h_one rfl (fun Q' hQ => ?_)
        refine o_sta g76 ?_ (h1 := tm1 hl6)
        refine o_nil (hQ _ _ (h_keep ?_))
        refine h_end ?_
        refine a_done rfl ?_
        refine w_seq ?_
        refine w_region ?_
        refine o_t x_as ?_
        refine o_nil ?_
        refine w_ret (r_1 rfl ⟨rfl, K2, _, _, _, xv, xr, hS2, sx, rfl⟩)
      · cases hc
  · --
    refine w_skip ?_
    refine w_seq ?_
    refine w_region ?_
    refine o_t x_as ?_
    refine o_nil ?_
    refine w_ret (r_1 rfl ⟨rfl, K2, _, _, _, xv, xr, hS2, sx, rfl⟩)
end Go.Proofs.YtlmefkhglooepaaGreatDoor
namespace Go.Proofs.YtlmefkhglooepaaGreatDoor
open Go
set_option linter.unusedSimpArgs false
set_option linter.unusedVariables false
variable {G : Nat → Option Obj} {ea : Nat → Addr}
theorem cDirStop (gl : Glob G ea) (T0 : TypeId) (u0 r0 : Value) (f0 : FuncId) (S : List UInt8 → Res → Prop) (R : Rdr G ea T0 u0 r0 f0 S) (rem : List UInt8) (k : Res)
    (hS : S rem k) (hne : rem ≠ []) (hend : Has rem 0 [80, 75, 5, 6]) (p : Value) :
    Fn P G 77 #[p, .iface T0 u0] [k] fun v H => (v = errV ea 2 ∨ v = errV ea 5) ∧ ∃ k' rem', S rem' k' ∧ H = [k'] := by
  have c1 := fun b5 => cReadFull' gl T0 u0 r0 f0 S R rem k hS b5 0 46 46 199 (List.replicate 46 (.int .u8 0)) (by decide) (by decide) (by simp)
  by_cases hl : 46 ≤ rem.length
  · obtain ⟨l, hl0⟩ : ∃ l, rem.take 46 = l := ⟨_, rfl⟩
    have hll : l.length = 46 := by rw [← hl0]; simp; omega
    have hput : putB (List.replicate 46 (.int .u8 0)) 0 l = l.map u8 := putB_all (by rw [hll]; simp)
    rw [hl0, if_pos hl, show min 46 rem.length = 46 by omega, hput] at c1
    have hh : Has l 0 [80, 75, 5, 6] := by rw [← hl0]; exact hend.take (by decide)
    refine fn_intro (args := [_,_]) Tryz.func77 Tryz.ntmps77 rfl ?_
    refine w_seq ?_
    refine w_region ?_
    refine o_t x_as ?_
    refine o_nil ?_
    refine w_scope ?_
    refine w_seq ?_
    refine w_region ?_
    refine o_al z199 (fun b5 => ?_)
    refine o_nil ?_
    refine w_seq ?_
    refine w_seq ?_
    refine w_region ?_
    refine o_t x_mv ?_
    refine o_t (x_sla Tryz.underlying199 e199) ?_
    refine o_call Tryz.call103 haa spla (c1 b5) ?_
    rintro _ _ HH ⟨K1, hS1, rfl, rfl⟩ hHH
    simp only [List.cons_append, List.nil_append, List.append_nil] at hHH; subst hHH
    refine o_t x_mv ?_
    refine o_t x_ex ?_
    refine o_t x_ex ?_
    refine o_t x_as ?_
    refine o_t x_as ?_
    refine o_nil ?_
    refine w_seq ?_
    refine w_region ?_
    refine o_t x_mv ?_
    first | refine o_t (x_inil Tryz.underlying58) ?_ | refine o_t (x_isome Tryz.underlying58) ?_
    refine o_nil ?_
    refine w_cond (t := false) (fun g => rfl) (fun hc => ?_) (fun hc => ?_) -- ('Go.Operand.tmp', 42)
    · cases hc
    refine w_skip ?_
    refine w_seq ?_
    refine w_region ?_
    refine o_t (x_sla Tryz.underlying199 e199) ?_
    refine o_al z204 (fun b8 => ?_)
    refine o_st k204 ?_
    refine o_nil ?_
    have hSl : Sl G (pt b5 (l.map u8) 199) (.slice (some ⟨b5, 0, none⟩) 46 46) (l.drop 0) := ⟨b5, 0, 46, by rw [List.drop_zero, hll], by rw [List.drop_zero, hll]; decide, by rw [List.drop_zero]; exact Rd.all⟩
    have d1 := cRb32H b8 _ _ l 0 [80, 75, 5, 6] 101010256 hSl hh rfl (by decide)
    refine w_seq ?_
    refine w_seq ?_
    refine w_region ?_
    refine o_call Tryz.call96 haa spla (d1) ?_
    rintro _ _ HH ⟨rfl, v1, hs1, rfl⟩ hHH
    simp only [List.cons_append, List.nil_append, List.append_nil] at hHH; subst hHH
    refine o_t x_as ?_
    refine o_nil ?_
    refine w_seq ?_
    refine w_region ?_
    refine o_t x_mv ?_
    refine o_t x_ne ?_
    refine o_nil ?_
    refine w_cond (t := true) (fun g => rfl) (fun hc => ?_) (fun hc => ?_) -- ('Go.Operand.tmp', 47)
    · --
      refine w_seq ?_
      refine w_region ?_
      refine o_t (x_err 2 gl) ?_
      refine o_t x_as ?_
      refine o_nil ?_
      refine w_ret (r_1 rfl ⟨.inl rfl, K1, _, hS1, rfl⟩)
    · cases hc
  · rw [if_neg hl, if_neg hne] at c1
    refine fn_intro (args := [_,_]) Tryz.func77 Tryz.ntmps77 rfl ?_
    refine w_seq ?_
    refine w_region ?_
    refine o_t x_as ?_
    refine o_nil ?_
    refine w_scope ?_
    refine w_seq ?_
    refine w_region ?_
    refine o_al z199 (fun b5 => ?_)
    refine o_nil ?_
    refine w_seq ?_
    refine w_seq ?_
    refine w_region ?_
    refine o_t x_mv ?_
    refine o_t (x_sla Tryz.underlying199 e199) ?_
    refine o_call Tryz.call103 haa spla (c1 b5) ?_
    rintro _ _ HH ⟨K1, hS1, rfl, rfl⟩ hHH
    simp only [List.cons_append, List.nil_append, List.append_nil] at hHH; subst hHH
    refine o_t x_mv ?_
    refine o_t x_ex ?_
    refine o_t x_ex ?_
    refine o_t x_as ?_
    refine o_t x_as ?_
    refine o_nil ?_
    refine w_seq ?_
    refine w_region ?_
    refine o_t x_mv ?_
    first | refine o_t (x_inil Tryz.underlying58) ?_ | refine o_t (x_isome Tryz.underlying58) ?_
    refine o_nil ?_
    refine w_cond (t := true) (fun g => rfl) (fun hc => ?_) (fun hc => ?_) -- ('Go.Operand.tmp', 42)
    · --
      refine w_seq ?_
      refine w_region ?_
      refine o_t x_mv ?_
      refine o_t x_as ?_
      refine o_nil ?_
      refine w_ret (r_1 rfl ⟨.inr rfl, K1, _, hS1, rfl⟩)
    · cases hc
end Go.Proofs.YtlmefkhglooepaaGreatDoor
namespace Go.Proofs.YtlmefkhglooepaaGreatDoor
open Go
set_option linter.unusedSimpArgs false
set_option linter.unusedVariables false
variable {G : Nat → Option Obj} {ea : Nat → Addr}
section
variable {n : Nat} {ops : Array Oper} {Q : Post} {rest : List Oper} {L : Loc} {H : List Res} {d : Nat} {x y : Operand} {ty t : TypeId} {p : String} {e : Array Edge}
/-- A literal of two cells. -/
theorem o_bs2 {T : Nat} {v u : Value} {zs : List Value} (hu : P.underlying t = some (.slice T)) (hz : zeroOf P T = some zs)
    (h : ∀ b, OP P n G ops Q rest ((d, .slice (some ⟨b, 0, none⟩) 2 2) :: L) (pt b [v, u] T :: H)) (hx : ∀ g, evl L g x = v := by intro g; rfl) (hy : ∀ g, evl L g y = u := by intro g; rfl)
    (hv : v.cells = #[v] := by rfl) (hu' : u.cells = #[u] := by rfl) (hl : zs.length = 1 := by rfl) (hsz : szOf P T = some zs.length := by kernel_rfl) (hn : d < n := by decide) :
    OP P n G ops Q (⟨some d, .buildSlice t 2 #[(0, x), (1, y)], ty, p, e, none⟩ :: rest) L H := by
  refine o_bs (vs := [v, u]) (fun g w => ?_) h hn
  unfold zeroOf at hz
  unfold szOf at hsz
  cases hi : P.info? T with
  | none => simp [hi] at hz
  | some i =>
    cases hzz : i.zero with
    | none => simp [hi, hzz] at hz
    | some z =>
      simp [hi] at hsz
      rw [hl] at hsz
      have hf := Great.fill_whole (s := i.size) (by omega) [v, u] ((Array.range (2 * i.size)).map (z.cells[· % z.cells.size]!)) (by intro q hq; simp at hq; rcases hq with rfl | rfl <;> simp [hv, hu', hsz]) (by simp)
      have := run_buildSlice (P := P) w t T 2 #[(0, v), (1, u)] #[v, u] i z hu hi hzz (by omega) (by omega) (by simpa [hv, hu'] using hf)
      simpa [hx g, hy g] using this
end
theorem endAt0 {s : List UInt8} {k m z a : Nat} {c : List UInt8} (hh : Has s k (endT m z a c)) : Has s (k + 4) (i2 0) ∧ Has s (k + 6) (i2 0) := by
  simp only [endT, Has.app, List.length_append, i2_length, i4_length, List.length_cons, List.length_nil, Nat.reduceAdd, Nat.add_assoc] at hh
  obtain ⟨⟨⟨⟨⟨⟨⟨⟨h1, h2⟩, h3⟩, h4⟩, h5⟩, h6⟩, h7⟩, h8⟩, h9⟩ := hh
  exact ⟨h2, h3⟩
theorem Has.drop1 {s t : List UInt8} {k q : Nat} (hk : k ≤ s.length) : Has (s.drop k) q t ↔ Has s (k + q) t := by
  unfold Has
  rw [List.drop_drop, List.length_drop]
  constructor
  · rintro ⟨h1, h2⟩; exact ⟨by omega, h2⟩
  · rintro ⟨h1, h2⟩; exact ⟨by omega, h2⟩
/-- The end's block. -/
abbrev dirEB (db : Nat) (a b : Int) (m z o : Nat) (c : List UInt8) : Res :=
  pt db [.int .u32 a, .int .u32 b, .int .u64 m, .int .u64 m, .int .u64 z, .int .u64 o, .int .u16 c.length, .string (str c)] 181
theorem cDirEnd (gl : Glob G ea) (rb : Nat) (s body : List UInt8) (rs : List ZR) (c : List UInt8) (z : Zip s body rs c) :
    Fn P G 74 #[.iface 61 (.pointer (some ⟨rb, 0, none⟩)), .int .i64 s.length] [srB rb s] fun v H => ∃ db, v = .tuple #[.pointer (some ⟨db, 0, none⟩), .int .i64 0, .nilIface] ∧ H = [dirEB db 0 0 rs.length (dirG rs).length body.length c, srB rb s] := by
  have hsl := z.slen
  have hen := endAt z.endHas
  obtain ⟨hd4, hd6⟩ := endAt0 z.endHas
  have hl := z.len
  have hmany := z.many; have hcom := z.com
  have q1 : (num (i2 rs.length) : Int) = rs.length := num_i2 (by omega)
  have q2 : (num (i4 (dirG rs).length) : Int) = (dirG rs).length := num_i4 (by omega)
  have q3 : (num (i4 body.length) : Int) = body.length := num_i4 (by omega)
  have q4 : (num (i2 c.length) : Int) = c.length := num_i2 (by omega)
  have q0 : (num (i2 0) : Int) = 0 := num_i2 (by omega)
  obtain ⟨E, hE⟩ : ∃ E, body.length + (dirG rs).length = E := ⟨_, rfl⟩
  have huniq : ∀ k, Has s k [80, 75, 5, 6] → k = E := fun k h => by rw [← hE]; exact z.unique h
  rw [hE] at hen hd4 hd6
  refine fn_intro (args := [_,_]) Tryz.func74 Tryz.ntmps74 rfl ?_
  refine w_seq ?_
  refine w_region ?_
  refine o_t x_as ?_
  refine o_t x_as ?_
  refine o_t x_as ?_
  refine o_nil ?_
  refine w_seq ?_
  refine w_region ?_
  refine o_t x_as ?_
  refine o_nil ?_
  refine w_seq ?_
  refine w_region ?_
  refine o_t x_as ?_
  refine o_nil ?_
  refine w_cut (α := Value × Res) (fun x => [(0, .iface 61 (.pointer (some ⟨rb, 0, none⟩))), (1, .int .i64 s.length), (7, x.1), (8, .int .i64 E)]) (fun x => [x.2, srB rb s]) (fun x => Sl G x.2 x.1 (s.drop E)) ?_ ?_
  · refine w_seq ?_
    refine w_region ?_
    refine o_bs2 Tryz.underlying209 z2 (fun b23 => ?_)
    refine o_t (x_lenb Tryz.underlying209) ?_
    refine o_t x_mv ?_
    refine o_nil ?_
    refine w_block ?_ -- 0
    refine w_loop (α := Nat) (fun x => [(0, .iface 61 (.pointer (some ⟨rb, 0, none⟩))), (1, .int .i64 s.length), (23, .slice (some ⟨b23, 0, none⟩) 2 2), (24, .int .i64 2), (25, .int .i64 x)]) (fun x => [pt b23 [.int .i64 1024, .int .i64 66560] 2, srB rb s])
      (fun x => x = 0 ∨ x = 1) (fun x => 2 - x) 0 (wka) (hka) (.inl rfl) ?_
    intro i hi
    obtain ⟨q, hq, hq2⟩ : ∃ q : Nat, ([.int .i64 1024, .int .i64 66560] : List Value)[i]? = some (.int .i64 q) ∧ (i = 0 ∧ q = 1024 ∨ i = 1 ∧ q = 66560) := by
      rcases hi with rfl | rfl
      · exact ⟨1024, rfl, .inl ⟨rfl, rfl⟩⟩
      · exact ⟨66560, rfl, .inr ⟨rfl, rfl⟩⟩
    refine w_seq ?_
    refine w_region ?_
    refine o_t x_cmp ?_
    refine o_nil ?_
    refine w_seq ?_
    refine w_cond (t := true) (fun g => rfl) (fun hc => ?_) (fun hc => ?_) -- ('Go.Operand.tmp', 26)
    case refine_2 => cases hc
    refine w_skip ?_
    refine w_cut (α := Unit) (fun _ => [(0, .iface 61 (.pointer (some ⟨rb, 0, none⟩))), (1, .int .i64 s.length), (23, .slice (some ⟨b23, 0, none⟩) 2 2), (24, .int .i64 2), (25, .int .i64 i)]) (fun _ => [pt b23 [.int .i64 1024, .int .i64 66560] 2, srB rb s]) (fun _ => i = 0) ?_ ?_
    case refine_2 =>
      rintro _ rfl
      refine w_region ?_
      refine o_t x_add ?_
      refine o_t x_mv ?_
      refine o_nil ?_
      exact ⟨1, wka, hka, .inr rfl, by decide⟩
    refine w_block ?_ -- 1
    refine w_seq ?_
    refine w_region ?_
    refine o_t x_mv ?_
    refine o_t (x_ia (m := i) Tryz.underlying209 e209 (hm := by omega)) ?_
    refine o_t (x_ld k2 (hv := hq)) ?_
    refine o_t x_as ?_
    refine o_t x_as ?_
    refine o_nil ?_
    obtain ⟨bl, hbl⟩ : ∃ bl, min q s.length = bl := ⟨_, rfl⟩
    refine w_cut (α := Unit) (fun _ => [(0, .iface 61 (.pointer (some ⟨rb, 0, none⟩))), (1, .int .i64 s.length), (9, .int .i64 i), (10, .int .i64 bl), (23, .slice (some ⟨b23, 0, none⟩) 2 2), (24, .int .i64 2), (25, .int .i64 i)]) (fun _ => [pt b23 [.int .i64 1024, .int .i64 66560] 2, srB rb s]) (fun _ => True) ?_ (fun _ _ => ?_)
    · refine w_seq ?_
      by_cases hqs : s.length < q
      · refine w_region ?_
        refine o_t x_mv ?_
        refine o_t x_mv ?_
        refine o_t x_cmp ?_
        refine o_nil ?_
        refine w_cond (t := true) (fun g => rfl) (fun hc => ?_) (fun hc => ?_) -- ('Go.Operand.tmp', 32)
        · --
          refine w_region ?_
          refine o_t x_mv ?_
          refine o_t x_as ?_
          refine o_nil ?_
          obtain rfl : bl = s.length := by omega
          exact ⟨(), wka, hka, trivial⟩
        · cases hc
      · refine w_region ?_
        refine o_t x_mv ?_
        refine o_t x_mv ?_
        refine o_t x_cmp ?_
        refine o_nil ?_
        refine w_cond (t := false) (fun g => rfl) (fun hc => ?_) (fun hc => ?_) -- ('Go.Operand.tmp', 32)
        · cases hc
        · refine w_skip ?_
          obtain rfl : bl = q := by omega
          exact ⟨(), wka, hka, trivial⟩
    have hbl1 : bl ≤ s.length ∧ 22 ≤ bl ∧ bl ≤ 66560 := by omega
    obtain ⟨off, hoff⟩ : ∃ off, s.length - bl = off := ⟨_, rfl⟩
    obtain ⟨t, ht⟩ : ∃ t, s.drop off = t := ⟨_, rfl⟩
    have htl : t.length = bl := by rw [← ht, List.length_drop]; omega
    have hra := fun b => cReadAt (G := G) rb b 0 bl bl off 5 (List.replicate bl (.int .u8 0)) s hl (by simp) (by omega) (by omega) (Nat.le_refl _)
    have hput : putB (List.replicate bl (.int .u8 0)) 0 t = t.map u8 := putB_all (by simp [htl])
    rw [ht, show t.take bl = t by rw [← htl]; exact List.take_length, hput] at hra
    have htq : ∀ q, Has t q [80, 75, 5, 6] → off + q = E := fun q hh => huniq _ ((Has.drop1 (by omega)).1 (ht ▸ hh))
    refine w_seq ?_
    refine w_region ?_
    refine o_t x_mv ?_
    refine o_mk (k := bl) info5 Tryz.underlying78 rfl rfl (by omega) (by omega) (fun b => ?_)
    refine o_t x_as ?_
    refine o_nil ?_
    refine w_seq ?_
    refine w_seq ?_
    refine w_region ?_
    refine o_t x_mv ?_
    refine o_t x_mv ?_
    refine o_t x_mv ?_
    refine o_t x_mv ?_
    refine o_t (x_sub (z := (off : Int)) (hz := (w_i64 (by omega)).trans (by omega))) ?_
    refine o_inv (m61_ReadAt _) hxa haa spla vca ((hra b)) ?_
    rintro _ HH ⟨rfl, rfl⟩
    simp only [List.cons_append, List.nil_append, List.append_nil]
    refine o_t x_mv ?_
    refine o_t x_ex ?_
    refine o_t x_ex ?_
    refine o_t x_as ?_
    refine o_t x_as ?_
    refine o_nil ?_
    refine w_seq ?_
    refine w_region ?_
    refine o_t x_mv ?_
    first | refine o_t (x_inil Tryz.underlying58) ?_ | refine o_t (x_isome Tryz.underlying58) ?_
    refine o_t x_mv ?_
    first | refine o_t (x_g x_mv) ?_ | refine o_t x_gs ?_ | refine o_t x_gu ?_
    first | refine o_t (x_g (x_err 3 gl)) ?_ | refine o_t x_gs ?_ | refine o_t x_gu ?_
    first | refine o_t x_gs ?_ | refine o_t x_gu ?_
    refine o_t x_pick ?_
    refine o_nil ?_
    refine w_cond (t := false) (fun g => rfl) (fun hc => ?_) (fun hc => ?_) -- ('Go.Operand.tmp', 51)
    · cases hc
    refine w_skip ?_
    refine w_seq ?_
    refine w_seq ?_
    by_cases hf : off ≤ E
    · obtain ⟨p, hp⟩ : ∃ p, E - off = p := ⟨_, rfl⟩
      have hcl2 : (i2 (c.length : Int)).length = 2 := by simp
      obtain ⟨l0, l1, hc01⟩ : ∃ l0 l1, i2 (c.length : Int) = [l0, l1] := by
        match h : i2 (c.length : Int), hcl2 with
        | [l0, l1], _ => exact ⟨l0, l1, rfl⟩
      have hnum : l0.toNat + l1.toNat * 256 = c.length := by
        rw [hc01] at q4; simp only [num] at q4; omega
      have hcl := hen.clen
      rw [hc01] at hcl
      have g0 : s[E + 20 + 0]? = some l0 := hcl.get rfl
      have g1 : s[E + 20 + 1]? = some l1 := hcl.get rfl
      have hfind := cFind (G := G) b bl p t c.length (by omega) (by omega) ((Has.drop1 (by omega)).2 (by rw [show off + p = E by omega]; exact hen.sig) |> fun h => ht ▸ h) (fun q hq hh => by have := htq q hh; omega)
        l0 l1 (by rw [← ht, List.getElem?_drop, show off + (p + 20) = E + 20 + 0 by omega]; exact g0) (by rw [← ht, List.getElem?_drop, show off + (p + 21) = E + 20 + 1 by omega]; exact g1) (by omega)
      rw [htl] at hfind
      refine w_region ?_
      refine o_t x_mv ?_
      refine o_call Tryz.call99 haa spla (hfind) ?_
      rintro _ _ HH ⟨rfl, rfl⟩ hHH
      simp only [List.cons_append, List.nil_append, List.append_nil] at hHH; subst hHH
      refine o_t x_as ?_
      refine o_nil ?_
      refine w_seq ?_
      refine w_region ?_
      refine o_t x_mv ?_
      refine o_t x_cmp ?_
      refine o_nil ?_
      refine w_cond (t := true) (fun g => rfl) (fun hc => ?_) (fun hc => ?_) -- ('Go.Operand.tmp', 56)
      case refine_2 => cases hc
      refine w_seq ?_
      refine w_region ?_
      refine o_t x_mv ?_
      refine o_t x_mv ?_
      refine o_t (x_sl (lo := p) (hi := bl) (v := slV b 0 bl bl p bl 1) Tryz.underlying78 e78 (hv := rfl)) ?_
      refine o_t x_as ?_
      refine o_nil ?_
      refine w_seq ?_
      refine w_region ?_
      refine o_t x_mv ?_
      refine o_t x_mv ?_
      refine o_t x_sub ?_
      refine o_t x_mv ?_
      refine o_t x_add ?_
      refine o_t x_as ?_
      refine o_nil ?_
      refine w_exit ?_ -- 0
      have hsl2 := Sl.drop (G := G) (r := pt b (t.map u8) 5) (b := b) (o := 0) (cap := bl) (m := p) (l := t) (by omega) (by omega) Rd.all
      rw [htl, ← ht, List.drop_drop, show off + p = E by omega] at hsl2
      exact ⟨(_, pt b (t.map u8) 5), .cons (fun _ => rfl) (.cons (fun _ => rfl) (.cons (fun _ => rfl) (.cons (fun _ => congrArg (Value.int _) (by omega)) (.nil _)))), hka, by rw [← ht]; exact hsl2⟩
    · have hfind := cFindNone (G := G) b bl t (by omega) (fun q hq hh => by have := htq q hh; omega)
      rw [htl] at hfind
      refine w_region ?_
      refine o_t x_mv ?_
      refine o_call Tryz.call99 haa spla (hfind) ?_
      rintro _ _ HH ⟨rfl, rfl⟩ hHH
      simp only [List.cons_append, List.nil_append, List.append_nil] at hHH; subst hHH
      refine o_t x_as ?_
      refine o_nil ?_
      refine w_seq ?_
      refine w_region ?_
      refine o_t x_mv ?_
      refine o_t x_cmp ?_
      refine o_nil ?_
      refine w_cond (t := false) (fun g => rfl) (fun hc => ?_) (fun hc => ?_) -- ('Go.Operand.tmp', 56)
      · cases hc
      refine w_skip ?_
      refine w_seq ?_
      refine w_region ?_
      refine o_t x_mv ?_
      refine o_t x_cmp ?_
      refine o_t x_mv ?_
      first | refine o_t (x_g x_mv) ?_ | refine o_t x_gs ?_ | refine o_t x_gu ?_
      first | refine o_t (x_g x_mv) ?_ | refine o_t x_gs ?_ | refine o_t x_gu ?_
      first | refine o_t (x_g x_cmp) ?_ | refine o_t x_gs ?_ | refine o_t x_gu ?_
      refine o_t x_pick ?_
      refine o_nil ?_
      refine w_cond (t := false) (fun g => rfl) (fun hc => ?_) (fun hc => ?_) -- ('Go.Operand.tmp', 71)
      · cases hc
      refine w_skip ?_
      exact ⟨(), wka, hka, by omega⟩
  rintro ⟨v, r⟩ hv
  dsimp only at hv ⊢
  obtain ⟨vb, vo, vc, hve, hvc, hvr⟩ := id hv
  have hTl : (s.drop E).length = 22 + c.length := by rw [List.length_drop]; omega
  rw [hTl] at hve hvc
  subst hve
  have hs4 : Sl G r (slV vb vo (22 + c.length) vc 4 (22 + c.length) 1) (s.drop (E + 4)) := by
    have := Sl.drop (m := 4) (l := s.drop E) (by omega) (by omega : (s.drop E).length ≤ vc) hvr
    rw [List.drop_drop, hTl] at this; exact this
  refine w_seq ?_
  refine w_region ?_
  refine o_t x_mv ?_
  refine o_t (x_sl (lo := 4) (hi := 22 + c.length) (v := slV vb vo (22 + c.length) vc 4 (22 + c.length) 1) Tryz.underlying78 e78 (hv := rfl)) ?_
  refine o_al z204 (fun b14 => ?_)
  refine o_st k204 ?_
  refine o_nil ?_
  refine w_seq ?_
  refine w_region ?_
  refine o_call Tryz.call97 haa spla (cRb16H b14 _ _ s (E + 4) (i2 0) 0 hs4 hd4 (by simp) q0) ?_
  rintro _ _ HH ⟨rfl, v1, hs6, rfl⟩ hHH
  simp only [List.cons_append, List.nil_append, List.append_nil] at hHH; subst hHH
  refine o_t (x_cv ⟨_, Tryz.underlying72⟩ Tryz.underlying77) ?_
  refine o_call Tryz.call97 haa spla (cRb16H b14 _ _ s (E + 6) (i2 0) 0 hs6 hd6 (by simp) q0) ?_
  rintro _ _ HH ⟨rfl, v2, hs8, rfl⟩ hHH
  simp only [List.cons_append, List.nil_append, List.append_nil] at hHH; subst hHH
  refine o_t (x_cv ⟨_, Tryz.underlying72⟩ Tryz.underlying77) ?_
  refine o_call Tryz.call97 haa spla (cRb16H b14 _ _ s (E + 8) (i2 rs.length) rs.length hs8 hen.many0 (by simp) q1) ?_
  rintro _ _ HH ⟨rfl, v3, hs10, rfl⟩ hHH
  simp only [List.cons_append, List.nil_append, List.append_nil] at hHH; subst hHH
  refine o_t (x_cv ⟨_, Tryz.underlying72⟩ Tryz.underlying73) ?_
  refine o_call Tryz.call97 haa spla (cRb16H b14 _ _ s (E + 10) (i2 rs.length) rs.length hs10 hen.many (by simp) q1) ?_
  rintro _ _ HH ⟨rfl, v4, hs12, rfl⟩ hHH
  simp only [List.cons_append, List.nil_append, List.append_nil] at hHH; subst hHH
  refine o_t (x_cv ⟨_, Tryz.underlying72⟩ Tryz.underlying73) ?_
  refine o_call Tryz.call96 haa spla (cRb32H b14 _ _ s (E + 12) (i4 (dirG rs).length) (dirG rs).length hs12 hen.size (by simp) q2) ?_
  rintro _ _ HH ⟨rfl, v5, hs16, rfl⟩ hHH
  simp only [List.cons_append, List.nil_append, List.append_nil] at hHH; subst hHH
  refine o_t (x_cv ⟨_, Tryz.underlying77⟩ Tryz.underlying73) ?_
  refine o_call Tryz.call96 haa spla (cRb32H b14 _ _ s (E + 16) (i4 body.length) body.length hs16 hen.off (by simp) q3) ?_
  rintro _ _ HH ⟨rfl, v6, hs20, rfl⟩ hHH
  simp only [List.cons_append, List.nil_append, List.append_nil] at hHH; subst hHH
  refine o_t (x_cv ⟨_, Tryz.underlying77⟩ Tryz.underlying73) ?_
  refine o_call Tryz.call97 haa spla (cRb16H b14 _ _ s (E + 20) (i2 c.length) c.length hs20 hen.clen (by simp) q4) ?_
  rintro _ _ HH ⟨rfl, v7, hs22, rfl⟩ hHH
  simp only [List.cons_append, List.nil_append, List.append_nil] at hHH; subst hHH
  refine o_t (x_bd hla bd181_0_1_2_3_4_5_6) ?_
  refine o_bx (fun b90 => ?_)
  refine o_t x_as ?_
  refine o_nil ?_
  have hcT : s.drop (E + 20 + 2) = c := by
    have h1 := hen.com.2
    have h2 : (s.drop (E + 22)).length = c.length := by rw [List.length_drop]; omega
    rw [← h2, List.take_length] at h1; exact h1
  rw [hcT] at hs22
  obtain ⟨cb, co, cc, hce, hcc, hcr⟩ := id hs22
  subst hce
  refine w_weak (L' := [(0, .iface 61 (.pointer (some ⟨rb, 0, none⟩))), (1, .int .i64 s.length), (8, .int .i64 E), (14, .pointer (some ⟨b14, 0, none⟩)), (15, .pointer (some ⟨b90, 0, none⟩))]) (H' := [pt b14 [.slice (some ⟨cb, co, none⟩) c.length cc] 204, pt b90 [.int .u32 0, .int .u32 0, .int .u64 rs.length, .int .u64 rs.length, .int .u64 (dirG rs).length, .int .u64 body.length, .int .u16 c.length, .string (str [])] 181, r, srB rb s]) wka hka ?_
  refine w_seq ?_
  refine w_region ?_
  refine o_t x_mv ?_
  refine o_t x_nc ?_
  refine o_t (x_fa f181_6) ?_
  refine o_t (x_ld k72) ?_
  refine o_t (x_cv ⟨_, Tryz.underlying72⟩ Tryz.underlying3) ?_
  refine o_t x_as ?_
  refine o_nil ?_
  refine w_seq ?_
  refine w_seq ?_
  refine w_region ?_
  refine o_t x_mv ?_
  refine o_t (x_ld k204) ?_
  refine o_t (x_lenb Tryz.underlying204) ?_
  refine o_t x_cmp ?_
  refine o_nil ?_
  refine w_cond (t := false) (fun g => rfl) (fun hc => ?_) (fun hc => ?_) -- ('Go.Operand.tmp', 99)
  · cases hc
  refine w_skip ?_
  have hsc := Sl.take (m := c.length) (l := c) (Nat.le_refl _) hcc hcr
  rw [List.take_length] at hsc
  refine w_seq ?_
  refine w_region ?_
  refine o_t x_mv ?_
  refine o_t (x_ld k204) ?_
  refine o_t x_mv ?_
  refine o_t (x_sl (lo := 0) (hi := c.length) (v := slV cb co c.length cc 0 c.length 1) Tryz.underlying204 e204 (hv := rfl)) ?_
  refine o_t (x_b2S Tryz.underlying204 Tryz.underlying5 Tryz.underlying9 hsc) ?_
  refine o_t x_nc ?_
  refine o_t (x_fa f181_7) ?_
  refine o_st k9 ?_
  refine o_nil ?_
  refine w_seq ?_
  refine w_seq ?_
  refine w_region ?_
  refine o_t x_mv ?_
  refine o_t x_nc ?_
  refine o_t (x_fa f181_3) ?_
  refine o_t (x_ld k73) ?_
  refine o_t x_cmp ?_
  refine o_t x_mv ?_
  first | refine o_t (x_g x_mv) ?_ | refine o_t x_gs ?_ | refine o_t x_gu ?_
  first | refine o_t (x_g x_nc) ?_ | refine o_t x_gs ?_ | refine o_t x_gu ?_
  first | refine o_t (x_g (x_fa f181_4)) ?_ | refine o_t x_gs ?_ | refine o_t x_gu ?_
  first | refine o_t (x_g (x_ld k73)) ?_ | refine o_t x_gs ?_ | refine o_t x_gu ?_
  first | refine o_t (x_g x_cmp) ?_ | refine o_t x_gs ?_ | refine o_t x_gu ?_
  refine o_t x_pick ?_
  refine o_t x_mv ?_
  first | refine o_t (x_g x_mv) ?_ | refine o_t x_gs ?_ | refine o_t x_gu ?_
  first | refine o_t (x_g x_nc) ?_ | refine o_t x_gs ?_ | refine o_t x_gu ?_
  first | refine o_t (x_g (x_fa f181_5)) ?_ | refine o_t x_gs ?_ | refine o_t x_gu ?_
  first | refine o_t (x_g (x_ld k73)) ?_ | refine o_t x_gs ?_ | refine o_t x_gu ?_
  first | refine o_t (x_g x_cmp) ?_ | refine o_t x_gs ?_ | refine o_t x_gu ?_
  refine o_t x_pick ?_
  refine o_nil ?_
  refine w_cond (t := false) (fun g => rfl) (fun hc => ?_) (fun hc => ?_) -- ('Go.Operand.tmp', 126)
  · cases hc
  refine w_skip ?_
  refine w_seq ?_
  refine w_region ?_
  refine o_t x_as ?_
  refine o_nil ?_
  refine w_seq ?_
  refine w_seq ?_
  refine w_region ?_
  refine o_t x_mv ?_
  refine o_t x_nc ?_
  refine o_t (x_fa f181_4) ?_
  refine o_t (x_ld k73) ?_
  refine o_t x_mv ?_
  refine o_t x_cmp ?_
  refine o_t x_mv ?_
  first | refine o_t (x_g x_mv) ?_ | refine o_t x_gs ?_ | refine o_t x_gu ?_
  first | refine o_t (x_g x_nc) ?_ | refine o_t x_gs ?_ | refine o_t x_gu ?_
  first | refine o_t (x_g (x_fa f181_5)) ?_ | refine o_t x_gs ?_ | refine o_t x_gu ?_
  first | refine o_t (x_g (x_ld k73)) ?_ | refine o_t x_gs ?_ | refine o_t x_gu ?_
  first | refine o_t (x_g x_mv) ?_ | refine o_t x_gs ?_ | refine o_t x_gu ?_
  first | refine o_t (x_g x_cmp) ?_ | refine o_t x_gs ?_ | refine o_t x_gu ?_
  refine o_t x_pick ?_
  refine o_nil ?_
  refine w_cond (t := false) (fun g => rfl) (fun hc => ?_) (fun hc => ?_) -- ('Go.Operand.tmp', 160)
  · cases hc
  refine w_skip ?_
  refine w_seq ?_
  refine w_quiet mixed (by kernel_rfl) ?_
  refine q_t x_mv ?_
  refine q_t x_mv ?_
  refine q_t x_nc ?_
  refine q_t (x_fa f181_4) ?_
  refine q_t (x_ld k73) ?_
  refine q_t (x_cv ⟨_, Tryz.underlying73⟩ Tryz.underlying2) ?_
  refine q_t x_sub ?_
  refine q_t x_mv ?_
  refine q_t x_nc ?_
  refine q_t (x_fa f181_5) ?_
  refine q_t (x_ld k73) ?_
  refine q_t (x_cv ⟨_, Tryz.underlying73⟩ Tryz.underlying2) ?_
  refine q_t x_sub ?_
  refine q_t x_as ?_
  refine q_nil ?_
  refine w_weak (L' := [(1, .int .i64 s.length), (15, .pointer (some ⟨b90, 0, none⟩)), (5, .int .i64 0)]) (H' := [dirEB b90 0 0 rs.length (dirG rs).length body.length c, srB rb s]) wka hka ?_
  refine w_seq ?_
  refine w_seq ?_
  refine w_region ?_
  refine o_t x_mv ?_
  refine o_t x_mv ?_
  refine o_t x_nc ?_
  refine o_t (x_fa f181_5) ?_
  refine o_t (x_ld k73) ?_
  refine o_t (x_cv ⟨_, Tryz.underlying73⟩ Tryz.underlying2) ?_
  refine o_t x_add ?_
  refine o_t x_as ?_
  refine o_nil ?_
  refine w_seq ?_
  refine w_region ?_
  refine o_t x_mv ?_
  refine o_t x_cmp ?_
  refine o_t x_mv ?_
  first | refine o_t (x_g x_mv) ?_ | refine o_t x_gs ?_ | refine o_t x_gu ?_
  first | refine o_t (x_g x_mv) ?_ | refine o_t x_gs ?_ | refine o_t x_gu ?_
  first | refine o_t (x_g x_cmp) ?_ | refine o_t x_gs ?_ | refine o_t x_gu ?_
  refine o_t x_pick ?_
  refine o_nil ?_
  refine w_cond (t := false) (fun g => rfl) (fun hc => ?_) (fun hc => ?_) -- ('Go.Operand.tmp', 188)
  · cases hc
  refine w_skip ?_
  refine w_seq ?_
  refine w_seq ?_
  refine w_region ?_
  refine o_t x_mv ?_
  refine o_t x_cmp ?_
  refine o_nil ?_
  refine w_cond (t := false) (fun g => rfl) (fun hc => ?_) (fun hc => ?_) -- ('Go.Operand.tmp', 191)
  · cases hc
  refine w_skip ?_
  refine w_seq ?_
  refine w_region ?_
  refine o_t x_mv ?_
  refine o_t x_mv ?_
  refine o_t x_as ?_
  refine o_t x_as ?_
  refine o_t x_as ?_
  refine o_nil ?_
  refine w_ret (r_3 rfl ⟨b90, rfl, rfl⟩)
end Go.Proofs.YtlmefkhglooepaaGreatDoor
namespace Go.Proofs.YtlmefkhglooepaaGreatDoor
open Go
set_option linter.unusedSimpArgs false
set_option linter.unusedVariables false
variable {G : Nat → Option Obj} {ea : Nat → Addr}
section
variable {n : Nat} {ops : Array Oper} {Q : Post} {rest : List Oper} {L : Loc} {H : List Res} {d : Nat} {x y : Operand} {ty t : TypeId} {p : String} {e : Array Edge}
theorem o_mk0 {T m bytes : Nat} {zv : Value} {kc : IntKind} (hi : (P.info? T).map (fun i => (i.zero, i.size, i.bytes)) = some (some zv, 1, bytes)) (hu : P.underlying t = some (.slice T)) (hz : zv.cells = #[zv]) (hm : m ≤ maxLen) (hb : m * bytes ≤ 281474976710656)
    (h : ∀ v r, Own T 1 v 0 [] r → OP P n G ops Q rest ((d, v) :: L) (r :: H)) (hx : ∀ g, evl L g x = .int .i64 0 := by intro g; rfl) (hy : ∀ g, evl L g y = .int kc m := by intro g; rfl) (hn : d < n := by decide) :
    OP P n G ops Q (⟨some d, .makeSlice t x y, ty, p, e, none⟩ :: rest) L H := by
  obtain ⟨i, hii, hzz, hs1, hby⟩ := info_parts hi
  refine OP.any (v := fun b => .slice (some ⟨b, 0, none⟩) 0 m) (H' := fun b => pt b (List.replicate m zv) T :: H) rfl hn rfl (fun F hF g w hsat => ⟨w.heap.size, w.alloc (.cells (List.replicate m zv).toArray T), ?_, by simpa [pt] using hsat.alloc (.cells (List.replicate m zv).toArray T)⟩) (fun b => h _ _ ⟨rfl, .inr ⟨b, m, List.replicate m zv, rfl, rfl, Nat.zero_le _, hm, by simp, by simp⟩⟩)
  have hmm : madeCells zv.cells (m * i.size) = (List.replicate m zv).toArray := by
    rw [hs1, Nat.mul_one, hz]
    apply Array.ext <;> simp [madeCells, Nat.mod_one]
  have hbb : (i.bytes : Int) * (m : Int) ≤ 281474976710656 := by
    have h0 : ((m * bytes : Nat) : Int) ≤ 281474976710656 := by omega
    rw [Nat.mul_comm, Int.natCast_mul] at h0
    rw [hby]; exact h0
  have := run_make (P := P) w t T i zv hu hii hzz .i64 kc 0 m (by omega) (by omega) hbb (by simp only [maxLen] at hm; omega)
  simp only [Int.toNat_natCast, Int.toNat_zero] at this
  rw [hmm] at this
  simp [execOp, hx g, hy g, this]
end
theorem Own.one {T sz n : Nat} {v : Value} {xs : List Value} {r : Res} (h : Own T sz v n xs r) : v.oneCell' = true := by obtain ⟨a, c, rfl⟩ := h.len; rfl
/-- A file that was read. -/
def FileR (G : Nat → Option Obj) (zp zi : Value) (r : ZR) (p : Value) (a : Res) : Prop :=
  ∃ fb w e l xv xr, p = .pointer (some ⟨fb, 0, none⟩) ∧ Sl G xr xv r.h.extra ∧ a = fileH fb r.h (nonT r.h) w e l xv zp zi r.pos ++ xr
def FilesR (G : Nat → Option Obj) (zp zi : Value) : List ZR → List Value → Res → Prop
  | [], [], res => res = []
  | r :: rs, p :: ps, res => ∃ a b, FileR G zp zi r p a ∧ FilesR G zp zi rs ps b ∧ res = a ++ b
  | _, _, _ => False
theorem FilesR.snoc {zp zi : Value} {r : ZR} {p : Value} {a : Res} (ha : FileR G zp zi r p a) : ∀ {rs : List ZR} {ps : List Value} {res : Res}, FilesR G zp zi rs ps res → FilesR G zp zi (rs ++ [r]) (ps ++ [p]) (res ++ a)
  | [], [], res, h => by
    simp only [FilesR] at h; subst h
    exact ⟨a, [], ha, rfl, by simp⟩
  | r' :: rs, p' :: ps, res, h => by
    obtain ⟨a', b, h1, h2, rfl⟩ := h
    exact ⟨a', b ++ a, h1, FilesR.snoc ha h2, by simp⟩
  | [], _ :: _, _, h => h.elim
  | _ :: _, [], _, h => h.elim
theorem FilesR.get {zp zi : Value} : ∀ {rs : List ZR} {ps : List Value} {res : Res} {j : Nat} {r : ZR}, FilesR G zp zi rs ps res → rs[j]? = some r → ∃ p a pre post, ps[j]? = some p ∧ FileR G zp zi r p a ∧ res = pre ++ (a ++ post)
  | r' :: rs, p' :: ps, res, 0, r, h, hj => by
    obtain ⟨a', b, h1, h2, rfl⟩ := h
    simp at hj; subst hj
    exact ⟨p', a', [], b, rfl, h1, rfl⟩
  | r' :: rs, p' :: ps, res, j + 1, r, h, hj => by
    obtain ⟨a', b, h1, h2, rfl⟩ := h
    obtain ⟨p, a, pre, post, h3, h4, rfl⟩ := FilesR.get h2 (by simpa using hj)
    exact ⟨p, a, a' ++ pre, post, by simpa using h3, h4, by simp⟩
  | [], _, _, _, _, _, hj => by simp at hj
  | _ :: _, [], _, _, _, h, _ => h.elim
abbrev zrB (zb : Nat) (zi fv : Value) (c : List UInt8) : Res := pt zb [zi, fv, .string (str c), .map none, .int .i64 0] 68
theorem cInit (gl : Glob G ea) (rb zb : Nat) (s body : List UInt8) (rs : List ZR) (c : List UInt8) (z : Zip s body rs c) :
    Fn P G 51 #[.pointer (some ⟨zb, 0, none⟩), .iface 61 (.pointer (some ⟨rb, 0, none⟩)), .int .i64 s.length] [zrB zb .nilIface (.slice none 0 0) [], srB rb s] fun v H => v = .nilIface ∧ ∃ fv ps ro fr, Own 69 1 fv rs.length ps ro ∧
      FilesR G (.pointer (some ⟨zb, 0, none⟩)) (.iface 61 (.pointer (some ⟨rb, 0, none⟩))) rs ps fr ∧ H = [zrB zb (.iface 61 (.pointer (some ⟨rb, 0, none⟩))) fv c, ro, fr, srB rb s] := by
  have hsl := z.slen
  have hen := endAt z.endHas
  have hl := z.len
  have hmany := z.many; have hcom := z.com
  obtain ⟨zi, hzi⟩ : ∃ zi, Value.iface 61 (.pointer (some ⟨rb, 0, none⟩)) = zi := ⟨_, rfl⟩
  have hzi1 : zi.oneCell' = true := by rw [← hzi]; rfl
  have cde := cDirEnd gl rb s body rs c z
  have csn := cSecNew (G := G) rb 0 s.length (by omega)
  rw [hzi] at cde csn ⊢
  rw [Nat.zero_add] at csn
  refine fn_intro (args := [_,_,_]) Tryz.func51 Tryz.ntmps51 rfl ?_
  refine w_seq ?_
  refine w_region ?_
  refine o_t x_as ?_
  refine o_nil ?_
  refine w_seq ?_
  refine w_region ?_
  refine o_t x_mv ?_
  refine o_t x_mv ?_
  refine o_call Tryz.call74 haa spla (cde) ?_
  rintro _ _ HH ⟨db, rfl, rfl⟩ hHH
  simp only [List.cons_append, List.nil_append, List.append_nil] at hHH; subst hHH
  refine o_t x_mv ?_
  refine o_t x_ex ?_
  refine o_t x_ex ?_
  refine o_t x_ex ?_
  refine o_t x_as ?_
  refine o_t x_as ?_
  refine o_t x_as ?_
  refine o_nil ?_
  refine w_seq ?_
  refine w_seq ?_
  refine w_region ?_
  refine o_t x_mv ?_
  first | refine o_t (x_inil Tryz.underlying58) ?_ | refine o_t (x_isome Tryz.underlying58) ?_
  refine o_nil ?_
  refine w_cond (t := false) (fun g => rfl) (fun hc => ?_) (fun hc => ?_) -- ('Go.Operand.tmp', 21)
  · cases hc
  refine w_skip ?_
  refine w_seq ?_
  refine w_region ?_
  refine o_t x_mv ?_
  refine o_t x_mv ?_
  refine o_t x_nc ?_
  refine o_t (x_fa f68_0) ?_
  refine o_st k64 ?_
  refine o_nil ?_
  refine w_seq ?_
  refine w_region ?_
  refine o_t x_mv ?_
  refine o_t x_mv ?_
  refine o_t x_nc ?_
  refine o_t (x_fa f68_4) ?_
  refine o_st k2 ?_
  refine o_nil ?_
  refine w_cut (α := Value × Res) (fun x => [(0, .pointer (some ⟨zb, 0, none⟩)), (1, zi), (2, .int .i64 s.length), (7, .pointer (some ⟨db, 0, none⟩))]) (fun x => [zrB zb zi x.1 [], dirEB db 0 0 rs.length (dirG rs).length body.length c, x.2, srB rb s]) (fun x => Own 69 1 x.1 0 [] x.2) ?_ ?_
  · refine w_seq ?_
    by_cases hroom : rs.length ≤ (s.length - (dirG rs).length) / 30
    · refine w_quiet mixed (by kernel_rfl) ?_
      refine q_t x_mv ?_
      refine q_t x_nc ?_
      refine q_t (x_fa f181_4) ?_
      refine q_t (x_ld k73) ?_
      refine q_t x_mv ?_
      refine q_t (x_cv ⟨_, Tryz.underlying2⟩ Tryz.underlying73) ?_
      refine q_t x_cmp ?_
      refine q_t x_mv ?_
      first | refine q_t (x_g x_mv) ?_ | refine q_t x_gs ?_ | refine q_t x_gu ?_
      first | refine q_t (x_g (x_cv ⟨_, Tryz.underlying2⟩ Tryz.underlying73)) ?_ | refine q_t x_gs ?_ | refine q_t x_gu ?_
      first | refine q_t (x_g x_mv) ?_ | refine q_t x_gs ?_ | refine q_t x_gu ?_
      first | refine q_t (x_g x_nc) ?_ | refine q_t x_gs ?_ | refine q_t x_gu ?_
      first | refine q_t (x_g (x_fa f181_4)) ?_ | refine q_t x_gs ?_ | refine q_t x_gu ?_
      first | refine q_t (x_g (x_ld k73)) ?_ | refine q_t x_gs ?_ | refine q_t x_gu ?_
      first | refine q_t (x_g x_sub) ?_ | refine q_t x_gs ?_ | refine q_t x_gu ?_
      first | refine q_t (x_g x_quo) ?_ | refine q_t x_gs ?_ | refine q_t x_gu ?_
      first | refine q_t (x_g x_mv) ?_ | refine q_t x_gs ?_ | refine q_t x_gu ?_
      first | refine q_t (x_g x_nc) ?_ | refine q_t x_gs ?_ | refine q_t x_gu ?_
      first | refine q_t (x_g (x_fa f181_3)) ?_ | refine q_t x_gs ?_ | refine q_t x_gu ?_
      first | refine q_t (x_g (x_ld k73)) ?_ | refine q_t x_gs ?_ | refine q_t x_gu ?_
      first | refine q_t (x_g x_cmp) ?_ | refine q_t x_gs ?_ | refine q_t x_gu ?_
      refine q_t x_pick ?_
      refine q_nil ?_
      refine w_cond (t := true) (fun g => rfl) (fun hc => ?_) (fun hc => ?_) -- ('Go.Operand.tmp', 52)
      · --
        refine w_region ?_
        refine o_t x_mv ?_
        refine o_t x_mv ?_
        refine o_t x_nc ?_
        refine o_t (x_fa f181_3) ?_
        refine o_t (x_ld k73) ?_
        refine o_mk0 (m := rs.length) info69 Tryz.underlying65 rfl (by simp [maxLen]; omega) (by omega) (fun v r hO => ?_)
        refine o_t x_nc ?_
        refine o_t (x_fa f68_1) ?_
        refine o_st k65 ?_ (h1 := hO.one)
        refine o_nil ?_
        exact ⟨(v, r), wka, hka, hO⟩
      · cases hc
    · refine w_quiet mixed (by kernel_rfl) ?_
      refine q_t x_mv ?_
      refine q_t x_nc ?_
      refine q_t (x_fa f181_4) ?_
      refine q_t (x_ld k73) ?_
      refine q_t x_mv ?_
      refine q_t (x_cv ⟨_, Tryz.underlying2⟩ Tryz.underlying73) ?_
      refine q_t x_cmp ?_
      refine q_t x_mv ?_
      first | refine q_t (x_g x_mv) ?_ | refine q_t x_gs ?_ | refine q_t x_gu ?_
      first | refine q_t (x_g (x_cv ⟨_, Tryz.underlying2⟩ Tryz.underlying73)) ?_ | refine q_t x_gs ?_ | refine q_t x_gu ?_
      first | refine q_t (x_g x_mv) ?_ | refine q_t x_gs ?_ | refine q_t x_gu ?_
      first | refine q_t (x_g x_nc) ?_ | refine q_t x_gs ?_ | refine q_t x_gu ?_
      first | refine q_t (x_g (x_fa f181_4)) ?_ | refine q_t x_gs ?_ | refine q_t x_gu ?_
      first | refine q_t (x_g (x_ld k73)) ?_ | refine q_t x_gs ?_ | refine q_t x_gu ?_
      first | refine q_t (x_g x_sub) ?_ | refine q_t x_gs ?_ | refine q_t x_gu ?_
      first | refine q_t (x_g x_quo) ?_ | refine q_t x_gs ?_ | refine q_t x_gu ?_
      first | refine q_t (x_g x_mv) ?_ | refine q_t x_gs ?_ | refine q_t x_gu ?_
      first | refine q_t (x_g x_nc) ?_ | refine q_t x_gs ?_ | refine q_t x_gu ?_
      first | refine q_t (x_g (x_fa f181_3)) ?_ | refine q_t x_gs ?_ | refine q_t x_gu ?_
      first | refine q_t (x_g (x_ld k73)) ?_ | refine q_t x_gs ?_ | refine q_t x_gu ?_
      first | refine q_t (x_g x_cmp) ?_ | refine q_t x_gs ?_ | refine q_t x_gu ?_
      refine q_t x_pick ?_
      refine q_nil ?_
      refine w_cond (t := false) (fun g => rfl) (fun hc => ?_) (fun hc => ?_) -- ('Go.Operand.tmp', 52)
      · cases hc
      · refine w_skip ?_
        exact ⟨(.slice none 0 0, []), wka, HWk.trans (B := [zrB zb zi (.slice none 0 0) [], dirEB db 0 0 rs.length (dirG rs).length body.length c, srB rb s]) hka (hflat (by simp)), Own.nil 69 1⟩
  rintro ⟨fv, ro⟩ hO
  dsimp only at hO ⊢
  have hO1 := hO.one
  refine w_seq ?_
  refine w_region ?_
  refine o_t x_mv ?_
  refine o_t x_mv ?_
  refine o_t x_nc ?_
  refine o_t (x_fa f181_7) ?_
  refine o_t (x_ld k9) ?_
  refine o_t x_nc ?_
  refine o_t (x_fa f68_2) ?_
  refine o_st k9 ?_
  refine o_nil ?_
  refine w_seq ?_
  refine w_region ?_
  refine o_t x_mv ?_
  refine o_t x_mv ?_
  refine o_call Tryz.call70 haa spla (csn) ?_
  rintro _ _ HH ⟨sb, rfl, rfl⟩ hHH
  simp only [List.cons_append, List.nil_append, List.append_nil] at hHH; subst hHH
  refine o_t x_as ?_
  refine o_nil ?_
  have hbl : body.length ≤ s.length := by omega
  have csk := cSeek (G := G) sb rb 0 0 s.length s.length body.length (by omega) (by omega) rfl
  refine w_weak (L' := [(0, .pointer (some ⟨zb, 0, none⟩)), (1, zi), (7, .pointer (some ⟨db, 0, none⟩)), (10, .pointer (some ⟨sb, 0, none⟩))]) (H' := [zrB zb zi fv c, dirEB db 0 0 rs.length (dirG rs).length body.length c, secB sb rb 0 0 s.length s.length, ro, srB rb s]) wka hka ?_
  refine w_seq ?_
  refine w_seq ?_
  refine w_draw mixed ?_
  refine a_seg (k := 11) _ [(1, 0), (1, 1), (1, 2), (1, 3), (1, 4), (1, 5), (1, 6), (1, 7), (1, 8), (1, 9), (1, 10)] (by kernel_rfl) (hwk (.cons .head (.cons .head .nil))) ?_
  refine h_t rfl x_mv ?_
  refine h_t rfl x_mv ?_
  refine h_t rfl x_nc ?_
  refine h_t rfl (x_fa f68_4) ?_
  refine h_t rfl (x_ld k2) ?_
  refine h_t rfl x_mv ?_
  refine h_t rfl x_nc ?_
  refine h_t rfl (x_fa f181_5) ?_
  refine h_t rfl (x_ld k73) ?_
  refine h_t rfl (x_cv ⟨_, Tryz.underlying73⟩ Tryz.underlying2) ?_
  refine h_t rfl (x_add (z := (body.length : Int)) (hz := (w_i64 (by omega)).trans (by omega))) ?_
  refine h_end ?_
  refine a_seg (k := 12) _ [(0, 11)] (by kernel_rfl) hwk_nil ?_
  refine h_one rfl (fun Q' hQ => ?_)
  refine o_call Tryz.call75 haa spla (csk) ?_
  rintro _ _ HH ⟨rfl, rfl⟩ hHH
  simp only [List.cons_append, List.nil_append, List.append_nil] at hHH; subst hHH
  refine o_nil (hQ _ _ (h_keep ?_))
  refine h_end ?_
  refine a_seg (k := 13) _ [(1, 12)] (by kernel_rfl) (HWk.refl _) ?_
  refine h_t rfl x_mv ?_
  refine h_end ?_
  refine a_seg (k := 15) _ [(1, 13), (1, 14)] (by kernel_rfl) (HWk.refl _) ?_
  refine h_t rfl x_ex ?_
  refine h_t rfl x_ex ?_
  refine h_end ?_
  refine a_seg (k := 16) _ [(1, 15)] (by kernel_rfl) (HWk.refl _) ?_
  refine h_t rfl x_as ?_
  refine h_end ?_
  refine a_done rfl ?_
  refine w_seq ?_
  refine w_region ?_
  refine o_t x_mv ?_
  first | refine o_t (x_inil Tryz.underlying58) ?_ | refine o_t (x_isome Tryz.underlying58) ?_
  refine o_nil ?_
  refine w_cond (t := false) (fun g => rfl) (fun hc => ?_) (fun hc => ?_) -- ('Go.Operand.tmp', 87)
  · cases hc
  refine w_skip ?_
  refine w_seq ?_
  refine w_region ?_
  refine o_t x_mv ?_
  refine o_t x_p ?_
  refine o_call Tryz.call76 haa spla (cBrNew _) ?_
  rintro _ _ HH ⟨br, bb, rfl, rfl⟩ hHH
  simp only [List.cons_append, List.nil_append, List.append_nil] at hHH; subst hHH
  refine o_t x_as ?_
  refine o_nil ?_
  obtain ⟨bc0, hbc, hbcl⟩ : ∃ bc, List.replicate 4096 (Value.int .u8 0) = bc ∧ bc.length = 4096 := ⟨_, rfl, List.length_replicate⟩
  rw [hbc]
  have hS0 : bufS br bb 164 (.pointer (some ⟨sb, 0, none⟩)) (secS sb rb 0 s.length s.length s) (s.drop body.length) (brB br bb 164 (.pointer (some ⟨sb, 0, none⟩)) 0 0 .nilIface (-1) (-1) ++ (pt bb bc0 5 ++ (secB sb rb 0 body.length s.length s.length ++ srB rb s))) :=
    ⟨0, 0, bc0, -1, -1, [], s.drop body.length, _, Nat.le_refl _, by omega, hbcl, by simp, rfl, rfl, ⟨body.length, hbl, by rw [List.take_of_length_le (by rw [List.length_drop]; omega)], rfl⟩, rfl⟩
  have RB := bufRdr gl br bb 164 (.pointer (some ⟨sb, 0, none⟩)) _ _ _ (secRdr gl sb rb 0 s.length s.length s hl (Nat.le_refl _)) Tryz.call194
  generalize hK0 : brB br bb 164 (.pointer (some ⟨sb, 0, none⟩)) 0 0 .nilIface (-1) (-1) ++ (pt bb bc0 5 ++ (secB sb rb 0 body.length s.length s.length ++ srB rb s)) = K0 at hS0
  refine w_weak (L' := [(0, .pointer (some ⟨zb, 0, none⟩)), (1, zi), (7, .pointer (some ⟨db, 0, none⟩)), (11, .pointer (some ⟨br, 0, none⟩))]) (H' := [zrB zb zi fv c, dirEB db 0 0 rs.length (dirG rs).length body.length c, ro, [], K0]) wka (HWk.trans (B := [zrB zb zi fv c, dirEB db 0 0 rs.length (dirG rs).length body.length c, ro, brB br bb 164 (.pointer (some ⟨sb, 0, none⟩)) 0 0 .nilIface (-1) (-1), pt bb bc0 5, secB sb rb 0 body.length s.length s.length, srB rb s]) hka (hflat (by rw [← hK0]; simp))) ?_
  refine w_cut (α := Value × List Value × Res × Res) (fun x => [(0, .pointer (some ⟨zb, 0, none⟩)), (7, .pointer (some ⟨db, 0, none⟩))]) (fun x => [zrB zb zi x.1 c, dirEB db 0 0 rs.length (dirG rs).length body.length c, x.2.2.1, x.2.2.2, srB rb s])
    (fun x => Own 69 1 x.1 rs.length x.2.1 x.2.2.1 ∧ FilesR G (.pointer (some ⟨zb, 0, none⟩)) zi rs x.2.1 x.2.2.2) ?_ ?_
  · refine w_block ?_ -- 0
    refine w_loop (α := Nat × Value × List Value × Res × Res × Res) (fun x => [(0, .pointer (some ⟨zb, 0, none⟩)), (1, zi), (7, .pointer (some ⟨db, 0, none⟩)), (11, .pointer (some ⟨br, 0, none⟩))]) (fun x => [zrB zb zi x.2.1 c, dirEB db 0 0 rs.length (dirG rs).length body.length c, x.2.2.2.1, x.2.2.2.2.1, x.2.2.2.2.2])
      (fun x => x.1 ≤ rs.length ∧ Own 69 1 x.2.1 x.1 x.2.2.1 x.2.2.2.1 ∧ FilesR G (.pointer (some ⟨zb, 0, none⟩)) zi (rs.take x.1) x.2.2.1 x.2.2.2.2.1 ∧ bufS br bb 164 (.pointer (some ⟨sb, 0, none⟩)) (secS sb rb 0 s.length s.length s) (s.drop (body.length + (dirG (rs.take x.1)).length)) x.2.2.2.2.2)
      (fun x => rs.length - x.1) (0, fv, [], ro, [], K0) (wka) (hka) ⟨Nat.zero_le _, hO, rfl, by simpa [dirG] using hS0⟩ ?_
    rintro ⟨j, fv, ps, ro, fr, K⟩ ⟨hj, hO, hF, hS⟩
    dsimp only at hj hO hF hS ⊢
    have hO1 := hO.one
    refine w_block ?_ -- 1
    refine w_seq ?_
    refine w_region ?_
    refine o_t x_mv ?_
    refine o_t x_mv ?_
    refine o_t (x_bd hla (bd82_1_2 (h2 := hzi1))) ?_
    refine o_bx (fun b95 => ?_)
    refine o_t x_as ?_
    refine o_nil ?_
    by_cases hjl : j < rs.length
    · have hr := List.getElem?_eq_getElem (l := rs) (i := j) hjl
      generalize rs[j]'hjl = r at hr
      have hH := z.dirHas hr
      have hrok := z.recs r (List.mem_of_getElem? hr)
      have hpos := hrok.here.len
      simp only [List.length_append, localT_length] at hpos
      have hsp : s.drop (body.length + (dirG (rs.take j)).length) = centralT r.h r.pos ++ s.drop (body.length + (dirG (rs.take (j + 1))).length) := by
        have h1 := hH.2
        conv => lhs; rw [← List.take_append_drop (centralT r.h r.pos).length (s.drop (body.length + (dirG (rs.take j)).length)), h1]
        rw [List.drop_drop, dirG_snoc hr, List.length_append, Nat.add_assoc]
      rw [hsp] at hS
      have cdh := cDirHeader gl 183 (.pointer (some ⟨br, 0, none⟩)) _ _ _ RB r.h r.pos hrok.ok (by omega) _ K hS b95 (.pointer (some ⟨zb, 0, none⟩)) zi
      refine w_seq ?_
      refine w_region ?_
      refine o_t x_mv ?_
      refine o_t x_mv ?_
      refine o_t x_p ?_
      refine o_call Tryz.call77 haa spla (cdh) ?_
      rintro _ _ HH ⟨rfl, K', w, e, l, xv, xr, hS', hsl', rfl⟩ hHH
      simp only [List.cons_append, List.nil_append, List.append_nil] at hHH; subst hHH
      refine o_t x_as ?_
      refine o_nil ?_
      refine w_seq ?_
      refine w_seq ?_
      refine w_region ?_
      refine o_t x_mv ?_
      refine o_t (x_err 2 gl) ?_
      refine o_t (x_eqn 2) ?_
      refine o_t x_mv ?_
      first | refine o_t (x_g x_mv) ?_ | refine o_t x_gs ?_ | refine o_t x_gu ?_
      first | refine o_t (x_g (x_err 5 gl)) ?_ | refine o_t x_gs ?_ | refine o_t x_gu ?_
      first | refine o_t (x_g (x_eqn 5)) ?_ | refine o_t x_gs ?_ | refine o_t x_gu ?_
      refine o_t x_pick ?_
      refine o_nil ?_
      refine w_cond (t := false) (fun g => rfl) (fun hc => ?_) (fun hc => ?_) -- ('Go.Operand.tmp', 107)
      · cases hc
      refine w_skip ?_
      refine w_seq ?_
      refine w_seq ?_
      refine w_region ?_
      refine o_t x_mv ?_
      first | refine o_t (x_inil Tryz.underlying58) ?_ | refine o_t (x_isome Tryz.underlying58) ?_
      refine o_nil ?_
      refine w_cond (t := false) (fun g => rfl) (fun hc => ?_) (fun hc => ?_) -- ('Go.Operand.tmp', 109)
      · cases hc
      refine w_skip ?_
      refine w_seq ?_
      refine w_draw mixed ?_
      refine a_seg (k := 8) _ [(1, 0), (1, 1), (1, 2), (1, 3), (1, 4), (1, 5), (1, 6), (1, 7)] (by kernel_rfl) (HWk.refl _) ?_
      refine h_t rfl x_mv ?_
      refine h_t rfl x_nc ?_
      refine h_t rfl (x_fa f82_3) ?_
      refine h_t rfl (x_ld k2) ?_
      refine h_t rfl x_mv ?_
      refine h_t rfl x_nc ?_
      refine h_t rfl (x_fa f68_4) ?_
      refine h_t rfl (x_ld k2) ?_
      refine h_end ?_
      refine a_seg (k := 9) _ [(1, 8)] (by kernel_rfl) (HWk.refl _) ?_
      refine h_t rfl (x_add (z := (r.pos : Int)) (hz := (w_i64 (by omega)).trans (by omega))) ?_
      refine h_end ?_
      refine a_seg (k := 10) _ [(1, 9)] (by kernel_rfl) (HWk.refl _) ?_
      refine h_t rfl x_nc ?_
      refine h_end ?_
      refine a_seg (k := 11) _ [(1, 10)] (by kernel_rfl) (HWk.refl _) ?_
      refine h_t rfl (x_fa f82_3) ?_
      refine h_end ?_
      refine a_seg (k := 12) _ [(0, 11)] (by kernel_rfl) hwk_nil ?_
      refine h_one rfl (fun Q' hQ => ?_)
      refine o_st k2 ?_
      refine o_nil (hQ _ _ (h_keep ?_))
      refine h_end ?_
      refine a_done rfl ?_
      refine w_region ?_
      refine o_t x_mv ?_
      refine o_t x_mv ?_
      refine o_t x_nc ?_
      refine o_t (x_fa f68_1) ?_
      refine o_t (x_ld k65) ?_
      refine o_t x_mv ?_
      refine o_bs1 Tryz.underlying65 z69 (fun b => ?_)
      refine o_app info69 Tryz.underlying65 rfl hO (pulla) (Rd.all.pull .head) rfl (by simp [Value.oneCell']) (by simp [maxLen]; omega) (by omega) (fun v' r' hO' => ?_)
      refine o_t x_nc ?_
      refine o_t (x_fa f68_1) ?_
      refine o_st k65 ?_ (h1 := hO'.one)
      refine o_nil ?_
      refine ⟨(j + 1, v', ps ++ [.pointer (some ⟨b95, 0, none⟩)], r', fr ++ (fileH b95 r.h (nonT r.h) w e l xv (.pointer (some ⟨zb, 0, none⟩)) zi r.pos ++ xr), K'), wka, ?_, ⟨by dsimp only; omega, hO', ?_, by dsimp only; exact hS'⟩, by dsimp only; omega⟩
      · dsimp only
        exact HWk.trans (B := [zrB zb zi v' c, dirEB db 0 0 rs.length (dirG rs).length body.length c, r', fr, fileH b95 r.h (nonT r.h) w e l xv (.pointer (some ⟨zb, 0, none⟩)) zi r.pos, xr, K']) hka (hflat (by simp))
      · dsimp only
        rw [List.take_add_one, hr]
        exact FilesR.snoc ⟨b95, w, e, l, xv, xr, rfl, hsl', rfl⟩ hF
    · obtain rfl : j = rs.length := by omega
      rw [List.take_length] at hF hS
      have hlen22 : (s.drop (body.length + (dirG rs).length)).length = 22 + c.length := by rw [List.length_drop]; omega
      have cds := cDirStop gl 183 (.pointer (some ⟨br, 0, none⟩)) _ _ _ RB _ K hS (by intro h0; rw [h0] at hlen22; simp at hlen22; omega) ((Has.drop1 (by omega)).2 (by simpa using hen.sig)) (.pointer (some ⟨b95, 0, none⟩))
      refine w_seq ?_
      refine w_region ?_
      refine o_t x_mv ?_
      refine o_t x_mv ?_
      refine o_t x_p ?_
      refine o_call Tryz.call77 haa spla (cds) ?_
      rintro _ _ HH ⟨hv, K', rem', hS', rfl⟩ hHH
      simp only [List.cons_append, List.nil_append, List.append_nil] at hHH; subst hHH
      refine o_t x_as ?_
      refine o_nil ?_
      refine w_seq ?_
      refine w_seq ?_
      have hpost : HWk [K', zrB zb zi fv c, dirEB db 0 0 rs.length (dirG rs).length body.length c, ro, fr] [zrB zb zi fv c, dirEB db 0 0 rs.length (dirG rs).length body.length c, ro, fr, srB rb s] := by
        obtain ⟨r, w, bc, lb, lr, pend, rem0, k0, _, _, _, _, _, _, ⟨off, _, _, rfl⟩, rfl⟩ := hS'
        exact HWk.trans (B := [brB br bb 164 (.pointer (some ⟨sb, 0, none⟩)) r w .nilIface lb lr, pt bb bc 5, secB sb rb 0 off s.length s.length, srB rb s, zrB zb zi fv c, dirEB db 0 0 rs.length (dirG rs).length body.length c, ro, fr]) (hflat (by simp)) hka
      rcases hv with rfl | rfl
      · refine w_region ?_
        refine o_t x_mv ?_
        refine o_t (x_err 2 gl) ?_
        refine o_t (x_eqe 2 2 gl) ?_
        refine o_t x_mv ?_
        first | refine o_t (x_g x_mv) ?_ | refine o_t x_gs ?_ | refine o_t x_gu ?_
        first | refine o_t (x_g (x_err 5 gl)) ?_ | refine o_t x_gs ?_ | refine o_t x_gu ?_
        first | refine o_t x_gs ?_ | refine o_t x_gu ?_
        refine o_t x_pick ?_
        refine o_nil ?_
        refine w_cond (t := true) (fun g => rfl) (fun hc => ?_) (fun hc => ?_) -- ('Go.Operand.tmp', 107)
        · --
          refine w_exit ?_ -- 0
          exact ⟨(fv, ps, ro, fr), wka, HWk.trans (B := [K', zrB zb zi fv c, dirEB db 0 0 rs.length (dirG rs).length body.length c, ro, fr]) hka hpost, hO, hF⟩
        · cases hc
      · refine w_region ?_
        refine o_t x_mv ?_
        refine o_t (x_err 2 gl) ?_
        refine o_t (x_eqe 5 2 gl) ?_
        refine o_t x_mv ?_
        first | refine o_t (x_g x_mv) ?_ | refine o_t x_gs ?_ | refine o_t x_gu ?_
        first | refine o_t (x_g (x_err 5 gl)) ?_ | refine o_t x_gs ?_ | refine o_t x_gu ?_
        first | refine o_t (x_g (x_eqe 5 5 gl)) ?_ | refine o_t x_gs ?_ | refine o_t x_gu ?_
        refine o_t x_pick ?_
        refine o_nil ?_
        refine w_cond (t := true) (fun g => rfl) (fun hc => ?_) (fun hc => ?_) -- ('Go.Operand.tmp', 107)
        · --
          refine w_exit ?_ -- 0
          exact ⟨(fv, ps, ro, fr), wka, HWk.trans (B := [K', zrB zb zi fv c, dirEB db 0 0 rs.length (dirG rs).length body.length c, ro, fr]) hka hpost, hO, hF⟩
        · cases hc
  rintro ⟨fv, ps, ro, fr⟩ ⟨hO, hF⟩
  dsimp only at hO hF ⊢
  obtain ⟨fa, fc, hfv⟩ := hO.len
  refine w_seq ?_
  refine w_seq ?_
  refine w_quiet mixed (by kernel_rfl) ?_
  refine q_t x_mv ?_
  refine q_t x_nc ?_
  refine q_t (x_fa f68_1) ?_
  refine q_t (x_ld k65) ?_
  refine q_t (x_lenb Tryz.underlying65 (hx := fun g => by subst hfv; rfl)) ?_
  refine q_t (x_cv ⟨_, Tryz.underlying3⟩ Tryz.underlying72) ?_
  refine q_t x_mv ?_
  refine q_t x_nc ?_
  refine q_t (x_fa f181_3) ?_
  refine q_t (x_ld k73) ?_
  refine q_t (x_cv ⟨_, Tryz.underlying73⟩ Tryz.underlying72) ?_
  refine q_t x_ne ?_
  refine q_nil ?_
  refine w_cond (t := false) (fun g => rfl) (fun hc => ?_) (fun hc => ?_) -- ('Go.Operand.tmp', 143)
  · cases hc
  refine w_skip ?_
  refine w_seq ?_
  refine w_region ?_
  refine o_t x_as ?_
  refine o_nil ?_
  refine w_ret (r_1 rfl ⟨rfl, fv, ps, ro, fr, hO, hF, rfl⟩)
theorem cNewReader (gl : Glob G ea) (rb : Nat) (s body : List UInt8) (rs : List ZR) (c : List UInt8) (z : Zip s body rs c) :
    Fn P G 27 #[.iface 61 (.pointer (some ⟨rb, 0, none⟩)), .int .i64 s.length] [srB rb s] fun v H => ∃ zb fv ps ro fr, v = .tuple #[.pointer (some ⟨zb, 0, none⟩), .nilIface] ∧ Own 69 1 fv rs.length ps ro ∧
      FilesR G (.pointer (some ⟨zb, 0, none⟩)) (.iface 61 (.pointer (some ⟨rb, 0, none⟩))) rs ps fr ∧ H = [zrB zb (.iface 61 (.pointer (some ⟨rb, 0, none⟩))) fv c, ro, fr, srB rb s] := by
  have hl := z.len
  refine fn_intro (args := [_,_]) Tryz.func27 Tryz.ntmps27 rfl ?_
  refine w_seq ?_
  refine w_region ?_
  refine o_t x_as ?_
  refine o_t x_as ?_
  refine o_nil ?_
  refine w_seq ?_
  refine w_seq ?_
  refine w_region ?_
  refine o_t x_mv ?_
  refine o_t x_cmp ?_
  refine o_nil ?_
  refine w_cond (t := false) (fun g => rfl) (fun hc => ?_) (fun hc => ?_) -- ('Go.Operand.tmp', 9)
  · cases hc
  refine w_skip ?_
  refine w_seq ?_
  refine w_region ?_
  refine o_al z68 (fun b11 => ?_)
  refine o_t x_as ?_
  refine o_nil ?_
  refine w_seq ?_
  refine w_region ?_
  refine o_t x_as ?_
  refine o_nil ?_
  refine w_seq ?_
  refine w_seq ?_
  refine w_region ?_
  refine o_t x_mv ?_
  refine o_t x_mv ?_
  refine o_t x_mv ?_
  refine o_call Tryz.call51 haa spla (cInit gl rb b11 s body rs c z) ?_
  rintro _ _ HH ⟨rfl, fv, ps, ro, fr, hO, hF, rfl⟩ hHH
  simp only [List.cons_append, List.nil_append, List.append_nil] at hHH; subst hHH
  refine o_t x_as ?_
  refine o_nil ?_
  refine w_seq ?_
  refine w_region ?_
  refine o_t x_mv ?_
  first | refine o_t (x_inil Tryz.underlying58) ?_ | refine o_t (x_isome Tryz.underlying58) ?_
  refine o_t x_mv ?_
  first | refine o_t (x_g x_mv) ?_ | refine o_t x_gs ?_ | refine o_t x_gu ?_
  first | refine o_t (x_g (x_err 0 gl)) ?_ | refine o_t x_gs ?_ | refine o_t x_gu ?_
  first | refine o_t x_gs ?_ | refine o_t x_gu ?_
  refine o_t x_pick ?_
  refine o_nil ?_
  refine w_cond (t := false) (fun g => rfl) (fun hc => ?_) (fun hc => ?_) -- ('Go.Operand.tmp', 22)
  · cases hc
  refine w_skip ?_
  refine w_seq ?_
  refine w_region ?_
  refine o_t x_mv ?_
  refine o_t x_mv ?_
  refine o_t x_as ?_
  refine o_t x_as ?_
  refine o_nil ?_
  refine w_ret (r_2 rfl ⟨b11, fv, ps, ro, fr, rfl, hO, hF, rfl⟩)
end Go.Proofs.YtlmefkhglooepaaGreatDoor
