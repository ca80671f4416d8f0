/- The arguments: what is read is a list of files. The arguments, opened. The variables that the row lists. What the row lists is what the walk asks. The call, for every argument and every world that the row lets in. A world that the row lets in. -/
import Derived.Test.YtlmefkhglooepaaGreatDoorPart13
import Derived.ChangeSame
import Derived.OpenShut
import Derived.Deep.Slices
import Derived.Carry
import Derived.Test.YtlmefkhglooepaaGreatDoorRows
import Derived.LaidLaws
import Derived.Lib.LaidTab
import Derived.Stop.LaidErr
import Derived.RowKit
import Derived.JoinedOf
import Derived.Deep.DeepHandedRow
import Derived.Deep.DeepWitnessRowRef
import Derived.Deep.DeepLaidRun
set_option linter.unusedSimpArgs false
set_option linter.unusedVariables false
namespace Go.Proofs.YtlmefkhglooepaaGreatDoor
open Go
set_option linter.unusedSimpArgs false
set_option linter.unusedVariables false
theorem co9 : P.cellsOf 9 = 1 := by kernel_rfl
theorem co4 : P.cellsOf 4 = 1 := by kernel_rfl
theorem co3 : P.cellsOf 3 = 1 := by kernel_rfl
theorem co36 : P.cellsOf 36 = 14 := by kernel_rfl
theorem co38 : P.cellsOf 38 = 15 := by kernel_rfl
section
variable {H : Type} {enc : TypeId × Value → H} {w : World} {base : Nat} {spare : Nat → Bool} {held : Bool}
/-- A field of one cell. -/
theorem fld {n : Nat} {t : TypeId} {cs : List Value} {xs : List (DataW H × List MemPlace)} {i off : Nat} {v : Value} (hl : i < xs.length)
    (h : DataW.trod enc P w base spare held n t ((cs.drop off).take (P.cellsOf t)) = xs[i]?) (hc : P.cellsOf t = 1) (hv : cs[off]? = some v) : ∃ y, DataW.trod enc P w base spare held n t [v] = some y := by
  obtain ⟨hlt, hv'⟩ := List.getElem?_eq_some_iff.1 hv
  have e : (cs.drop off).take (P.cellsOf t) = [v] := by
    rw [hc, List.drop_eq_getElem_cons hlt, hv', List.take_succ_cons, List.take_zero]
  rw [e, List.getElem?_eq_getElem hl] at h
  exact ⟨xs[i], h⟩
theorem fldS {n : Nat} {v : Value} (h : ∃ y, DataW.trod enc P w base spare held n 9 [v] = some y) : ∃ l, v = .string (str l) := by
  obtain ⟨y, h⟩ := h
  obtain ⟨s, h1, -⟩ := DataW.trod_string Tryz.underlying9 h
  cases h1
  exact ⟨s.data.toList, by rw [str_of]⟩
theorem fldB {n : Nat} {v : Value} (h : ∃ y, DataW.trod enc P w base spare held n 4 [v] = some y) : ∃ b, v = .bool b := by
  obtain ⟨y, h⟩ := h
  obtain ⟨b, h1, -⟩ := DataW.trod_bool Tryz.underlying4 h
  cases h1
  exact ⟨b, rfl⟩
theorem fldI {n : Nat} {v : Value} (h : ∃ y, DataW.trod enc P w base spare held n 3 [v] = some y) : ∃ z, v = .int .i64 z := by
  obtain ⟨y, h⟩ := h
  obtain ⟨z, h1, -⟩ := DataW.trod_int Tryz.underlying3 h
  cases h1
  exact ⟨z, rfl⟩
theorem len14 (cs : List Value) (h : cs.length = 14) : ∃ a b c d e f g i j k l m n o, cs = [a, b, c, d, e, f, g, i, j, k, l, m, n, o] := by
  match cs, h with
  | [a, b, c, d, e, f, g, i, j, k, l, m, n, o], _ => exact ⟨a, b, c, d, e, f, g, i, j, k, l, m, n, o, rfl⟩
theorem read_hd {fuel : Nat} {cs : List Value} {x : DataW H × List MemPlace} (h : DataW.trod enc P w base spare held fuel 36 cs = some x) : ∃ h : Hd, cs = hdC h := by
  obtain ⟨xs, n, -, -, hl, hx, hf⟩ := DataW.trod_struct Tryz.underlying36 h
  rw [co36] at hl
  obtain ⟨a, b, c, d, e, f, g, i, j, k, l, m, o, q, rfl⟩ := len14 cs hl
  have hx14 : xs.length = 14 := hx
  obtain ⟨s0, rfl⟩ := fldS (fld (i := 0) (by omega) (hf 0 _ rfl) co9 rfl)
  obtain ⟨s1, rfl⟩ := fldS (fld (i := 1) (by omega) (hf 1 _ rfl) co9 rfl)
  obtain ⟨s2, rfl⟩ := fldS (fld (i := 2) (by omega) (hf 2 _ rfl) co9 rfl)
  obtain ⟨b3, rfl⟩ := fldB (fld (i := 3) (by omega) (hf 3 _ rfl) co4 rfl)
  obtain ⟨z4, rfl⟩ := fldI (fld (i := 4) (by omega) (hf 4 _ rfl) co3 rfl)
  obtain ⟨z5, rfl⟩ := fldI (fld (i := 5) (by omega) (hf 5 _ rfl) co3 rfl)
  obtain ⟨z6, rfl⟩ := fldI (fld (i := 6) (by omega) (hf 6 _ rfl) co3 rfl)
  obtain ⟨z7, rfl⟩ := fldI (fld (i := 7) (by omega) (hf 7 _ rfl) co3 rfl)
  obtain ⟨z8, rfl⟩ := fldI (fld (i := 8) (by omega) (hf 8 _ rfl) co3 rfl)
  obtain ⟨z9, rfl⟩ := fldI (fld (i := 9) (by omega) (hf 9 _ rfl) co3 rfl)
  obtain ⟨z10, rfl⟩ := fldI (fld (i := 10) (by omega) (hf 10 _ rfl) co3 rfl)
  obtain ⟨z11, rfl⟩ := fldI (fld (i := 11) (by omega) (hf 11 _ rfl) co3 rfl)
  obtain ⟨z12, rfl⟩ := fldI (fld (i := 12) (by omega) (hf 12 _ rfl) co3 rfl)
  obtain ⟨z13, rfl⟩ := fldI (fld (i := 13) (by omega) (hf 13 _ rfl) co3 rfl)
  exact ⟨⟨s0, s1, s2, b3, z4, z5, z6, z7, z8, z9, z10, z11, z12, z13⟩, rfl⟩
theorem read_en {fuel : Nat} {cs : List Value} {x : DataW H × List MemPlace} (h : DataW.trod enc P w base spare held fuel 38 cs = some x) : ∃ e : En, cs = enC e := by
  obtain ⟨xs, n, -, -, hl, hx, hf⟩ := DataW.trod_struct Tryz.underlying38 h
  rw [co38] at hl
  have hx2 : xs.length = 2 := hx
  have h0 : DataW.trod enc P w base spare held n 36 ((cs.drop 0).take (P.cellsOf 36)) = xs[0]? := hf 0 _ rfl
  rw [List.getElem?_eq_getElem (by omega), List.drop_zero, co36] at h0
  obtain ⟨hd, hh⟩ := read_hd h0
  obtain ⟨s, hs⟩ := fldS (fld (i := 1) (off := 14) (t := 9) (v := cs[14]) (by omega) (hf 1 _ rfl) co9 (List.getElem?_eq_getElem (by omega)))
  refine ⟨⟨hd, s⟩, ?_⟩
  rw [enC, ← hh]
  apply List.ext_getElem?
  intro i
  by_cases hi : i < 14
  · rw [List.getElem?_append_left (by rw [List.length_take]; omega), List.getElem?_take, if_pos hi]
  · rw [List.getElem?_append_right (by rw [List.length_take]; omega), List.length_take, hl]
    by_cases h14 : i = 14
    · subst h14
      simp [List.getElem?_eq_getElem (show 14 < cs.length by omega), hs]
    · rw [List.getElem?_eq_none (by omega), List.getElem?_eq_none (by simp; omega)]
theorem cells_at {a : Addr} (ha : a.spot = none) {n : Nat} {cs : List Value} (h : w.cells? 0 a n = some cs) : cs.length = n ∧ ∀ j v, cs[j]? = some v → w.cell? ⟨a.block, a.off + j, none⟩ = some v := by
  obtain ⟨h1, h2, h3⟩ := World.cells?_some h
  refine ⟨h2, fun j v hj => ?_⟩
  have hjl : j < n := by rw [← h2]; exact (List.getElem?_eq_some_iff.1 hj).1
  have h4 := h3 j hjl
  rw [hj] at h4
  rw [← h4]
  congr 1
  cases a with
  | mk b o s =>
    simp only at ha
    subst ha
    simp only [Addr.add]
    split
    · subst_vars; rfl
    · rfl
end
end Go.Proofs.YtlmefkhglooepaaGreatDoor
namespace Go.Proofs.YtlmefkhglooepaaGreatDoor
open Go
set_option linter.unusedSimpArgs false
set_option linter.unusedVariables false
set_option maxRecDepth 100000
theorem choose_list {α : Type} {n : Nat} {p : Nat → α → Prop} (h : ∀ i, i < n → ∃ x, p i x) : ∃ l : List α, l.length = n ∧ ∀ i x, l[i]? = some x → p i x := by
  induction n with
  | zero => exact ⟨[], rfl, fun i x h => by simp at h⟩
  | succ n ih =>
    obtain ⟨l, hl, hp⟩ := ih (fun i hi => h i (by omega))
    obtain ⟨x, hx⟩ := h n (by omega)
    refine ⟨l ++ [x], by simp [hl], fun i y hy => ?_⟩
    by_cases hi : i < n
    · rw [List.getElem?_append_left (by omega)] at hy
      exact hp i y hy
    · rw [List.getElem?_append_right (by omega)] at hy
      by_cases hin : i = n
      · subst hin
        simp [hl] at hy
        subst hy
        exact hx
      · rw [List.getElem?_eq_none (by simp; omega)] at hy
        cases hy
section
variable {H : Type} {enc : TypeId × Value → H} {W : World}
theorem slice_ok {base : Nat} {v : Value} (h : Value.okWide P W .any base 22 v) : v = .slice none 0 0 ∨ ∃ a len cap, v = .slice (some a) len cap ∧ a.spot = none := by
  unfold Value.okWide at h
  rw [Tryz.underlying22] at h
  simp only [Cell.okWide, Tryz.underlying22, Cell.ok] at h
  split at h <;> first | (cases h; done) | skip
  all_goals first
    | exact .inl rfl
    | (obtain ⟨-, -, -, h, -⟩ := h; exact .inr ⟨_, _, _, rfl, h⟩)
    | simp_all
theorem arr_of {base : Nat} {v : Value} {d : DataW H} {p : List MemPlace} (h : DataW.Trod enc P W 0 (fun _ => true) true 22 v d p) (hv : Value.okWide P W .any base 22 v) :
    ∃ l : List En, Arr (fun b => W.heap[b]?) [] v 15 l.length (entsC l) := by
  obtain ⟨fuel, h⟩ := h
  rcases slice_ok hv with rfl | ⟨a, len, cap, rfl, ha⟩
  · exact ⟨[], rfl, .inl ⟨rfl, rfl⟩⟩
  · rcases Deep.open_slice Tryz.underlying22 h with ⟨h1, -⟩ | ⟨a', len', cap', m, n, D, Pl, h1, -, hlc, -, hm, -, hx⟩
    · cases h1
    · have h2 : a' = a ∧ len' = len ∧ cap' = cap := by
        have : [Value.slice (some a) len cap] = [Value.slice (some a') len' cap'] := h1
        injection this with h3
        injection h3 with h4 h5 h6
        injection h4 with h4
        exact ⟨h4.symm, h5.symm, h6.symm⟩
      obtain ⟨rfl, rfl, rfl⟩ := h2
      rw [if_pos rfl] at hm
      rw [co38] at hx
      have key : ∀ i, i < len' → ∃ e : En, ∀ j v, (enC e)[j]? = some v → W.cell? ⟨a'.block, a'.off + (i * 15 + j), none⟩ = some v := by
        intro i hi
        obtain ⟨cs', h3, h4⟩ := hx i (by omega)
        obtain ⟨e, rfl⟩ := read_en h4
        refine ⟨e, fun j v hj => ?_⟩
        have hs : (a'.add (i * 15)).spot = none := by unfold Addr.add; split <;> simp [ha]
        have h5 := (cells_at hs h3).2 j v hj
        rw [← h5]
        congr 1
        unfold Addr.add
        split
        · next h0 => rw [h0, Nat.zero_add]
        · simp [Nat.add_assoc]
      obtain ⟨l, hl, hp⟩ := choose_list key
      refine ⟨l, entsC_length l, .inr ⟨a'.block, a'.off, cap', ?_, by omega, ?_⟩⟩
      · cases a' with
        | mk b o s => simp only at ha; subst ha; rw [hl]
      · intro F w hF hs k v hk
        have hkl : k < l.length * 15 := by rw [← entsC_length]; exact (List.getElem?_eq_some_iff.1 hk).1
        have hi : k / 15 < l.length := by omega
        have he := List.getElem?_eq_getElem hi
        have hj : k % 15 < (enC l[k / 15]).length := by rw [enC_length]; omega
        have hg := ents_get l (k / 15) l[k / 15] he (k % 15) _ (List.getElem?_eq_getElem hj)
        rw [show k / 15 * 15 + k % 15 = k by omega, hk] at hg
        have h6 := hp (k / 15) _ he (k % 15) _ (List.getElem?_eq_getElem hj)
        rw [← hg, show k / 15 * 15 + k % 15 = k by omega] at h6
        cases hb : W.heap[a'.block]? with
        | none => simp [World.cell?, hb] at h6
        | some o =>
          have hb' := hs.frame a'.block o (hF a'.block o hb)
          rw [← h6]
          simp only [World.cell?, hb, hb']
end
end Go.Proofs.YtlmefkhglooepaaGreatDoor
namespace Go.Proofs.YtlmefkhglooepaaGreatDoor
open Go
set_option linter.unusedSimpArgs false
set_option linter.unusedVariables false
set_option maxRecDepth 100000
theorem star : "*" ++ "errors.errorString" = "*errors.errorString" := by decide
theorem row174 (u : TypeId) (h : P.typeName? 3 u = some "*errors.errorString") : u = 174 :=
  typeName_ptr_named (nm := "errors.errorString") (by rw [star]; kernel_rfl) (by kernel_rfl) (by decide) u (by rw [star]; exact h)
theorem co176 : P.cellsOf 176 = 1 := by kernel_rfl
abbrev sentD (text : List UInt8) : DataW Unit := .iface "*errors.errorString" (.ptr (.agg [.lit (.string text)]))
abbrev Sen := String × Nat × List UInt8
abbrev datS (x : Sen) : String × DataW Unit := (x.1, sentD x.2.2)
def Rows1 (W : World) (ps : List MemPlace) : Prop := ∀ b off, MemPlace.cell b off ∈ ps → (∃ c t, W.heap[b]? = some (.cells c t (0, 0))) ∧ ∀ u v, W.cell? ⟨b, off, none⟩ = some (.iface u v) → Value.okWide P W .any 0 u v
theorem sent1 {W : World} {n : String} {g : Nat} {text : List UInt8} {r : List (String × DataW Unit)} {ps : List MemPlace} (hg : P.globalNamed n = some g) (ht : (P.globals[g]?).map (·.type) = some 58)
    (hv : DataW.LaidVars P W ((n, sentD text) :: r) ps) (hrows : Rows1 W ps) :
    ∃ a pre q, W.var? P n = some #[.iface 174 (.pointer (some a))] ∧ DataW.LaidVars P W r q ∧ ps = pre ++ q ∧ MemPlace.cell a.block a.off ∈ pre := by
  obtain ⟨g0, t0, cs0, f0, p0, q0, hg0, ht0, hv0, hd0, hq, e0⟩ := hv
  obtain rfl := Option.some.inj (hg.symm.trans hg0)
  obtain rfl := Option.some.inj (ht.symm.trans ht0)
  subst e0
  obtain ⟨l0⟩ := cs0
  have ok0 : ∀ u v, l0 = [.iface u v] → Value.okWide P W .any 0 u v := fun u v e => by
    subst e
    exact (hrows g 0 (by simp [MemPlace.row])).2 u v (by simpa using World.var?_cell hg0 hv0 0)
  obtain ⟨a0, s0, rfl, hc0, hs0, hz0, rfl⟩ := errorString_of_trod Tryz.underlying58 row174 Tryz.underlying174 Tryz.underlying176 rfl rfl Tryz.underlying9 co176 co9 hd0 ok0
  exact ⟨a0, _, q0, hv0, hq, rfl, by simp [MemPlace.row]⟩
theorem sents {W : World} : ∀ (L : List Sen) (rest : List (String × DataW Unit)) (ps : List MemPlace), (∀ x ∈ L, P.globalNamed x.1 = some x.2.1 ∧ (P.globals[x.2.1]?).map (·.type) = some 58) →
    DataW.LaidVars P W (L.map datS ++ rest) ps → ps.Nodup → Rows1 W ps →
    ∃ al : List Addr, al.length = L.length ∧ (∀ (i : Nat) x a, L[i]? = some x → al[i]? = some a → W.var? P x.1 = some #[.iface 174 (.pointer (some a))]) ∧
      (al.map fun a => MemPlace.cell a.block a.off).Nodup ∧ (∀ a ∈ al, MemPlace.cell a.block a.off ∈ ps) ∧ ∃ q, DataW.LaidVars P W rest q
  | [], rest, ps, _, hv, _, _ => ⟨[], rfl, fun i x a h => by simp at h, by simp, by simp, ps, hv⟩
  | x :: L, rest, ps, hL, hv, hnd, hrows => by
    obtain ⟨a, pre, q, h1, h2, rfl, h4⟩ := sent1 (hL x (.head _)).1 (hL x (.head _)).2 hv hrows
    have hnd' := List.nodup_append.1 hnd
    obtain ⟨al, k1, k2, k3, k4, k5⟩ := sents L rest q (fun y hy => hL y (.tail _ hy)) h2 hnd'.2.1 (fun b off hm => hrows b off (List.mem_append_right _ hm))
    refine ⟨a :: al, by simp [k1], fun i y b hy hb => ?_, ?_, ?_, k5⟩
    · cases i with
      | zero => simp at hy hb; subst hy hb; exact h1
      | succ i => exact k2 i y b (by simpa using hy) (by simpa using hb)
    · rw [List.map_cons, List.nodup_cons]
      refine ⟨fun hm => ?_, k3⟩
      obtain ⟨b, hb, he⟩ := List.mem_map.1 hm
      exact hnd'.2.2 _ h4 _ (k4 b hb) he.symm
    · intro b hb
      rcases List.mem_cons.1 hb with rfl | hb
      · exact List.mem_append_left _ h4
      · exact List.mem_append_right _ (k4 b hb)
theorem var_heap {W : World} {n : String} {g : Nat} {cs : Array Value} (hg : P.globalNamed n = some g) (h : W.var? P n = some cs) : ∃ T fz, W.heap[g]? = some (.cells cs T fz) := by
  unfold World.var? at h
  rw [hg, Option.bind_some] at h
  split at h
  · next c T fz he => cases h; exact ⟨T, fz, he⟩
  · cases h
end Go.Proofs.YtlmefkhglooepaaGreatDoor
namespace Go.Proofs.YtlmefkhglooepaaGreatDoor
open Go
set_option linter.unusedSimpArgs false
set_option linter.unusedVariables false
set_option maxRecDepth 100000
def senL : List Sen := [("io.ErrShortWrite", 10, [115, 104, 111, 114, 116, 32, 119, 114, 105, 116, 101]), ("io.ErrShortBuffer", 13, [115, 104, 111, 114, 116, 32, 98, 117, 102, 102, 101, 114]), ("io.EOF", 3, [69, 79, 70]),
  ("io.ErrUnexpectedEOF", 5, [117, 110, 101, 120, 112, 101, 99, 116, 101, 100, 32, 69, 79, 70]), ("io.errWhence", 8, [83, 101, 101, 107, 58, 32, 105, 110, 118, 97, 108, 105, 100, 32, 119, 104, 101, 110, 99, 101]),
  ("io.errOffset", 9, [83, 101, 101, 107, 58, 32, 105, 110, 118, 97, 108, 105, 100, 32, 111, 102, 102, 115, 101, 116]),
  ("loop.example/pub-ziptheorem/pub/gozip.ErrFormat", 2, [122, 105, 112, 58, 32, 110, 111, 116, 32, 97, 32, 118, 97, 108, 105, 100, 32, 122, 105, 112, 32, 102, 105, 108, 101]),
  ("loop.example/pub-ziptheorem/pub/gozip.ErrAlgorithm", 1, [122, 105, 112, 58, 32, 117, 110, 115, 117, 112, 112, 111, 114, 116, 101, 100, 32, 99, 111, 109, 112, 114, 101, 115, 115, 105, 111, 110, 32, 97, 108, 103, 111, 114, 105, 116, 104, 109]),
  ("loop.example/pub-ziptheorem/pub/gozip.ErrChecksum", 4, [122, 105, 112, 58, 32, 99, 104, 101, 99, 107, 115, 117, 109, 32, 101, 114, 114, 111, 114]),
  ("loop.example/pub-ziptheorem/pub/gozip.ErrInsecurePath", 0, [122, 105, 112, 58, 32, 105, 110, 115, 101, 99, 117, 114, 101, 32, 102, 105, 108, 101, 32, 112, 97, 116, 104]),
  ("loop.example/pub-ziptheorem/pub/gozip.errLongName", 6, [122, 105, 112, 58, 32, 70, 105, 108, 101, 72, 101, 97, 100, 101, 114, 46, 78, 97, 109, 101, 32, 116, 111, 111, 32, 108, 111, 110, 103]),
  ("loop.example/pub-ziptheorem/pub/gozip.errLongExtra", 7, [122, 105, 112, 58, 32, 70, 105, 108, 101, 72, 101, 97, 100, 101, 114, 46, 69, 120, 116, 114, 97, 32, 116, 111, 111, 32, 108, 111, 110, 103])]
theorem laid_split : Rows.fnZipRow.laid = ("unicode/utf8.acceptRanges", Rows.laid_unicode_utf8_acceptRanges) :: (senL.map datS ++ [("unicode/utf8.first", Rows.laid_unicode_utf8_first)]) := rfl
theorem senNames : ∀ x ∈ senL, P.globalNamed x.1 = some x.2.1 ∧ (P.globals[x.2.1]?).map (·.type) = some 58 := by
  intro x hx
  simp only [senL, List.mem_cons, List.mem_nil_iff, or_false] at hx
  rcases hx with rfl | rfl | rfl | rfl | rfl | rfl | rfl | rfl | rfl | rfl | rfl | rfl <;> exact ⟨by kernel_rfl, by kernel_rfl⟩
/-- Where a variable stands in the list. -/
def posS (k : Nat) : Nat := senL.findIdx (fun x => x.2.1 == k)
theorem posS_lt : ∀ k, (k ≤ 10 ∨ k = 13) → posS k < 12 := by
  intro k hk
  have h : ∀ k, k < 14 → (k ≤ 10 ∨ k = 13) → posS k < 12 := by decide
  exact h k (by omega) hk
theorem posS_inj : ∀ i j, (i ≤ 10 ∨ i = 13) → (j ≤ 10 ∨ j = 13) → posS i = posS j → i = j := by
  have h : ∀ i, i < 14 → ∀ j, j < 14 → (i ≤ 10 ∨ i = 13) → (j ≤ 10 ∨ j = 13) → posS i = posS j → i = j := by decide
  exact fun i j hi hj => h i (by omega) j (by omega) hi hj
theorem posS_get : ∀ k, (k ≤ 10 ∨ k = 13) → ∃ n t, senL[posS k]? = some (n, k, t) := by
  intro k hk
  have h : ∀ k, k < 14 → (k ≤ 10 ∨ k = 13) → (senL[posS k]?).map (fun x => x.2.1) = some k := by decide
  obtain ⟨x, h1, h2⟩ := Option.map_eq_some_iff.1 (h k (by omega) hk)
  exact ⟨x.1, x.2.2, by rw [h1, ← h2]⟩
theorem g12 : P.globalNamed "unicode/utf8.acceptRanges" = some 12 := by kernel_rfl
theorem g12t : (P.globals[12]?).map (·.type) = some 281 := by kernel_rfl
theorem g11 : P.globalNamed "unicode/utf8.first" = some 11 := by kernel_rfl
theorem g11t : (P.globals[11]?).map (·.type) = some 278 := by kernel_rfl
theorem co278 : P.cellsOf 278 = 256 := by kernel_rfl
theorem co280 : P.cellsOf 280 = 2 := by kernel_rfl
theorem co5 : P.cellsOf 5 = 1 := by kernel_rfl
theorem firstD : Rows.laid_unicode_utf8_first = Lib.tabData .u8 ((List.range 256).map fun a => (fstT a : Int)) := by
  kernel_rfl
theorem accept {W : World} {fuel : Nat} {cs : List Value} {p : List MemPlace} (h : DataW.trod (fun _ => ()) P W 0 (fun _ => true) false fuel 281 cs = some (Rows.laid_unicode_utf8_acceptRanges, p)) :
    ∀ i : Nat, i < 5 → cs[2 * i]? = some (.int .u8 (accLo i)) ∧ cs[2 * i + 1]? = some (.int .u8 (accHi i)) := by
  obtain ⟨xs, m, -, hx, hl, hxl, hf⟩ := DataW.trod_array Tryz.underlying281 h
  have h1 : xs.map (·.1) = (List.range 16).map fun i => if i < 5 then DataW.agg [.lit (.int .u8 (accLo i : Nat)), .lit (.int .u8 (accHi i : Nat))] else .agg [.lit (.int .u8 0), .lit (.int .u8 0)] := by
    have h2 := congrArg Prod.fst hx
    have h3 : (DataW.agg ((List.range 16).map fun i => if i < 5 then DataW.agg [.lit (.int .u8 (accLo i : Nat)), .lit (.int .u8 (accHi i : Nat))] else .agg [.lit (.int .u8 0), .lit (.int .u8 0)]) : DataW Unit) = DataW.agg (xs.map (·.1)) := h2
    injection h3 with h4
    exact h4.symm
  intro i hi
  have h5 := hf i (by omega)
  rw [co280, List.getElem?_eq_getElem (by omega)] at h5
  have h6 : xs[i].1 = DataW.agg [.lit (.int .u8 (accLo i : Nat)), .lit (.int .u8 (accHi i : Nat))] := by
    have := congrArg (fun z => z[i]?) h1
    simp only [List.getElem?_map, List.getElem?_eq_getElem (show i < xs.length by omega), List.getElem?_range (show i < 16 by omega), Option.map_some, if_pos hi, Option.some.injEq] at this
    exact this
  obtain ⟨y0, y1, n, hy, hc2, hy0, hy1⟩ := ChangeShapes.trod_struct2 Tryz.underlying280 h5
  have h7 : [y0.1, y1.1] = [DataW.lit (.int .u8 (accLo i : Nat)), DataW.lit (.int .u8 (accHi i : Nat))] := by
    rw [hy] at h6
    injection h6
  injection h7 with h8 h9
  injection h9 with h9 _
  rw [co280] at hc2
  have hb : ((cs.drop (i * 2)).take 2).length = 2 := hc2
  obtain ⟨n0, k0, k1, -⟩ := DataW.trod_int Tryz.underlying5 hy0
  obtain ⟨n1, m0, m1, -⟩ := DataW.trod_int Tryz.underlying5 hy1
  rw [k1] at h8
  rw [m1] at h9
  have e0 : n0 = (accLo i : Nat) := by injection h8 with h8; injection h8
  have e1 : n1 = (accHi i : Nat) := by injection h9 with h9; injection h9
  subst e0 e1
  have t0 : ((cs.drop (i * 2)).take 2)[0]? = some (.int .u8 (accLo i)) := by
    have := congrArg (fun z => z[0]?) k0
    simpa [co5] using this
  have t1 : ((cs.drop (i * 2)).take 2)[1]? = some (.int .u8 (accHi i)) := by
    have := congrArg (fun z => z[0]?) m0
    simpa [co5] using this
  rw [List.getElem?_take, if_pos (by omega), List.getElem?_drop] at t0 t1
  exact ⟨by rw [← t0]; congr 1; omega, by rw [← t1]; congr 1; omega⟩
theorem glob_of {W : World} (h : laidMet P Rows.fnZipRow.laid W) : ∃ ea, Glob (fun b => W.heap[b]?) ea := by
  rw [laid_split] at h
  obtain ⟨ps, ⟨ga, ta, csa, fa, pa, q0, hga, hta, hva, hda, hv, e0⟩, hnd, hrows⟩ := h
  obtain rfl := Option.some.inj (g12.symm.trans hga)
  obtain rfl := Option.some.inj (g12t.symm.trans hta)
  subst e0
  have hnd' := (List.nodup_append.1 hnd).2.1
  obtain ⟨al, k1, k2, k3, k4, qf, gf, tf, csf, ff, pf, qe, hgf, htf, hvf, hdf, hqe, ef⟩ := sents senL _ q0 senNames hv hnd' (fun b off hm => hrows b off (List.mem_append_right _ hm))
  obtain rfl := Option.some.inj (g11.symm.trans hgf)
  obtain rfl := Option.some.inj (g11t.symm.trans htf)
  have k1' : al.length = 12 := k1
  have hget : ∀ k, (k ≤ 10 ∨ k = 13) → ∃ a, al[posS k]? = some a := fun k hk => ⟨_, List.getElem?_eq_getElem (by rw [k1']; exact posS_lt k hk)⟩
  refine ⟨fun k => (al[posS k]?).getD default, ?_, ?_, ?_, ?_, ?_⟩
  · intro k hk
    obtain ⟨a, ha⟩ := hget k hk
    obtain ⟨n, t, hn⟩ := posS_get k hk
    have hv1 := k2 _ _ a hn ha
    obtain ⟨T, fz, hh⟩ := var_heap (senNames _ (List.mem_of_getElem? hn)).1 hv1
    exact ⟨T, fz, by rw [ha]; exact hh⟩
  · intro k hk
    obtain ⟨a, ha⟩ := hget k hk
    rw [ha]
    exact (hrows a.block a.off (List.mem_append_right _ (k4 a (List.mem_of_getElem? ha)))).1
  · obtain ⟨T, fz, hh⟩ := var_heap g11 hvf
    refine ⟨csf, T, fz, hh, fun a ha => ?_⟩
    rw [firstD] at hdf
    have hc := Lib.cells_of_tab Tryz.underlying278 Tryz.underlying5 co5 co278 hdf
    have h1 : csf.toList[a]? = some (.int .u8 (fstT a)) := by
      rw [hc]
      simp [List.getElem?_map, List.getElem?_range ha]
    simpa using h1
  · obtain ⟨T, fz, hh⟩ := var_heap g12 hva
    refine ⟨csa, T, fz, hh, fun i hi => ?_⟩
    have := accept hda i hi
    simpa using this
  · intro i j hi hj he
    obtain ⟨a, ha⟩ := hget i hi
    obtain ⟨b, hb⟩ := hget j hj
    simp only [ha, hb, Option.getD_some] at he
    subst he
    apply posS_inj i j hi hj
    obtain ⟨l1, e1⟩ := List.getElem?_eq_some_iff.1 ha
    exact (List.getElem?_inj (l := al.map fun a => MemPlace.cell a.block a.off) (by simpa using l1) k3).1 (by rw [List.getElem?_map, List.getElem?_map, ha, hb])
end Go.Proofs.YtlmefkhglooepaaGreatDoor
namespace Go.Proofs.YtlmefkhglooepaaGreatDoor
open Go Go.ChangeShapes Go.RowKit
set_option linter.unusedSimpArgs false
set_option linter.unusedVariables false
set_option maxRecDepth 100000
theorem laidOut : laidOutB P = true := by kernel_rfl
section
variable {H : Type} {enc : TypeId × Value → H} {W W' : World}
theorem tv_cons {n : String} {ns : List String} {gs : List (DataW H)} {ps : List MemPlace} {sp : Nat → Bool} (h : DataW.TrodVars enc P W sp (n :: ns) gs ps) : ∃ g gs' q, gs = g :: gs' ∧ DataW.TrodVars enc P W sp ns gs' q := by
  match gs, h with
  | g :: gs', ⟨_, _, _, _, _, q, _, _, _, _, h, _⟩ => exact ⟨g, gs', q, rfl, h⟩
theorem tv_nil {gs : List (DataW H)} {ps : List MemPlace} {sp : Nat → Bool} (h : DataW.TrodVars enc P W sp [] gs ps) : gs = [] := by
  match gs, h with
  | [], _ => rfl
theorem vars_stay {sp : Nat → Bool} (hb : Below W.heap.size W W') : ∀ {ns : List String} {gs : List (DataW H)} {ps : List MemPlace}, (∀ n ∈ ns, ∃ g, P.globalNamed n = some g ∧ (P.globals[g]?).map (·.type) = some 58) →
    DataW.TrodVars enc P W (fun _ => true) ns gs ps → (∀ x ∈ ps, x.block < W.heap.size) → (∀ x ∈ ps, sp x.block = true) → DataW.TrodVars enc P W' sp ns gs ps
  | [], [], _, _, h, _, _ => h
  | [], _ :: _, _, _, h, _, _ => h.elim
  | _ :: _, [], _, _, h, _, _ => h.elim
  | n :: ns, d :: ds, ps, hn, ⟨g, t, cs, fuel, p, q, h1, h2, h3, h4, hs, e⟩, hlt, hsp => by
    subst e
    obtain ⟨g', hg1, hg2⟩ := hn n (.head _)
    obtain rfl := Option.some.inj (hg1.symm.trans h1)
    obtain rfl := Option.some.inj (hg2.symm.trans h2)
    have hp : ∀ x ∈ p, x ∈ MemPlace.row ⟨g', 0, none⟩ cs.size ++ p ++ q := fun x hx => by simp [hx]
    have hq : ∀ x ∈ q, x ∈ MemPlace.row ⟨g', 0, none⟩ cs.size ++ p ++ q := fun x hx => by simp [hx]
    have h3' : W'.var? P n = some cs := by
      obtain ⟨T, fz, hh⟩ := var_heap h1 h3
      have := hb.block g' (Array.getElem?_eq_some_iff.1 hh).1
      unfold World.var?
      rw [h1, Option.bind_some, this, hh]
    have h4' : DataW.Trod enc P W 0 (fun _ => true) true 58 (.agg cs) d p := ⟨fuel, h4⟩
    obtain ⟨m, h5⟩ := WideElems.Trod_stays laidOut (by kernel_rfl) (of_decide_eq_true (by kernel_rfl)) h4' (fun x hx => hb.same (hlt x (hp x hx))) (fun x hx => hsp x (hp x hx))
    exact ⟨g', 58, cs, m, p, q, h1, h2, h3', h5, vars_stay hb (fun n h => hn n (.tail _ h)) hs (fun x hx => hlt x (hq x hx)) (fun x hx => hsp x (hq x hx)), rfl⟩
/-- What the law's word asks behind the call, where below the old memory's end nothing has turned. -/
theorem post_kept {f : Func} {s : ChangeSpec} {fresh handsOn again : Bool} {args : Array Value} {v : Value} {ds gs : List (DataW H)} {before pa pv : List MemPlace}
    (hW : DataW.Whole enc P f.params.toList s.vars false W args.toList ds gs before) (hps : before = pa ++ pv)
    (hres : ∀ (b : Nat) (sp : Nat → Bool) (hd : Bool), DataW.TrodAll enc P W' b sp hd f.resultTypes.toList (v.resultList f.resultTypes.size) (s.fn H (ds ++ gs)).results [])
    (hargs : ∀ sp : Nat → Bool, (∀ p ∈ before, sp p.block = true) → DataW.TrodAll enc P W' 0 sp true f.params.toList args.toList (s.fn H (ds ++ gs)).args pa)
    (hvars : ∀ sp : Nat → Bool, (∀ p ∈ before, sp p.block = true) → DataW.TrodVars enc P W' sp s.vars (s.fn H (ds ++ gs)).vars pv) (hb : Below W.heap.size W W')
    (hok : ∀ (j : Nat) (t : TypeId) (r : Value), f.resultTypes[j]? = some t → (v.resultList f.resultTypes.size)[j]? = some r → Value.okWide P W' .any 0 t r) :
    s.post enc P f false fresh handsOn again W args v W' := by
  have hlt := hW.lt
  have hold : ∀ p ∈ before, (fun b => decide (b < W.heap.size)) p.block = true := fun p hp => by simpa using hlt p hp
  have hin : ∀ p, p ∈ before → p ∈ pa ++ pv := fun p hp => hps ▸ hp
  refine ⟨ds, gs, before, [], pa, pv, hW, hres _ _ _, hargs _ hold, hvars _ hold, World.keptBut_mono (fun p hp => ⟨hp, .inr (List.mem_append.1 (hin p hp))⟩) (hb.frame (· ∈ before)), fun _ => ?_⟩
  obtain ⟨_, _, _, _, _, hz, hn⟩ := hW
  refine ⟨hok, _, _, ([] ++ pa) ++ pv, ⟨[] ++ pa, pv, trodAll_append (hargs _ (fun _ _ => rfl)) (hres _ _ _), hvars _ (fun _ _ => rfl), rfl, fun b off hp => ?_, fun h => by cases h⟩, fun p hp _ => by rw [hps]; simpa using hp⟩
  have hp' : MemPlace.cell b off ∈ before := by rw [hps]; simpa using hp
  rw [hb.frozen (p := ⟨b, off, none⟩) (hlt _ hp')]
  exact hz b off hp'
end
theorem contract (H : Type) (enc : TypeId × Value → H) (W : World) (base : Nat) (args : Array Value) (ds gs : List (DataW H)) (before : List MemPlace) (fresh handsOn again : Bool)
    (hval : ∀ (j : Nat) t v, Tryz.f3.params[j]? = some t → args[j]? = some v → Value.okWide P W .any base t v)
    (hW : DataW.Whole enc P Tryz.f3.params.toList Rows.fnZipSpec.vars false W args.toList ds gs before) (hL : laidMet P Rows.fnZipRow.laid W) :
    Calls P 3 args W fun e W' => ∃ v, e = .returned v ∧ Rows.fnZipSpec.post enc P Tryz.f3 false fresh handsOn again W args v W' := by
  have hW' := hW
  obtain ⟨p, q, hA0, hV, rfl, hfz, hnd⟩ := hW
  have hA : DataW.TrodAll enc P W 0 (fun _ => true) true Tryz.f3.params.toList args.toList ds p := hA0
  rw [Tryz.params3] at hA hval
  obtain ⟨v0, vs0, d0, ds0, p0, q0, hargs, rfl, rfl, h0, r0⟩ := trodAll_cons hA
  obtain ⟨v1, vs1, d1, ds1, p1, q1, rfl, rfl, rfl, h1, r1⟩ := trodAll_cons r0
  obtain ⟨rfl, rfl, rfl⟩ := trodAll_nil r1
  obtain rfl : args = #[v0, v1] := by cases args; simp_all
  obtain ⟨g1, gs1, z1, rfl, hV1⟩ := tv_cons hV
  obtain ⟨g2, gs2, z2, rfl, hV2⟩ := tv_cons hV1
  obtain ⟨g3, gs3, z3, rfl, hV3⟩ := tv_cons hV2
  obtain ⟨g4, gs4, z4, rfl, hV4⟩ := tv_cons hV3
  obtain ⟨g5, gs5, z5, rfl, hV5⟩ := tv_cons hV4
  obtain ⟨g6, gs6, z6, rfl, hV6⟩ := tv_cons hV5
  obtain rfl := tv_nil hV6
  obtain ⟨l, hl⟩ := arr_of h0 (hval 0 22 v0 rfl rfl)
  have h1k := h1
  obtain ⟨s, rfl, rfl, rfl, hs⟩ := _root_.Go.ChangeMaps.open_string Tryz.underlying9 (hval 1 9 v1 rfl rfl) h1
  obtain ⟨ea, gl⟩ := glob_of hL
  have hlt := hW'.lt
  have run := cFnZip gl v0 [] l s.data.toList hl ⟨fun b => W.heap[b]?, W.os, W.tape, W.output⟩ (fun b o h => h) W ⟨rfl, rfl, rfl, by simp, by simp, by simp, fun b o h => h⟩
  rw [str_of] at run
  refine Calls.mono run fun e W' ⟨v, H', he, hS, hv⟩ => ?_
  subst he hv
  have hb : Below W.heap.size W W' := by
    have hblk : ∀ k, k < W.heap.size → W'.heap[k]? = W.heap[k]? := fun k hk => by
      rw [Array.getElem?_eq_getElem hk]
      exact hS.frame k _ (Array.getElem?_eq_getElem hk)
    refine ⟨hS.os, hS.tape, hS.output, ?_, hblk⟩
    by_cases h0 : W.heap.size = 0
    · omega
    · have h1 := hblk (W.heap.size - 1) (by omega)
      have h2 := Array.getElem?_eq_getElem (xs := W.heap) (i := W.heap.size - 1) (by omega)
      rw [h2] at h1
      have h3 := (Array.getElem?_eq_some_iff.1 h1).1
      omega
  refine ⟨_, rfl, post_kept hW' rfl (fun b sp hd => trodAll_cons_mk (shut_bool Tryz.underlying4 true) trodAll_mk0) (fun sp hsp => ?_) (fun sp hsp => ?_) hb (ok_one (by kernel_rfl) rfl (okWide_bool_mk Tryz.underlying4 _))⟩
  · have k0 := WideElems.Trod_stays (W' := W') (sp' := sp) laidOut (by kernel_rfl) (of_decide_eq_true (by kernel_rfl)) h0 (fun x hx => hb.same (hlt x (by simp [hx]))) (fun x hx => hsp x (by simp [hx]))
    have k1 := WideElems.Trod_stays (W' := W') (sp' := sp) laidOut (by kernel_rfl) (of_decide_eq_true (by kernel_rfl)) h1k (fun x hx => by cases hx) (fun x hx => by cases hx)
    exact trodAll_cons_mk k0 (trodAll_cons_mk k1 trodAll_mk0)
  · refine vars_stay hb (fun n hn => ?_) hV (fun x hx => hlt x (by simp [hx])) (fun x hx => hsp x (by simp [hx]))
    simp only [Rows.fnZipSpec, List.mem_cons, List.mem_nil_iff, or_false] at hn
    rcases hn with rfl | rfl | rfl | rfl | rfl | rfl
    · exact ⟨0, by kernel_rfl, by kernel_rfl⟩
    · exact ⟨2, by kernel_rfl, by kernel_rfl⟩
    · exact ⟨1, by kernel_rfl, by kernel_rfl⟩
    · exact ⟨4, by kernel_rfl, by kernel_rfl⟩
    · exact ⟨6, by kernel_rfl, by kernel_rfl⟩
    · exact ⟨7, by kernel_rfl, by kernel_rfl⟩
end Go.Proofs.YtlmefkhglooepaaGreatDoor
namespace Go.Proofs.YtlmefkhglooepaaGreatDoor
open Go Go.ChangeShapes Go.RowKit
set_option linter.unusedSimpArgs false
set_option linter.unusedVariables false
set_option maxRecDepth 100000
theorem ownK : ownKnob P.godebug = none := by kernel_rfl
noncomputable def low : Nat := (World.holding P default ⟨#[], #[], []⟩).heap.size
def setG (hp : Array Obj) (g : Nat) (cs : Array Value) : Array Obj := hp.modify g fun
  | .cells _ t frozen => .cells cs t frozen
  | o => o
def u8s (l : List Nat) : Array Value := (l.map fun (z : Nat) => Value.int .u8 (z : Int)).toArray
noncomputable def laidHeap (h0 : Array Obj) : Array Obj :=
  let h1 := setG (setG h0 11 (u8s ((List.range 256).map fstT))) 12 (u8s [128, 191, 160, 191, 128, 159, 144, 191, 128, 143, 0, 0, 0, 0, 0, 0, 0, 0, 0, 0, 0, 0, 0, 0, 0, 0, 0, 0, 0, 0, 0, 0])
  (senL.zip (List.range 12)).foldl (fun hp x => setG hp x.1.2.1 #[.iface 174 (.pointer (some ⟨low + x.2, 0, none⟩))]) h1
/-- The settled one, the variables as their initialisers lay them. -/
noncomputable def laidWorld (os : Os) : World :=
  let w0 := World.holding P os ⟨(senL.map fun x => Obj.cells #[.string (str x.2.2)] 176).toArray, #[], []⟩
  { w0 with heap := laidHeap w0.heap }
noncomputable abbrev wArgs : Array Value := #[.slice none 0 0, .string (str [])]
noncomputable abbrev wMem (os : Os) : World := ((laidWorld os).forCall (fun _ _ => 0) ⟨#[], wArgs, []⟩).memory
theorem laid_met (os : Os) : laidMet P Rows.fnZipRow.laid (wMem os) :=
  laidMet_of_run3 8 (by kernel_rfl) (by kernel_rfl) (by kernel_rfl)
end Go.Proofs.YtlmefkhglooepaaGreatDoor
