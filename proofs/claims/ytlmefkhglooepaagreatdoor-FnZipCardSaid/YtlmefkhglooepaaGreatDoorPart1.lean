/- The engine: knowledge of the frame and of the heap as lists, over the kit's wp rules. The engine's rules for the operations. The engine: a region whose order is open. Segments with a barrier behind each; in a segment, taken first or forced. The engine: a function's entry and its returns. The format's texts, in plain Lean. The engine's rules: numbers, tests, addresses, strings. The engine's rules: rows of cells that are read; slices of one's own; copies; bytes and strings. The engine's rules: copies, calls through interfaces and values, joins. Facts on the program's types (printed by my gen.py). Facts on the program's struct literals, calls through interfaces (printed by my gen.py). -/
import Derived.WalkKit
import Derived.WalkSpells
import Derived.WalkLawsBesides
import Derived.Deep.Quiet
import Derived.OrdersHeld
import Derived.KernelRfl
import Derived.Lib.Strings
import Derived.Lib.ConvBytes
import Derived.Laws.CopyOwn
import Derived.Laws.CopyRow
import Derived.Laws.IdiomCopy
import Derived.Laws.Tables
import Derived.Great.FillDense
import Derived.Great.BuildSlice
import Derived.Test.YtlmefkhglooepaaGreatDoorProg
set_option linter.unusedSimpArgs false
set_option linter.unusedVariables false
namespace Go.Proofs.YtlmefkhglooepaaGreatDoor
open Go

abbrev Loc := List (Nat × Value)
abbrev Res := List (Nat × Obj)
def val : Loc → (Nat → Value) → Nat → Value
  | [], g, t => g t
  | (d, v) :: L, g, t => if t = d then v else val L g t
def evl (L : Loc) (g : Nat → Value) : Operand → Value
  | .tmp t => val L g t
  | .const v => v
  | .global k => .pointer (some ⟨k, 0, none⟩)
  | .func f => .func (.func f) #[] #[]
structure Fr where
  blk : Nat → Option Obj
  os : Os
  tape : Nat → Question → Nat
  output : Array (Nat × ByteArray)
structure Sat (H : List Res) (F : Fr) (w : World) : Prop where
  os : w.os = F.os
  tape : w.tape = F.tape
  output : w.output = F.output
  nd : (H.flatten.map (·.1)).Nodup
  own : ∀ p ∈ H.flatten, w.heap[p.1]? = some p.2
  apart : ∀ p ∈ H.flatten, F.blk p.1 = none
  frame : ∀ b o, F.blk b = some o → w.heap[b]? = some o
structure Agree (n : Nat) (L : Loc) (g : Nat → Value) (a : Act) : Prop where
  size : a.tmps.size = n
  defers : a.defers = []
  get : ∀ t, a.tmps.getD t undef = val L g t
abbrev Post := Exit → Loc → List Res → Prop

theorem Agree.eval {n L g a} (h : Agree n L g a) : a.eval = evl L g := by
  funext x; cases x <;> simp only [Act.eval, evl]
  exact h.get _
theorem Agree.put {n L g a} (h : Agree n L g a) {d : Nat} (hd : d < n) (v : Value) : Agree n ((d, v) :: L) g (a.put (some d) v) := by
  refine ⟨by simp [Act.put, h.size], by simp [Act.put, h.defers], fun t => ?_⟩
  have h0 := h.get t
  have hs := h.size
  simp only [Act.put, val, Array.getD_eq_getD_getElem?] at h0 ⊢
  by_cases e : t = d
  · subst e; simp [hs, hd]
  · rw [if_neg e, Array.getElem?_setIfInBounds_ne (fun x => e x.symm)]; exact h0
theorem Agree.none {n L g a} (h : Agree n L g a) (v : Value) : Agree n L g (a.put none v) := h
theorem Agree.weak {n L g a} (h : Agree n L g a) (L' : Loc) (hw : ∀ t, val L' (val L g) t = val L g t) : Agree n L' (val L g) a :=
  ⟨h.size, h.defers, fun t => (h.get t).trans (hw t).symm⟩

section
variable {P : Program} {n : Nat} {G : Nat → Option Obj}
def lift (n : Nat) (F : Fr) (Q : Post) : Exit → Act → World → Prop
  | .panic _, _, _ => False
  | .outgrown, _, _ => False
  | e, a, w => ∃ L g H, Agree n L g a ∧ Sat H F w ∧ Q e L H
/-- The blocks that stood at the start stand in the frame. -/
def Sub (G : Nat → Option Obj) (F : Fr) : Prop := ∀ b o, G b = some o → F.blk b = some o
def WP (P : Program) (n : Nat) (G : Nat → Option Obj) (c : Code) (Q : Post) (L : Loc) (H : List Res) : Prop :=
  ∀ F, Sub G F → ∀ g a w, Agree n L g a → Sat H F w → c.wp P (lift n F Q) a w
def thenP (P : Program) (n : Nat) (G : Nat → Option Obj) (c : Code) (Q : Post) : Post
  | .normal, L, H => WP P n G c Q L H
  | e, L, H => Q e L H
def blockP (id : Nat) (Q : Post) : Post
  | .exit i, L, H => if i = id then Q .normal L H else Q (.exit i) L H
  | e, L, H => Q e L H
theorem w_seq {x y : Code} {Q : Post} {L H} (h : WP P n G x (thenP P n G y Q) L H) : WP P n G (.seq x y) Q L H := by
  intro F hF g a w ha hs
  refine wp_seq (wp_mono (h F hF g a w ha hs) fun e a w q => ?_)
  cases e <;> simp only [lift, thenP, Exit.then] at q ⊢ <;> first | exact q | exact (let ⟨_, _, _, h1, h2, h3⟩ := q; h3 _ hF _ _ _ h1 h2)
theorem w_block {id : Nat} {c : Code} {Q : Post} {L H} (h : WP P n G c (blockP id Q) L H) : WP P n G (.block id c) Q L H := by
  intro F hF g a w ha hs
  refine wp_block (wp_mono (h F hF g a w ha hs) fun e a w q => ?_)
  cases e <;> simp only [lift, blockP, Exit.inBlock] at q ⊢ <;> try exact q
  split
  · rename_i hi; simp only [hi, if_true] at q; exact q
  · rename_i hi; simp only [hi, if_false] at q; exact q
theorem w_skip {Q : Post} {L H} (h : Q .normal L H) : WP P n G .skip Q L H := fun _ _ _ _ _ ha hs => wp_skip ⟨_, _, _, ha, hs, h⟩
theorem w_label {l : Nat} {Q : Post} {L H} (h : Q .normal L H) : WP P n G (.label l) Q L H := fun _ _ _ _ _ ha hs => wp_label ⟨_, _, _, ha, hs, h⟩
theorem w_ret {Q : Post} {L H} (h : Q .ret L H) : WP P n G .ret Q L H := fun _ _ _ _ _ ha hs => wp_ret ⟨_, _, _, ha, hs, h⟩
theorem w_exit {id : Nat} {Q : Post} {L H} (h : Q (.exit id) L H) : WP P n G (.exit id) Q L H := fun _ _ _ _ _ ha hs => wp_exit ⟨_, _, _, ha, hs, h⟩
def scopeP (Q : Post) : Post
  | .goto _, _, _ => False
  | e, L, H => Q e L H
theorem w_scope {c : Code} {Q : Post} {L H} (h : WP P n G c (scopeP Q) L H) : WP P n G (.scope c) Q L H := by
  intro F hF g a w ha hs
  refine wp_scope_straight (wp_mono (h F hF g a w ha hs) fun e a w q => ?_)
  cases e <;> simp only [lift, scopeP, Exit.noGoto] at q ⊢ <;> first | exact q | exact (let ⟨_, _, _, _, _, h3⟩ := q; h3)
theorem w_cond {c : Operand} {x y : Code} {t : Bool} {Q : Post} {L H} (hc : ∀ g, evl L g c = .bool t)
    (ht : t = true → WP P n G x Q L H) (hf : t = false → WP P n G y Q L H) : WP P n G (.cond c x y) Q L H := by
  intro F hF g a w ha hs
  refine wp_cond_split (t := t) (by rw [ha.eval]; exact hc g) (fun h => ht h F hF g a w ha hs) (fun h => hf h F hF g a w ha hs)
theorem w_mono {c : Code} {Q Q' : Post} {L H} (h : WP P n G c Q L H) (hq : ∀ e L H, Q e L H → Q' e L H) : WP P n G c Q' L H := by
  intro F hF g a w ha hs
  refine wp_mono (h F hF g a w ha hs) fun e a w q => ?_
  cases e <;> simp only [lift] at q ⊢ <;> first | exact q | exact (let ⟨L, g, H, h1, h2, h3⟩ := q; ⟨L, g, H, h1, h2, hq _ _ _ h3⟩)
/-- Less is known. -/
def Wk (L L' : Loc) : Prop := ∀ g t, val L' (val L g) t = val L g t
def HWk (H H' : List Res) : Prop := ∀ F w, Sat H F w → Sat H' F w
theorem HWk.refl (H : List Res) : HWk H H := fun _ _ h => h
theorem HWk.trans {A B C : List Res} (h : HWk A B) (h' : HWk B C) : HWk A C := fun F w x => h' F w (h F w x)
theorem w_weak {c : Code} {Q : Post} {L L' H H'} (hL : Wk L L') (hH : HWk H H') (h : WP P n G c Q L' H') : WP P n G c Q L H :=
  fun F hF g a w ha hs => h F hF _ a w (ha.weak L' (hL g)) (hH F w hs)
theorem Wk.nil (L : Loc) : Wk L [] := fun _ _ => rfl
theorem Wk.cons {L L' : Loc} {d : Nat} {v : Value} (hv : ∀ g, val L g d = v) (h : Wk L L') : Wk L ((d, v) :: L') := by
  intro g t
  simp only [val]
  split
  · rename_i e; subst e; exact (hv g).symm
  · exact h g t
theorem w_loop {α : Type} {c : Code} {Q : Post} {L H} (I : α → Loc) (R : α → List Res) (C : α → Prop) (μ : α → Nat) (x0 : α) (hL : Wk L (I x0)) (hH : HWk H (R x0)) (hC : C x0)
    (round : ∀ x, C x → WP P n G c (fun e L' H' => match e with | .normal => ∃ y, Wk L' (I y) ∧ HWk H' (R y) ∧ C y ∧ μ y < μ x | e => Q e L' H') (I x) (R x)) : WP P n G (.loop c) Q L H := by
  intro F hF g a w ha hs b k cs
  have key : ∀ m (x : α), μ x = m → C x → ∀ g a w, Agree n (I x) g a → Sat (R x) F w →
      ∃ e a' w', lift n F Q e a' w' ∧ Arrives P (lone (b.at a (.code c :: .inLoop c :: k)) cs w) b k cs e a' w' := by
    intro m
    induction m using Nat.strongRecOn with
    | _ m ih =>
      intro x hm hx g a w ha hs
      obtain ⟨e, a1, w1, hq, harr⟩ := round x hx F hF g a w ha hs b (.inLoop c :: k) cs
      have hp : e ≠ .normal → ∃ e a' w', lift n F Q e a' w' ∧ Arrives P (lone (b.at a (.code c :: .inLoop c :: k)) cs w) b k cs e a' w' := by
        intro hne
        refine ⟨e, a1, w1, ?_, .pass (x := .inLoop c) rfl (fun _ _ => .inl hne) harr⟩
        cases e <;> first | exact absurd rfl hne | exact hq
      cases e with
      | normal =>
        obtain ⟨L1, g1, H1, h1, h2, y, hLy, hHy, hCy, hlt⟩ := hq
        obtain ⟨e2, a2, w2, hq2, harr2⟩ := ih (μ y) (hm ▸ hlt) y rfl hCy _ a1 w1 (h1.weak (I y) (hLy g1)) (hHy F w1 h2)
        exact ⟨e2, a2, w2, hq2, .of_steps (Steps.trans harr (.one step_inLoop)) harr2⟩
      | exit id => exact hp (by simp)
      | goto l => exact hp (by simp)
      | ret => exact hp (by simp)
      | panic ch => exact hp (by simp)
      | outgrown => exact hp (by simp)
  obtain ⟨e, a', w', hq, harr⟩ := key _ x0 rfl hC _ a w (ha.weak (I x0) (hL g)) (hH F w hs)
  exact ⟨e, a', w', hq, .of_steps (.one step_loop) harr⟩

/-- The operations of a region, in the text's order. -/
def OP (P : Program) (n : Nat) (G : Nat → Option Obj) (ops : Array Oper) (Q : Post) (l : List Oper) (L : Loc) (H : List Res) : Prop :=
  ∀ F, Sub G F → ∀ g a w, Agree n L g a → Sat H F w → wpList P ops (lift n F Q) l a w
theorem w_region {id : Nat} {l : List Oper} {Q : Post} {L H} (h : OP P n G l.toArray Q l L H) : WP P n G (.region id l.toArray false) Q L H :=
  fun F hF g a w ha hs => wp_region_lit (h F hF g a w ha hs)
theorem o_nil {ops : Array Oper} {Q : Post} {L H} (h : Q .normal L H) : OP P n G ops Q [] L H := fun _ _ _ _ _ ha hs => wpList_nil ⟨_, _, _, ha, hs, h⟩
/-- One operation that yields a value; what it does to the heap is said by H'. -/
theorem o_val {ops : Array Oper} {Q : Post} {L H H'} {o : Oper} {rest : List Oper} {d : Nat} {v : Value} (hd : o.dst = some d) (hn : d < n) (hg : o.guard = none)
    (he : ∀ F, Sub G F → ∀ g w, Sat H F w → ∃ w', (execOp (evl L g) o).run P w = .ok (.value v) w' ∧ Sat H' F w') (h : OP P n G ops Q rest ((d, v) :: L) H') : OP P n G ops Q (o :: rest) L H := by
  intro F hF g a w ha hs
  refine wpList_plain hg fun K hK => ?_
  obtain ⟨w', h1, h2⟩ := he F hF g w hs
  unfold Oper.wp
  rw [ha.eval, h1, Oper.upon_value, hd]
  exact hK _ _ (h F hF g _ w' (ha.put hn v) h2)
theorem o_skip {ops : Array Oper} {Q : Post} {L H H'} {o : Oper} {rest : List Oper} (hd : o.dst = none) (hg : o.guard = none)
    (he : ∀ F, Sub G F → ∀ g w, Sat H F w → ∃ w', (execOp (evl L g) o).run P w = .ok .skip w' ∧ Sat H' F w') (h : OP P n G ops Q rest L H') : OP P n G ops Q (o :: rest) L H := by
  intro F hF g a w ha hs
  refine wpList_plain hg fun K hK => ?_
  obtain ⟨w', h1, h2⟩ := he F hF g w hs
  unfold Oper.wp
  rw [ha.eval, h1, Oper.upon_skip, hd]
  exact hK _ _ (h F hF g _ w' ha h2)
/-- An operation that touches no memory. -/
theorem o_pure {ops : Array Oper} {Q : Post} {L H} {o : Oper} {rest : List Oper} {d : Nat} {v : Value} (hd : o.dst = some d) (hn : d < n) (hg : o.guard = none)
    (he : ∀ g w, (execOp (evl L g) o).run P w = .ok (.value v) w) (h : OP P n G ops Q rest ((d, v) :: L) H) : OP P n G ops Q (o :: rest) L H :=
  o_val hd hn hg (fun _ _ g w hs => ⟨w, he g w, hs⟩) h

/-- A call of a function, by its contract: from the resources 'H' alone. -/
def Fn (P : Program) (G : Nat → Option Obj) (f : FuncId) (args : Array Value) (H : List Res) (Q : Value → List Res → Prop) : Prop :=
  ∀ F, Sub G F → ∀ w, Sat H F w → Calls P f args w fun e w' => ∃ v H', e = .returned v ∧ Sat H' F w' ∧ Q v H'
def Fr.add (F : Fr) (R : List Res) : Fr := { F with blk := fun b => match R.flatten.find? (·.1 == b) with | some p => some p.2 | none => F.blk b }
theorem Fr.add_in {F : Fr} {R : List Res} (hn : (R.flatten.map (·.1)).Nodup) {p : Nat × Obj} (hp : p ∈ R.flatten) : (F.add R).blk p.1 = some p.2 := by
  have : R.flatten.find? (·.1 == p.1) = some p := by
    revert hn hp
    generalize R.flatten = l
    induction l with
    | nil => intro _ h; cases h
    | cons q l ih =>
      intro hn hp
      simp only [List.map_cons, List.nodup_cons] at hn
      rcases List.mem_cons.1 hp with rfl | hp
      · simp
      · have : q.1 ≠ p.1 := fun e => hn.1 (by rw [e]; exact List.mem_map.2 ⟨p, hp, rfl⟩)
        simp only [List.find?_cons]
        rw [show (q.1 == p.1) = false by simpa using this]
        exact ih hn.2 hp
  simp only [Fr.add, this]
theorem Fr.add_out {F : Fr} {R : List Res} {b : Nat} (h : ∀ p ∈ R.flatten, p.1 ≠ b) : (F.add R).blk b = F.blk b := by
  have : R.flatten.find? (·.1 == b) = none := by
    rw [List.find?_eq_none]
    intro p hp; simpa using h p hp
  simp only [Fr.add, this]
theorem Fr.add_none {F : Fr} {R : List Res} {b : Nat} (h : (F.add R).blk b = none) : (∀ p ∈ R.flatten, p.1 ≠ b) ∧ F.blk b = none := by
  have h1 : ∀ p ∈ R.flatten, p.1 ≠ b := by
    intro p hp e
    simp only [Fr.add] at h
    split at h
    · cases h
    · rename_i hf
      rw [List.find?_eq_none] at hf
      exact hf p hp (by simpa using e)
  exact ⟨h1, by rw [← Fr.add_out h1]; exact h⟩
theorem Sat.split {H R : List Res} {F : Fr} {w : World} (h : Sat (H ++ R) F w) : Sat H (F.add R) w := by
  have hnd := h.nd
  simp only [List.flatten_append, List.map_append] at hnd
  have hnd' := List.nodup_append.1 hnd
  refine ⟨h.os, h.tape, h.output, hnd'.1, fun p hp => h.own p (by simp only [List.flatten_append]; exact List.mem_append_left _ hp), fun p hp => ?_, fun b o hb => ?_⟩
  · rw [Fr.add_out]
    · exact h.apart p (by simp only [List.flatten_append]; exact List.mem_append_left _ hp)
    · intro q hq e
      exact hnd'.2.2 p.1 (List.mem_map.2 ⟨p, hp, rfl⟩) q.1 (List.mem_map.2 ⟨q, hq, rfl⟩) e.symm
  · simp only [Fr.add] at hb
    split at hb
    · rename_i p hp
      have h1 := List.find?_some hp
      have h2 := List.mem_of_find?_eq_some hp
      obtain rfl : p.1 = b := by simpa using h1
      rw [← hb]
      exact h.own p (by simp only [List.flatten_append]; exact List.mem_append_right _ h2)
    · exact h.frame b o hb
theorem Sat.join {H H' R : List Res} {F : Fr} {w w' : World} (h : Sat (H ++ R) F w) (h' : Sat H' (F.add R) w') : Sat (H' ++ R) F w' := by
  have hnd := h.nd
  simp only [List.flatten_append, List.map_append] at hnd
  have hnd' := List.nodup_append.1 hnd
  refine ⟨h'.os, h'.tape, h'.output, ?_, fun p hp => ?_, fun p hp => ?_, fun b o hb => ?_⟩
  · simp only [List.flatten_append, List.map_append]
    refine List.nodup_append.2 ⟨h'.nd, hnd'.2.1, fun x hx y hy e => ?_⟩
    obtain ⟨p, hp, rfl⟩ := List.mem_map.1 hx
    obtain ⟨q, hq, rfl⟩ := List.mem_map.1 hy
    exact (Fr.add_none (h'.apart p hp)).1 q hq e.symm
  · simp only [List.flatten_append] at hp
    rcases List.mem_append.1 hp with hp | hp
    · exact h'.own p hp
    · exact h'.frame _ _ (Fr.add_in hnd'.2.1 hp)
  · simp only [List.flatten_append] at hp
    rcases List.mem_append.1 hp with hp | hp
    · exact (Fr.add_none (h'.apart p hp)).2
    · exact h.apart p (by simp only [List.flatten_append]; exact List.mem_append_right _ hp)
  · refine h'.frame b o ?_
    rw [Fr.add_out]
    · exact hb
    · intro p hp e
      have := h.apart p (by simp only [List.flatten_append]; exact List.mem_append_right _ hp)
      rw [e, hb] at this; cases this
theorem Sat.perm {H H' : List Res} {F : Fr} {w : World} (hp : H.Perm H') (h : Sat H F w) : Sat H' F w := by
  have hf : H.flatten.Perm H'.flatten := List.Perm.flatten hp
  exact ⟨h.os, h.tape, h.output, (hf.map _).nodup_iff.1 h.nd, fun p hq => h.own p (hf.mem_iff.2 hq), fun p hq => h.apart p (hf.mem_iff.2 hq), h.frame⟩
theorem Sub.add {H R : List Res} {F : Fr} {w : World} (hG : Sub G F) (h : Sat (H ++ R) F w) : Sub G (F.add R) := fun b o hb => by
  rw [Fr.add_out]
  · exact hG b o hb
  · intro p hp e
    have := h.apart p (by simp only [List.flatten_append]; exact List.mem_append_right _ hp)
    rw [e, hG b o hb] at this; cases this
theorem Sat.drop {r : Res} {H : List Res} {F : Fr} {w : World} (h : Sat (r :: H) F w) : Sat H F w := by
  have hnd := h.nd
  simp only [List.flatten_cons, List.map_append] at hnd
  exact ⟨h.os, h.tape, h.output, (List.nodup_append.1 hnd).2.1, fun p hp => h.own p (by simp [hp]), fun p hp => h.apart p (by simp [hp]), h.frame⟩

/-- 'H' is 'r' and 'R'. -/
def Pull (r : Res) (H R : List Res) : Prop := H.Perm (r :: R)
theorem Pull.head {r : Res} {R : List Res} : Pull r (r :: R) R := List.Perm.refl _
theorem Pull.tail {r x : Res} {H R : List Res} (h : Pull r H R) : Pull r (x :: H) (x :: R) := (List.Perm.cons x h).trans (List.Perm.swap _ _ _)
/-- 'H' is 'A' and 'R'. -/
def Split (H A R : List Res) : Prop := H.Perm (A ++ R)
theorem Split.nil {H : List Res} : Split H [] H := List.Perm.refl _
theorem Split.cons {H H' A R : List Res} {r : Res} (h : Pull r H H') (h' : Split H' A R) : Split H (r :: A) R := List.Perm.trans h (List.Perm.cons r h')
theorem Sat.part {H A R : List Res} {F : Fr} {w : World} (h : Sat H F w) (hp : Split H A R) : Sat A F w := by
  have h1 : Sat (A ++ R) F w := h.perm hp
  have hnd := h1.nd
  simp only [List.flatten_append, List.map_append] at hnd
  exact ⟨h.os, h.tape, h.output, (List.nodup_append.1 hnd).1, fun p hp => h1.own p (by simp only [List.flatten_append]; exact List.mem_append_left _ hp),
    fun p hp => h1.apart p (by simp only [List.flatten_append]; exact List.mem_append_left _ hp), h.frame⟩
theorem hwk {H A R : List Res} (h : Split H A R) : HWk H A := fun _ _ hs => hs.part h
theorem Sat.alloc {H : List Res} {F : Fr} {w : World} (h : Sat H F w) (o : Obj) : Sat ([(w.heap.size, o)] :: H) F (w.alloc o) := by
  have hlt : ∀ p ∈ H.flatten, p.1 < w.heap.size := fun p hp => (Array.getElem?_eq_some_iff.1 (h.own p hp)).1
  refine ⟨h.os, h.tape, h.output, ?_, fun p hp => ?_, fun p hp => ?_, fun b o' hb => ?_⟩
  · simp only [List.flatten_cons, List.map_append, List.map_cons, List.map_nil, List.cons_append, List.nil_append, List.nodup_cons]
    refine ⟨fun hm => ?_, h.nd⟩
    obtain ⟨p, hp, e⟩ := List.mem_map.1 hm
    have := hlt p hp; omega
  · simp only [List.flatten_cons, List.cons_append, List.nil_append, List.mem_cons] at hp
    rcases hp with rfl | hp
    · exact heap_alloc_new w o
    · show (w.heap.push o)[p.1]? = _
      rw [Array.getElem?_push, if_neg (by have := hlt p hp; omega)]; exact h.own p hp
  · simp only [List.flatten_cons, List.cons_append, List.nil_append, List.mem_cons] at hp
    rcases hp with rfl | hp
    · cases hb : F.blk w.heap.size with
      | none => rfl
      | some o' =>
        have := (Array.getElem?_eq_some_iff.1 (h.frame _ _ hb)).1
        omega
    · exact h.apart p hp
  · have h1 := h.frame b o' hb
    have := (Array.getElem?_eq_some_iff.1 h1).1
    show (w.heap.push o)[b]? = _
    rw [Array.getElem?_push, if_neg (by omega)]; exact h1
theorem Sat.same {H : List Res} {F : Fr} {w w' : World} (h : Sat H F w) (hh : w'.heap = w.heap) (ho : w'.os = w.os) (ht : w'.tape = w.tape) (hu : w'.output = w.output) : Sat H F w' :=
  ⟨ho.trans h.os, ht.trans h.tape, hu.trans h.output, h.nd, fun p hp => by rw [hh]; exact h.own p hp, h.apart, fun b o hb => by rw [hh]; exact h.frame b o hb⟩
theorem Sat.block {b : Nat} {o : Obj} {R : List Res} {F : Fr} {w : World} (h : Sat ([(b, o)] :: R) F w) : w.heap[b]? = some o := h.own (b, o) (by simp)
/-- The one block is turned. -/
theorem Sat.turn {b : Nat} {o o' : Obj} {R : List Res} {F : Fr} {w w' : World} (h : Sat ([(b, o)] :: R) F w) (hb : w'.heap[b]? = some o') (hk : ∀ k, k ≠ b → w'.heap[k]? = w.heap[k]?)
    (ho : w'.os = w.os) (ht : w'.tape = w.tape) (hu : w'.output = w.output) : Sat ([(b, o')] :: R) F w' := by
  have hnd := h.nd
  simp only [List.flatten_cons, List.map_append, List.map_cons, List.map_nil, List.cons_append, List.nil_append, List.nodup_cons] at hnd
  refine ⟨ho.trans h.os, ht.trans h.tape, hu.trans h.output, by simpa using hnd, fun p hp => ?_, fun p hp => ?_, fun k q hk' => ?_⟩
  · simp only [List.flatten_cons, List.cons_append, List.nil_append, List.mem_cons] at hp
    rcases hp with rfl | hp
    · exact hb
    · rw [hk p.1 (fun e => hnd.1 (by rw [← e]; exact List.mem_map.2 ⟨p, hp, rfl⟩))]
      exact h.own p (by simp [hp])
  · simp only [List.flatten_cons, List.cons_append, List.nil_append, List.mem_cons] at hp
    rcases hp with rfl | hp
    · exact h.apart (b, o) (by simp)
    · exact h.apart p (by simp [hp])
  · rw [hk k (fun e => by have := h.apart (b, o) (by simp); rw [e] at hk'; simp only [hk'] at this; cases this)]
    exact h.frame k q hk'
/-- A block of cells, nothing of it frozen. -/
def pt (b : Nat) (cs : List Value) (T : TypeId) : Res := [(b, .cells cs.toArray T (0, 0))]
theorem Sat.cell {b : Nat} {cs : List Value} {T : TypeId} {R : List Res} {F : Fr} {w : World} (h : Sat (pt b cs T :: R) F w) (i : Nat) : w.cell? ⟨b, i, none⟩ = cs[i]? := by
  simp [World.cell?, Sat.block h]
end
end Go.Proofs.YtlmefkhglooepaaGreatDoor
namespace Go.Proofs.YtlmefkhglooepaaGreatDoor
open Go
set_option linter.unusedSimpArgs false
/-- How many cells an aggregate of this type has; none: it is no aggregate. -/
def aggSz (P : Program) (t : TypeId) : Option Nat :=
  match P.info? t, P.underlying t with
  | some i, some (.struct _) | some i, some (.array _ _) => some i.size
  | _, _ => none
/-- Not an aggregate, and one cell. -/
def oneSz (P : Program) (t : TypeId) : Bool :=
  match P.info? t, P.underlying t with
  | some _, some (.struct _) | some _, some (.array _ _) => false
  | some i, some _ => i.size == 1
  | _, _ => false
def fieldOff (P : Program) (t : TypeId) (i : Nat) : Option Nat :=
  match P.underlying t with
  | some (.struct fs) => match fs[i]? with
    | some f => match P.info? f.type with
      | some j => if j.size = 0 then none else some f.offset
      | none => none
    | none => none
  | _ => none
/-- The size in cells of a type's value. -/
def szOf (P : Program) (t : TypeId) : Option Nat := (P.info? t).map (·.size)
def zeroOf (P : Program) (t : TypeId) : Option (List Value) := (P.info? t).bind fun i => i.zero.map fun z => z.cells.toList
section
variable {P : Program} {n : Nat} {G : Nat → Option Obj} {ops : Array Oper} {Q : Post} {rest : List Oper} {L : Loc} {H R : List Res}
theorem run_info {t : TypeId} {i : TypeInfo} (h : P.info? t = some i) (w : World) : (typeInfo t).run P w = .ok i w := by simp [typeInfo, h]
theorem run_isAgg_of {t : TypeId} {k : Nat} (h : aggSz P t = some k) (w : World) : (isAgg t).run P w = .ok true w := by
  unfold aggSz at h
  split at h <;> simp_all [isAgg, underlying]
theorem run_size_of {t : TypeId} {k : Nat} (h : szOf P t = some k) (w : World) : (sizeOf t).run P w = .ok k w := by
  unfold szOf at h
  cases hi : P.info? t with
  | none => simp [hi] at h
  | some i => simp [hi] at h; simp [sizeOf, typeInfo, hi, h]
theorem aggSz_sz {t : TypeId} {k : Nat} (h : aggSz P t = some k) : szOf P t = some k := by
  unfold aggSz at h; unfold szOf
  split at h <;> simp_all
theorem oneSz_sz {t : TypeId} (h : oneSz P t = true) : szOf P t = some 1 := by
  unfold oneSz at h; unfold szOf
  split at h <;> simp_all
theorem run_isAgg_one {t : TypeId} (h : oneSz P t = true) (w : World) : (isAgg t).run P w = .ok false w := by
  unfold oneSz at h
  split at h
  · cases h
  · cases h
  · rename_i i d h1 h2 hi hu
    simp only [isAgg, underlying]
    cases d <;> first | exact (h1 _ rfl).elim | exact (h2 _ _ rfl).elim | simp_all
  · cases h
/-- A cell that can be read: of a block of ours, or of one that stood at the start. -/
theorem Addr.add_at (b o k : Nat) : (⟨b, o, none⟩ : Addr).add k = ⟨b, o + k, none⟩ := by unfold Addr.add; split <;> simp_all
theorem run_load1 {t : TypeId} (ht : oneSz P t = true) {w : World} {b i : Nat} {v : Value} (h : w.cell? ⟨b, i, none⟩ = some v) : (loadVar t ⟨b, i, none⟩).run P w = .ok v w := by
  simp [loadVar, run_isAgg_one ht, h]
theorem run_loadA {t : TypeId} {k : Nat} (ht : aggSz P t = some k) {w : World} {b i : Nat} {vs : List Value} (hl : vs.length = k) (h : ∀ j v, vs[j]? = some v → w.cell? ⟨b, i + j, none⟩ = some v) :
    (loadVar t ⟨b, i, none⟩).run P w = .ok (.agg vs.toArray) w := by
  have := run_loadCells_list (P := P) w ⟨b, i, none⟩ vs (fun j v hv => by rw [Addr.add_at]; exact h j v hv)
  rw [hl] at this
  simp [loadVar, run_isAgg_of ht, run_size_of (aggSz_sz ht), this]

abbrev Fresh (H : List Res) (b : Nat) : Prop := ∀ p ∈ H.flatten, p.1 ≠ b

/-- A quiet operation: it yields v, and leaves the world as it is. -/
def Ex (P : Program) (n : Nat) (G : Nat → Option Obj) (ops : Array Oper) (L : Loc) (H : List Res) (o : Oper) (d : Nat) (v : Value) : Prop :=
  o.dst = some d ∧ d < n ∧
    (((∀ g a, Agree n L g a → Region.wanted o (yielded ops a.tmps) = true) ∧ ∀ F, Sub G F → ∀ g w, Sat H F w → (execOp (evl L g) o).run P w = .ok (.value v) w) ∨
      (o.guard ≠ none ∧ (∀ g a, Agree n L g a → Region.wanted o (yielded ops a.tmps) = false) ∧ v = undef))
theorem Ex.mk {d : Nat} {op : Op} {ty : TypeId} {p : String} {e : Array Edge} {v : Value} (hn : d < n) (h : ∀ F, Sub G F → ∀ g w, Sat H F w → (execOp (evl L g) ⟨some d, op, ty, p, e, none⟩).run P w = .ok (.value v) w) :
    Ex P n G ops L H ⟨some d, op, ty, p, e, none⟩ d v := ⟨rfl, hn, .inl ⟨fun _ _ _ => rfl, h⟩⟩
theorem o_t {o : Oper} {d : Nat} {v : Value} (hx : Ex P n G ops L H o d v) (h : OP P n G ops Q rest ((d, v) :: L) H) : OP P n G ops Q (o :: rest) L H := by
  intro F hF g a w ha hs
  obtain ⟨hd, hn, ⟨hw, he⟩ | ⟨_, hw, rfl⟩⟩ := hx
  · simp only [wpList]
    rw [if_pos (hw g a ha)]
    refine .inl ?_
    unfold Oper.wp
    rw [ha.eval, he F hF g w hs, Oper.upon_value, hd]
    exact h F hF g _ w (ha.put hn v) hs
  · simp only [wpList]
    rw [if_neg (by rw [hw g a ha]; simp), hd]
    exact h F hF g _ w (ha.put hn _) hs
theorem getD_bool {a : Array Value} {d : Nat} {t : Bool} (h : a.getD d undef = .bool t) : a[d]? = some (.bool t) := by
  rw [Array.getD_eq_getD_getElem?] at h
  cases hx : a[d]? with
  | none => rw [hx] at h; cases h
  | some x => rw [hx] at h; simpa using h
/-- A guard that says yes. -/
theorem x_g {j : Nat} {t : Bool} {o : Oper} {d : Nat} {op : Op} {ty : TypeId} {p : String} {e : Array Edge} {dj : Nat} {v : Value} (h : Ex P n G ops L H ⟨some d, op, ty, p, e, none⟩ d v)
    (hj : ops[j]? = some o := by rfl) (hd : o.dst = some dj := by rfl) (hv : ∀ g, val L g dj = .bool t := by intro g; rfl) : Ex P n G ops L H ⟨some d, op, ty, p, e, some (j, t)⟩ d v := by
  obtain ⟨_, hn, ⟨_, he⟩ | ⟨hw, _⟩⟩ := h
  · refine ⟨rfl, hn, .inl ⟨fun g a ha => ?_, he⟩⟩
    have := getD_bool ((ha.get dj).trans (hv g))
    simp [Region.wanted, yielded, hj, hd, this]
  · exact absurd rfl hw
/-- A guard that says no. -/
theorem x_gs {j d : Nat} {t t' : Bool} {o : Oper} {op : Op} {ty : TypeId} {p : String} {e : Array Edge} {dj : Nat} (hn : d < n := by decide)
    (hj : ops[j]? = some o := by rfl) (hd : o.dst = some dj := by rfl) (hv : ∀ g, val L g dj = .bool t' := by intro g; rfl) (ht : t' ≠ t := by decide) :
    Ex P n G ops L H ⟨some d, op, ty, p, e, some (j, t)⟩ d undef := by
  refine ⟨rfl, hn, .inr ⟨by simp, fun g a ha => ?_, rfl⟩⟩
  have := getD_bool ((ha.get dj).trans (hv g))
  simp [Region.wanted, yielded, hj, hd, this, ht]
/-- A guard that was not yielded itself. -/
theorem x_gu {j d : Nat} {t : Bool} {o : Oper} {op : Op} {ty : TypeId} {p : String} {e : Array Edge} {dj : Nat} (hn : d < n := by decide)
    (hj : ops[j]? = some o := by rfl) (hd : o.dst = some dj := by rfl) (hv : ∀ g, val L g dj = undef := by intro g; rfl) :
    Ex P n G ops L H ⟨some d, op, ty, p, e, some (j, t)⟩ d undef := by
  refine ⟨rfl, hn, .inr ⟨by simp, fun g a ha => ?_, rfl⟩⟩
  have h1 := (ha.get dj).trans (hv g)
  rw [Array.getD_eq_getD_getElem?] at h1
  have h2 : yielded ops a.tmps j = none := by
    simp only [yielded, hj, hd, Option.bind_some]
    cases hx : a.tmps[dj]? with
    | none => rfl
    | some x => rw [hx] at h1; simp at h1; rw [h1]; rfl
  simp [Region.wanted, h2]
theorem x_mv {d : Nat} {x : Operand} {ty : TypeId} {p : String} {e : Array Edge} {v : Value} (hx : ∀ g, evl L g x = v := by intro g; first | (simp only [evl, val, Nat.reduceEqDiff, ↓reduceIte]; rfl) | simp only [evl, val, Nat.reduceEqDiff, ↓reduceIte]) (hn : d < n := by decide) :
    Ex P n G ops L H ⟨some d, .move x, ty, p, e, none⟩ d v := .mk hn (fun _ _ g w _ => by simp [execOp, hx g])
theorem x_as {d : Nat} {x : Operand} {ty : TypeId} {p : String} {e : Array Edge} {v : Value} (hx : ∀ g, evl L g x = v := by intro g; first | (simp only [evl, val, Nat.reduceEqDiff, ↓reduceIte]; rfl) | simp only [evl, val, Nat.reduceEqDiff, ↓reduceIte]) (hn : d < n := by decide) :
    Ex P n G ops L H ⟨some d, .assign x, ty, p, e, none⟩ d v := .mk hn (fun _ _ g w _ => by simp [execOp, hx g])
theorem x_nc {d : Nat} {x : Operand} {ty : TypeId} {p : String} {e : Array Edge} {a : Addr} (hx : ∀ g, evl L g x = .pointer (some a) := by intro g; rfl) (hn : d < n := by decide) :
    Ex P n G ops L H ⟨some d, .nilCheck x, ty, p, e, none⟩ d (.pointer (some a)) := .mk hn (fun _ _ g w _ => by simp [execOp, hx g])
theorem run_field {T i k b o : Nat} (hk : fieldOff P T i = some k) (w : World) : (Instr.fieldAt T (.pointer (some ⟨b, o, none⟩)) i).run P w = .ok (.pointer (some ⟨b, o + k, none⟩)) w := by
  unfold fieldOff at hk
  split at hk
  · rename_i fs hu
    split at hk
    · rename_i f hf
      split at hk
      · rename_i j hj
        split at hk
        · cases hk
        · rename_i hne
          obtain rfl := Option.some.inj hk
          have hs : (sizeOf f.type).run P w = .ok j.size w := run_size_of (by simp [szOf, hj]) w
          simp [Instr.fieldAt, run_underlying hu, hf, Instr.sureAddr, fieldPlace, hs, hne, Addr.add_at]
      · cases hk
    · cases hk
  · cases hk
theorem x_fa {d : Nat} {x : Operand} {T i : Nat} {ty : TypeId} {p : String} {e : Array Edge} {b o k m : Nat} (hk : fieldOff P T i = some k)
    (hx : ∀ g, evl L g x = .pointer (some ⟨b, o, none⟩) := by intro g; rfl) (hm : o + k = m := by first | (simp only [Nat.reduceAdd, Nat.zero_add]; rfl) | rfl) (hn : d < n := by decide) :
    Ex P n G ops L H ⟨some d, .fieldAddr T x i, ty, p, e, none⟩ d (.pointer (some ⟨b, m, none⟩)) :=
  .mk hn (fun _ _ g w _ => by simp [execOp, hx g, run_field hk, hm])
theorem x_ld {d : Nat} {x : Operand} {T : Nat} {ty : TypeId} {p : String} {e : Array Edge} {b i : Nat} {cs : List Value} {T' : TypeId} {v : Value} (ht : oneSz P T = true)
    (hx : ∀ g, evl L g x = .pointer (some ⟨b, i, none⟩) := by intro g; rfl) (hp : Pull (pt b cs T') H R := by first | exact .head | exact .tail .head | exact .tail (.tail .head) | exact .tail (.tail (.tail .head)) | exact .tail (.tail (.tail (.tail .head))) | exact .tail (.tail (.tail (.tail (.tail .head)))) | exact .tail (.tail (.tail (.tail (.tail (.tail .head))))) | exact .tail (.tail (.tail (.tail (.tail (.tail (.tail .head)))))) | exact .tail (.tail (.tail (.tail (.tail (.tail (.tail (.tail .head))))))) | exact .tail (.tail (.tail (.tail (.tail (.tail (.tail (.tail (.tail .head))))))))) (hv : cs[i]? = some v := by rfl) (hn : d < n := by decide) :
    Ex P n G ops L H ⟨some d, .load T x, ty, p, e, none⟩ d v :=
  .mk hn (fun F hF g w hs => by simp [execOp, hx g, Instr.loadAt, Instr.sureAddr, run_load1 ht ((Sat.cell (hs.perm hp) i).trans hv)])
/-- A cell of a block that stood at the start. -/
theorem x_ldG {d : Nat} {x : Operand} {T : Nat} {ty : TypeId} {p : String} {e : Array Edge} {b i : Nat} {cs : Array Value} {fz : Nat × Nat} {T' : TypeId} {v : Value} (ht : oneSz P T = true)
    (hb : G b = some (.cells cs T' fz)) (hv : cs[i]? = some v) (hx : ∀ g, evl L g x = .pointer (some ⟨b, i, none⟩) := by intro g; rfl) (hn : d < n := by decide) :
    Ex P n G ops L H ⟨some d, .load T x, ty, p, e, none⟩ d v :=
  .mk hn (fun F hF g w hs => by
    have h1 : w.cell? ⟨b, i, none⟩ = some v := by simp [World.cell?, hs.frame b _ (hF b _ hb), hv]
    simp [execOp, hx g, Instr.loadAt, Instr.sureAddr, run_load1 ht h1])
theorem x_lda {d : Nat} {x : Operand} {T k : Nat} {ty : TypeId} {p : String} {e : Array Edge} {b i : Nat} {cs vs : List Value} {T' : TypeId} (ht : aggSz P T = some k)
    (hx : ∀ g, evl L g x = .pointer (some ⟨b, i, none⟩) := by intro g; rfl) (hp : Pull (pt b cs T') H R := by first | exact .head | exact .tail .head | exact .tail (.tail .head) | exact .tail (.tail (.tail .head)) | exact .tail (.tail (.tail (.tail .head))) | exact .tail (.tail (.tail (.tail (.tail .head)))) | exact .tail (.tail (.tail (.tail (.tail (.tail .head))))) | exact .tail (.tail (.tail (.tail (.tail (.tail (.tail .head)))))) | exact .tail (.tail (.tail (.tail (.tail (.tail (.tail (.tail .head))))))) | exact .tail (.tail (.tail (.tail (.tail (.tail (.tail (.tail (.tail .head)))))))))
    (hv : (cs.drop i).take k = vs := by simp only [List.drop_zero, List.drop_succ_cons, List.take_succ_cons, List.take_zero, List.take_nil]; rfl) (hl : vs.length = k := by rfl) (hn : d < n := by decide) :
    Ex P n G ops L H ⟨some d, .load T x, ty, p, e, none⟩ d (.agg vs.toArray) := by
  refine .mk hn (fun F hF g w hs => ?_)
  have hc := Sat.cell (hs.perm hp)
  simp [execOp, hx g, Instr.loadAt, Instr.sureAddr, run_loadA ht hl (w := w) (b := b) (i := i) (fun j v hj => by
    rw [hc, ← hj, ← hv, List.getElem?_take, List.getElem?_drop, if_pos]
    have := (List.getElem?_eq_some_iff.1 hj).1; omega)]
theorem x_ldaG {d : Nat} {x : Operand} {T k : Nat} {ty : TypeId} {p : String} {e : Array Edge} {b i : Nat} {cs : Array Value} {fz : Nat × Nat} {vs : List Value} {T' : TypeId} (ht : aggSz P T = some k)
    (hb : G b = some (.cells cs T' fz)) (hv : ∀ j v, vs[j]? = some v → cs[i + j]? = some v) (hx : ∀ g, evl L g x = .pointer (some ⟨b, i, none⟩) := by intro g; rfl) (hl : vs.length = k := by rfl) (hn : d < n := by decide) :
    Ex P n G ops L H ⟨some d, .load T x, ty, p, e, none⟩ d (.agg vs.toArray) := by
  refine .mk hn (fun F hF g w hs => ?_)
  simp [execOp, hx g, Instr.loadAt, Instr.sureAddr, run_loadA ht hl (w := w) (b := b) (i := i) (fun j v hj => by
    simp [World.cell?, hs.frame b _ (hF b _ hb), hv j v hj])]
theorem x_ex {d i : Nat} {x : Operand} {ty : TypeId} {p : String} {e : Array Edge} {vs : List Value} {v : Value}
    (hx : ∀ g, evl L g x = .tuple vs.toArray := by intro g; rfl) (hv : vs[i]? = some v := by rfl) (hn : d < n := by decide) :
    Ex P n G ops L H ⟨some d, .extract x i, ty, p, e, none⟩ d v :=
  .mk hn (fun _ _ g w _ => by simp [execOp, hx g, Instr.extract, hv])
theorem x_p {d : Nat} {op : Op} {ty : TypeId} {p : String} {e : Array Edge} {v : Value}
    (he : ∀ g w, (execOp (evl L g) ⟨some d, op, ty, p, e, none⟩).run P w = .ok (.value v) w := by intro g w; simp only [execOp, evl, val, Nat.reduceEqDiff, ↓reduceIte]; go_simp; rfl) (hn : d < n := by decide) :
    Ex P n G ops L H ⟨some d, op, ty, p, e, none⟩ d v :=
  .mk hn (fun _ _ g w _ => he g w)
theorem run_store1 {T : TypeId} (ht : szOf P T = some 1) {F : Fr} {w : World} {b i : Nat} {cs : List Value} {T' : TypeId} {v : Value} (h1 : v.oneCell' = true) (hs : Sat (pt b cs T' :: R) F w) (hi : i < cs.length) :
    ∃ w', (storeVar T ⟨b, i, none⟩ v).run P w = .ok () w' ∧ Sat (pt b (cs.set i v) T' :: R) F w' := by
  have hc : v.cells = #[v] := by cases v <;> simp_all [Value.cells, Value.oneCell']
  have hcell := Sat.cell hs i
  have hb := Sat.block hs
  rw [List.getElem?_eq_getElem hi] at hcell
  have hfz : w.frozen? ⟨b, i, none⟩ = false := by simp [World.frozen?, hb]
  refine ⟨w.setCell ⟨b, i, none⟩ v, ?_, ?_⟩
  · have h0 : (⟨b, i, none⟩ : Addr).add 0 = ⟨b, i, none⟩ := rfl
    simp [storeVar, run_size_of ht, hc, storeCells, h0, run_store P w _ v .plain h1, hcell, hfz]
  · refine Sat.turn hs ?_ (fun k hk => ?_) rfl rfl rfl
    · simp only [World.setCell, Array.getElem?_modify, if_true]
      rw [hb]; simp
    · simp only [World.setCell, Array.getElem?_modify]
      rw [if_neg (fun e => hk e.symm)]
theorem run_storeN {F : Fr} {b : Nat} {T' : TypeId} : ∀ (vs : List Value) (i j : Nat) (cs : List Value) (w : World), (∀ u ∈ vs, u.oneCell' = true) → Sat (pt b cs T' :: R) F w → i + j + vs.length ≤ cs.length →
    ∃ w', (storeCells ⟨b, i, none⟩ vs j).run P w = .ok () w' ∧ Sat (pt b (cs.take (i + j) ++ vs ++ cs.drop (i + j + vs.length)) T' :: R) F w'
  | [], i, j, cs, w, _, hs, _ => ⟨w, by simp [storeCells], by simpa using hs⟩
  | v :: vs, i, j, cs, w, h1, hs, hl => by
    have hv := h1 v (by simp)
    simp only [List.length_cons] at hl
    have hi : i + j < cs.length := by omega
    have hcell := Sat.cell hs (i + j)
    have hb := Sat.block hs
    rw [List.getElem?_eq_getElem hi] at hcell
    have hfz : w.frozen? ⟨b, i + j, none⟩ = false := by simp [World.frozen?, hb]
    have hs1 : Sat (pt b (cs.set (i + j) v) T' :: R) F (w.setCell ⟨b, i + j, none⟩ v) := by
      refine Sat.turn hs ?_ (fun k hk => ?_) rfl rfl rfl
      · simp only [World.setCell, Array.getElem?_modify, if_true]
        rw [hb]; simp
      · simp only [World.setCell, Array.getElem?_modify]
        rw [if_neg (fun e => hk e.symm)]
    obtain ⟨w', h2, h3⟩ := run_storeN vs i (j + 1) (cs.set (i + j) v) _ (fun u hu => h1 u (by simp [hu])) hs1 (by simp; omega)
    refine ⟨w', ?_, ?_⟩
    · simp [storeCells, Addr.add_at, run_store P w _ v .plain hv, hcell, hfz, h2]
    · have e : (cs.set (i + j) v).take (i + (j + 1)) ++ vs ++ (cs.set (i + j) v).drop (i + (j + 1) + vs.length) = cs.take (i + j) ++ (v :: vs) ++ cs.drop (i + j + (vs.length + 1)) := by
        rw [show i + (j + 1) = i + j + 1 by omega, List.drop_set_of_lt (by omega), show i + j + 1 + vs.length = i + j + (vs.length + 1) by omega]
        rw [List.take_add_one]
        simp [hi, List.take_set_of_le]
      rw [List.length_cons, ← e]; exact h3
theorem run_storeA {T k : Nat} (ht : szOf P T = some k) {F : Fr} {w : World} {b i : Nat} {cs vs : List Value} {T' : TypeId} (hk : vs.length = k) (h1 : ∀ u ∈ vs, u.oneCell' = true) (hs : Sat (pt b cs T' :: R) F w) (hi : i + k ≤ cs.length) :
    ∃ w', (storeVar T ⟨b, i, none⟩ (.agg vs.toArray)).run P w = .ok () w' ∧ Sat (pt b (cs.take i ++ vs ++ cs.drop (i + k)) T' :: R) F w' := by
  obtain ⟨w', h2, h3⟩ := run_storeN (P := P) (R := R) vs i 0 cs w h1 hs (by omega)
  refine ⟨w', ?_, by simpa [hk] using h3⟩
  simp [storeVar, run_size_of ht, Value.cells, hk, h2]
theorem o_st {x y : Operand} {T : Nat} {ty : TypeId} {p : String} {e : Array Edge} {b i : Nat} {cs cs' : List Value} {T' : TypeId} {v : Value} (ht : oneSz P T = true)
    (h : OP P n G ops Q rest L (pt b cs' T' :: R))
    (hx : ∀ g, evl L g x = .pointer (some ⟨b, i, none⟩) := by intro g; rfl) (hy : ∀ g, evl L g y = v := by intro g; first | (simp only [evl, val, Nat.reduceEqDiff, ↓reduceIte]; rfl) | simp only [evl, val, Nat.reduceEqDiff, ↓reduceIte])
    (hp : Pull (pt b cs T') H R := by first | exact .head | exact .tail .head | exact .tail (.tail .head) | exact .tail (.tail (.tail .head)) | exact .tail (.tail (.tail (.tail .head))) | exact .tail (.tail (.tail (.tail (.tail .head)))) | exact .tail (.tail (.tail (.tail (.tail (.tail .head))))) | exact .tail (.tail (.tail (.tail (.tail (.tail (.tail .head)))))) | exact .tail (.tail (.tail (.tail (.tail (.tail (.tail (.tail .head))))))) | exact .tail (.tail (.tail (.tail (.tail (.tail (.tail (.tail (.tail .head)))))))))
    (hi : i < cs.length := by first | decide | (simp; done) | (simp; omega)) (h1 : v.oneCell' = true := by first | rfl | assumption)
    (hc : cs.set i v = cs' := by first | (simp only [List.set_cons_succ, List.set_cons_zero]; rfl) | rfl) :
    OP P n G ops Q (⟨none, .store T x y, ty, p, e, none⟩ :: rest) L H :=
  o_skip rfl rfl (fun F hF g w hs => by
    obtain ⟨w', h2, h3⟩ := run_store1 (oneSz_sz ht) h1 (hs.perm hp) hi
    exact ⟨w', by simp [execOp, hx g, hy g, Instr.storeAt, Instr.sureAddr, h2], hc ▸ h3⟩) h
theorem o_sta {x y : Operand} {T k : Nat} {ty : TypeId} {p : String} {e : Array Edge} {b i : Nat} {cs cs' vs : List Value} {T' : TypeId} (ht : aggSz P T = some k)
    (h : OP P n G ops Q rest L (pt b cs' T' :: R))
    (hx : ∀ g, evl L g x = .pointer (some ⟨b, i, none⟩) := by intro g; rfl) (hy : ∀ g, evl L g y = .agg vs.toArray := by intro g; first | (simp only [evl, val, Nat.reduceEqDiff, ↓reduceIte]; rfl) | simp only [evl, val, Nat.reduceEqDiff, ↓reduceIte])
    (hp : Pull (pt b cs T') H R := by first | exact .head | exact .tail .head | exact .tail (.tail .head) | exact .tail (.tail (.tail .head)) | exact .tail (.tail (.tail (.tail .head))) | exact .tail (.tail (.tail (.tail (.tail .head)))) | exact .tail (.tail (.tail (.tail (.tail (.tail .head))))) | exact .tail (.tail (.tail (.tail (.tail (.tail (.tail .head)))))) | exact .tail (.tail (.tail (.tail (.tail (.tail (.tail (.tail .head))))))) | exact .tail (.tail (.tail (.tail (.tail (.tail (.tail (.tail (.tail .head)))))))))
    (hk : vs.length = k := by rfl) (hi : i + k ≤ cs.length := by first | decide | (simp; done) | (simp; omega)) (h1 : ∀ u ∈ vs, u.oneCell' = true := by first | (intro u hu; simp only [List.mem_cons, List.not_mem_nil, or_false] at hu; rcases hu with rfl | rfl | rfl | rfl | rfl | rfl | rfl | rfl | rfl | rfl | rfl | rfl | rfl | rfl | rfl | rfl | rfl | rfl | rfl | rfl | rfl | rfl <;> rfl))
    (hc : cs.take i ++ vs ++ cs.drop (i + k) = cs' := by simp only [List.take_zero, List.take_succ_cons, List.drop_succ_cons, List.drop_zero, List.nil_append, List.cons_append, List.append_nil, Nat.zero_add, Nat.reduceAdd, List.drop_nil]; rfl) :
    OP P n G ops Q (⟨none, .store T x y, ty, p, e, none⟩ :: rest) L H :=
  o_skip rfl rfl (fun F hF g w hs => by
    obtain ⟨w', h2, h3⟩ := run_storeA (aggSz_sz ht) hk h1 (hs.perm hp) hi
    exact ⟨w', by simp [execOp, hx g, hy g, Instr.storeAt, Instr.sureAddr, h2], hc ▸ h3⟩) h
theorem run_newVar {F : Fr} {w : World} {T : TypeId} (v : Value) (hs : Sat H F w) : ∃ b w', (newVar T v).run P w = .ok ⟨b, 0, none⟩ w' ∧ Sat (pt b v.cells.toList T :: H) F w' :=
  ⟨w.heap.size, _, rfl, by simpa [pt] using hs.alloc (.cells v.cells T)⟩
theorem OP.any {H' : Nat → List Res} {d : Nat} {o : Oper} {v : Nat → Value} (hd : o.dst = some d) (hn : d < n) (hg : o.guard = none)
    (he : ∀ F, Sub G F → ∀ g w, Sat H F w → ∃ b w', (execOp (evl L g) o).run P w = .ok (.value (v b)) w' ∧ Sat (H' b) F w') (h : ∀ b, OP P n G ops Q rest ((d, v b) :: L) (H' b)) : OP P n G ops Q (o :: rest) L H := by
  intro F hF g a w ha hs
  refine wpList_plain hg fun K hK => ?_
  obtain ⟨b, w', h1, h2⟩ := he F hF g w hs
  unfold Oper.wp
  rw [ha.eval, h1, Oper.upon_value, hd]
  exact hK _ _ (h b F hF g _ w' (ha.put hn _) h2)
theorem o_al {d T : Nat} {ty : TypeId} {p : String} {e : Array Edge} {zs : List Value} (hz : zeroOf P T = some zs)
    (h : ∀ b, OP P n G ops Q rest ((d, .pointer (some ⟨b, 0, none⟩)) :: L) (pt b zs T :: H)) (hn : d < n := by decide) :
    OP P n G ops Q (⟨some d, .alloc T, ty, p, e, none⟩ :: rest) L H := by
  refine OP.any (v := fun b => .pointer (some ⟨b, 0, none⟩)) (H' := fun b => pt b zs T :: H) rfl hn rfl (fun F hF g w hs => ?_) h
  unfold zeroOf at hz
  cases hi : P.info? T with
  | none => simp [hi] at hz
  | some i =>
    cases hzz : i.zero with
    | none => simp [hi, hzz] at hz
    | some z =>
      simp [hi, hzz] at hz
      obtain ⟨b, w', h1, h2⟩ := run_newVar (P := P) (T := T) z hs
      refine ⟨b, w', ?_, hz ▸ h2⟩
      have hzv : (zeroValue T).run P w = .ok z w := by simp [zeroValue, typeInfo, hi, hzz]
      simp [execOp, Instr.alloc, hzv, h1]
theorem o_bx {d T : Nat} {x : Operand} {ty : TypeId} {p : String} {e : Array Edge} {v : Value} {vs : List Value}
    (h : ∀ b, OP P n G ops Q rest ((d, .pointer (some ⟨b, 0, none⟩)) :: L) (pt b vs T :: H)) (hx : ∀ g, evl L g x = v := by intro g; first | (simp only [evl, val, Nat.reduceEqDiff, ↓reduceIte]; rfl) | simp only [evl, val, Nat.reduceEqDiff, ↓reduceIte]) (hv : v.cells.toList = vs := by first | (simp only [Value.cells, List.toList_toArray]; rfl) | rfl) (hn : d < n := by decide) :
    OP P n G ops Q (⟨some d, .box T x, ty, p, e, none⟩ :: rest) L H := by
  refine OP.any (v := fun b => .pointer (some ⟨b, 0, none⟩)) (H' := fun b => pt b vs T :: H) rfl hn rfl (fun F hF g w hs => ?_) h
  obtain ⟨b, w', h1, h2⟩ := run_newVar (P := P) (T := T) v hs
  exact ⟨b, w', by simp [execOp, Instr.box, hx g, h1], hv ▸ h2⟩
theorem o_call {d f : Nat} {args : Array Operand} {ts : Array TypeId} {ty : TypeId} {p : String} {e : Array Edge} {vs : Array Value} {H1 : List Res} {Q1 : Value → List Res → Prop}
    (hc : ∀ (a : Array Value) w, (callFunc f a).run P w = .ok (.enter f a) w) (ha : ∀ g, args.map (evl L g) = vs) (hs : Split H H1 R) (hf : Fn P G f vs H1 Q1)
    (h : ∀ v H' H'', Q1 v H' → H' ++ R = H'' → OP P n G ops Q rest ((d, v) :: L) H'') (hn : d < n := by decide) :
    OP P n G ops Q (⟨some d, .call ⟨.value (.func f), args, ts⟩, ty, p, e, none⟩ :: rest) L H := by
  intro F hF g a w hag hsat
  refine wpList_plain rfl fun K hK => ?_
  have hsat' := hsat.perm hs
  have hrun : (execOp a.eval ⟨some d, .call ⟨.value (.func f), args, ts⟩, ty, p, e, none⟩).run P w = .ok (.enter f vs) w := by
    rw [hag.eval]
    simp [execOp, resolve, Deferred.ofValue, evl, invoke, hc]
    have := ha g
    simpa using this
  unfold Oper.wp
  rw [hrun, Oper.upon_enter]
  refine (hf (F.add R) (hF.add hsat') w hsat'.split).mono fun e w' ⟨v, H', he, h1, h2⟩ => ?_
  subst he
  exact hK _ _ (h v H' _ h2 rfl F hF g _ w' (hag.put hn v) (hsat'.join h1))
end
end Go.Proofs.YtlmefkhglooepaaGreatDoor
namespace Go.Proofs.YtlmefkhglooepaaGreatDoor
open Go
set_option linter.unusedSimpArgs false
def waits (ops : Array Oper) (t i : Nat) : Bool := match ops[t]? with | some o => o.after.any fun e => Region.binds .any e && e.on == i | none => false
def barA (ops : Array Oper) (k : Nat) : Bool :=
  Nat.ble ops.size k || ((List.range k).all fun i => (List.range (k + 1)).any fun j => Nat.blt i j && waits ops j i) &&
    (List.range ops.size).all fun t => Nat.ble t k || (List.range t).any fun j => Nat.ble k j && waits ops t j
def barB (ops : Array Oper) (k : Nat) : Bool := barA ops k || (match k with | 0 => false | c + 1 => barA ops c)
def backB (ops : Array Oper) : Bool := (List.range ops.size).all fun j => match ops[j]? with | some o => o.after.all fun e => !Region.binds .any e || Nat.blt e.on j | none => true
def full (m k : Nat) : Array Bool := ((List.range m).map fun i => Nat.blt i k).toArray
theorem full_getD (m k i : Nat) (d : Bool) : (full m k).getD i d = if i < m then decide (i < k) else d := by
  simp only [full, Array.getD_eq_getD_getElem?, List.getElem?_toArray, List.getElem?_map]
  by_cases h : i < m
  · simp [h, List.getElem?_range h, Nat.blt_eq]
    rw [Bool.eq_iff_iff]; simp [Nat.blt_eq]
  · simp [h]
theorem full_size (m k : Nat) : (full m k).size = m := by simp [full]
theorem full_set {m k : Nat} (hk : k < m) : (full m k).setIfInBounds k true = full m (k + 1) := by
  apply Array.ext_getElem?
  intro i
  by_cases h : k = i
  · subst h; simp [full, hk, List.getElem?_range hk, Nat.blt_eq]
  · rw [Array.getElem?_setIfInBounds_ne h]
    by_cases hi : i < m
    · simp only [full, List.getElem?_toArray, List.getElem?_map, List.getElem?_range hi, Option.map_some, Option.some.injEq]
      rw [Bool.eq_iff_iff]; simp [Nat.blt_eq]; omega
    · simp [full, hi]
structure Closed (ops : Array Oper) (listed : Array Bool) : Prop where
  size : listed.size = ops.size
  back : ∀ j oj, ops[j]? = some oj → listed.getD j false = true → ∀ e ∈ oj.after, Region.binds .any e = true → listed.getD e.on false = true
theorem full_closed {ops : Array Oper} (h : backB ops = true) (k : Nat) : Closed ops (full ops.size k) := by
  refine ⟨full_size _ _, fun j oj hj hl e he hb => ?_⟩
  have hlt : j < ops.size := (Array.getElem?_eq_some_iff.1 hj).1
  simp only [backB, List.all_eq_true, List.mem_range] at h
  have h1 := h j hlt
  simp only [hj, Array.all_eq_true_iff_forall_mem] at h1
  have h2 := h1 e he
  simp only [hb, Bool.not_true, Bool.false_or, Nat.blt_eq] at h2
  rw [full_getD] at hl ⊢
  rw [if_pos hlt] at hl
  rw [if_pos (by omega)]
  simp at hl ⊢; omega
theorem waits_spec {ops : Array Oper} {t i : Nat} (h : waits ops t i = true) : ∃ o, ops[t]? = some o ∧ ∃ e ∈ o.after, Region.binds .any e = true ∧ e.on = i := by
  unfold waits at h
  split at h
  · rename_i o ho
    obtain ⟨e, he, hb⟩ := Array.any_eq_true'.1 h
    simp only [Bool.and_eq_true, beq_iff_eq] at hb
    exact ⟨o, ho, e, he, hb.1, hb.2⟩
  · cases h
theorem Closed.waits {ops : Array Oper} {listed : Array Bool} (hc : Closed ops listed) {t i : Nat} (h : waits ops t i = true) (hl : listed.getD t false = true) : listed.getD i false = true := by
  obtain ⟨o, ho, e, he, hb, rfl⟩ := waits_spec h
  exact hc.back t o ho hl e he hb
theorem ready_waits {ops : Array Oper} {listed : Array Bool} {t i : Nat} (h : waits ops t i = true) (hr : t ∈ Region.ready .any ops listed) : listed.getD i false = true := by
  obtain ⟨o, ho, e, he, hb, rfl⟩ := waits_spec h
  obtain ⟨_, o', ho', hall⟩ := mem_ready.1 hr
  obtain rfl := Option.some.inj (ho.symm.trans ho')
  exact hall e he hb
theorem unlisted {listed : Array Bool} {i : Nat} (h : listed.getD i true = false) : listed.getD i false = false := by
  rcases Nat.lt_or_ge i listed.size with h' | h'
  · simp [h'] at h ⊢; exact h
  · simp [Array.getElem?_eq_none h'] at h
theorem barA_spec {ops : Array Oper} {k : Nat} (hB : barA ops k = true) {listed : Array Bool} (hc : Closed ops listed) {i : Nat} (hi : i < k) (hu : listed.getD i true = false) :
    ∀ t ∈ Region.ready .any ops listed, t < k := by
  intro t ht
  have htlt : t < ops.size := by
    obtain ⟨_, o, ho, _⟩ := mem_ready.1 ht
    exact (Array.getElem?_eq_some_iff.1 ho).1
  simp only [barA, Bool.or_eq_true, Bool.and_eq_true, Nat.ble_eq] at hB
  rcases hB with hB | ⟨hsink, hup⟩
  · omega
  rcases Nat.lt_or_ge t k with h | h
  · exact h
  exfalso
  simp only [List.all_eq_true, List.mem_range, List.any_eq_true, Bool.and_eq_true, Bool.or_eq_true, Nat.ble_eq, Nat.blt_eq] at hsink hup
  have up : ∀ d j, j - k = d → k ≤ j → j < ops.size → listed.getD j false = true → listed.getD k false = true := by
    intro d
    induction d using Nat.strongRecOn with
    | _ d ih =>
      intro j hd hkj hj hl
      by_cases e : j = k
      · subst e; exact hl
      · obtain ⟨j', hj', hk', hw⟩ := (hup j hj).resolve_left (by omega)
        exact ih (j' - k) (by omega) j' rfl hk' (by omega) (hc.waits hw hl)
  have hk : ∀ i, waits ops k i = true → listed.getD i false = true := by
    intro i hw
    by_cases e : t = k
    · subst e; exact ready_waits hw ht
    · obtain ⟨j', hj', hk', hw'⟩ := (hup t htlt).resolve_left (by omega)
      exact hc.waits hw (up _ j' rfl hk' (by omega) (ready_waits hw' ht))
  have all : ∀ d i, k - i = d → i < k → listed.getD i false = true := by
    intro d
    induction d using Nat.strongRecOn with
    | _ d ih =>
      intro i hd hi
      obtain ⟨j, hj, hij, hw⟩ := hsink i hi
      by_cases e : j = k
      · subst e; exact hk i hw
      · exact hc.waits hw (ih (k - j) (by omega) j rfl (by omega))
  have h1 := all _ i rfl hi
  rw [unlisted hu] at h1; cases h1
theorem cen_spec {ops : Array Oper} {c : Nat} (hB : barA ops c = true) {listed : Array Bool} (hc : Closed ops listed) {i : Nat} (hi : i < c + 1) (hu : listed.getD i true = false) :
    ∀ t ∈ Region.ready .any ops listed, t < c + 1 := by
  intro t ht
  have htlt : t < ops.size := by
    obtain ⟨_, o, ho, _⟩ := mem_ready.1 ht
    exact (Array.getElem?_eq_some_iff.1 ho).1
  simp only [barA, Bool.or_eq_true, Bool.and_eq_true, Nat.ble_eq] at hB
  rcases hB with hB | ⟨hsink, hup⟩
  · omega
  rcases Nat.lt_or_ge t (c + 1) with h | h
  · exact h
  exfalso
  simp only [List.all_eq_true, List.mem_range, List.any_eq_true, Bool.and_eq_true, Bool.or_eq_true, Nat.ble_eq, Nat.blt_eq] at hsink hup
  have up : ∀ d j, j - c = d → c ≤ j → j < ops.size → listed.getD j false = true → listed.getD c false = true := by
    intro d
    induction d using Nat.strongRecOn with
    | _ d ih =>
      intro j hd hkj hj hl
      by_cases e : j = c
      · subst e; exact hl
      · obtain ⟨j', hj', hk', hw⟩ := (hup j hj).resolve_left (by omega)
        exact ih (j' - c) (by omega) j' rfl hk' (by omega) (hc.waits hw hl)
  have hcl : listed.getD c false = true := by
    obtain ⟨j', hj', hk', hw'⟩ := (hup t htlt).resolve_left (by omega)
    exact up _ j' rfl hk' (by omega) (ready_waits hw' ht)
  have all : ∀ d i, c - i = d → i ≤ c → listed.getD i false = true := by
    intro d
    induction d using Nat.strongRecOn with
    | _ d ih =>
      intro i hd hi
      by_cases e : i = c
      · subst e; exact hcl
      · obtain ⟨j, hj, hij, hw⟩ := hsink i (by omega)
        exact hc.waits hw (ih (c - j) (by omega) j rfl (by omega))
  have h1 := all _ i rfl (by omega)
  rw [unlisted hu] at h1; cases h1
theorem bar_spec {ops : Array Oper} {k : Nat} (hB : barB ops k = true) {listed : Array Bool} (hc : Closed ops listed) {i : Nat} (hi : i < k) (hu : listed.getD i true = false) :
    ∀ t ∈ Region.ready .any ops listed, t < k := by
  simp only [barB, Bool.or_eq_true] at hB
  rcases hB with hB | hB
  · exact barA_spec hB hc hi hu
  · cases k with
    | zero => cases hB
    | succ c => exact cen_spec hB hc hi hu
section
variable {P : Program} {ops : Array Oper} {Q : Exit → Act → World → Prop} {S : World → Prop} {K : Array Bool → Act → World → Prop} {k : Nat}
def PH (P : Program) (ops : Array Oper) (Q : Exit → Act → World → Prop) (S : World → Prop) (k : Nat) (K : Array Bool → Act → World → Prop) : Nat → Array Bool → Act → World → Prop
  | 0, listed, a, w => (∀ j ∈ Region.ready .any ops listed, k ≤ j) ∧ K listed a w
  | f + 1, listed, a, w => Region.ready .any ops listed ≠ [] ∧ ∀ i ∈ Region.ready .any ops listed, i < k ∧ wpOp P ops Q i (fun a' w' => S w' ∧ PH P ops Q S k K f (listed.setIfInBounds i true) a' w') a w
theorem PH.any {m : Nat} (hK : ∀ listed a w, K listed a w → wpAny P .any ops Q m listed a w) : ∀ (f : Nat) (listed : Array Bool) (a : Act) (w : World), PH P ops Q S k K f listed a w → wpAny P .any ops Q (f + m) listed a w
  | 0, listed, a, w, h => by rw [Nat.zero_add]; exact hK _ _ _ h.2
  | f + 1, listed, a, w, h => by
    rw [show f + 1 + m = (f + m) + 1 by omega]
    exact ⟨fun h0 => absurd h0 h.1, fun i hi => wpOp_mono (fun a' w' h' => PH.any hK f _ a' w' h'.2) (h.2 i hi).2⟩
theorem Closed.set {listed : Array Bool} (hc : Closed ops listed) {j : Nat} (hj : j ∈ Region.ready .any ops listed) : Closed ops (listed.setIfInBounds j true) := by
  obtain ⟨_, oj, hoj, hall⟩ := mem_ready.1 hj
  refine ⟨by simp [hc.size], fun t ot ht hl e he hb => ?_⟩
  by_cases hjt : j = t
  · subst hjt
    obtain rfl := Option.some.inj (ht.symm.trans hoj)
    exact getD_set_true (hall e he hb)
  · rw [getD_set_ne false hjt] at hl
    exact getD_set_true (hc.back t ot ht hl e he hb)
theorem PH.take {i : Nat} {oi : Oper} {v : Value} (hB : barB ops k = true) (hi : ops[i]? = some oi) (hik : i < k) (hsel : ∀ (j : Nat) (o : Oper) cs b, ops[j]? = some o → o.op ≠ .select cs b)
    (hQ : ∀ c a w, Q (.panic c) (a.put oi.dst v) w → Q (.panic c) a w) :
    ∀ (f : Nat) (listed : Array Bool) (a : Act) (w : World), Closed ops listed →
      (∀ j oj, ops[j]? = some oj → j ≠ i → listed.getD j true = false → (∀ e ∈ oj.after, Region.binds .any e = true → e.on ≠ i) → oi.apart ops oj = true) →
      i ∈ Region.ready .any ops listed → YieldsIf P ops S oi v a → S w →
      PH P ops Q S k K f (listed.setIfInBounds i true) (a.put oi.dst v) w → PH P ops Q S k K (f + 1) listed a w := by
  intro f
  induction f with
  | zero =>
    intro listed a w hc _ hr hy hS H
    have hb := bar_spec hB hc hik (mem_ready.1 hr).1
    refine ⟨fun h => (by rw [h] at hr; cases hr), fun j hj => ⟨hb j hj, ?_⟩⟩
    by_cases hji : j = i
    · subst hji; exact hy.wpOp hi hS ⟨hS, H⟩
    · have := H.1 j (ready_mono hj hji)
      have := hb j hj
      omega
  | succ f ih =>
    intro listed a w hc hfree hr hy hS H
    have hun := (mem_ready.1 hr).1
    have hb := bar_spec hB hc hik hun
    refine ⟨fun h => (by rw [h] at hr; cases hr), fun j hj => ⟨hb j hj, ?_⟩⟩
    by_cases hji : j = i
    · subst hji; exact hy.wpOp hi hS ⟨hS, H⟩
    · have h1 := (H.2 j (ready_mono hj hji)).2
      obtain ⟨hjun, oj, hoj, hall⟩ := mem_ready.1 hj
      have hnot : ∀ e ∈ oj.after, Region.binds .any e = true → e.on ≠ i := fun e he hb heq => by
        have h1 := hall e he hb
        rw [heq, unlisted hun] at h1; cases h1
      have h2 := wpOp_putIf hoj (hfree j oj hoj hji hjun hnot) (fun cs b => hsel i oi cs b hi) (fun cs b => hsel j oj cs b hoj) hQ hy h1
      have hfree' : ∀ t ot, ops[t]? = some ot → t ≠ i → (listed.setIfInBounds j true).getD t true = false →
          (∀ e ∈ ot.after, Region.binds .any e = true → e.on ≠ i) → oi.apart ops ot = true := fun t ot ht hti hu hno => by
        refine hfree t ot ht hti ?_ hno
        by_cases hjt : j = t
        · subst hjt; exact hjun
        · rw [getD_set_ne true hjt] at hu; exact hu
      refine wpOp_mono (fun a' w' h3 => ⟨h3.2.1, ih (listed.setIfInBounds j true) a' w' (hc.set hj) hfree' (ready_mono hr (Ne.symm hji)) h3.1 h3.2.1 ?_⟩) h2
      rw [Array.setIfInBounds_comm _ _ hji]
      exact h3.2.2
end
/-- What is asked of a chain of operations: taken first (true), or the only one that may come (false). -/
def segB (ops : Array Oper) : Array Bool → List (Nat × Nat) → Bool
  | _, [] => true
  | lst, (2, i) :: (_, j) :: ts => decide (Region.ready .any ops lst = [i, j]) && decide (Region.ready .any ops (lst.setIfInBounds i true) = [j]) && decide (Region.ready .any ops (lst.setIfInBounds j true) = [i]) && segB ops ((lst.setIfInBounds i true).setIfInBounds j true) ts
  | lst, (1, i) :: ts => (Region.ready .any ops lst).contains i && Region.free .any ops lst i && segB ops (lst.setIfInBounds i true) ts
  | lst, (0, i) :: ts => decide (Region.ready .any ops lst = [i]) && segB ops (lst.setIfInBounds i true) ts
  | _, _ => false
/-- The chain ends where all before k are listed. -/
def endB (m k : Nat) : Array Bool → List (Nat × Nat) → Bool
  | lst, [] => (List.range m).all fun i => lst.getD i false == Nat.blt i k
  | lst, (_, i) :: ts => Nat.blt i k && endB m k (lst.setIfInBounds i true) ts
section
variable {P : Program} {n : Nat} {G : Nat → Option Obj} {ops : Array Oper} {Q : Post} {L : Loc} {H : List Res}
def AN (P : Program) (n : Nat) (G : Nat → Option Obj) (ops : Array Oper) (Q : Post) (k : Nat) (L : Loc) (H : List Res) : Prop :=
  ∀ F, Sub G F → ∀ g a w, Agree n L g a → Sat H F w → wpAny P .any ops (lift n F Q) (ops.size - k) (full ops.size k) a w
def HJ (P : Program) (n : Nat) (G : Nat → Option Obj) (ops : Array Oper) (Q : Post) (Hs : List Res) (k : Nat) (lst : Array Bool) (ts : List (Nat × Nat)) (L : Loc) (H : List Res) : Prop :=
  k ≤ ops.size → barB ops k = true → backB ops = true → Region.noSelect ops = true → segB ops lst ts = true → endB ops.size k lst ts = true → Closed ops lst →
    ∀ F, Sub G F → ∀ g a w, Agree n L g a → Sat H F w → Sat Hs F w →
      PH P ops (lift n F Q) (Sat Hs F) k (fun listed a w => wpAny P .any ops (lift n F Q) (ops.size - k) listed a w) ts.length lst a w
theorem w_draw {id : Nat} {l : List Oper} (hm : P.follows .mixedOrders = true) (h : AN P n G l.toArray Q 0 L H) : WP P n G (.region id l.toArray true) Q L H := by
  intro F hF g a w ha hs
  refine wp_region_any hm ?_
  have h1 := h F hF g a { w with drawn := w.drawn + 1 } ha (hs.same rfl rfl rfl rfl)
  have e : full l.toArray.size 0 = Array.replicate l.toArray.size false := by
    apply Array.ext_getElem?
    intro i
    by_cases hi : i < l.toArray.size
    · simp only [full, List.getElem?_toArray, List.getElem?_map, List.getElem?_range hi, Array.getElem?_replicate, if_pos hi]; rfl
    · simp [full] at hi ⊢; simp [hi]
  rw [e] at h1
  exact h1
theorem a_done {k : Nat} (hk : k = ops.size) (h : Q .normal L H) : AN P n G ops Q k L H := by
  subst hk
  intro F hF g a w ha hs
  rw [Nat.sub_self]
  refine ⟨?_, ⟨L, g, H, ha, hs, h⟩⟩
  cases hr : Region.ready .any ops (full ops.size ops.size) with
  | nil => rfl
  | cons i r =>
    have hi : i ∈ Region.ready .any ops (full ops.size ops.size) := by rw [hr]; simp
    obtain ⟨h0, o, ho, _⟩ := mem_ready.1 hi
    have := (Array.getElem?_eq_some_iff.1 ho).1
    rw [full_getD, if_pos this] at h0
    simp at h0; omega
/-- A segment: the operations from j to k, in a chain's order; a barrier stands behind them. -/
theorem a_seg {j k : Nat} (Hs : List Res) (ts : List (Nat × Nat)) (hc : (Nat.ble k ops.size && barB ops k && backB ops && Region.noSelect ops && segB ops (full ops.size j) ts && endB ops.size k (full ops.size j) ts && Nat.beq (j + ts.length) k) = true)
    (hS : HWk H Hs) (h : HJ P n G ops Q Hs k (full ops.size j) ts L H) : AN P n G ops Q j L H := by
  simp only [Bool.and_eq_true, Nat.ble_eq, Nat.beq_eq] at hc
  obtain ⟨⟨⟨⟨⟨⟨h1, h2⟩, h3⟩, h4⟩, h5⟩, h6⟩, h7⟩ := hc
  intro F hF g a w ha hs
  have hp := h h1 h2 h3 h4 h5 h6 (full_closed h3 j) F hF g a w ha hs (hS F w hs)
  have := PH.any (fun _ _ _ h => h) _ _ _ _ hp
  rwa [show ts.length + (ops.size - k) = ops.size - j by omega] at this
theorem h_end {Hs : List Res} {k : Nat} {lst : Array Bool} (h : AN P n G ops Q k L H) : HJ P n G ops Q Hs k lst [] L H := by
  intro hk hB hb hsel _ he hc F hF g a w ha hs _
  have e : lst = full ops.size k := by
    simp only [endB, List.all_eq_true, List.mem_range, beq_iff_eq] at he
    apply Array.ext
    · rw [hc.size, full_size]
    · intro i h1 h2
      have h0 := he i (by rw [full_size] at h2; exact h2)
      have hf := full_getD ops.size k i false
      rw [if_pos (by rw [full_size] at h2; exact h2)] at hf
      have e1 : lst[i] = lst.getD i false := by simp [Array.getD, h1]
      have e2 : (full ops.size k)[i] = (full ops.size k).getD i false := by simp only [Array.getD, h2, dif_pos]; rfl
      rw [e1, e2, h0, hf, Bool.eq_iff_iff]
      simp [Nat.blt_eq]
  subst e
  refine ⟨fun j hj => ?_, h F hF g a w ha hs⟩
  obtain ⟨h0, o, ho, _⟩ := mem_ready.1 hj
  have := (Array.getElem?_eq_some_iff.1 ho).1
  rw [full_getD, if_pos this] at h0
  simp at h0; exact h0
variable {Hs : List Res} {k j : Nat} {lst : Array Bool} {ts : List (Nat × Nat)}
theorem h_t {o : Oper} {i d : Nat} {v : Value} (ho : ops[i]? = some o) (hx : Ex P n G ops L Hs o d v)
    (h : HJ P n G ops Q Hs k (lst.setIfInBounds i true) ts ((d, v) :: L) H) : HJ P n G ops Q Hs k lst ((1, i) :: ts) L H := by
  intro hk hB hb hsel hs he hcl F hF g a w ha hsat hS
  simp only [segB, Bool.and_eq_true] at hs
  simp only [endB, Bool.and_eq_true, Nat.blt_eq] at he
  have hjk : i < k := he.1
  have hrdy : i ∈ Region.ready .any ops lst := by simpa using hs.1.1
  obtain ⟨hd, hn, hy⟩ := hx
  have hy' : YieldsIf P ops (Sat Hs F) o v a := by
    rcases hy with ⟨hw, he⟩ | ⟨_, hw, rfl⟩
    · exact .inl ⟨hw g a ha, fun w hw => by rw [ha.eval]; exact he F hF g w hw⟩
    · exact .inr ⟨hw g a ha, rfl⟩
  refine PH.take hB ho hjk (Region.noSelect_spec hsel) (fun _ _ _ h => h) ts.length _ a w hcl (Region.free_spec ho hs.1.2) hrdy hy' hS ?_
  rw [hd]
  exact h hk hB hb hsel hs.2 he.2 (hcl.set hrdy) F hF g _ w (ha.put hn v) hsat hS
/-- What one step of an operation gives, said by its wp in the text's order. -/
theorem step_of {o : Oper} {i : Nat} {X : Loc → List Res → Prop} {F : Fr} {a : Act} {w : World} {K : Act → World → Prop} {Q0 : Exit → Act → World → Prop} (ho : ops[i]? = some o)
    (h1 : wpList P ops (lift n F (fun e L' H' => match e with | .normal => X L' H' | _ => False)) [o] a w)
    (key : ∀ a' w', (∃ L' g' H', Agree n L' g' a' ∧ Sat H' F w' ∧ X L' H') → K a' w') : wpOp P ops Q0 i K a w := by
  unfold wpOp
  simp only [ho]
  simp only [wpList] at h1
  have nolet : ∀ Q'' : Post, ¬ LetsOut (lift n F Q'') := fun Q'' ⟨a, w, h⟩ => h
  split
  · rename_i hw
    rw [if_pos hw] at h1
    refine .inl ?_
    have h2 := h1.resolve_right (fun h => nolet _ h.2)
    unfold Oper.wp at h2 ⊢
    generalize (execOp a.eval o).run P w = r at *
    cases r with
    | ok nx w' =>
      cases nx <;> simp only [Oper.upon] at h2 ⊢ <;> try exact key _ _ h2
      case enter f args =>
        refine Calls.mono h2 fun e w'' he => ?_
        cases e with
        | returned u => exact key _ _ he
        | panicked c => exact (he : False).elim
        | outgrown => exact (nolet _ he).elim
      case row row args => exact Rows.mono h2 fun u w'' he => key _ _ he
    | halt x w' => cases x <;> simp only [Oper.upon] at h2 ⊢ <;> first | exact (h2 : False).elim | exact h2
  · rename_i hw
    rw [if_neg hw] at h1
    exact key _ _ h1
/-- The only one that may come: any step that serves in the text's order, if what it leaves still bears Hs. -/
theorem h_one {o : Oper} {i : Nat} (ho : ops[i]? = some o) (hstep : ∀ (Q' : Post), (∀ L' H', HJ P n G ops Q Hs k (lst.setIfInBounds i true) ts L' H' ∧ HWk H' Hs → Q' .normal L' H') → OP P n G ops Q' [o] L H) : HJ P n G ops Q Hs k lst ((0, i) :: ts) L H := by
  intro hk hB hb hsel hs he hcl F hF g a w ha hsat hS
  simp only [segB, Bool.and_eq_true, decide_eq_true_eq] at hs
  simp only [endB, Bool.and_eq_true, Nat.blt_eq] at he
  have hrdy : i ∈ Region.ready .any ops lst := by rw [hs.1]; simp
  refine ⟨by rw [hs.1]; simp, fun i' hi => ?_⟩
  rw [hs.1, List.mem_singleton] at hi
  subst hi
  refine ⟨he.1, ?_⟩
  have h1 := hstep (fun e L' H' => match e with | .normal => HJ P n G ops Q Hs k (lst.setIfInBounds i' true) ts L' H' ∧ HWk H' Hs | _ => False) (fun _ _ h => h) F hF g a w ha hsat
  refine step_of ho h1 ?_
  rintro a' w' ⟨L', g', H', h2, h3, h4, h5⟩
  exact ⟨h5 F w' h3, h4 hk hB hb hsel hs.2 he.2 (hcl.set hrdy) F hF g' a' w' h2 h3 (h5 F w' h3)⟩

/-- Two may come: both orders. -/
theorem h_two {α : Type} {oi oj : Oper} {i j tj : Nat} (I : α → Loc) (R : α → List Res) (hoi : ops[i]? = some oi) (hoj : ops[j]? = some oj) (hR : ∀ x, HWk (R x) Hs)
    (h1 : OP P n G ops (fun e L' H' => match e with | .normal => HWk H' Hs ∧ OP P n G ops (fun e L' H' => match e with | .normal => ∃ x, Wk L' (I x) ∧ HWk H' (R x) | _ => False) [oj] L' H' | _ => False) [oi] L H)
    (h2 : OP P n G ops (fun e L' H' => match e with | .normal => HWk H' Hs ∧ OP P n G ops (fun e L' H' => match e with | .normal => ∃ x, Wk L' (I x) ∧ HWk H' (R x) | _ => False) [oi] L' H' | _ => False) [oj] L H)
    (h : ∀ x, HJ P n G ops Q Hs k ((lst.setIfInBounds i true).setIfInBounds j true) ts (I x) (R x)) : HJ P n G ops Q Hs k lst ((2, i) :: (tj, j) :: ts) L H := by
  intro hk hB hb hsel hs he hcl F hF g a w ha hsat hS
  simp only [segB, Bool.and_eq_true, decide_eq_true_eq] at hs
  simp only [endB, Bool.and_eq_true, Nat.blt_eq] at he
  obtain ⟨⟨⟨hr, hri⟩, hrj⟩, hs⟩ := hs
  have hij : i ≠ j := by
    rintro rfl
    have h0 : i ∈ Region.ready .any ops (lst.setIfInBounds i true) := by rw [hri]; simp
    have h1 := (mem_ready.1 h0).1
    have h2 : i ∈ Region.ready .any ops lst := by rw [hr]; simp
    have h3 := (Array.getElem?_eq_some_iff.1 hoi).1
    rw [← hcl.size] at h3
    simp [h3] at h1
  have ri : i ∈ Region.ready .any ops lst := by rw [hr]; simp
  have rj : j ∈ Region.ready .any ops lst := by rw [hr]; simp
  have cli := hcl.set ri
  have clj := hcl.set rj
  have clij : Closed ops ((lst.setIfInBounds i true).setIfInBounds j true) := cli.set (by rw [hri]; simp)
  have fin : ∀ a' w', (∃ L' g' H', Agree n L' g' a' ∧ Sat H' F w' ∧ ∃ x, Wk L' (I x) ∧ HWk H' (R x)) →
      Sat Hs F w' ∧ PH P ops (lift n F Q) (Sat Hs F) k (fun listed a w => wpAny P .any ops (lift n F Q) (ops.size - k) listed a w) ts.length ((lst.setIfInBounds i true).setIfInBounds j true) a' w' := by
    rintro a' w' ⟨L', g', H', h3, h4, x, h5, h6⟩
    have h7 := hR x F w' (h6 F w' h4)
    exact ⟨h7, h x hk hB hb hsel hs he.2.2 clij F hF _ a' w' (h3.weak _ (h5 g')) (h6 F w' h4) h7⟩
  refine ⟨by rw [hr]; simp, fun i' hi' => ?_⟩
  rw [hr] at hi'
  simp only [List.mem_cons, List.not_mem_nil, or_false] at hi'
  rcases hi' with rfl | rfl
  · refine ⟨he.1, step_of hoi (h1 F hF g a w ha hsat) ?_⟩
    rintro a' w' ⟨L', g', H', h3, h4, h5, h6⟩
    refine ⟨h5 F w' h4, ?_⟩
    refine ⟨by rw [hri]; simp, fun j' hj' => ?_⟩
    rw [hri, List.mem_singleton] at hj'
    subst hj'
    exact ⟨he.2.1, step_of hoj (h6 F hF g' a' w' h3 h4) fin⟩
  · refine ⟨he.2.1, step_of hoj (h2 F hF g a w ha hsat) ?_⟩
    rintro a' w' ⟨L', g', H', h3, h4, h5, h6⟩
    refine ⟨h5 F w' h4, ?_⟩
    refine ⟨by rw [hrj]; simp, fun j' hj' => ?_⟩
    rw [hrj, List.mem_singleton] at hj'
    subst hj'
    refine ⟨he.1, step_of hoi (h6 F hF g' a' w' h3 h4) ?_⟩
    rw [Array.setIfInBounds_comm _ _ (Ne.symm hij)]
    exact fin

/-! ### A region whose operations all are quiet, calls too: the text's order serves every order. -/
def QJ (P : Program) (n : Nat) (G : Nat → Option Obj) (ops : Array Oper) (Q : Post) (l : List Oper) (L : Loc) (H : List Res) : Prop :=
  ∀ F, Sub G F → ∀ g a, Agree n L g a → wpQuiet P ops (Sat H F) (fun a' => ∃ L' g', Agree n L' g' a' ∧ Q .normal L' H) l a
theorem w_quiet {id : Nat} {l : List Oper} (hm : P.follows .mixedOrders = true) (hB : Region.lexB .any l.toArray = true) (h : QJ P n G l.toArray Q l L H) : WP P n G (.region id l.toArray true) Q L H := by
  intro F hF g a w ha hs
  refine wp_region_quiet (C := Sat H F) hm hB (hs.same rfl rfl rfl rfl) ?_
  have h1 := h F hF g a ha
  have mono : ∀ (l' : List Oper) (a : Act) (K K' : Act → Prop), (∀ a, K a → K' a) → wpQuiet P l.toArray (Sat H F) K l' a → wpQuiet P l.toArray (Sat H F) K' l' a := by
    intro l'
    induction l' with
    | nil => intro a K K' hk h; exact hk _ h
    | cons o l' ih =>
      intro a K K' hk h
      simp only [wpQuiet] at h ⊢
      split
      · rename_i hw; rw [if_pos hw] at h; exact Oper.quiet_mono (fun a => ih a K K' hk) h
      · rename_i hw; rw [if_neg hw] at h; exact ih _ K K' hk h
  exact mono l a _ _ (fun a' ⟨L', g', h2, h3⟩ w' hw' => ⟨L', g', H, h2, hw', h3⟩) h1
theorem q_nil (h : Q .normal L H) : QJ P n G ops Q [] L H := fun F _ g a ha => ⟨L, g, ha, h⟩
theorem q_t {o : Oper} {d : Nat} {v : Value} {rest : List Oper} (hx : Ex P n G ops L H o d v) (h : QJ P n G ops Q rest ((d, v) :: L) H) : QJ P n G ops Q (o :: rest) L H := by
  intro F hF g a ha
  obtain ⟨hd, hn, ⟨hw, he⟩ | ⟨_, hw, rfl⟩⟩ := hx
  · simp only [wpQuiet]
    rw [if_pos (hw g a ha)]
    refine ⟨v, fun w hsat => ?_, ?_⟩
    · unfold Oper.quietAt
      rw [ha.eval, he F hF g w hsat]
      exact ⟨rfl, rfl⟩
    · rw [hd]; exact h F hF g _ (ha.put hn v)
  · simp only [wpQuiet]
    rw [if_neg (by rw [hw g a ha]; simp), hd]
    exact h F hF g _ (ha.put hn _)
theorem q_call {d f : Nat} {args : Array Operand} {ts : Array TypeId} {ty : TypeId} {p : String} {e : Array Edge} {vs : Array Value} {H1 R : List Res} {v : Value} {rest : List Oper}
    (hc : ∀ (a : Array Value) w, (callFunc f a).run P w = .ok (.enter f a) w) (ha : ∀ g, args.map (evl L g) = vs) (hs : Split H H1 R) (hf : Fn P G f vs H1 (fun v' H' => v' = v ∧ H' = H1))
    (h : QJ P n G ops Q rest ((d, v) :: L) H) (hn : d < n := by decide) :
    QJ P n G ops Q (⟨some d, .call ⟨.value (.func f), args, ts⟩, ty, p, e, none⟩ :: rest) L H := by
  intro F hF g a hag
  simp only [wpQuiet]
  rw [if_pos (by rfl)]
  refine ⟨v, fun w hsat => ?_, h F hF g _ (hag.put hn v)⟩
  have hsat' := hsat.perm hs
  have hrun : (execOp a.eval ⟨some d, .call ⟨.value (.func f), args, ts⟩, ty, p, e, none⟩).run P w = .ok (.enter f vs) w := by
    rw [hag.eval]
    simp [execOp, resolve, Deferred.ofValue, evl, invoke, hc]
    have := ha g
    simpa using this
  unfold Oper.quietAt
  rw [hrun]
  refine ⟨rfl, (hf (F.add R) (hF.add hsat') w hsat'.split).mono fun e w' ⟨v', H', he, h1, h2, h3⟩ => ⟨by rw [he, h2], ?_⟩⟩
  exact (hsat'.join (h3 ▸ h1)).perm hs.symm
end
end Go.Proofs.YtlmefkhglooepaaGreatDoor
namespace Go.Proofs.YtlmefkhglooepaaGreatDoor
open Go
set_option linter.unusedSimpArgs false
section
variable {P : Program} {n : Nat} {G : Nat → Option Obj} {L : Loc} {H H' R : List Res}
def args0 : Nat → List Value → Loc
  | _, [] => []
  | i, v :: vs => (i, v) :: args0 (i + 1) vs
theorem val_args0 (g : Nat → Value) : ∀ (vs : List Value) (i : Nat), (∀ j v, vs[j]? = some v → g (i + j) = v) → ∀ t, val (args0 i vs) g t = g t
  | [], _, _, _ => rfl
  | v :: vs, i, h, t => by
    simp only [args0, val]
    split
    · rename_i e; subst e; exact (h 0 v rfl).symm
    · exact val_args0 g vs (i + 1) (fun j u hj => by have := h (j + 1) u hj; rwa [show i + 1 + j = i + (j + 1) by omega]) t
def RetOK (P : Program) (n : Nat) (fn : Func) (L : Loc) (H : List Res) (v : Value) : Prop :=
  ∀ F g a w, Agree n L g a → Sat H F w → (results fn a.tmps).run P w = .ok v w
def retP (P : Program) (n : Nat) (fn : Func) (Q : Value → List Res → Prop) : Post := fun e L H =>
  match e with
  | .normal | .ret => ∃ v H', RetOK P n fn L H v ∧ HWk H H' ∧ Q v H'
  | _ => False
theorem fn_intro {f : FuncId} {fn : Func} {c : Code} {args : List Value} {Q : Value → List Res → Prop} (hf : P.funcs[f]? = some fn) (hn : fn.ntmps = n) (hb : fn.body = some c)
    (h : WP P n G c (retP P n fn Q) (args0 0 args) H) (ha : args.length ≤ n := by simp) : Fn P G f args.toArray H Q := by
  intro F hF w hs
  refine calls_of_wp hf hb ?_
  have hag : Agree n (args0 0 args) (fun t => (args.toArray ++ Array.replicate (fn.ntmps - args.toArray.size) undef).getD t undef) { tmps := args.toArray ++ Array.replicate (fn.ntmps - args.toArray.size) undef, defers := [] } := by
    refine ⟨by simp [hn]; omega, rfl, fun t => ?_⟩
    rw [val_args0]
    intro j v hj
    have hlt : j < args.length := (List.getElem?_eq_some_iff.1 hj).1
    simp only [Nat.zero_add, Array.getD_eq_getD_getElem?]
    rw [Array.getElem?_append_left (by simpa using hlt)]
    simp [hj]
  refine wp_mono (h F hF _ _ w hag hs) fun e a w q => ?_
  cases e <;> simp only [lift, retP] at q <;> first | exact q.elim | (obtain ⟨L, g, H, _, _, h3⟩ := q; exact h3.elim) | skip
  all_goals
    obtain ⟨L, g, H, h1, h2, v, H', h3, h5, h4⟩ := q
    exact ⟨h1.defers, v, h3 F g a w h1 h2, v, H', rfl, h5 F w h2, h4⟩
theorem r_0 {fn : Func} {Q : Value → List Res → Prop} (hr : fn.results = #[]) (h : Q (.tuple #[]) H') (hH : HWk H H' := by first | exact .refl _ | exact hwk (by first | exact .nil | exact .cons (by first | exact .head | exact .tail .head | exact .tail (.tail .head) | exact .tail (.tail (.tail .head)) | exact .tail (.tail (.tail (.tail .head))) | exact .tail (.tail (.tail (.tail (.tail .head)))) | exact .tail (.tail (.tail (.tail (.tail (.tail .head)))))) .nil | exact .cons (by first | exact .head | exact .tail .head | exact .tail (.tail .head) | exact .tail (.tail (.tail .head)) | exact .tail (.tail (.tail (.tail .head))) | exact .tail (.tail (.tail (.tail (.tail .head)))) | exact .tail (.tail (.tail (.tail (.tail (.tail .head)))))) (.cons (by first | exact .head | exact .tail .head | exact .tail (.tail .head) | exact .tail (.tail (.tail .head)) | exact .tail (.tail (.tail (.tail .head))) | exact .tail (.tail (.tail (.tail (.tail .head)))) | exact .tail (.tail (.tail (.tail (.tail (.tail .head)))))) .nil) | exact .cons (by first | exact .head | exact .tail .head | exact .tail (.tail .head) | exact .tail (.tail (.tail .head)) | exact .tail (.tail (.tail (.tail .head))) | exact .tail (.tail (.tail (.tail (.tail .head)))) | exact .tail (.tail (.tail (.tail (.tail (.tail .head)))))) (.cons (by first | exact .head | exact .tail .head | exact .tail (.tail .head) | exact .tail (.tail (.tail .head)) | exact .tail (.tail (.tail (.tail .head))) | exact .tail (.tail (.tail (.tail (.tail .head)))) | exact .tail (.tail (.tail (.tail (.tail (.tail .head)))))) (.cons (by first | exact .head | exact .tail .head | exact .tail (.tail .head) | exact .tail (.tail (.tail .head)) | exact .tail (.tail (.tail (.tail .head))) | exact .tail (.tail (.tail (.tail (.tail .head)))) | exact .tail (.tail (.tail (.tail (.tail (.tail .head)))))) .nil)) | exact .cons (by first | exact .head | exact .tail .head | exact .tail (.tail .head) | exact .tail (.tail (.tail .head)) | exact .tail (.tail (.tail (.tail .head))) | exact .tail (.tail (.tail (.tail (.tail .head)))) | exact .tail (.tail (.tail (.tail (.tail (.tail .head)))))) (.cons (by first | exact .head | exact .tail .head | exact .tail (.tail .head) | exact .tail (.tail (.tail .head)) | exact .tail (.tail (.tail (.tail .head))) | exact .tail (.tail (.tail (.tail (.tail .head)))) | exact .tail (.tail (.tail (.tail (.tail (.tail .head)))))) (.cons (by first | exact .head | exact .tail .head | exact .tail (.tail .head) | exact .tail (.tail (.tail .head)) | exact .tail (.tail (.tail (.tail .head))) | exact .tail (.tail (.tail (.tail (.tail .head)))) | exact .tail (.tail (.tail (.tail (.tail (.tail .head)))))) (.cons (by first | exact .head | exact .tail .head | exact .tail (.tail .head) | exact .tail (.tail (.tail .head)) | exact .tail (.tail (.tail (.tail .head))) | exact .tail (.tail (.tail (.tail (.tail .head)))) | exact .tail (.tail (.tail (.tail (.tail (.tail .head)))))) .nil))) | exact .cons (by first | exact .head | exact .tail .head | exact .tail (.tail .head) | exact .tail (.tail (.tail .head)) | exact .tail (.tail (.tail (.tail .head))) | exact .tail (.tail (.tail (.tail (.tail .head)))) | exact .tail (.tail (.tail (.tail (.tail (.tail .head)))))) (.cons (by first | exact .head | exact .tail .head | exact .tail (.tail .head) | exact .tail (.tail (.tail .head)) | exact .tail (.tail (.tail (.tail .head))) | exact .tail (.tail (.tail (.tail (.tail .head)))) | exact .tail (.tail (.tail (.tail (.tail (.tail .head)))))) (.cons (by first | exact .head | exact .tail .head | exact .tail (.tail .head) | exact .tail (.tail (.tail .head)) | exact .tail (.tail (.tail (.tail .head))) | exact .tail (.tail (.tail (.tail (.tail .head)))) | exact .tail (.tail (.tail (.tail (.tail (.tail .head)))))) (.cons (by first | exact .head | exact .tail .head | exact .tail (.tail .head) | exact .tail (.tail (.tail .head)) | exact .tail (.tail (.tail (.tail .head))) | exact .tail (.tail (.tail (.tail (.tail .head)))) | exact .tail (.tail (.tail (.tail (.tail (.tail .head)))))) (.cons (by first | exact .head | exact .tail .head | exact .tail (.tail .head) | exact .tail (.tail (.tail .head)) | exact .tail (.tail (.tail (.tail .head))) | exact .tail (.tail (.tail (.tail (.tail .head)))) | exact .tail (.tail (.tail (.tail (.tail (.tail .head)))))) .nil)))) | exact .cons (by first | exact .head | exact .tail .head | exact .tail (.tail .head) | exact .tail (.tail (.tail .head)) | exact .tail (.tail (.tail (.tail .head))) | exact .tail (.tail (.tail (.tail (.tail .head)))) | exact .tail (.tail (.tail (.tail (.tail (.tail .head)))))) (.cons (by first | exact .head | exact .tail .head | exact .tail (.tail .head) | exact .tail (.tail (.tail .head)) | exact .tail (.tail (.tail (.tail .head))) | exact .tail (.tail (.tail (.tail (.tail .head)))) | exact .tail (.tail (.tail (.tail (.tail (.tail .head)))))) (.cons (by first | exact .head | exact .tail .head | exact .tail (.tail .head) | exact .tail (.tail (.tail .head)) | exact .tail (.tail (.tail (.tail .head))) | exact .tail (.tail (.tail (.tail (.tail .head)))) | exact .tail (.tail (.tail (.tail (.tail (.tail .head)))))) (.cons (by first | exact .head | exact .tail .head | exact .tail (.tail .head) | exact .tail (.tail (.tail .head)) | exact .tail (.tail (.tail (.tail .head))) | exact .tail (.tail (.tail (.tail (.tail .head)))) | exact .tail (.tail (.tail (.tail (.tail (.tail .head)))))) (.cons (by first | exact .head | exact .tail .head | exact .tail (.tail .head) | exact .tail (.tail (.tail .head)) | exact .tail (.tail (.tail (.tail .head))) | exact .tail (.tail (.tail (.tail (.tail .head)))) | exact .tail (.tail (.tail (.tail (.tail (.tail .head)))))) (.cons (by first | exact .head | exact .tail .head | exact .tail (.tail .head) | exact .tail (.tail (.tail .head)) | exact .tail (.tail (.tail (.tail .head))) | exact .tail (.tail (.tail (.tail (.tail .head)))) | exact .tail (.tail (.tail (.tail (.tail (.tail .head)))))) .nil))))))) : retP P n fn Q .ret L H :=
  ⟨_, _, fun F g a w _ _ => results_none hr _ _ _, hH, h⟩
theorem r_0n {fn : Func} {Q : Value → List Res → Prop} (hr : fn.results = #[]) (h : Q (.tuple #[]) H') (hH : HWk H H' := by first | exact .refl _ | exact hwk (by first | exact .nil | exact .cons (by first | exact .head | exact .tail .head | exact .tail (.tail .head) | exact .tail (.tail (.tail .head)) | exact .tail (.tail (.tail (.tail .head))) | exact .tail (.tail (.tail (.tail (.tail .head)))) | exact .tail (.tail (.tail (.tail (.tail (.tail .head)))))) .nil | exact .cons (by first | exact .head | exact .tail .head | exact .tail (.tail .head) | exact .tail (.tail (.tail .head)) | exact .tail (.tail (.tail (.tail .head))) | exact .tail (.tail (.tail (.tail (.tail .head)))) | exact .tail (.tail (.tail (.tail (.tail (.tail .head)))))) (.cons (by first | exact .head | exact .tail .head | exact .tail (.tail .head) | exact .tail (.tail (.tail .head)) | exact .tail (.tail (.tail (.tail .head))) | exact .tail (.tail (.tail (.tail (.tail .head)))) | exact .tail (.tail (.tail (.tail (.tail (.tail .head)))))) .nil) | exact .cons (by first | exact .head | exact .tail .head | exact .tail (.tail .head) | exact .tail (.tail (.tail .head)) | exact .tail (.tail (.tail (.tail .head))) | exact .tail (.tail (.tail (.tail (.tail .head)))) | exact .tail (.tail (.tail (.tail (.tail (.tail .head)))))) (.cons (by first | exact .head | exact .tail .head | exact .tail (.tail .head) | exact .tail (.tail (.tail .head)) | exact .tail (.tail (.tail (.tail .head))) | exact .tail (.tail (.tail (.tail (.tail .head)))) | exact .tail (.tail (.tail (.tail (.tail (.tail .head)))))) (.cons (by first | exact .head | exact .tail .head | exact .tail (.tail .head) | exact .tail (.tail (.tail .head)) | exact .tail (.tail (.tail (.tail .head))) | exact .tail (.tail (.tail (.tail (.tail .head)))) | exact .tail (.tail (.tail (.tail (.tail (.tail .head)))))) .nil)) | exact .cons (by first | exact .head | exact .tail .head | exact .tail (.tail .head) | exact .tail (.tail (.tail .head)) | exact .tail (.tail (.tail (.tail .head))) | exact .tail (.tail (.tail (.tail (.tail .head)))) | exact .tail (.tail (.tail (.tail (.tail (.tail .head)))))) (.cons (by first | exact .head | exact .tail .head | exact .tail (.tail .head) | exact .tail (.tail (.tail .head)) | exact .tail (.tail (.tail (.tail .head))) | exact .tail (.tail (.tail (.tail (.tail .head)))) | exact .tail (.tail (.tail (.tail (.tail (.tail .head)))))) (.cons (by first | exact .head | exact .tail .head | exact .tail (.tail .head) | exact .tail (.tail (.tail .head)) | exact .tail (.tail (.tail (.tail .head))) | exact .tail (.tail (.tail (.tail (.tail .head)))) | exact .tail (.tail (.tail (.tail (.tail (.tail .head)))))) (.cons (by first | exact .head | exact .tail .head | exact .tail (.tail .head) | exact .tail (.tail (.tail .head)) | exact .tail (.tail (.tail (.tail .head))) | exact .tail (.tail (.tail (.tail (.tail .head)))) | exact .tail (.tail (.tail (.tail (.tail (.tail .head)))))) .nil))) | exact .cons (by first | exact .head | exact .tail .head | exact .tail (.tail .head) | exact .tail (.tail (.tail .head)) | exact .tail (.tail (.tail (.tail .head))) | exact .tail (.tail (.tail (.tail (.tail .head)))) | exact .tail (.tail (.tail (.tail (.tail (.tail .head)))))) (.cons (by first | exact .head | exact .tail .head | exact .tail (.tail .head) | exact .tail (.tail (.tail .head)) | exact .tail (.tail (.tail (.tail .head))) | exact .tail (.tail (.tail (.tail (.tail .head)))) | exact .tail (.tail (.tail (.tail (.tail (.tail .head)))))) (.cons (by first | exact .head | exact .tail .head | exact .tail (.tail .head) | exact .tail (.tail (.tail .head)) | exact .tail (.tail (.tail (.tail .head))) | exact .tail (.tail (.tail (.tail (.tail .head)))) | exact .tail (.tail (.tail (.tail (.tail (.tail .head)))))) (.cons (by first | exact .head | exact .tail .head | exact .tail (.tail .head) | exact .tail (.tail (.tail .head)) | exact .tail (.tail (.tail (.tail .head))) | exact .tail (.tail (.tail (.tail (.tail .head)))) | exact .tail (.tail (.tail (.tail (.tail (.tail .head)))))) (.cons (by first | exact .head | exact .tail .head | exact .tail (.tail .head) | exact .tail (.tail (.tail .head)) | exact .tail (.tail (.tail (.tail .head))) | exact .tail (.tail (.tail (.tail (.tail .head)))) | exact .tail (.tail (.tail (.tail (.tail (.tail .head)))))) .nil)))) | exact .cons (by first | exact .head | exact .tail .head | exact .tail (.tail .head) | exact .tail (.tail (.tail .head)) | exact .tail (.tail (.tail (.tail .head))) | exact .tail (.tail (.tail (.tail (.tail .head)))) | exact .tail (.tail (.tail (.tail (.tail (.tail .head)))))) (.cons (by first | exact .head | exact .tail .head | exact .tail (.tail .head) | exact .tail (.tail (.tail .head)) | exact .tail (.tail (.tail (.tail .head))) | exact .tail (.tail (.tail (.tail (.tail .head)))) | exact .tail (.tail (.tail (.tail (.tail (.tail .head)))))) (.cons (by first | exact .head | exact .tail .head | exact .tail (.tail .head) | exact .tail (.tail (.tail .head)) | exact .tail (.tail (.tail (.tail .head))) | exact .tail (.tail (.tail (.tail (.tail .head)))) | exact .tail (.tail (.tail (.tail (.tail (.tail .head)))))) (.cons (by first | exact .head | exact .tail .head | exact .tail (.tail .head) | exact .tail (.tail (.tail .head)) | exact .tail (.tail (.tail (.tail .head))) | exact .tail (.tail (.tail (.tail (.tail .head)))) | exact .tail (.tail (.tail (.tail (.tail (.tail .head)))))) (.cons (by first | exact .head | exact .tail .head | exact .tail (.tail .head) | exact .tail (.tail (.tail .head)) | exact .tail (.tail (.tail (.tail .head))) | exact .tail (.tail (.tail (.tail (.tail .head)))) | exact .tail (.tail (.tail (.tail (.tail (.tail .head)))))) (.cons (by first | exact .head | exact .tail .head | exact .tail (.tail .head) | exact .tail (.tail (.tail .head)) | exact .tail (.tail (.tail (.tail .head))) | exact .tail (.tail (.tail (.tail (.tail .head)))) | exact .tail (.tail (.tail (.tail (.tail (.tail .head)))))) .nil))))))) : retP P n fn Q .normal L H :=
  ⟨_, _, fun F g a w _ _ => results_none hr _ _ _, hH, h⟩
theorem r_1 {fn : Func} {Q : Value → List Res → Prop} {t : Nat} {v : Value} (hr : fn.results = #[.tmp t]) (h : Q v H') (hv : ∀ g, val L g t = v := by intro g; first | (simp only [val, Nat.reduceEqDiff, ↓reduceIte]; rfl) | simp only [val, Nat.reduceEqDiff, ↓reduceIte] | rfl) (hH : HWk H H' := by first | exact .refl _ | exact hwk (by first | exact .nil | exact .cons (by first | exact .head | exact .tail .head | exact .tail (.tail .head) | exact .tail (.tail (.tail .head)) | exact .tail (.tail (.tail (.tail .head))) | exact .tail (.tail (.tail (.tail (.tail .head)))) | exact .tail (.tail (.tail (.tail (.tail (.tail .head)))))) .nil | exact .cons (by first | exact .head | exact .tail .head | exact .tail (.tail .head) | exact .tail (.tail (.tail .head)) | exact .tail (.tail (.tail (.tail .head))) | exact .tail (.tail (.tail (.tail (.tail .head)))) | exact .tail (.tail (.tail (.tail (.tail (.tail .head)))))) (.cons (by first | exact .head | exact .tail .head | exact .tail (.tail .head) | exact .tail (.tail (.tail .head)) | exact .tail (.tail (.tail (.tail .head))) | exact .tail (.tail (.tail (.tail (.tail .head)))) | exact .tail (.tail (.tail (.tail (.tail (.tail .head)))))) .nil) | exact .cons (by first | exact .head | exact .tail .head | exact .tail (.tail .head) | exact .tail (.tail (.tail .head)) | exact .tail (.tail (.tail (.tail .head))) | exact .tail (.tail (.tail (.tail (.tail .head)))) | exact .tail (.tail (.tail (.tail (.tail (.tail .head)))))) (.cons (by first | exact .head | exact .tail .head | exact .tail (.tail .head) | exact .tail (.tail (.tail .head)) | exact .tail (.tail (.tail (.tail .head))) | exact .tail (.tail (.tail (.tail (.tail .head)))) | exact .tail (.tail (.tail (.tail (.tail (.tail .head)))))) (.cons (by first | exact .head | exact .tail .head | exact .tail (.tail .head) | exact .tail (.tail (.tail .head)) | exact .tail (.tail (.tail (.tail .head))) | exact .tail (.tail (.tail (.tail (.tail .head)))) | exact .tail (.tail (.tail (.tail (.tail (.tail .head)))))) .nil)) | exact .cons (by first | exact .head | exact .tail .head | exact .tail (.tail .head) | exact .tail (.tail (.tail .head)) | exact .tail (.tail (.tail (.tail .head))) | exact .tail (.tail (.tail (.tail (.tail .head)))) | exact .tail (.tail (.tail (.tail (.tail (.tail .head)))))) (.cons (by first | exact .head | exact .tail .head | exact .tail (.tail .head) | exact .tail (.tail (.tail .head)) | exact .tail (.tail (.tail (.tail .head))) | exact .tail (.tail (.tail (.tail (.tail .head)))) | exact .tail (.tail (.tail (.tail (.tail (.tail .head)))))) (.cons (by first | exact .head | exact .tail .head | exact .tail (.tail .head) | exact .tail (.tail (.tail .head)) | exact .tail (.tail (.tail (.tail .head))) | exact .tail (.tail (.tail (.tail (.tail .head)))) | exact .tail (.tail (.tail (.tail (.tail (.tail .head)))))) (.cons (by first | exact .head | exact .tail .head | exact .tail (.tail .head) | exact .tail (.tail (.tail .head)) | exact .tail (.tail (.tail (.tail .head))) | exact .tail (.tail (.tail (.tail (.tail .head)))) | exact .tail (.tail (.tail (.tail (.tail (.tail .head)))))) .nil))) | exact .cons (by first | exact .head | exact .tail .head | exact .tail (.tail .head) | exact .tail (.tail (.tail .head)) | exact .tail (.tail (.tail (.tail .head))) | exact .tail (.tail (.tail (.tail (.tail .head)))) | exact .tail (.tail (.tail (.tail (.tail (.tail .head)))))) (.cons (by first | exact .head | exact .tail .head | exact .tail (.tail .head) | exact .tail (.tail (.tail .head)) | exact .tail (.tail (.tail (.tail .head))) | exact .tail (.tail (.tail (.tail (.tail .head)))) | exact .tail (.tail (.tail (.tail (.tail (.tail .head)))))) (.cons (by first | exact .head | exact .tail .head | exact .tail (.tail .head) | exact .tail (.tail (.tail .head)) | exact .tail (.tail (.tail (.tail .head))) | exact .tail (.tail (.tail (.tail (.tail .head)))) | exact .tail (.tail (.tail (.tail (.tail (.tail .head)))))) (.cons (by first | exact .head | exact .tail .head | exact .tail (.tail .head) | exact .tail (.tail (.tail .head)) | exact .tail (.tail (.tail (.tail .head))) | exact .tail (.tail (.tail (.tail (.tail .head)))) | exact .tail (.tail (.tail (.tail (.tail (.tail .head)))))) (.cons (by first | exact .head | exact .tail .head | exact .tail (.tail .head) | exact .tail (.tail (.tail .head)) | exact .tail (.tail (.tail (.tail .head))) | exact .tail (.tail (.tail (.tail (.tail .head)))) | exact .tail (.tail (.tail (.tail (.tail (.tail .head)))))) .nil)))) | exact .cons (by first | exact .head | exact .tail .head | exact .tail (.tail .head) | exact .tail (.tail (.tail .head)) | exact .tail (.tail (.tail (.tail .head))) | exact .tail (.tail (.tail (.tail (.tail .head)))) | exact .tail (.tail (.tail (.tail (.tail (.tail .head)))))) (.cons (by first | exact .head | exact .tail .head | exact .tail (.tail .head) | exact .tail (.tail (.tail .head)) | exact .tail (.tail (.tail (.tail .head))) | exact .tail (.tail (.tail (.tail (.tail .head)))) | exact .tail (.tail (.tail (.tail (.tail (.tail .head)))))) (.cons (by first | exact .head | exact .tail .head | exact .tail (.tail .head) | exact .tail (.tail (.tail .head)) | exact .tail (.tail (.tail (.tail .head))) | exact .tail (.tail (.tail (.tail (.tail .head)))) | exact .tail (.tail (.tail (.tail (.tail (.tail .head)))))) (.cons (by first | exact .head | exact .tail .head | exact .tail (.tail .head) | exact .tail (.tail (.tail .head)) | exact .tail (.tail (.tail (.tail .head))) | exact .tail (.tail (.tail (.tail (.tail .head)))) | exact .tail (.tail (.tail (.tail (.tail (.tail .head)))))) (.cons (by first | exact .head | exact .tail .head | exact .tail (.tail .head) | exact .tail (.tail (.tail .head)) | exact .tail (.tail (.tail (.tail .head))) | exact .tail (.tail (.tail (.tail (.tail .head)))) | exact .tail (.tail (.tail (.tail (.tail (.tail .head)))))) (.cons (by first | exact .head | exact .tail .head | exact .tail (.tail .head) | exact .tail (.tail (.tail .head)) | exact .tail (.tail (.tail (.tail .head))) | exact .tail (.tail (.tail (.tail (.tail .head)))) | exact .tail (.tail (.tail (.tail (.tail (.tail .head)))))) .nil))))))) : retP P n fn Q .ret L H :=
  ⟨v, _, fun F g a w ha _ => by rw [results_tmp hr, ha.get, hv], hH, h⟩
theorem r_2 {fn : Func} {Q : Value → List Res → Prop} {t u : Nat} {v x : Value} (hr : fn.results = #[.tmp t, .tmp u]) (h : Q (.tuple #[v, x]) H')
    (hv : ∀ g, val L g t = v := by intro g; first | (simp only [val, Nat.reduceEqDiff, ↓reduceIte]; rfl) | simp only [val, Nat.reduceEqDiff, ↓reduceIte] | rfl) (hx : ∀ g, val L g u = x := by intro g; first | (simp only [val, Nat.reduceEqDiff, ↓reduceIte]; rfl) | simp only [val, Nat.reduceEqDiff, ↓reduceIte] | rfl) (hH : HWk H H' := by first | exact .refl _ | exact hwk (by first | exact .nil | exact .cons (by first | exact .head | exact .tail .head | exact .tail (.tail .head) | exact .tail (.tail (.tail .head)) | exact .tail (.tail (.tail (.tail .head))) | exact .tail (.tail (.tail (.tail (.tail .head)))) | exact .tail (.tail (.tail (.tail (.tail (.tail .head)))))) .nil | exact .cons (by first | exact .head | exact .tail .head | exact .tail (.tail .head) | exact .tail (.tail (.tail .head)) | exact .tail (.tail (.tail (.tail .head))) | exact .tail (.tail (.tail (.tail (.tail .head)))) | exact .tail (.tail (.tail (.tail (.tail (.tail .head)))))) (.cons (by first | exact .head | exact .tail .head | exact .tail (.tail .head) | exact .tail (.tail (.tail .head)) | exact .tail (.tail (.tail (.tail .head))) | exact .tail (.tail (.tail (.tail (.tail .head)))) | exact .tail (.tail (.tail (.tail (.tail (.tail .head)))))) .nil) | exact .cons (by first | exact .head | exact .tail .head | exact .tail (.tail .head) | exact .tail (.tail (.tail .head)) | exact .tail (.tail (.tail (.tail .head))) | exact .tail (.tail (.tail (.tail (.tail .head)))) | exact .tail (.tail (.tail (.tail (.tail (.tail .head)))))) (.cons (by first | exact .head | exact .tail .head | exact .tail (.tail .head) | exact .tail (.tail (.tail .head)) | exact .tail (.tail (.tail (.tail .head))) | exact .tail (.tail (.tail (.tail (.tail .head)))) | exact .tail (.tail (.tail (.tail (.tail (.tail .head)))))) (.cons (by first | exact .head | exact .tail .head | exact .tail (.tail .head) | exact .tail (.tail (.tail .head)) | exact .tail (.tail (.tail (.tail .head))) | exact .tail (.tail (.tail (.tail (.tail .head)))) | exact .tail (.tail (.tail (.tail (.tail (.tail .head)))))) .nil)) | exact .cons (by first | exact .head | exact .tail .head | exact .tail (.tail .head) | exact .tail (.tail (.tail .head)) | exact .tail (.tail (.tail (.tail .head))) | exact .tail (.tail (.tail (.tail (.tail .head)))) | exact .tail (.tail (.tail (.tail (.tail (.tail .head)))))) (.cons (by first | exact .head | exact .tail .head | exact .tail (.tail .head) | exact .tail (.tail (.tail .head)) | exact .tail (.tail (.tail (.tail .head))) | exact .tail (.tail (.tail (.tail (.tail .head)))) | exact .tail (.tail (.tail (.tail (.tail (.tail .head)))))) (.cons (by first | exact .head | exact .tail .head | exact .tail (.tail .head) | exact .tail (.tail (.tail .head)) | exact .tail (.tail (.tail (.tail .head))) | exact .tail (.tail (.tail (.tail (.tail .head)))) | exact .tail (.tail (.tail (.tail (.tail (.tail .head)))))) (.cons (by first | exact .head | exact .tail .head | exact .tail (.tail .head) | exact .tail (.tail (.tail .head)) | exact .tail (.tail (.tail (.tail .head))) | exact .tail (.tail (.tail (.tail (.tail .head)))) | exact .tail (.tail (.tail (.tail (.tail (.tail .head)))))) .nil))) | exact .cons (by first | exact .head | exact .tail .head | exact .tail (.tail .head) | exact .tail (.tail (.tail .head)) | exact .tail (.tail (.tail (.tail .head))) | exact .tail (.tail (.tail (.tail (.tail .head)))) | exact .tail (.tail (.tail (.tail (.tail (.tail .head)))))) (.cons (by first | exact .head | exact .tail .head | exact .tail (.tail .head) | exact .tail (.tail (.tail .head)) | exact .tail (.tail (.tail (.tail .head))) | exact .tail (.tail (.tail (.tail (.tail .head)))) | exact .tail (.tail (.tail (.tail (.tail (.tail .head)))))) (.cons (by first | exact .head | exact .tail .head | exact .tail (.tail .head) | exact .tail (.tail (.tail .head)) | exact .tail (.tail (.tail (.tail .head))) | exact .tail (.tail (.tail (.tail (.tail .head)))) | exact .tail (.tail (.tail (.tail (.tail (.tail .head)))))) (.cons (by first | exact .head | exact .tail .head | exact .tail (.tail .head) | exact .tail (.tail (.tail .head)) | exact .tail (.tail (.tail (.tail .head))) | exact .tail (.tail (.tail (.tail (.tail .head)))) | exact .tail (.tail (.tail (.tail (.tail (.tail .head)))))) (.cons (by first | exact .head | exact .tail .head | exact .tail (.tail .head) | exact .tail (.tail (.tail .head)) | exact .tail (.tail (.tail (.tail .head))) | exact .tail (.tail (.tail (.tail (.tail .head)))) | exact .tail (.tail (.tail (.tail (.tail (.tail .head)))))) .nil)))) | exact .cons (by first | exact .head | exact .tail .head | exact .tail (.tail .head) | exact .tail (.tail (.tail .head)) | exact .tail (.tail (.tail (.tail .head))) | exact .tail (.tail (.tail (.tail (.tail .head)))) | exact .tail (.tail (.tail (.tail (.tail (.tail .head)))))) (.cons (by first | exact .head | exact .tail .head | exact .tail (.tail .head) | exact .tail (.tail (.tail .head)) | exact .tail (.tail (.tail (.tail .head))) | exact .tail (.tail (.tail (.tail (.tail .head)))) | exact .tail (.tail (.tail (.tail (.tail (.tail .head)))))) (.cons (by first | exact .head | exact .tail .head | exact .tail (.tail .head) | exact .tail (.tail (.tail .head)) | exact .tail (.tail (.tail (.tail .head))) | exact .tail (.tail (.tail (.tail (.tail .head)))) | exact .tail (.tail (.tail (.tail (.tail (.tail .head)))))) (.cons (by first | exact .head | exact .tail .head | exact .tail (.tail .head) | exact .tail (.tail (.tail .head)) | exact .tail (.tail (.tail (.tail .head))) | exact .tail (.tail (.tail (.tail (.tail .head)))) | exact .tail (.tail (.tail (.tail (.tail (.tail .head)))))) (.cons (by first | exact .head | exact .tail .head | exact .tail (.tail .head) | exact .tail (.tail (.tail .head)) | exact .tail (.tail (.tail (.tail .head))) | exact .tail (.tail (.tail (.tail (.tail .head)))) | exact .tail (.tail (.tail (.tail (.tail (.tail .head)))))) (.cons (by first | exact .head | exact .tail .head | exact .tail (.tail .head) | exact .tail (.tail (.tail .head)) | exact .tail (.tail (.tail (.tail .head))) | exact .tail (.tail (.tail (.tail (.tail .head)))) | exact .tail (.tail (.tail (.tail (.tail (.tail .head)))))) .nil))))))) : retP P n fn Q .ret L H :=
  ⟨_, _, fun F g a w ha _ => by rw [results_tmp2 hr, ha.get, ha.get, hv, hx], hH, h⟩
theorem r_3 {fn : Func} {Q : Value → List Res → Prop} {t u s : Nat} {v x y : Value} (hr : fn.results = #[.tmp t, .tmp u, .tmp s]) (h : Q (.tuple #[v, x, y]) H')
    (hv : ∀ g, val L g t = v := by intro g; first | (simp only [val, Nat.reduceEqDiff, ↓reduceIte]; rfl) | simp only [val, Nat.reduceEqDiff, ↓reduceIte] | rfl) (hx : ∀ g, val L g u = x := by intro g; first | (simp only [val, Nat.reduceEqDiff, ↓reduceIte]; rfl) | simp only [val, Nat.reduceEqDiff, ↓reduceIte] | rfl)
    (hy : ∀ g, val L g s = y := by intro g; first | (simp only [val, Nat.reduceEqDiff, ↓reduceIte]; rfl) | simp only [val, Nat.reduceEqDiff, ↓reduceIte] | rfl) (hH : HWk H H' := by first | exact .refl _ | exact hwk (by first | exact .nil | exact .cons (by first | exact .head | exact .tail .head | exact .tail (.tail .head) | exact .tail (.tail (.tail .head)) | exact .tail (.tail (.tail (.tail .head))) | exact .tail (.tail (.tail (.tail (.tail .head)))) | exact .tail (.tail (.tail (.tail (.tail (.tail .head)))))) .nil | exact .cons (by first | exact .head | exact .tail .head | exact .tail (.tail .head) | exact .tail (.tail (.tail .head)) | exact .tail (.tail (.tail (.tail .head))) | exact .tail (.tail (.tail (.tail (.tail .head)))) | exact .tail (.tail (.tail (.tail (.tail (.tail .head)))))) (.cons (by first | exact .head | exact .tail .head | exact .tail (.tail .head) | exact .tail (.tail (.tail .head)) | exact .tail (.tail (.tail (.tail .head))) | exact .tail (.tail (.tail (.tail (.tail .head)))) | exact .tail (.tail (.tail (.tail (.tail (.tail .head)))))) .nil) | exact .cons (by first | exact .head | exact .tail .head | exact .tail (.tail .head) | exact .tail (.tail (.tail .head)) | exact .tail (.tail (.tail (.tail .head))) | exact .tail (.tail (.tail (.tail (.tail .head)))) | exact .tail (.tail (.tail (.tail (.tail (.tail .head)))))) (.cons (by first | exact .head | exact .tail .head | exact .tail (.tail .head) | exact .tail (.tail (.tail .head)) | exact .tail (.tail (.tail (.tail .head))) | exact .tail (.tail (.tail (.tail (.tail .head)))) | exact .tail (.tail (.tail (.tail (.tail (.tail .head)))))) (.cons (by first | exact .head | exact .tail .head | exact .tail (.tail .head) | exact .tail (.tail (.tail .head)) | exact .tail (.tail (.tail (.tail .head))) | exact .tail (.tail (.tail (.tail (.tail .head)))) | exact .tail (.tail (.tail (.tail (.tail (.tail .head)))))) .nil)) | exact .cons (by first | exact .head | exact .tail .head | exact .tail (.tail .head) | exact .tail (.tail (.tail .head)) | exact .tail (.tail (.tail (.tail .head))) | exact .tail (.tail (.tail (.tail (.tail .head)))) | exact .tail (.tail (.tail (.tail (.tail (.tail .head)))))) (.cons (by first | exact .head | exact .tail .head | exact .tail (.tail .head) | exact .tail (.tail (.tail .head)) | exact .tail (.tail (.tail (.tail .head))) | exact .tail (.tail (.tail (.tail (.tail .head)))) | exact .tail (.tail (.tail (.tail (.tail (.tail .head)))))) (.cons (by first | exact .head | exact .tail .head | exact .tail (.tail .head) | exact .tail (.tail (.tail .head)) | exact .tail (.tail (.tail (.tail .head))) | exact .tail (.tail (.tail (.tail (.tail .head)))) | exact .tail (.tail (.tail (.tail (.tail (.tail .head)))))) (.cons (by first | exact .head | exact .tail .head | exact .tail (.tail .head) | exact .tail (.tail (.tail .head)) | exact .tail (.tail (.tail (.tail .head))) | exact .tail (.tail (.tail (.tail (.tail .head)))) | exact .tail (.tail (.tail (.tail (.tail (.tail .head)))))) .nil))) | exact .cons (by first | exact .head | exact .tail .head | exact .tail (.tail .head) | exact .tail (.tail (.tail .head)) | exact .tail (.tail (.tail (.tail .head))) | exact .tail (.tail (.tail (.tail (.tail .head)))) | exact .tail (.tail (.tail (.tail (.tail (.tail .head)))))) (.cons (by first | exact .head | exact .tail .head | exact .tail (.tail .head) | exact .tail (.tail (.tail .head)) | exact .tail (.tail (.tail (.tail .head))) | exact .tail (.tail (.tail (.tail (.tail .head)))) | exact .tail (.tail (.tail (.tail (.tail (.tail .head)))))) (.cons (by first | exact .head | exact .tail .head | exact .tail (.tail .head) | exact .tail (.tail (.tail .head)) | exact .tail (.tail (.tail (.tail .head))) | exact .tail (.tail (.tail (.tail (.tail .head)))) | exact .tail (.tail (.tail (.tail (.tail (.tail .head)))))) (.cons (by first | exact .head | exact .tail .head | exact .tail (.tail .head) | exact .tail (.tail (.tail .head)) | exact .tail (.tail (.tail (.tail .head))) | exact .tail (.tail (.tail (.tail (.tail .head)))) | exact .tail (.tail (.tail (.tail (.tail (.tail .head)))))) (.cons (by first | exact .head | exact .tail .head | exact .tail (.tail .head) | exact .tail (.tail (.tail .head)) | exact .tail (.tail (.tail (.tail .head))) | exact .tail (.tail (.tail (.tail (.tail .head)))) | exact .tail (.tail (.tail (.tail (.tail (.tail .head)))))) .nil)))) | exact .cons (by first | exact .head | exact .tail .head | exact .tail (.tail .head) | exact .tail (.tail (.tail .head)) | exact .tail (.tail (.tail (.tail .head))) | exact .tail (.tail (.tail (.tail (.tail .head)))) | exact .tail (.tail (.tail (.tail (.tail (.tail .head)))))) (.cons (by first | exact .head | exact .tail .head | exact .tail (.tail .head) | exact .tail (.tail (.tail .head)) | exact .tail (.tail (.tail (.tail .head))) | exact .tail (.tail (.tail (.tail (.tail .head)))) | exact .tail (.tail (.tail (.tail (.tail (.tail .head)))))) (.cons (by first | exact .head | exact .tail .head | exact .tail (.tail .head) | exact .tail (.tail (.tail .head)) | exact .tail (.tail (.tail (.tail .head))) | exact .tail (.tail (.tail (.tail (.tail .head)))) | exact .tail (.tail (.tail (.tail (.tail (.tail .head)))))) (.cons (by first | exact .head | exact .tail .head | exact .tail (.tail .head) | exact .tail (.tail (.tail .head)) | exact .tail (.tail (.tail (.tail .head))) | exact .tail (.tail (.tail (.tail (.tail .head)))) | exact .tail (.tail (.tail (.tail (.tail (.tail .head)))))) (.cons (by first | exact .head | exact .tail .head | exact .tail (.tail .head) | exact .tail (.tail (.tail .head)) | exact .tail (.tail (.tail (.tail .head))) | exact .tail (.tail (.tail (.tail (.tail .head)))) | exact .tail (.tail (.tail (.tail (.tail (.tail .head)))))) (.cons (by first | exact .head | exact .tail .head | exact .tail (.tail .head) | exact .tail (.tail (.tail .head)) | exact .tail (.tail (.tail (.tail .head))) | exact .tail (.tail (.tail (.tail (.tail .head)))) | exact .tail (.tail (.tail (.tail (.tail (.tail .head)))))) .nil))))))) : retP P n fn Q .ret L H := by
  refine ⟨_, _, fun F g a w ha _ => ?_, hH, h⟩
  have h1 := (ha.get t).trans (hv g)
  have h2 := (ha.get u).trans (hx g)
  have h3 := (ha.get s).trans (hy g)
  simp only [Array.getD_eq_getD_getElem?] at h1 h2 h3
  simp [results, hr, h1, h2, h3]
theorem r_cell {fn : Func} {Q : Value → List Res → Prop} {t T k b : Nat} {cs : List Value} {T' : TypeId} (hr : fn.results = #[.cell t T]) (ht : aggSz P T = some k) (h : Q (.agg cs.toArray) H')
    (hv : ∀ g, val L g t = .pointer (some ⟨b, 0, none⟩) := by intro g; rfl)
    (hp : Pull (pt b cs T') H R := by first | exact .head | exact .tail .head | exact .tail (.tail .head) | exact .tail (.tail (.tail .head)) | exact .tail (.tail (.tail (.tail .head))) | exact .tail (.tail (.tail (.tail (.tail .head)))))
    (hl : cs.length = k := by rfl) (hH : HWk H H' := by first | exact .refl _ | exact hwk (by first | exact .nil | exact .cons (by first | exact .head | exact .tail .head | exact .tail (.tail .head) | exact .tail (.tail (.tail .head)) | exact .tail (.tail (.tail (.tail .head))) | exact .tail (.tail (.tail (.tail (.tail .head)))) | exact .tail (.tail (.tail (.tail (.tail (.tail .head)))))) .nil | exact .cons (by first | exact .head | exact .tail .head | exact .tail (.tail .head) | exact .tail (.tail (.tail .head)) | exact .tail (.tail (.tail (.tail .head))) | exact .tail (.tail (.tail (.tail (.tail .head)))) | exact .tail (.tail (.tail (.tail (.tail (.tail .head)))))) (.cons (by first | exact .head | exact .tail .head | exact .tail (.tail .head) | exact .tail (.tail (.tail .head)) | exact .tail (.tail (.tail (.tail .head))) | exact .tail (.tail (.tail (.tail (.tail .head)))) | exact .tail (.tail (.tail (.tail (.tail (.tail .head)))))) .nil) | exact .cons (by first | exact .head | exact .tail .head | exact .tail (.tail .head) | exact .tail (.tail (.tail .head)) | exact .tail (.tail (.tail (.tail .head))) | exact .tail (.tail (.tail (.tail (.tail .head)))) | exact .tail (.tail (.tail (.tail (.tail (.tail .head)))))) (.cons (by first | exact .head | exact .tail .head | exact .tail (.tail .head) | exact .tail (.tail (.tail .head)) | exact .tail (.tail (.tail (.tail .head))) | exact .tail (.tail (.tail (.tail (.tail .head)))) | exact .tail (.tail (.tail (.tail (.tail (.tail .head)))))) (.cons (by first | exact .head | exact .tail .head | exact .tail (.tail .head) | exact .tail (.tail (.tail .head)) | exact .tail (.tail (.tail (.tail .head))) | exact .tail (.tail (.tail (.tail (.tail .head)))) | exact .tail (.tail (.tail (.tail (.tail (.tail .head)))))) .nil)) | exact .cons (by first | exact .head | exact .tail .head | exact .tail (.tail .head) | exact .tail (.tail (.tail .head)) | exact .tail (.tail (.tail (.tail .head))) | exact .tail (.tail (.tail (.tail (.tail .head)))) | exact .tail (.tail (.tail (.tail (.tail (.tail .head)))))) (.cons (by first | exact .head | exact .tail .head | exact .tail (.tail .head) | exact .tail (.tail (.tail .head)) | exact .tail (.tail (.tail (.tail .head))) | exact .tail (.tail (.tail (.tail (.tail .head)))) | exact .tail (.tail (.tail (.tail (.tail (.tail .head)))))) (.cons (by first | exact .head | exact .tail .head | exact .tail (.tail .head) | exact .tail (.tail (.tail .head)) | exact .tail (.tail (.tail (.tail .head))) | exact .tail (.tail (.tail (.tail (.tail .head)))) | exact .tail (.tail (.tail (.tail (.tail (.tail .head)))))) (.cons (by first | exact .head | exact .tail .head | exact .tail (.tail .head) | exact .tail (.tail (.tail .head)) | exact .tail (.tail (.tail (.tail .head))) | exact .tail (.tail (.tail (.tail (.tail .head)))) | exact .tail (.tail (.tail (.tail (.tail (.tail .head)))))) .nil))) | exact .cons (by first | exact .head | exact .tail .head | exact .tail (.tail .head) | exact .tail (.tail (.tail .head)) | exact .tail (.tail (.tail (.tail .head))) | exact .tail (.tail (.tail (.tail (.tail .head)))) | exact .tail (.tail (.tail (.tail (.tail (.tail .head)))))) (.cons (by first | exact .head | exact .tail .head | exact .tail (.tail .head) | exact .tail (.tail (.tail .head)) | exact .tail (.tail (.tail (.tail .head))) | exact .tail (.tail (.tail (.tail (.tail .head)))) | exact .tail (.tail (.tail (.tail (.tail (.tail .head)))))) (.cons (by first | exact .head | exact .tail .head | exact .tail (.tail .head) | exact .tail (.tail (.tail .head)) | exact .tail (.tail (.tail (.tail .head))) | exact .tail (.tail (.tail (.tail (.tail .head)))) | exact .tail (.tail (.tail (.tail (.tail (.tail .head)))))) (.cons (by first | exact .head | exact .tail .head | exact .tail (.tail .head) | exact .tail (.tail (.tail .head)) | exact .tail (.tail (.tail (.tail .head))) | exact .tail (.tail (.tail (.tail (.tail .head)))) | exact .tail (.tail (.tail (.tail (.tail (.tail .head)))))) (.cons (by first | exact .head | exact .tail .head | exact .tail (.tail .head) | exact .tail (.tail (.tail .head)) | exact .tail (.tail (.tail (.tail .head))) | exact .tail (.tail (.tail (.tail (.tail .head)))) | exact .tail (.tail (.tail (.tail (.tail (.tail .head)))))) .nil)))) | exact .cons (by first | exact .head | exact .tail .head | exact .tail (.tail .head) | exact .tail (.tail (.tail .head)) | exact .tail (.tail (.tail (.tail .head))) | exact .tail (.tail (.tail (.tail (.tail .head)))) | exact .tail (.tail (.tail (.tail (.tail (.tail .head)))))) (.cons (by first | exact .head | exact .tail .head | exact .tail (.tail .head) | exact .tail (.tail (.tail .head)) | exact .tail (.tail (.tail (.tail .head))) | exact .tail (.tail (.tail (.tail (.tail .head)))) | exact .tail (.tail (.tail (.tail (.tail (.tail .head)))))) (.cons (by first | exact .head | exact .tail .head | exact .tail (.tail .head) | exact .tail (.tail (.tail .head)) | exact .tail (.tail (.tail (.tail .head))) | exact .tail (.tail (.tail (.tail (.tail .head)))) | exact .tail (.tail (.tail (.tail (.tail (.tail .head)))))) (.cons (by first | exact .head | exact .tail .head | exact .tail (.tail .head) | exact .tail (.tail (.tail .head)) | exact .tail (.tail (.tail (.tail .head))) | exact .tail (.tail (.tail (.tail (.tail .head)))) | exact .tail (.tail (.tail (.tail (.tail (.tail .head)))))) (.cons (by first | exact .head | exact .tail .head | exact .tail (.tail .head) | exact .tail (.tail (.tail .head)) | exact .tail (.tail (.tail (.tail .head))) | exact .tail (.tail (.tail (.tail (.tail .head)))) | exact .tail (.tail (.tail (.tail (.tail (.tail .head)))))) (.cons (by first | exact .head | exact .tail .head | exact .tail (.tail .head) | exact .tail (.tail (.tail .head)) | exact .tail (.tail (.tail (.tail .head))) | exact .tail (.tail (.tail (.tail (.tail .head)))) | exact .tail (.tail (.tail (.tail (.tail (.tail .head)))))) .nil))))))) : retP P n fn Q .ret L H := by
  refine ⟨_, _, fun F g a w ha hs => ?_, hH, h⟩
  have h1 := (ha.get t).trans (hv g)
  simp only [Array.getD_eq_getD_getElem?] at h1
  have h2 := run_loadA (P := P) (w := w) (b := b) (i := 0) ht hl (fun j v hj => by rw [Sat.cell (hs.perm hp)]; simpa using hj)
  simp [results, hr, h1, asAddr, h2]
end
end Go.Proofs.YtlmefkhglooepaaGreatDoor
namespace Go.Proofs.YtlmefkhglooepaaGreatDoor
open Go
def le : Nat → Nat → List UInt8
  | 0, _ => []
  | k + 1, n => UInt8.ofNat n :: le k (n / 256)
def num : List UInt8 → Nat
  | [] => 0
  | b :: l => b.toNat + 256 * num l
theorem le_length : ∀ k n, (le k n).length = k
  | 0, _ => rfl
  | k + 1, n => by simp [le, le_length k]
theorem le_snoc : ∀ k n, le (k + 1) n = le k n ++ [UInt8.ofNat (n / 256 ^ k)]
  | 0, n => by simp [le]
  | k + 1, n => by
    have h := le_snoc k (n / 256)
    rw [le, h, le, List.cons_append, Nat.div_div_eq_div_mul, Nat.pow_succ, Nat.mul_comm 256]
theorem num_le : ∀ k n, n < 256 ^ k → num (le k n) = n
  | 0, n, h => by simp at h; simp [le, num, h]
  | k + 1, n, h => by
    have h1 : n / 256 < 256 ^ k := by rw [Nat.pow_succ] at h; exact Nat.div_lt_of_lt_mul (by omega)
    simp only [le, num, num_le k _ h1, UInt8.toNat_ofNat']
    omega
theorem num_lt : ∀ l, num l < 256 ^ l.length
  | [] => by simp [num]
  | b :: l => by
    have := num_lt l
    have := b.toNat_lt
    simp only [num, List.length_cons, Nat.pow_succ]
    omega
theorem num_append : ∀ a b, num (a ++ b) = num a + 256 ^ a.length * num b
  | [], b => by simp [num]
  | x :: a, b => by
    simp only [List.cons_append, num, num_append a b, List.length_cons, Nat.pow_succ]
    rw [Nat.mul_add, ← Nat.mul_assoc, Nat.mul_comm 256 (256 ^ a.length)]; omega
def ends : List UInt8 → Nat
  | [] => 0
  | b :: l => (if (b :: l).take 4 = [80, 75, 5, 6] then 1 else 0) + ends l
theorem ends_short : ∀ s : List UInt8, s.length < 4 → ends s = 0
  | [], _ => rfl
  | b :: l, h => by
    have h1 : (b :: l).take 4 ≠ [80, 75, 5, 6] := by
      intro e
      have := congrArg List.length e
      simp only [List.length_take, List.length_cons] at this h
      simp at this; omega
    simp only [ends, if_neg h1, ends_short l (by simp only [List.length_cons] at h; omega)]
theorem ends_drop (s : List UInt8) (k : Nat) (h : k < s.length) : ends (s.drop k) = (if (s.drop k).take 4 = [80, 75, 5, 6] then 1 else 0) + ends (s.drop (k + 1)) := by
  rw [List.drop_eq_getElem_cons h, ends]
theorem ends_le : ∀ s : List UInt8, ends s ≤ s.length
  | [] => Nat.le_refl _
  | b :: l => by have := ends_le l; simp only [ends, List.length_cons]; split <;> omega
theorem ends_mono (s : List UInt8) : ∀ (d i : Nat), ends (s.drop (i + d)) ≤ ends (s.drop i)
  | 0, i => Nat.le_refl _
  | d + 1, i => by
    refine Nat.le_trans (show ends (s.drop (i + (d + 1))) ≤ ends (s.drop (i + d)) from ?_) (ends_mono s d i)
    by_cases h : i + d < s.length
    · rw [ends_drop s (i + d) h, Nat.add_assoc]; omega
    · rw [List.drop_eq_nil_of_le (by omega)]; simp [ends]
end Go.Proofs.YtlmefkhglooepaaGreatDoor
namespace Go.Proofs.YtlmefkhglooepaaGreatDoor
open Go
set_option linter.unusedSimpArgs false
set_option linter.unusedVariables false
theorem w_i64 {x : Int} (h : -9223372036854775808 ≤ x ∧ x ≤ 9223372036854775807) : IntKind.wrap .i64 x = x := by simp [IntKind.wrap, IntKind.bits, IntKind.signed]; omega
theorem w_i32 {x : Int} (h : -2147483648 ≤ x ∧ x ≤ 2147483647) : IntKind.wrap .i32 x = x := by simp [IntKind.wrap, IntKind.bits, IntKind.signed]; omega
theorem w_u8 {x : Int} (h : 0 ≤ x ∧ x ≤ 255) : IntKind.wrap .u8 x = x := by simp [IntKind.wrap, IntKind.bits, IntKind.signed]; omega
theorem w_u16 {x : Int} (h : 0 ≤ x ∧ x ≤ 65535) : IntKind.wrap .u16 x = x := by simp [IntKind.wrap, IntKind.bits, IntKind.signed]; omega
theorem w_u32 {x : Int} (h : 0 ≤ x ∧ x ≤ 4294967295) : IntKind.wrap .u32 x = x := by simp [IntKind.wrap, IntKind.bits, IntKind.signed]; omega
theorem w_u64 {x : Int} (h : 0 ≤ x ∧ x ≤ 18446744073709551615) : IntKind.wrap .u64 x = x := by simp [IntKind.wrap, IntKind.bits, IntKind.signed]; omega
section
variable {P : Program} {n : Nat} {G : Nat → Option Obj} {ops : Array Oper} {Q : Post} {rest : List Oper} {L : Loc} {H R : List Res}
variable {d : Nat} {x y ix c : Operand} {ty t t' s s' : TypeId} {p : String} {e : Array Edge} {k k' : IntKind} {a b z : Int} {v va vb : Value}
theorem eqGuard_int (op : BinOp) (t : TypeId) (x y : Operand) (k k' : IntKind) (a b : Int) (w : World) : (eqGuard op t x y (.int k a) (.int k' b)).run P w = .ok () w := by
  unfold eqGuard; cases op <;> rfl
theorem x_add (hx : ∀ g, evl L g x = .int k a := by intro g; rfl) (hy : ∀ g, evl L g y = .int k b := by intro g; rfl) (hz : k.wrap (a + b) = z := by first | exact (w_i64 (by omega)).trans (by first | (simp only [Int.reduceAdd, Int.reduceSub, Int.reduceMul, Int.reduceDiv]; rfl) | rfl) | exact (w_u64 (by omega)).trans (by first | (simp only [Int.reduceAdd, Int.reduceSub, Int.reduceMul, Int.reduceDiv]; rfl) | rfl) | exact w_u32 (by omega) | exact w_u16 (by omega) | exact w_u8 (by omega) | exact w_i32 (by omega) | rfl) (hn : d < n := by decide) :
    Ex P n G ops L H ⟨some d, .binOp .add t x y t', ty, p, e, none⟩ d (.int k z) :=
  .mk hn (fun _ _ g w _ => by simp [execOp, hx g, hy g, binOp, Op.intArith, hz, eqGuard_int])
theorem x_sub (hx : ∀ g, evl L g x = .int k a := by intro g; rfl) (hy : ∀ g, evl L g y = .int k b := by intro g; rfl) (hz : k.wrap (a - b) = z := by first | exact (w_i64 (by omega)).trans (by first | (simp only [Int.reduceAdd, Int.reduceSub, Int.reduceMul, Int.reduceDiv]; rfl) | rfl) | exact (w_u64 (by omega)).trans (by first | (simp only [Int.reduceAdd, Int.reduceSub, Int.reduceMul, Int.reduceDiv]; rfl) | rfl) | exact w_u32 (by omega) | exact w_u16 (by omega) | exact w_u8 (by omega) | exact w_i32 (by omega) | rfl) (hn : d < n := by decide) :
    Ex P n G ops L H ⟨some d, .binOp .sub t x y t', ty, p, e, none⟩ d (.int k z) :=
  .mk hn (fun _ _ g w _ => by simp [execOp, hx g, hy g, binOp, Op.intArith, hz, eqGuard_int])
theorem x_mul (hx : ∀ g, evl L g x = .int k a := by intro g; rfl) (hy : ∀ g, evl L g y = .int k b := by intro g; rfl) (hz : k.wrap (a * b) = z := by first | exact (w_i64 (by omega)).trans (by first | (simp only [Int.reduceAdd, Int.reduceSub, Int.reduceMul, Int.reduceDiv]; rfl) | rfl) | exact (w_u64 (by omega)).trans (by first | (simp only [Int.reduceAdd, Int.reduceSub, Int.reduceMul, Int.reduceDiv]; rfl) | rfl) | exact w_u32 (by omega) | exact w_u16 (by omega) | exact w_u8 (by omega) | exact w_i32 (by omega) | rfl) (hn : d < n := by decide) :
    Ex P n G ops L H ⟨some d, .binOp .mul t x y t', ty, p, e, none⟩ d (.int k z) :=
  .mk hn (fun _ _ g w _ => by simp [execOp, hx g, hy g, binOp, Op.intArith, hz, eqGuard_int])
theorem x_quo (hx : ∀ g, evl L g x = .int k a := by intro g; rfl) (hy : ∀ g, evl L g y = .int k b := by intro g; rfl) (hb : b ≠ 0 := by omega) (hz : k.wrap (a.tdiv b) = z := by first | (rewrite [Int.tdiv_eq_ediv_of_nonneg (by omega)]; first | exact (w_i64 (by omega)).trans (by first | (simp only [Int.reduceAdd, Int.reduceSub, Int.reduceMul, Int.reduceDiv]; rfl) | rfl) | exact (w_u64 (by omega)).trans (by first | (simp only [Int.reduceAdd, Int.reduceSub, Int.reduceMul, Int.reduceDiv]; rfl) | rfl) | exact w_u32 (by omega) | exact w_u16 (by omega) | exact w_u8 (by omega) | exact w_i32 (by omega) | rfl) | rfl) (hn : d < n := by decide) :
    Ex P n G ops L H ⟨some d, .binOp .quo t x y t', ty, p, e, none⟩ d (.int k z) :=
  .mk hn (fun _ _ g w _ => by simp [execOp, hx g, hy g, binOp, Op.intDiv, hb, hz, eqGuard_int])
theorem x_rem (hx : ∀ g, evl L g x = .int k a := by intro g; rfl) (hy : ∀ g, evl L g y = .int k b := by intro g; rfl) (hb : b ≠ 0 := by omega) (hz : a.tmod b = z := by first | exact Int.tmod_eq_emod_of_nonneg (by omega) | rfl) (hn : d < n := by decide) :
    Ex P n G ops L H ⟨some d, .binOp .rem t x y t', ty, p, e, none⟩ d (.int k z) :=
  .mk hn (fun _ _ g w _ => by simp [execOp, hx g, hy g, binOp, Op.intDiv, hb, hz, eqGuard_int])
theorem x_shl {c : Int} (hx : ∀ g, evl L g x = .int k a := by intro g; rfl) (hy : ∀ g, evl L g y = .int k' b := by intro g; rfl) (hb : 0 ≤ b := by omega) (hc : (2 : Int) ^ (min b.toNat k.bits) = c := by simp only [Int.reduceToNat, IntKind.bits, Nat.min_def, Nat.reduceLeDiff, ↓reduceIte, Int.reducePow]; rfl) (hz : k.wrap (a * c) = z := by first | exact (w_i64 (by omega)).trans (by first | (simp only [Int.reduceAdd, Int.reduceSub, Int.reduceMul, Int.reduceDiv]; rfl) | rfl) | exact (w_u64 (by omega)).trans (by first | (simp only [Int.reduceAdd, Int.reduceSub, Int.reduceMul, Int.reduceDiv]; rfl) | rfl) | exact w_u32 (by omega) | exact w_u16 (by omega) | exact w_u8 (by omega) | exact w_i32 (by omega) | rfl) (hn : d < n := by decide) :
    Ex P n G ops L H ⟨some d, .binOp .shl t x y t', ty, p, e, none⟩ d (.int k z) :=
  .mk hn (fun _ _ g w _ => by
    have h0 : ¬ b < 0 := by omega
    have hz' := hz; rw [← hc] at hz'
    simp [execOp, hx g, hy g, binOp, Op.shift, h0, hz', eqGuard_int])
theorem x_shr {c : Int} (hx : ∀ g, evl L g x = .int k a := by intro g; rfl) (hy : ∀ g, evl L g y = .int k' b := by intro g; rfl) (hb : 0 ≤ b := by omega) (hc : (2 : Int) ^ (min b.toNat k.bits) = c := by simp only [Int.reduceToNat, IntKind.bits, Nat.min_def, Nat.reduceLeDiff, ↓reduceIte, Int.reducePow]; rfl) (hc0 : 0 ≤ c := by decide) (hz : a / c = z := by rfl) (hn : d < n := by decide) :
    Ex P n G ops L H ⟨some d, .binOp .shr t x y t', ty, p, e, none⟩ d (.int k z) :=
  .mk hn (fun _ _ g w _ => by
    have h0 : ¬ b < 0 := by omega
    have hz' : a.fdiv ((2 : Int) ^ (min b.toNat k.bits)) = z := by rw [hc, Int.fdiv_eq_ediv_of_nonneg _ hc0, hz]
    simp [execOp, hx g, hy g, binOp, Op.shift, h0, hz', eqGuard_int])
/-- Bits of numbers that are not negative and fit. -/
theorem wrap_lt {k : IntKind} {m : Nat} (h : m < 2 ^ k.bits) (hs : k.signed = true → m < 2 ^ (k.bits - 1)) : k.wrap m = m := by
  cases k <;> simp [IntKind.wrap, IntKind.bits, IntKind.signed] at h hs ⊢ <;> omega
theorem ofInt_nat {w : Nat} {a : Int} (h : 0 ≤ a) (hb : a.toNat < 2 ^ w) : (BitVec.ofInt w a).toNat = a.toNat := by
  obtain ⟨m, rfl⟩ := Int.eq_ofNat_of_zero_le h
  rw [BitVec.toNat_ofInt]
  simp only [Int.toNat_natCast] at hb ⊢
  rw [show ((m : Int) % ((2 ^ w : Nat) : Int)) = ((m % 2 ^ w : Nat) : Int) from by simp, Int.toNat_natCast, Nat.mod_eq_of_lt hb]
def fitB (k : IntKind) (m : Nat) : Prop := m < 2 ^ k.bits ∧ (k.signed = true → m < 2 ^ (k.bits - 1))
theorem x_and (hx : ∀ g, evl L g x = .int k a := by intro g; rfl) (hy : ∀ g, evl L g y = .int k b := by intro g; rfl) (ha : 0 ≤ a ∧ fitB k a.toNat := by refine ⟨by omega, by first | (simp only [IntKind.bits]; omega) | (simp [IntKind.bits]; omega) | simp [IntKind.bits], fun hk => by first | exact absurd hk (by decide) | (simp only [IntKind.bits]; omega) | (simp [IntKind.bits]; omega) | simp [IntKind.bits]⟩) (hb : 0 ≤ b ∧ fitB k b.toNat := by refine ⟨by omega, by first | (simp only [IntKind.bits]; omega) | (simp [IntKind.bits]; omega) | simp [IntKind.bits], fun hk => by first | exact absurd hk (by decide) | (simp only [IntKind.bits]; omega) | (simp [IntKind.bits]; omega) | simp [IntKind.bits]⟩) (hn : d < n := by decide) :
    Ex P n G ops L H ⟨some d, .binOp .and t x y t', ty, p, e, none⟩ d (.int k ((a.toNat &&& b.toNat : Nat) : Int)) :=
  .mk hn (fun _ _ g w _ => by
    have h1 : k.wrap ((BitVec.ofInt k.bits a &&& BitVec.ofInt k.bits b).toNat : Int) = ((a.toNat &&& b.toNat : Nat) : Int) := by
      rw [BitVec.toNat_and, ofInt_nat ha.1 ha.2.1, ofInt_nat hb.1 hb.2.1]
      exact wrap_lt (Nat.lt_of_le_of_lt Nat.and_le_left ha.2.1) (fun h => Nat.lt_of_le_of_lt Nat.and_le_left (ha.2.2 h))
    simp only [execOp, hx g, hy g, binOp, Op.intBits, h1]; simp [eqGuard_int])
theorem x_or (hx : ∀ g, evl L g x = .int k a := by intro g; rfl) (hy : ∀ g, evl L g y = .int k b := by intro g; rfl) (ha : 0 ≤ a ∧ fitB k a.toNat := by refine ⟨by omega, by first | (simp only [IntKind.bits]; omega) | (simp [IntKind.bits]; omega) | simp [IntKind.bits], fun hk => by first | exact absurd hk (by decide) | (simp only [IntKind.bits]; omega) | (simp [IntKind.bits]; omega) | simp [IntKind.bits]⟩) (hb : 0 ≤ b ∧ fitB k b.toNat := by refine ⟨by omega, by first | (simp only [IntKind.bits]; omega) | (simp [IntKind.bits]; omega) | simp [IntKind.bits], fun hk => by first | exact absurd hk (by decide) | (simp only [IntKind.bits]; omega) | (simp [IntKind.bits]; omega) | simp [IntKind.bits]⟩) (hn : d < n := by decide) :
    Ex P n G ops L H ⟨some d, .binOp .or t x y t', ty, p, e, none⟩ d (.int k ((a.toNat ||| b.toNat : Nat) : Int)) :=
  .mk hn (fun _ _ g w _ => by
    have h1 : k.wrap ((BitVec.ofInt k.bits a ||| BitVec.ofInt k.bits b).toNat : Int) = ((a.toNat ||| b.toNat : Nat) : Int) := by
      rw [BitVec.toNat_or, ofInt_nat ha.1 ha.2.1, ofInt_nat hb.1 hb.2.1]
      exact wrap_lt (Nat.or_lt_two_pow ha.2.1 hb.2.1) (fun h => Nat.or_lt_two_pow (ha.2.2 h) (hb.2.2 h))
    simp only [execOp, hx g, hy g, binOp, Op.intBits, h1]; simp [eqGuard_int])
theorem x_xor (hx : ∀ g, evl L g x = .int k a := by intro g; rfl) (hy : ∀ g, evl L g y = .int k b := by intro g; rfl) (ha : 0 ≤ a ∧ fitB k a.toNat := by refine ⟨by omega, by first | (simp only [IntKind.bits]; omega) | (simp [IntKind.bits]; omega) | simp [IntKind.bits], fun hk => by first | exact absurd hk (by decide) | (simp only [IntKind.bits]; omega) | (simp [IntKind.bits]; omega) | simp [IntKind.bits]⟩) (hb : 0 ≤ b ∧ fitB k b.toNat := by refine ⟨by omega, by first | (simp only [IntKind.bits]; omega) | (simp [IntKind.bits]; omega) | simp [IntKind.bits], fun hk => by first | exact absurd hk (by decide) | (simp only [IntKind.bits]; omega) | (simp [IntKind.bits]; omega) | simp [IntKind.bits]⟩) (hn : d < n := by decide) :
    Ex P n G ops L H ⟨some d, .binOp .xor t x y t', ty, p, e, none⟩ d (.int k ((a.toNat ^^^ b.toNat : Nat) : Int)) :=
  .mk hn (fun _ _ g w _ => by
    have h1 : k.wrap ((BitVec.ofInt k.bits a ^^^ BitVec.ofInt k.bits b).toNat : Int) = ((a.toNat ^^^ b.toNat : Nat) : Int) := by
      rw [BitVec.toNat_xor, ofInt_nat ha.1 ha.2.1, ofInt_nat hb.1 hb.2.1]
      exact wrap_lt (Nat.xor_lt_two_pow ha.2.1 hb.2.1) (fun h => Nat.xor_lt_two_pow (ha.2.2 h) (hb.2.2 h))
    simp only [execOp, hx g, hy g, binOp, Op.intBits, h1]; simp [eqGuard_int])
/-- A test of numbers. -/
def cmpI : BinOp → Int → Int → Bool
  | .eql, a, b => decide (a = b)
  | .neq, a, b => !decide (a = b)
  | .lss, a, b => decide (a < b)
  | .leq, a, b => decide (a ≤ b)
  | .gtr, a, b => decide (b < a)
  | .geq, a, b => decide (b ≤ a)
  | _, _, _ => false
def isCmp : BinOp → Bool
  | .eql | .neq | .lss | .leq | .gtr | .geq => true
  | _ => false
theorem x_cmp {op : BinOp} {r : Bool} (hx : ∀ g, evl L g x = .int k a := by intro g; rfl) (hy : ∀ g, evl L g y = .int k b := by intro g; rfl)
    (hr : cmpI op a b = r := by simp only [cmpI]; first | exact decide_eq_true (by omega) | exact decide_eq_false (by omega) | rfl) (ho : isCmp op = true := by rfl) (hn : d < n := by decide) :
    Ex P n G ops L H ⟨some d, .binOp op t x y t', ty, p, e, none⟩ d (.bool r) :=
  .mk hn (fun _ _ g w _ => by
    have h1 : (binOp op t (.int k a) (.int k b)).run P w = .ok (.bool r) w := by
      subst hr
      cases op <;> first | (simp [binOp, Op.intCmp, cmpI]; done) | (simp [binOp, Op.intCmp, cmpI]; rw [Bool.eq_iff_iff]; simp; done) | (simp [isCmp] at ho; done)
    simp [execOp, hx g, hy g, h1, eqGuard_int])
theorem ne_t {a b : Int} (h : a ≠ b) : (!decide (a = b)) = true := by simp [h]
theorem ne_f {a b : Int} (h : a = b) : (!decide (a = b)) = false := by simp [h]
theorem x_ne {r : Bool} (hx : ∀ g, evl L g x = .int k a := by intro g; rfl) (hy : ∀ g, evl L g y = .int k b := by intro g; rfl)
    (hr : (!decide (a = b)) = r := by first | exact ne_t (by omega) | exact ne_f (by omega) | rfl) (hn : d < n := by decide) :
    Ex P n G ops L H ⟨some d, .binOp .neq t x y t', ty, p, e, none⟩ d (.bool r) :=
  x_cmp (op := .neq) hx hy hr rfl hn
theorem x_not {r q : Bool} (hx : ∀ g, evl L g x = .bool r := by intro g; rfl) (hr : (!r) = q := by first | (simp only [Bool.not_true, Bool.not_false]; done) | (simp only [Bool.not_true, Bool.not_false]; rfl) | rfl) (hn : d < n := by decide) :
    Ex P n G ops L H ⟨some d, .unOp .not t x, ty, p, e, none⟩ d (.bool q) :=
  .mk hn (fun _ _ g w _ => by simp [execOp, hx g, Op.unary, hr])
theorem x_pick {r : Bool} (hc : ∀ g, evl L g c = .bool r := by intro g; rfl) (hx : ∀ g, (if r then evl L g x else evl L g y) = v := by intro g; simp only [evl, val, Nat.reduceEqDiff, ↓reduceIte, Bool.false_eq_true]; rfl) (hn : d < n := by decide) :
    Ex P n G ops L H ⟨some d, .pick c x y, ty, p, e, none⟩ d v :=
  .mk hn (fun _ _ g w _ => by simp [execOp, hc g, asBool, hx g])
theorem x_cv (hs : ∃ q, P.underlying s = some q) (hd : P.underlying s' = some (.int k')) (hx : ∀ g, evl L g x = .int k a := by intro g; rfl) (hz : k'.wrap a = z := by first | exact (w_i64 (by omega)).trans (by first | (simp only [Int.reduceAdd, Int.reduceSub, Int.reduceMul, Int.reduceDiv]; rfl) | rfl) | exact (w_u64 (by omega)).trans (by first | (simp only [Int.reduceAdd, Int.reduceSub, Int.reduceMul, Int.reduceDiv]; rfl) | rfl) | exact w_u32 (by omega) | exact w_u16 (by omega) | exact w_u8 (by omega) | exact w_i32 (by omega) | rfl) (hn : d < n := by decide) :
    Ex P n G ops L H ⟨some d, .convert s s' x, ty, p, e, none⟩ d (.int k' z) := by
  obtain ⟨q, hs⟩ := hs
  refine .mk hn (fun _ _ g w _ => ?_)
  simp [execOp, hx g, convert, run_underlying hs, run_underlying hd, Conv.intToInt, hz]
/-! Addresses. -/
theorem x_ia {E sz b' o len cap m : Nat} {i : Int} (hu : P.underlying t = some (.slice E)) (hs : szOf P E = some sz)
    (hx : ∀ g, evl L g x = .slice (some ⟨b', o, none⟩) len cap := by intro g; rfl) (hi : ∀ g, evl L g ix = .int k i := by intro g; rfl) (hr : 0 ≤ i ∧ i < len := by omega)
    (hm : o + i.toNat * sz = m := by first | (simp only [Int.toNat_natCast, Int.reduceToNat, Nat.mul_one, Nat.zero_mul, Nat.add_zero, Nat.zero_add, Nat.reduceMul, Nat.reduceAdd]; rfl) | rfl) (hn : d < n := by decide) :
    Ex P n G ops L H ⟨some d, .indexAddr t x ix, ty, p, e, none⟩ d (.pointer (some ⟨b', m, none⟩)) :=
  .mk hn (fun _ _ g w _ => by simp [execOp, hx g, hi g, Instr.indexAt, asIntOf, run_underlying hu, hr, run_size_of hs, Addr.add_at, hm])
theorem x_iaa {E sz b' o len m : Nat} {i : Int} (hu : P.underlying t = some (.array len E)) (hs : szOf P E = some sz)
    (hx : ∀ g, evl L g x = .pointer (some ⟨b', o, none⟩) := by intro g; rfl) (hi : ∀ g, evl L g ix = .int k i := by intro g; rfl) (hr : 0 ≤ i ∧ i < len := by omega)
    (hm : o + i.toNat * sz = m := by first | (simp only [Int.toNat_natCast, Int.reduceToNat, Nat.mul_one, Nat.zero_mul, Nat.add_zero, Nat.zero_add, Nat.reduceMul, Nat.reduceAdd]; rfl) | rfl) (hn : d < n := by decide) :
    Ex P n G ops L H ⟨some d, .indexAddr t x ix, ty, p, e, none⟩ d (.pointer (some ⟨b', m, none⟩)) :=
  .mk hn (fun _ _ g w _ => by simp [execOp, hx g, hi g, Instr.indexAt, asIntOf, run_underlying hu, hr, run_size_of hs, Addr.add_at, hm, Instr.sureAddr])
theorem run_bound {k : IntKind} {i : Int} {y : Nat} (h : 0 ≤ i ∧ i ≤ y) (cd : BoundsCode) (w : World) : (Instr.sliceBound (.int k i) y cd).run P w = .ok i.toNat w := by
  simp [Instr.sliceBound, asIntOf, h]
/-- The bounds of a slice expression as numbers. -/
def bnd (L : Loc) (o : Option Operand) (dflt : Nat) (m : Nat) : Prop :=
  match o with
  | none => m = dflt
  | some x => ∃ k i, (∀ g, evl L g x = .int k i) ∧ 0 ≤ i ∧ i.toNat = m
theorem run_bounds {isS : Bool} {len cap lo hi : Nat} {ol oh : Option Operand} {g : Nat → Value} (hl : bnd L ol 0 lo) (hh : bnd L oh len hi) (h1 : lo ≤ hi) (h2 : hi ≤ cap) (w : World) :
    (Instr.sliceBounds isS len cap (ol.map (evl L g)) (oh.map (evl L g)) none).run P w = .ok (lo, hi, cap) w := by
  unfold bnd at hl hh
  cases ol with
  | none =>
    simp only at hl; subst hl
    cases oh with
    | none => simp only at hh; subst hh; simp [Instr.sliceBounds]
    | some y =>
      obtain ⟨k, i, e, h0, rfl⟩ := hh
      simp [Instr.sliceBounds, e g, run_bound (P := P) (k := k) (i := i) (y := cap) ⟨h0, by omega⟩]
  | some x =>
    obtain ⟨k, i, e, h0, rfl⟩ := hl
    cases oh with
    | none => simp only at hh; subst hh; simp [Instr.sliceBounds, e g, run_bound (P := P) (k := k) (i := i) (y := hi) ⟨h0, by omega⟩]
    | some y =>
      obtain ⟨k', i', e', h0', rfl⟩ := hh
      simp [Instr.sliceBounds, e g, e' g, run_bound (P := P) (k := k') (i := i') (y := cap) ⟨h0', by omega⟩, run_bound (P := P) (k := k) (i := i) (y := i'.toNat) ⟨h0, by omega⟩]
/-- A slice of a slice; of an array by its address. -/
def slV (b o len cap lo hi sz : Nat) : Value := .slice (some ⟨b, if cap = lo then o else o + lo * sz, none⟩) (hi - lo) (cap - lo)
theorem x_sl {E sz b' o len cap lo hi : Nat} {ol oh : Option Operand} (hu : P.underlying t = some (.slice E)) (hs : szOf P E = some sz)
    (hx : ∀ g, evl L g x = .slice (some ⟨b', o, none⟩) len cap := by intro g; rfl) (hl : bnd L ol 0 lo := by first | exact rfl | exact ⟨_, _, fun _ => rfl, by omega, by first | (simp only [Int.toNat_natCast, Int.reduceToNat]; rfl) | rfl | omega⟩) (hh : bnd L oh len hi := by first | exact rfl | exact ⟨_, _, fun _ => rfl, by omega, by first | (simp only [Int.toNat_natCast, Int.reduceToNat]; rfl) | rfl | omega⟩) (h1 : lo ≤ hi := by first | omega | (simp; done) | (simp; omega)) (h2 : hi ≤ cap := by first | omega | (simp; done) | (simp; omega)) (hv : slV b' o len cap lo hi sz = v := by first | (simp only [slV, Nat.reduceEqDiff, ↓reduceIte, Nat.sub_zero, Nat.zero_mul, Nat.mul_one, Nat.add_zero, Nat.zero_add, Nat.reduceMul, Nat.reduceAdd, Nat.reduceSub, ite_self]; rfl) | rfl) (hn : d < n := by decide) :
    Ex P n G ops L H ⟨some d, .slice t x ol oh none, ty, p, e, none⟩ d v := by
  refine .mk hn (fun _ _ g w _ => ?_)
  subst hv
  simp [execOp, hx g, Instr.sliceAt, Instr.slice, run_underlying hu, run_bounds hl hh h1 h2, run_size_of hs, slV, Addr.add_at]
  split <;> simp_all
theorem x_sln {E sz : Nat} {ol oh : Option Operand} (hu : P.underlying t = some (.slice E)) (hs : szOf P E = some sz)
    (hx : ∀ g, evl L g x = .slice none 0 0) (hl : bnd L ol 0 0) (hh : bnd L oh 0 0) (hn : d < n := by decide) :
    Ex P n G ops L H ⟨some d, .slice t x ol oh none, ty, p, e, none⟩ d (.slice none 0 0) := by
  refine .mk hn (fun _ _ g w _ => ?_)
  simp [execOp, hx g, Instr.sliceAt, Instr.slice, run_underlying hu, run_bounds hl hh, run_size_of hs]
theorem x_sla {E sz b' o len lo hi : Nat} {ol oh : Option Operand} (hu : P.underlying t = some (.array len E)) (hs : szOf P E = some sz)
    (hx : ∀ g, evl L g x = .pointer (some ⟨b', o, none⟩) := by intro g; rfl) (hl : bnd L ol 0 lo := by first | exact rfl | exact ⟨_, _, fun _ => rfl, by omega, by first | (simp only [Int.toNat_natCast, Int.reduceToNat]; rfl) | rfl | omega⟩) (hh : bnd L oh len hi := by first | exact rfl | exact ⟨_, _, fun _ => rfl, by omega, by first | (simp only [Int.toNat_natCast, Int.reduceToNat]; rfl) | rfl | omega⟩) (h1 : lo ≤ hi := by first | omega | (simp; done) | (simp; omega)) (h2 : hi ≤ len := by first | omega | (simp; done) | (simp; omega)) (hv : slV b' o len len lo hi sz = v := by first | (simp only [slV, Nat.reduceEqDiff, ↓reduceIte, Nat.sub_zero, Nat.zero_mul, Nat.mul_one, Nat.add_zero, Nat.zero_add, Nat.reduceMul, Nat.reduceAdd, Nat.reduceSub, ite_self]; rfl) | rfl) (hn : d < n := by decide) :
    Ex P n G ops L H ⟨some d, .slice t x ol oh none, ty, p, e, none⟩ d v := by
  refine .mk hn (fun _ _ g w _ => ?_)
  subst hv
  simp [execOp, hx g, Instr.sliceAt, Instr.sureAddr, run_underlying hu, run_bounds hl hh h1 h2, run_size_of hs, slV, Addr.add_at]
  split <;> simp_all
/-! Strings, said as lists of bytes. -/
def str (l : List UInt8) : ByteArray := ⟨l.toArray⟩
theorem str_size (l : List UInt8) : (str l).size = l.length := by simp [str, ByteArray.size]
theorem str_append (l m : List UInt8) : str l ++ str m = str (l ++ m) := by
  apply ByteArray.ext; simp [str, ByteArray.data_append]
theorem str_toList (l : List UInt8) : (str l).toList = l := by simp [str]
theorem str_of (s : ByteArray) : str s.data.toList = s := by simp [str]
theorem str_inj {l m : List UInt8} (h : str l = str m) : l = m := by simpa [str] using h
theorem str_extract (l : List UInt8) (a b : Nat) : (str l).extract a b = str ((l.drop a).take (b - a)) := by
  apply ByteArray.ext
  have h := Lib.extract_data (str l) a b
  have h2 : (str l).data.toList = l := by simp [str]
  rw [h2] at h
  have h3 : (str ((l.drop a).take (b - a))).data = ((l.drop a).take (b - a)).toArray := rfl
  rw [h3, ← h]
theorem x_lens {l : List UInt8} (hu : P.underlying t = some .string) (hx : ∀ g, evl L g x = .string (str l) := by intro g; rfl) (hn : d < n := by decide) :
    Ex P n G ops L H ⟨some d, .call ⟨.builtin .len, #[x], #[t]⟩, ty, p, e, none⟩ d (.int .i64 l.length) :=
  .mk hn (fun _ _ g w _ => by simp [execOp, hx g, resolve, invoke, builtin, Builtin.len_, run_underlying hu, goInt, str_size])
theorem x_lenb {E : Nat} {a' : Option Addr} {len cap : Nat} (hu : P.underlying t = some (.slice E)) (hx : ∀ g, evl L g x = .slice a' len cap := by intro g; rfl) (hn : d < n := by decide) :
    Ex P n G ops L H ⟨some d, .call ⟨.builtin .len, #[x], #[t]⟩, ty, p, e, none⟩ d (.int .i64 len) :=
  .mk hn (fun _ _ g w _ => by simp [execOp, hx g, resolve, invoke, builtin, Builtin.len_, run_underlying hu, goInt])
theorem x_cat {l m : List UInt8} (hx : ∀ g, evl L g x = .string (str l) := by intro g; rfl) (hy : ∀ g, evl L g y = .string (str m) := by intro g; rfl) (hl : l.length + m.length ≤ 9223372036854775807 := by first | omega | (simp [le_length]; done) | (simp [le_length]; omega)) (hn : d < n := by decide) :
    Ex P n G ops L H ⟨some d, .binOp .add t x y t', ty, p, e, none⟩ d (.string (str (l ++ m))) :=
  .mk hn (fun _ _ g w _ => by
    have h1 : ¬ ((l.length + m.length : Nat) : Int) > IntKind.i64.max := by simp [IntKind.max, IntKind.bits, IntKind.signed]; omega
    simp only [execOp, hx g, hy g, binOp, Op.stringOp, str_size, str_append]
    simp [eqGuard, h1]; omega)
theorem x_eqs {l m : List UInt8} {r : Bool} (hx : ∀ g, evl L g x = .string (str l) := by intro g; rfl) (hy : ∀ g, evl L g y = .string (str m) := by intro g; rfl) (hr : decide (l = m) = r := by first | exact decide_eq_true (by first | assumption | rfl) | exact decide_eq_false (by first | assumption | decide) | rfl) (hn : d < n := by decide) :
    Ex P n G ops L H ⟨some d, .binOp .eql t x y t', ty, p, e, none⟩ d (.bool r) :=
  .mk hn (fun _ _ g w _ => by
    have h1 : (l == m) = r := by rw [← hr]; rw [Bool.eq_iff_iff]; simp
    simp [execOp, hx g, hy g, binOp, Op.stringOp, str_toList, eqGuard, h1])
theorem x_nes {l m : List UInt8} {r : Bool} (hx : ∀ g, evl L g x = .string (str l) := by intro g; rfl) (hy : ∀ g, evl L g y = .string (str m) := by intro g; rfl) (hr : (!decide (l = m)) = r := by first | exact congrArg (!·) (decide_eq_true (by first | assumption | rfl)) | exact congrArg (!·) (decide_eq_false (by first | assumption | decide)) | rfl) (hn : d < n := by decide) :
    Ex P n G ops L H ⟨some d, .binOp .neq t x y t', ty, p, e, none⟩ d (.bool r) :=
  .mk hn (fun _ _ g w _ => by
    have h1 : (!(l == m)) = r := by rw [← hr]; rw [Bool.eq_iff_iff]; simp
    simp [execOp, hx g, hy g, binOp, Op.stringOp, str_toList, eqGuard, h1])
theorem x_sls {lo hi : Nat} {l : List UInt8} {ol oh : Option Operand} (hu : P.underlying t = some .string)
    (hx : ∀ g, evl L g x = .string (str l) := by intro g; rfl) (hl : bnd L ol 0 lo := by first | exact rfl | exact ⟨_, _, fun _ => rfl, by omega, by first | (simp only [Int.toNat_natCast, Int.reduceToNat]; rfl) | rfl | omega⟩) (hh : bnd L oh l.length hi := by first | exact rfl | exact ⟨_, _, fun _ => rfl, by omega, by first | (simp only [Int.toNat_natCast, Int.reduceToNat]; rfl) | rfl | omega⟩) (h1 : lo ≤ hi := by first | omega | (simp; done) | (simp; omega)) (h2 : hi ≤ l.length := by first | omega | (simp; done) | (simp; omega)) (hn : d < n := by decide) :
    Ex P n G ops L H ⟨some d, .slice t x ol oh none, ty, p, e, none⟩ d (.string (str ((l.drop lo).take (hi - lo)))) := by
  refine .mk hn (fun _ _ g w _ => ?_)
  have hb := run_bounds (P := P) (isS := false) (len := l.length) (cap := l.length) (g := g) hl hh h1 h2 w
  simp [execOp, hx g, Instr.sliceAt, Instr.slice, run_underlying hu, str_size, hb, str_extract]
theorem x_ixs {l : List UInt8} {i : Int} {j : Nat} {c : UInt8} (hu : P.underlying t = some .string) (hc : l[j]? = some c) (hx : ∀ g, evl L g x = .string (str l) := by intro g; rfl) (hi : ∀ g, evl L g ix = .int k i := by intro g; rfl) (hj : i = (j : Int) := by omega) (hn : d < n := by decide) :
    Ex P n G ops L H ⟨some d, .index t x ix, ty, p, e, none⟩ d (.int .u8 c.toNat) :=
  .mk hn (fun _ _ g w _ => by
    have h1 : (str l)[j]? = some c := by
      have hlt := (List.getElem?_eq_some_iff.1 hc).1
      have hs : j < (str l).size := by rw [str_size]; exact hlt
      rw [getElem?_pos (str l) j hs]
      have := (List.getElem?_eq_some_iff.1 hc).2
      rw [← this]; rfl
    subst hj
    simp [execOp, hx g, hi g, Instr.index, asIntOf, run_underlying hu, h1])
end
end Go.Proofs.YtlmefkhglooepaaGreatDoor
namespace Go.Proofs.YtlmefkhglooepaaGreatDoor
open Go
set_option linter.unusedSimpArgs false
set_option linter.unusedVariables false
/-- These cells can be read. -/
def Rd (G : Nat → Option Obj) (H : List Res) (b off : Nat) (cs : List Value) : Prop :=
  ∀ F w, Sub G F → Sat H F w → ∀ i v, cs[i]? = some v → w.cell? ⟨b, off + i, none⟩ = some v
section
variable {P : Program} {n : Nat} {G : Nat → Option Obj} {ops : Array Oper} {Q : Post} {rest : List Oper} {L : Loc} {H R : List Res}
variable {d : Nat} {x y ix c : Operand} {ty t t' s s' : TypeId} {p : String} {e : Array Edge} {k k' : IntKind} {a b z : Int} {v va vb : Value}
theorem Rd.pull {r : Res} {b off : Nat} {cs : List Value} (h : Rd G [r] b off cs) (hp : Pull r H R) : Rd G H b off cs := fun F w hF hs => h F w hF (hs.part (R := R) hp)
theorem Rd.mono {H' : List Res} {b off : Nat} {cs : List Value} (h : Rd G H' b off cs) (hp : HWk H H') : Rd G H b off cs := fun F w hF hs => h F w hF (hp F w hs)
theorem Rd.pt {b : Nat} {cs : List Value} {T : TypeId} (off : Nat) (cs' : List Value) (h : ∀ i v, cs'[i]? = some v → cs[off + i]? = some v) : Rd G [pt b cs T] b off cs' := fun F w hF hs i v hi => by rw [Sat.cell hs]; exact h i v hi
theorem Rd.all {b : Nat} {cs : List Value} {T : TypeId} : Rd G [Go.Proofs.YtlmefkhglooepaaGreatDoor.pt b cs T] b 0 cs := Rd.pt 0 cs (fun i v h => by rw [Nat.zero_add]; exact h)
theorem Rd.drop {b off : Nat} {cs : List Value} (h : Rd G H b off cs) (j : Nat) : Rd G H b (off + j) (cs.drop j) := fun F w hF hs i v hi => by
  rw [Nat.add_assoc]; exact h F w hF hs (j + i) v (by rw [List.getElem?_drop] at hi; exact hi)
theorem Rd.take {b off : Nat} {cs : List Value} (h : Rd G H b off cs) (j : Nat) : Rd G H b off (cs.take j) := fun F w hF hs i v hi => by
  refine h F w hF hs i v ?_
  rw [List.getElem?_take] at hi
  split at hi
  · exact hi
  · cases hi
theorem x_ldR {T b o i : Nat} {cs : List Value} (ht : oneSz P T = true) (hr : Rd G H b o cs) (hv : cs[i]? = some v) (hx : ∀ g, evl L g x = .pointer (some ⟨b, o + i, none⟩) := by intro g; rfl) (hn : d < n := by decide) :
    Ex P n G ops L H ⟨some d, .load T x, ty, p, e, none⟩ d v :=
  .mk hn (fun F hF g w hs => by simp [execOp, hx g, Instr.loadAt, Instr.sureAddr, run_load1 ht (hr F w hF hs i v hv)])
theorem x_ldaR {T b o m i k : Nat} {cs vs : List Value} (ht : aggSz P T = some k) (hr : Rd G H b o cs) (hm : m = o + i) (hv : ∀ j v, vs[j]? = some v → cs[i + j]? = some v) (hl : vs.length = k := by rfl) (hx : ∀ g, evl L g x = .pointer (some ⟨b, m, none⟩) := by intro g; rfl) (hn : d < n := by decide) :
    Ex P n G ops L H ⟨some d, .load T x, ty, p, e, none⟩ d (.agg vs.toArray) := by
  subst hm
  exact .mk hn (fun F hF g w hs => by simp [execOp, hx g, Instr.loadAt, Instr.sureAddr, run_loadA ht hl (w := w) (b := b) (i := o + i) (fun j v hj => by rw [Nat.add_assoc]; exact hr F w hF hs (i + j) v (hv j v hj))])
/-- A slice that the call owns: its first n elements are xs. -/
def Own (T sz : Nat) (v : Value) (n : Nat) (xs : List Value) (r : Res) : Prop :=
  xs.length = n * sz ∧ ((v = .slice none 0 0 ∧ n = 0 ∧ r = []) ∨
    ∃ g cap cur, v = .slice (some ⟨g, 0, none⟩) n cap ∧ r = pt g cur T ∧ n ≤ cap ∧ cap ≤ maxLen ∧ cur.length = cap * sz ∧ cur.take (n * sz) = xs)
theorem Own.nil (T sz : Nat) : Own T sz (.slice none 0 0) 0 [] [] := ⟨by simp, .inl ⟨rfl, rfl, rfl⟩⟩
theorem Own.empty (T sz b : Nat) : Own T sz (.slice (some ⟨b, 0, none⟩) 0 0) 0 [] (pt b [] T) := ⟨by simp, .inr ⟨b, 0, [], rfl, rfl, by simp, by simp, by simp, by simp⟩⟩
theorem Own.len {T sz n : Nat} {v : Value} {xs : List Value} {r : Res} (h : Own T sz v n xs r) : ∃ a cap, v = .slice a n cap := by
  rcases h.2 with ⟨rfl, rfl, _⟩ | ⟨g, cap, cur, rfl, _⟩ <;> exact ⟨_, _, rfl⟩
theorem Own.rd {T sz n g cap : Nat} {xs : List Value} {r : Res} (h : Own T sz (.slice (some ⟨g, 0, none⟩) n cap) n xs r) : Rd G [r] g 0 xs := by
  rcases h.2 with ⟨h0, _⟩ | ⟨g', cap', cur, hv, rfl, _, _, _, ht⟩
  · cases h0
  · simp only [Value.slice.injEq, Option.some.injEq, Addr.mk.injEq] at hv
    obtain ⟨⟨rfl, _⟩, _⟩ := hv
    refine Rd.pt 0 xs (fun i u hi => ?_)
    rw [Nat.zero_add]
    rw [← ht, List.getElem?_take] at hi
    split at hi
    · exact hi
    · cases hi
theorem oneCell_cells {z : Value} {sz : Nat} : True := trivial
theorem toArray_app (l m : List Value) (c : Array Value) : l.toArray ++ m.toArray ++ c = (l ++ m ++ c.toList).toArray := by
  apply Array.ext'; simp
theorem run_append_own' {T sz bytes : Nat} {zv : Value} (hu : P.underlying t = some (.slice T)) (hi : (P.info? T).map (fun i => (i.zero, i.size, i.bytes)) = some (some zv, sz, bytes)) (hz : zv.cells.size = sz)
    {v : Value} {m : Nat} {xs : List Value} {r : Res} (hown : Own T sz v m xs r) {F : Fr} {w : World} (hs : Sat (r :: R) F w) {b o q cp : Nat} {news : List Value} (hF : Sub G F) (hrd : Rd G R b o news) (hl : news.length = q * sz) (h1 : ∀ u ∈ news, u.oneCell' = true)
    (hml : m + q ≤ maxLen) (hb : (m + q) * bytes ≤ 140737488355328) :
    ∃ v' r' w', (Builtin.append_ #[t, t] ty #[v, .slice (some ⟨b, o, none⟩) q cp]).run P w = .ok v' w' ∧ Own T sz v' (m + q) (xs ++ news) r' ∧ Sat (r' :: R) F w' := by
  obtain ⟨i, hii, hzz, hsz, hby⟩ := info_parts hi
  subst hsz; subst hby
  have hnews : ∀ j u, news[j]? = some u → w.cell? ((⟨b, o, none⟩ : Addr).add j) = some u := fun j u hj => by rw [Addr.add_at]; exact hrd F w hF hs.drop j u hj
  have hmx : m + q ≤ 9223372036854775807 := by simp only [maxLen] at hml; omega
  have hlen : (xs ++ news).length = (m + q) * i.size := by rw [List.length_append, hown.1, hl, Nat.add_mul]
  have key : ∀ (old : Nat), Sat ((pt w.heap.size (xs ++ news ++ (Builtin.zeroCells zv.cells (grownCap w (m + q) old T - (m + q))).toList) T) :: R) F (w.drew.alloc (.cells (xs.toArray ++ news.toArray ++ Builtin.zeroCells zv.cells (grownCap w (m + q) old T - (m + q))) T)) := by
    intro old
    have h0 : Sat R F w.drew := hs.drop.same rfl rfl rfl rfl
    have := h0.alloc (.cells (xs.toArray ++ news.toArray ++ Builtin.zeroCells zv.cells (grownCap w (m + q) old T - (m + q))) T)
    rw [toArray_app] at this ⊢
    exact this
  have own' : ∀ (old : Nat), Own T i.size (.slice (some ⟨w.heap.size, 0, none⟩) (m + q) (grownCap w (m + q) old T)) (m + q) (xs ++ news) (pt w.heap.size (xs ++ news ++ (Builtin.zeroCells zv.cells (grownCap w (m + q) old T - (m + q))).toList) T) := by
    intro old
    have hge := grownCap_ge w (m + q) old T
    refine ⟨hlen, .inr ⟨_, _, _, rfl, rfl, hge, grownCap_le_maxLen w (m + q) old T hml, ?_, ?_⟩⟩
    · rw [List.length_append, hlen, Array.length_toList, size_zeroCells, hz, ← Nat.add_mul]
      congr 1; omega
    · rw [← hlen]; exact List.take_left
  rcases hown.2 with ⟨rfl, rfl, rfl⟩ | ⟨g, cap, cur, rfl, rfl, hnc, hcm, hcs, htake⟩
  · have hx : xs = [] := List.eq_nil_of_length_eq_zero (by simpa using hown.1)
    subst hx
    by_cases hq : q = 0
    · subst hq
      have hn : news = [] := List.eq_nil_of_length_eq_zero (by simpa using hl)
      subst hn
      refine ⟨.slice none 0 0, [], w, ?_, Own.nil T i.size, hs⟩
      simp [Builtin.append_, run_underlying hu, sizeOf, typeInfo, hii, Builtin.lenOf, Builtin.firstCells, loadCells, loadCellsFrom]
    · have hr := run_append_nil (P := P) w t ty T i zv hu hii hzz ⟨b, o, none⟩ q cp news hl hnews (by omega) (by omega) (by have := hb; simp only [Nat.zero_add] at this; omega)
      have h2 := key 0
      have h3 := own' 0
      simp only [Nat.zero_add, List.nil_append, Array.empty_append] at h2 h3 hr ⊢
      exact ⟨_, _, _, hr, h3, h2⟩
  · have hblk := Sat.block hs
    by_cases hroom : m + q ≤ cap
    · have hfit : m * i.size + news.length ≤ cur.toArray.size := by simp only [List.size_toArray]; rw [hl, hcs, ← Nat.add_mul]; exact Nat.mul_le_mul_right _ hroom
      have hr := run_append_room (P := P) w t ty T i hu hii g m cap cur.toArray hblk ⟨b, o, none⟩ q cp news hl hnews h1 hroom hfit
      refine ⟨_, pt g (cur.take (m * i.size) ++ news ++ cur.drop (m * i.size + news.length)) T, _, hr, ⟨hlen, .inr ⟨g, cap, _, rfl, rfl, hroom, hcm, ?_, ?_⟩⟩, ?_⟩
      · simp only [List.size_toArray] at hfit
        simp only [List.length_append, List.length_take, List.length_drop]
        omega
      · rw [htake, ← hlen]; exact List.take_left
      · refine Sat.turn hs ?_ (fun k hk => setRow_other w g k _ hk) rfl rfl rfl
        have := setRow_heap w g cur.toArray (cur.toArray.toList.take (m * i.size) ++ news ++ cur.toArray.toList.drop (m * i.size + news.length)).toArray T (0, 0) hblk
        simpa using this
    · have holds : ∀ j u, xs[j]? = some u → w.cell? ((⟨g, 0, none⟩ : Addr).add j) = some u := fun j u hj => by
        rw [Addr.add_at, Nat.zero_add, Sat.cell hs]
        rw [← htake, List.getElem?_take] at hj
        split at hj
        · exact hj
        · cases hj
      have hr := run_append_grow (P := P) w t ty T i zv hu hii hzz ⟨g, 0, none⟩ m cap xs hown.1 holds ⟨b, o, none⟩ q cp news hl hnews (by omega) (by omega) (growslice_fits (by omega) hb)
      exact ⟨_, _, _, hr, own' cap, key cap⟩
theorem o_app {T sz bytes : Nat} {zv : Value} (hi : (P.info? T).map (fun i => (i.zero, i.size, i.bytes)) = some (some zv, sz, bytes)) (hu : P.underlying t = some (.slice T)) (hz : zv.cells.size = sz)
    {m : Nat} {xs : List Value} {r : Res} (hown : Own T sz v m xs r) {b o q cp : Nat} {news : List Value} (hp : Pull r H R) (hrd : Rd G R b o news) (hl : news.length = q * sz) (h1 : ∀ u ∈ news, u.oneCell' = true)
    (hml : m + q ≤ maxLen) (hb : (m + q) * bytes ≤ 140737488355328) (h : ∀ v' r', Own T sz v' (m + q) (xs ++ news) r' → OP P n G ops Q rest ((d, v') :: L) (r' :: R))
    (hx : ∀ g, evl L g x = v := by intro g; rfl) (hy : ∀ g, evl L g y = .slice (some ⟨b, o, none⟩) q cp := by intro g; rfl) (hn : d < n := by decide) :
    OP P n G ops Q (⟨some d, .call ⟨.builtin .append, #[x, y], #[t, t]⟩, ty, p, e, none⟩ :: rest) L H := by
  intro F hF g a w ha hsat
  refine wpList_plain rfl fun K hK => ?_
  obtain ⟨v', r', w', h2, h3, h4⟩ := run_append_own' (P := P) (ty := ty) hu hi hz hown (hsat.perm hp) hF hrd (cp := cp) hl h1 hml hb
  have hrun : (execOp a.eval ⟨some d, .call ⟨.builtin .append, #[x, y], #[t, t]⟩, ty, p, e, none⟩).run P w = .ok (.value v') w' := by
    rw [ha.eval]
    simp [execOp, hx g, hy g, resolve, invoke, builtin, h2]
  unfold Oper.wp
  rw [hrun, Oper.upon_value]
  exact hK _ _ (h v' r' h3 F hF g _ w' (ha.put hn v') h4)
/-! Literals of slices. -/
theorem o_bs0 {T sz : Nat} (hu : P.underlying t = some (.slice T)) (hs : szOf P T = some sz) (h : ∀ b, OP P n G ops Q rest ((d, .slice (some ⟨b, 0, none⟩) 0 0) :: L) (pt b [] T :: H)) (hn : d < n := by decide) :
    OP P n G ops Q (⟨some d, .buildSlice t 0 #[], ty, p, e, none⟩ :: rest) L H := by
  refine OP.any (v := fun b => .slice (some ⟨b, 0, none⟩) 0 0) (H' := fun b => pt b [] T :: H) rfl hn rfl (fun F hF g w hsat => ⟨w.heap.size, w.alloc (.cells #[] T), ?_, by simpa [pt] using hsat.alloc (.cells #[] T)⟩) h
  simp [execOp, Instr.buildSlice, run_underlying hu, run_size_of hs, Instr.fill, newRow, Array.range_zero']
/-- A literal of one element, or of some: what it lays is asked of the run itself. -/
theorem o_bs {T k : Nat} {vs : List Value} {parts : Array (Nat × Operand)} (hb : ∀ g w, (Instr.buildSlice t k (parts.map fun (i, x) => (i, evl L g x))).run P w = .ok (.slice (some ⟨w.heap.size, 0, none⟩) k k) (w.alloc (.cells vs.toArray T)))
    (h : ∀ b, OP P n G ops Q rest ((d, .slice (some ⟨b, 0, none⟩) k k) :: L) (pt b vs T :: H)) (hn : d < n := by decide) :
    OP P n G ops Q (⟨some d, .buildSlice t k parts, ty, p, e, none⟩ :: rest) L H := by
  refine OP.any (v := fun b => .slice (some ⟨b, 0, none⟩) k k) (H' := fun b => pt b vs T :: H) rfl hn rfl (fun F hF g w hsat => ⟨w.heap.size, w.alloc (.cells vs.toArray T), ?_, by simpa [pt] using hsat.alloc (.cells vs.toArray T)⟩) h
  simp only [execOp]
  rw [show (Instr.buildSlice t k (parts.map fun x => match x with | (i, x) => (i, evl L g x))) = (Instr.buildSlice t k (parts.map fun (i, x) => (i, evl L g x))) from rfl]
  simp [hb g w]
/-! Bytes and strings. -/
def u8 (b : UInt8) : Value := .int .u8 b.toNat
theorem get_u8 {l : List UInt8} {o : Nat} {x : UInt8} (h : l[o]? = some x) : (l.map u8)[o]? = some (.int .u8 x.toNat) := by simp [h, u8]
theorem u8_one {l : List UInt8} : ∀ u ∈ l.map u8, u.oneCell' = true := by
  intro u hu; obtain ⟨x, _, rfl⟩ := List.mem_map.1 hu; rfl
theorem strOfNums_str (l : List UInt8) : strOfNums (l.map fun b => (b.toNat : Int)) = str l := by
  apply ByteArray.ext
  apply Array.ext'
  rw [strOfNums_data]
  simp only [str, List.map_map]
  exact (List.map_congr_left (fun a _ => by simp)).trans (List.map_id _)
theorem x_b2s {b o len cap : Nat} {l : List UInt8} (hs : P.underlying s = some (.slice t)) (he : P.underlying t = some (.int .u8)) (hd : P.underlying s' = some .string)
    (hr : Rd G H b o (l.map u8)) (hl : l.length = len) (hx : ∀ g, evl L g x = .slice (some ⟨b, o, none⟩) len cap := by intro g; rfl) (hn : d < n := by decide) :
    Ex P n G ops L H ⟨some d, .convert s s' x, ty, p, e, none⟩ d (.string (str l)) :=
  .mk hn (fun F hF g w hsat => by
    have := run_convert_bytes_arg (P := P) w s t hs he b o len cap (l.map fun b => (b.toNat : Int)) (by simp [hl]) (fun i hi => by
      have hi' : i < l.length := by omega
      rw [hr F w hF hsat i (.int .u8 (l[i].toNat)) (get_u8 (List.getElem?_eq_getElem hi'))]
      simp [hi']) s' hd
    rw [strOfNums_str] at this
    simp [execOp, hx g, this])
theorem x_b2sn (hs : P.underlying s = some (.slice t)) (he : P.underlying t = some (.int .u8)) (hd : P.underlying s' = some .string)
    (hx : ∀ g, evl L g x = .slice none 0 0 := by intro g; rfl) (hn : d < n := by decide) :
    Ex P n G ops L H ⟨some d, .convert s s' x, ty, p, e, none⟩ d (.string (str [])) :=
  .mk hn (fun F hF g w hsat => by
    have := run_convert_bytes_nil (P := P) w s t hs he 0 0 s' hd
    have h0 : (ByteArray.empty) = str [] := rfl
    simp [execOp, hx g, this, h0])
/-- The bytes of an owned slice of bytes, as a string. -/
theorem x_own2s {m : Nat} {l : List UInt8} {r : Res} {T : Nat} (hs : P.underlying s = some (.slice t)) (he : P.underlying t = some (.int .u8)) (hd : P.underlying s' = some .string)
    (hown : Own T 1 v m (l.map u8) r) (hp : Pull r H R) (hx : ∀ g, evl L g x = v := by intro g; rfl) (hn : d < n := by decide) :
    Ex P n G ops L H ⟨some d, .convert s s' x, ty, p, e, none⟩ d (.string (str l)) := by
  have hl : l.length = m := by have := hown.1; simpa using this
  rcases hown.2 with ⟨rfl, hm, _⟩ | ⟨g, cap, cur, rfl, _⟩
  · subst hm
    obtain rfl : l = [] := List.eq_nil_of_length_eq_zero hl
    exact x_b2sn hs he hd hx hn
  · exact x_b2s (cap := cap) hs he hd (hown.rd.pull hp) hl hx hn
theorem o_s2b {l : List UInt8} {T : Nat} {u : TypeDesc} (hs : P.underlying s = some u) (hd : P.underlying s' = some (.slice T)) (he : P.underlying T = some (.int .u8))
    (h : ∀ b cap r, Rd G [r] b 0 (l.map u8) → l.length ≤ cap → OP P n G ops Q rest ((d, .slice (some ⟨b, 0, none⟩) l.length cap) :: L) (r :: H)) (hx : ∀ g, evl L g x = .string (str l) := by intro g; rfl) (hn : d < n := by decide) :
    OP P n G ops Q (⟨some d, .convert s s' x, ty, p, e, none⟩ :: rest) L H := by
  intro F hF g a w ha hsat
  refine wpList_plain rfl fun K hK => ?_
  have hrun : (execOp a.eval ⟨some d, .convert s s' x, ty, p, e, none⟩).run P w = .ok (.value (.slice (some ⟨w.heap.size, 0, none⟩) l.length (grownCap w l.length 0 T))) (Lib.bytesWorld w T (str l)) := by
    rw [ha.eval]
    simp only [execOp, hx g]
    have := Lib.run_convert_string_bytes (P := P) w s s' T (str l) hs hd he
    rw [str_size] at this
    simp [this]
  have h0 : Sat H F w.drew := hsat.same rfl rfl rfl rfl
  have hnew := Lib.bytesWorld_at_new w T (str l)
  have hsat' : Sat ([(w.heap.size, .cells (Lib.bytesCells w T (str l)) T ((Lib.bytesCells w T (str l)).size, (Lib.bytesCells w T (str l)).size + 1))] :: H) F (Lib.bytesWorld w T (str l)) := by
    have h1 := h0.alloc (.cells (Lib.bytesCells w T (str l)) T)
    exact h1.turn hnew (fun k hk => by
      by_cases hlt : k < w.heap.size
      · rw [Lib.bytesWorld_at_old w T (str l) k hlt]; exact (heap_alloc_old w.drew _ (show k < w.drew.heap.size from hlt)).symm
      · have hsz := Lib.bytesWorld_size w T (str l)
        rw [Array.getElem?_eq_none (by have : k ≠ w.heap.size := hk; omega), Array.getElem?_eq_none (by simp only [World.size_alloc, World.size_drew]; have : k ≠ w.heap.size := hk; omega)]) rfl rfl rfl
  have hcap : l.length ≤ grownCap w l.length 0 T := grownCap_ge _ _ _ _
  unfold Oper.wp
  rw [hrun, Oper.upon_value]
  refine hK _ _ (h w.heap.size _ _ ?_ hcap F hF g _ _ (ha.put hn _) hsat')
  intro F' w' _ hs' i v hi
  have hb := Sat.block hs'
  rw [Nat.zero_add]
  have hlt : i < l.length := by have := (List.getElem?_eq_some_iff.1 hi).1; simpa using this
  simp only [World.cell?, hb, Lib.bytesCells]
  have e1 : ((str l).data.map fun b => Value.int .u8 (b.toNat : Int)) = (l.map u8).toArray := by simp [str, u8]
  rw [e1]
  rw [Array.getElem?_append_left (by simpa using hlt)]
  simpa using hi
/-! make, copy. -/
theorem o_mk {T k sz bytes : Nat} {zv : Value} (hi : (P.info? T).map (fun i => (i.zero, i.size, i.bytes)) = some (some zv, sz, bytes)) (hu : P.underlying t = some (.slice T)) (hz : zv.cells = #[vb]) (hsz : sz = 1) (hk : k ≤ 4611686018427387904) (hb : k * bytes ≤ 281474976710656)
    (h : ∀ b, OP P n G ops Q rest ((d, .slice (some ⟨b, 0, none⟩) k k) :: L) (pt b (List.replicate k vb) T :: H)) (hx : ∀ g, evl L g x = .int .i64 k := by intro g; rfl) (hy : ∀ g, evl L g y = .int .i64 k := by intro g; rfl) (hn : d < n := by decide) :
    OP P n G ops Q (⟨some d, .makeSlice t x y, ty, p, e, none⟩ :: rest) L H := by
  subst hsz
  obtain ⟨i, hii, hzz, hs1, hby⟩ := info_parts hi
  refine OP.any (v := fun b => .slice (some ⟨b, 0, none⟩) k k) (H' := fun b => pt b (List.replicate k vb) T :: H) rfl hn rfl (fun F hF g w hsat => ⟨w.heap.size, w.alloc (.cells (List.replicate k vb).toArray T), ?_, by simpa [pt] using hsat.alloc (.cells (List.replicate k vb).toArray T)⟩) h
  have hm : madeCells zv.cells (k * i.size) = (List.replicate k vb).toArray := by
    rw [hs1, Nat.mul_one, hz]
    apply Array.ext <;> simp [madeCells, Nat.mod_one]
  have hbb : (i.bytes : Int) * (k : Int) ≤ 281474976710656 := by
    have h0 : ((k * bytes : Nat) : Int) ≤ 281474976710656 := by omega
    rw [Nat.mul_comm, Int.natCast_mul] at h0
    rw [hby]; exact h0
  have := run_make (P := P) w t T i zv hu hii hzz .i64 .i64 k k (by omega) (by omega) hbb (by omega)
  simp only [Int.toNat_natCast] at this
  rw [hm] at this
  simp [execOp, hx g, hy g, this]
end
end Go.Proofs.YtlmefkhglooepaaGreatDoor
namespace Go.Proofs.YtlmefkhglooepaaGreatDoor
open Go
set_option linter.unusedSimpArgs false
set_option linter.unusedVariables false
section
variable {P : Program} {n : Nat} {G : Nat → Option Obj} {ops : Array Oper} {Q : Post} {rest : List Oper} {L : Loc} {H R H' : List Res}
variable {d : Nat} {x y ix c : Operand} {ty t t' s s' : TypeId} {p : String} {e : Array Edge} {k k' : IntKind} {a b z : Int} {v va vb : Value}
/-- A guard that says yes, ahead of any rule. -/
theorem o_gy {j dj : Nat} {tt : Bool} {o : Oper} {dd : Option Nat} {op : Op} (h : OP P n G ops Q (⟨dd, op, ty, p, e, none⟩ :: rest) L H)
    (hj : ops[j]? = some o := by rfl) (hd : o.dst = some dj := by rfl) (hv : ∀ g, val L g dj = .bool tt := by intro g; rfl) : OP P n G ops Q (⟨dd, op, ty, p, e, some (j, tt)⟩ :: rest) L H := by
  intro F hF g a w ha hs
  have h1 := h F hF g a w ha hs
  have hw : Region.wanted ⟨dd, op, ty, p, e, some (j, tt)⟩ (yielded ops a.tmps) = true := by
    have := getD_bool ((ha.get dj).trans (hv g))
    simp [Region.wanted, yielded, hj, hd, this]
  simp only [wpList] at h1 ⊢
  rw [if_pos (show Region.wanted ⟨dd, op, ty, p, e, none⟩ (yielded ops a.tmps) = true from rfl)] at h1
  rw [if_pos hw]
  exact h1
theorem q_gy {j dj : Nat} {tt : Bool} {o : Oper} {dd : Option Nat} {op : Op} (h : QJ P n G ops Q (⟨dd, op, ty, p, e, none⟩ :: rest) L H)
    (hj : ops[j]? = some o := by rfl) (hd : o.dst = some dj := by rfl) (hv : ∀ g, val L g dj = .bool tt := by intro g; rfl) : QJ P n G ops Q (⟨dd, op, ty, p, e, some (j, tt)⟩ :: rest) L H := by
  intro F hF g a ha
  have h1 := h F hF g a ha
  have hw : Region.wanted ⟨dd, op, ty, p, e, some (j, tt)⟩ (yielded ops a.tmps) = true := by
    have := getD_bool ((ha.get dj).trans (hv g))
    simp [Region.wanted, yielded, hj, hd, this]
  simp only [wpQuiet] at h1 ⊢
  rw [if_pos (show Region.wanted ⟨dd, op, ty, p, e, none⟩ (yielded ops a.tmps) = true from rfl)] at h1
  rw [if_pos hw]
  exact h1
/-- A cut behind a part of the code: what stands there, over all x. -/
theorem w_cut {α : Type} {c1 c2 : Code} (I : α → Loc) (J : α → List Res) (C : α → Prop)
    (h1 : WP P n G c1 (fun e L' H' => match e with | .normal => ∃ x, Wk L' (I x) ∧ HWk H' (J x) ∧ C x | e => Q e L' H') L H)
    (h2 : ∀ x, C x → WP P n G c2 Q (I x) (J x)) : WP P n G (.seq c1 c2) Q L H := by
  refine w_seq (w_mono h1 fun e L' H' q => ?_)
  cases e <;> first | exact q | (obtain ⟨x, hL, hH, hC⟩ := q; exact w_weak hL hH (h2 x hC))
/-- A cell is written. -/
theorem setMid {α : Type} (l m : List α) (o : Nat) (h : o + m.length ≤ l.length) : (l.take o ++ m ++ l.drop (o + m.length)).length = l.length := by
  simp only [List.length_append, List.length_take, List.length_drop]; omega
theorem o_copy {b o dl dc b2 o2 sl sc : Nat} {cs news : List Value} {T T' : TypeId} (hx : ∀ g, evl L g x = .slice (some ⟨b, o, none⟩) dl dc) (hy : ∀ g, evl L g y = .slice (some ⟨b2, o2, none⟩) sl sc) (hu : P.underlying t = some (.slice T)) (h1 : oneSz P T = true)
    (hp : Pull (pt b cs T') H R) (hrd : Rd G H b2 o2 news) (hl : news.length = Nat.min sl dl) (hfit : o + news.length ≤ cs.length) (hone : ∀ u ∈ news, u.oneCell' = true)
    (h : OP P n G ops Q rest ((d, .int .i64 news.length) :: L) (pt b (cs.take o ++ news ++ cs.drop (o + news.length)) T' :: R))
    (hn : d < n := by decide) :
    OP P n G ops Q (⟨some d, .call ⟨.builtin .copy, #[x, y], #[t, t']⟩, ty, p, e, none⟩ :: rest) L H := by
  refine o_val rfl hn rfl (fun F hF g w hs => ?_) h
  have hs1 := hs.perm hp
  have hb := Sat.block hs1
  have hsz : (P.info? T).map (·.size) = some 1 := oneSz_sz h1
  have := run_copy_row (P := P) w t t' ty T b o dl dc ⟨b2, o2, none⟩ sl sc cs.toArray T' news hu hsz hb hl (fun j u hj => by rw [Addr.add_at]; exact hrd F w hF hs j u hj) (by simpa using hfit) hone
  refine ⟨_, by simp [execOp, hx g, hy g, resolve, invoke, builtin, this, goInt]; rfl, ?_⟩
  refine Sat.turn hs1 ?_ (fun k hk => setRow_other w b k _ hk) rfl rfl rfl
  have h2 := setRow_heap w b cs.toArray (cs.take o ++ news ++ cs.drop (o + news.length)).toArray T' (0, 0) hb
  simpa using h2
theorem o_copy0 {b o dl dc : Nat} {T : TypeId} (hu : P.underlying t = some (.slice T)) (h1 : oneSz P T = true)
    (h : OP P n G ops Q rest ((d, .int .i64 0) :: L) H)
    (hx : ∀ g, evl L g x = .slice (some ⟨b, o, none⟩) dl dc := by intro g; rfl) (hy : ∀ g, evl L g y = .slice none 0 0 := by intro g; rfl) (hn : d < n := by decide) :
    OP P n G ops Q (⟨some d, .call ⟨.builtin .copy, #[x, y], #[t, t']⟩, ty, p, e, none⟩ :: rest) L H := by
  refine o_val rfl hn rfl (fun F hF g w hs => ⟨w, ?_, hs⟩) h
  have hsz : ((P.info? T).map (·.size)).isSome = true := by
    have := oneSz_sz h1; unfold szOf at this; rw [this]; rfl
  have := run_copy_nil (P := P) w t t' ty T ⟨b, o, none⟩ dl dc hu hsz
  simp [execOp, hx g, hy g, resolve, invoke, builtin, this, goInt]
/-- A copy of a string's bytes. -/
theorem o_copys {b o dl dc : Nat} {cs : List Value} {l : List UInt8} {T T' : TypeId} (hx : ∀ g, evl L g x = .slice (some ⟨b, o, none⟩) dl dc) (hy : ∀ g, evl L g y = .string (str l)) (hu : P.underlying t = some (.slice T)) (h1 : oneSz P T = true)
    (hp : Pull (pt b cs T') H R) (hfit : o + min l.length dl ≤ cs.length)
    (h : OP P n G ops Q rest ((d, .int .i64 ((min l.length dl : Nat) : Int)) :: L) (pt b (cs.take o ++ (l.take dl).map u8 ++ cs.drop (o + min l.length dl)) T' :: R))
    (hn : d < n := by decide) :
    OP P n G ops Q (⟨some d, .call ⟨.builtin .copy, #[x, y], #[t, t']⟩, ty, p, e, none⟩ :: rest) L H := by
  refine o_val rfl hn rfl (fun F hF g w hs => ?_) h
  have hs1 := hs.perm hp
  have hb := Sat.block hs1
  have hsz : szOf P T = some 1 := oneSz_sz h1
  have hlen : ((l.take dl).map u8).length = min l.length dl := by simp [Nat.min_comm]
  have hst := run_storeCells_at P b o T' ((l.take dl).map u8) 0 cs.toArray w hb (by rw [hlen]; simpa using hfit) u8_one
  have hmin : Nat.min l.length dl = min l.length dl := rfl
  have htk : List.take (min l.length dl) (l.map fun b : UInt8 => Value.int IntKind.u8 (b.toNat : Int)) = (l.take dl).map u8 := by
    rw [← List.map_take, List.take_eq_take_min (i := dl), Nat.min_comm]; rfl
  have hrun : (Builtin.copy_ #[t, t'] ty #[.slice (some ⟨b, o, none⟩) dl dc, .string (str l)]).run P w = .ok (.int .i64 ((min l.length dl : Nat) : Int)) (w.setRow b (cs.take o ++ (l.take dl).map u8 ++ cs.drop (o + min l.length dl)).toArray) := by
    rw [hlen] at hst
    have e1 : (str l).data.toList = l := by simp [str]
    simp [Builtin.copy_, run_underlying hu, Builtin.lenOf, Builtin.firstCells, run_size_of hsz, str_size, e1]
    rw [hmin, htk, hst]
    simp [goInt]
  refine ⟨_, by simp [execOp, hx g, hy g, resolve, invoke, builtin, hrun]; rfl, ?_⟩
  refine Sat.turn hs1 ?_ (fun k hk => setRow_other w b k _ hk) rfl rfl rfl
  have h2 := setRow_heap w b cs.toArray (cs.take o ++ (l.take dl).map u8 ++ cs.drop (o + min l.length dl)).toArray T' (0, 0) hb
  simpa using h2
theorem hwk_nil : HWk H [] := hwk (R := H) .nil
theorem hka (hw : HWk H H' := by first | exact .refl _ | exact hwk .nil | exact hwk (.cons (by first | exact .head | exact .tail .head | exact .tail (.tail .head) | exact .tail (.tail (.tail .head)) | exact .tail (.tail (.tail (.tail .head))) | exact .tail (.tail (.tail (.tail (.tail .head)))) | exact .tail (.tail (.tail (.tail (.tail (.tail .head))))) | exact .tail (.tail (.tail (.tail (.tail (.tail (.tail .head)))))) | exact .tail (.tail (.tail (.tail (.tail (.tail (.tail (.tail .head))))))) | exact .tail (.tail (.tail (.tail (.tail (.tail (.tail (.tail (.tail .head)))))))) | exact .tail (.tail (.tail (.tail (.tail (.tail (.tail (.tail (.tail (.tail .head))))))))) | exact .tail (.tail (.tail (.tail (.tail (.tail (.tail (.tail (.tail (.tail (.tail .head))))))))))) .nil) | exact hwk (.cons (by first | exact .head | exact .tail .head | exact .tail (.tail .head) | exact .tail (.tail (.tail .head)) | exact .tail (.tail (.tail (.tail .head))) | exact .tail (.tail (.tail (.tail (.tail .head)))) | exact .tail (.tail (.tail (.tail (.tail (.tail .head))))) | exact .tail (.tail (.tail (.tail (.tail (.tail (.tail .head)))))) | exact .tail (.tail (.tail (.tail (.tail (.tail (.tail (.tail .head))))))) | exact .tail (.tail (.tail (.tail (.tail (.tail (.tail (.tail (.tail .head)))))))) | exact .tail (.tail (.tail (.tail (.tail (.tail (.tail (.tail (.tail (.tail .head))))))))) | exact .tail (.tail (.tail (.tail (.tail (.tail (.tail (.tail (.tail (.tail (.tail .head))))))))))) (.cons (by first | exact .head | exact .tail .head | exact .tail (.tail .head) | exact .tail (.tail (.tail .head)) | exact .tail (.tail (.tail (.tail .head))) | exact .tail (.tail (.tail (.tail (.tail .head)))) | exact .tail (.tail (.tail (.tail (.tail (.tail .head))))) | exact .tail (.tail (.tail (.tail (.tail (.tail (.tail .head)))))) | exact .tail (.tail (.tail (.tail (.tail (.tail (.tail (.tail .head))))))) | exact .tail (.tail (.tail (.tail (.tail (.tail (.tail (.tail (.tail .head)))))))) | exact .tail (.tail (.tail (.tail (.tail (.tail (.tail (.tail (.tail (.tail .head))))))))) | exact .tail (.tail (.tail (.tail (.tail (.tail (.tail (.tail (.tail (.tail (.tail .head))))))))))) .nil)) | exact hwk (.cons (by first | exact .head | exact .tail .head | exact .tail (.tail .head) | exact .tail (.tail (.tail .head)) | exact .tail (.tail (.tail (.tail .head))) | exact .tail (.tail (.tail (.tail (.tail .head)))) | exact .tail (.tail (.tail (.tail (.tail (.tail .head))))) | exact .tail (.tail (.tail (.tail (.tail (.tail (.tail .head)))))) | exact .tail (.tail (.tail (.tail (.tail (.tail (.tail (.tail .head))))))) | exact .tail (.tail (.tail (.tail (.tail (.tail (.tail (.tail (.tail .head)))))))) | exact .tail (.tail (.tail (.tail (.tail (.tail (.tail (.tail (.tail (.tail .head))))))))) | exact .tail (.tail (.tail (.tail (.tail (.tail (.tail (.tail (.tail (.tail (.tail .head))))))))))) (.cons (by first | exact .head | exact .tail .head | exact .tail (.tail .head) | exact .tail (.tail (.tail .head)) | exact .tail (.tail (.tail (.tail .head))) | exact .tail (.tail (.tail (.tail (.tail .head)))) | exact .tail (.tail (.tail (.tail (.tail (.tail .head))))) | exact .tail (.tail (.tail (.tail (.tail (.tail (.tail .head)))))) | exact .tail (.tail (.tail (.tail (.tail (.tail (.tail (.tail .head))))))) | exact .tail (.tail (.tail (.tail (.tail (.tail (.tail (.tail (.tail .head)))))))) | exact .tail (.tail (.tail (.tail (.tail (.tail (.tail (.tail (.tail (.tail .head))))))))) | exact .tail (.tail (.tail (.tail (.tail (.tail (.tail (.tail (.tail (.tail (.tail .head))))))))))) (.cons (by first | exact .head | exact .tail .head | exact .tail (.tail .head) | exact .tail (.tail (.tail .head)) | exact .tail (.tail (.tail (.tail .head))) | exact .tail (.tail (.tail (.tail (.tail .head)))) | exact .tail (.tail (.tail (.tail (.tail (.tail .head))))) | exact .tail (.tail (.tail (.tail (.tail (.tail (.tail .head)))))) | exact .tail (.tail (.tail (.tail (.tail (.tail (.tail (.tail .head))))))) | exact .tail (.tail (.tail (.tail (.tail (.tail (.tail (.tail (.tail .head)))))))) | exact .tail (.tail (.tail (.tail (.tail (.tail (.tail (.tail (.tail (.tail .head))))))))) | exact .tail (.tail (.tail (.tail (.tail (.tail (.tail (.tail (.tail (.tail (.tail .head))))))))))) .nil))) | exact hwk (.cons (by first | exact .head | exact .tail .head | exact .tail (.tail .head) | exact .tail (.tail (.tail .head)) | exact .tail (.tail (.tail (.tail .head))) | exact .tail (.tail (.tail (.tail (.tail .head)))) | exact .tail (.tail (.tail (.tail (.tail (.tail .head))))) | exact .tail (.tail (.tail (.tail (.tail (.tail (.tail .head)))))) | exact .tail (.tail (.tail (.tail (.tail (.tail (.tail (.tail .head))))))) | exact .tail (.tail (.tail (.tail (.tail (.tail (.tail (.tail (.tail .head)))))))) | exact .tail (.tail (.tail (.tail (.tail (.tail (.tail (.tail (.tail (.tail .head))))))))) | exact .tail (.tail (.tail (.tail (.tail (.tail (.tail (.tail (.tail (.tail (.tail .head))))))))))) (.cons (by first | exact .head | exact .tail .head | exact .tail (.tail .head) | exact .tail (.tail (.tail .head)) | exact .tail (.tail (.tail (.tail .head))) | exact .tail (.tail (.tail (.tail (.tail .head)))) | exact .tail (.tail (.tail (.tail (.tail (.tail .head))))) | exact .tail (.tail (.tail (.tail (.tail (.tail (.tail .head)))))) | exact .tail (.tail (.tail (.tail (.tail (.tail (.tail (.tail .head))))))) | exact .tail (.tail (.tail (.tail (.tail (.tail (.tail (.tail (.tail .head)))))))) | exact .tail (.tail (.tail (.tail (.tail (.tail (.tail (.tail (.tail (.tail .head))))))))) | exact .tail (.tail (.tail (.tail (.tail (.tail (.tail (.tail (.tail (.tail (.tail .head))))))))))) (.cons (by first | exact .head | exact .tail .head | exact .tail (.tail .head) | exact .tail (.tail (.tail .head)) | exact .tail (.tail (.tail (.tail .head))) | exact .tail (.tail (.tail (.tail (.tail .head)))) | exact .tail (.tail (.tail (.tail (.tail (.tail .head))))) | exact .tail (.tail (.tail (.tail (.tail (.tail (.tail .head)))))) | exact .tail (.tail (.tail (.tail (.tail (.tail (.tail (.tail .head))))))) | exact .tail (.tail (.tail (.tail (.tail (.tail (.tail (.tail (.tail .head)))))))) | exact .tail (.tail (.tail (.tail (.tail (.tail (.tail (.tail (.tail (.tail .head))))))))) | exact .tail (.tail (.tail (.tail (.tail (.tail (.tail (.tail (.tail (.tail (.tail .head))))))))))) (.cons (by first | exact .head | exact .tail .head | exact .tail (.tail .head) | exact .tail (.tail (.tail .head)) | exact .tail (.tail (.tail (.tail .head))) | exact .tail (.tail (.tail (.tail (.tail .head)))) | exact .tail (.tail (.tail (.tail (.tail (.tail .head))))) | exact .tail (.tail (.tail (.tail (.tail (.tail (.tail .head)))))) | exact .tail (.tail (.tail (.tail (.tail (.tail (.tail (.tail .head))))))) | exact .tail (.tail (.tail (.tail (.tail (.tail (.tail (.tail (.tail .head)))))))) | exact .tail (.tail (.tail (.tail (.tail (.tail (.tail (.tail (.tail (.tail .head))))))))) | exact .tail (.tail (.tail (.tail (.tail (.tail (.tail (.tail (.tail (.tail (.tail .head))))))))))) .nil)))) | exact hwk (.cons (by first | exact .head | exact .tail .head | exact .tail (.tail .head) | exact .tail (.tail (.tail .head)) | exact .tail (.tail (.tail (.tail .head))) | exact .tail (.tail (.tail (.tail (.tail .head)))) | exact .tail (.tail (.tail (.tail (.tail (.tail .head))))) | exact .tail (.tail (.tail (.tail (.tail (.tail (.tail .head)))))) | exact .tail (.tail (.tail (.tail (.tail (.tail (.tail (.tail .head))))))) | exact .tail (.tail (.tail (.tail (.tail (.tail (.tail (.tail (.tail .head)))))))) | exact .tail (.tail (.tail (.tail (.tail (.tail (.tail (.tail (.tail (.tail .head))))))))) | exact .tail (.tail (.tail (.tail (.tail (.tail (.tail (.tail (.tail (.tail (.tail .head))))))))))) (.cons (by first | exact .head | exact .tail .head | exact .tail (.tail .head) | exact .tail (.tail (.tail .head)) | exact .tail (.tail (.tail (.tail .head))) | exact .tail (.tail (.tail (.tail (.tail .head)))) | exact .tail (.tail (.tail (.tail (.tail (.tail .head))))) | exact .tail (.tail (.tail (.tail (.tail (.tail (.tail .head)))))) | exact .tail (.tail (.tail (.tail (.tail (.tail (.tail (.tail .head))))))) | exact .tail (.tail (.tail (.tail (.tail (.tail (.tail (.tail (.tail .head)))))))) | exact .tail (.tail (.tail (.tail (.tail (.tail (.tail (.tail (.tail (.tail .head))))))))) | exact .tail (.tail (.tail (.tail (.tail (.tail (.tail (.tail (.tail (.tail (.tail .head))))))))))) (.cons (by first | exact .head | exact .tail .head | exact .tail (.tail .head) | exact .tail (.tail (.tail .head)) | exact .tail (.tail (.tail (.tail .head))) | exact .tail (.tail (.tail (.tail (.tail .head)))) | exact .tail (.tail (.tail (.tail (.tail (.tail .head))))) | exact .tail (.tail (.tail (.tail (.tail (.tail (.tail .head)))))) | exact .tail (.tail (.tail (.tail (.tail (.tail (.tail (.tail .head))))))) | exact .tail (.tail (.tail (.tail (.tail (.tail (.tail (.tail (.tail .head)))))))) | exact .tail (.tail (.tail (.tail (.tail (.tail (.tail (.tail (.tail (.tail .head))))))))) | exact .tail (.tail (.tail (.tail (.tail (.tail (.tail (.tail (.tail (.tail (.tail .head))))))))))) (.cons (by first | exact .head | exact .tail .head | exact .tail (.tail .head) | exact .tail (.tail (.tail .head)) | exact .tail (.tail (.tail (.tail .head))) | exact .tail (.tail (.tail (.tail (.tail .head)))) | exact .tail (.tail (.tail (.tail (.tail (.tail .head))))) | exact .tail (.tail (.tail (.tail (.tail (.tail (.tail .head)))))) | exact .tail (.tail (.tail (.tail (.tail (.tail (.tail (.tail .head))))))) | exact .tail (.tail (.tail (.tail (.tail (.tail (.tail (.tail (.tail .head)))))))) | exact .tail (.tail (.tail (.tail (.tail (.tail (.tail (.tail (.tail (.tail .head))))))))) | exact .tail (.tail (.tail (.tail (.tail (.tail (.tail (.tail (.tail (.tail (.tail .head))))))))))) (.cons (by first | exact .head | exact .tail .head | exact .tail (.tail .head) | exact .tail (.tail (.tail .head)) | exact .tail (.tail (.tail (.tail .head))) | exact .tail (.tail (.tail (.tail (.tail .head)))) | exact .tail (.tail (.tail (.tail (.tail (.tail .head))))) | exact .tail (.tail (.tail (.tail (.tail (.tail (.tail .head)))))) | exact .tail (.tail (.tail (.tail (.tail (.tail (.tail (.tail .head))))))) | exact .tail (.tail (.tail (.tail (.tail (.tail (.tail (.tail (.tail .head)))))))) | exact .tail (.tail (.tail (.tail (.tail (.tail (.tail (.tail (.tail (.tail .head))))))))) | exact .tail (.tail (.tail (.tail (.tail (.tail (.tail (.tail (.tail (.tail (.tail .head))))))))))) .nil))))) | exact hwk (.cons (by first | exact .head | exact .tail .head | exact .tail (.tail .head) | exact .tail (.tail (.tail .head)) | exact .tail (.tail (.tail (.tail .head))) | exact .tail (.tail (.tail (.tail (.tail .head)))) | exact .tail (.tail (.tail (.tail (.tail (.tail .head))))) | exact .tail (.tail (.tail (.tail (.tail (.tail (.tail .head)))))) | exact .tail (.tail (.tail (.tail (.tail (.tail (.tail (.tail .head))))))) | exact .tail (.tail (.tail (.tail (.tail (.tail (.tail (.tail (.tail .head)))))))) | exact .tail (.tail (.tail (.tail (.tail (.tail (.tail (.tail (.tail (.tail .head))))))))) | exact .tail (.tail (.tail (.tail (.tail (.tail (.tail (.tail (.tail (.tail (.tail .head))))))))))) (.cons (by first | exact .head | exact .tail .head | exact .tail (.tail .head) | exact .tail (.tail (.tail .head)) | exact .tail (.tail (.tail (.tail .head))) | exact .tail (.tail (.tail (.tail (.tail .head)))) | exact .tail (.tail (.tail (.tail (.tail (.tail .head))))) | exact .tail (.tail (.tail (.tail (.tail (.tail (.tail .head)))))) | exact .tail (.tail (.tail (.tail (.tail (.tail (.tail (.tail .head))))))) | exact .tail (.tail (.tail (.tail (.tail (.tail (.tail (.tail (.tail .head)))))))) | exact .tail (.tail (.tail (.tail (.tail (.tail (.tail (.tail (.tail (.tail .head))))))))) | exact .tail (.tail (.tail (.tail (.tail (.tail (.tail (.tail (.tail (.tail (.tail .head))))))))))) (.cons (by first | exact .head | exact .tail .head | exact .tail (.tail .head) | exact .tail (.tail (.tail .head)) | exact .tail (.tail (.tail (.tail .head))) | exact .tail (.tail (.tail (.tail (.tail .head)))) | exact .tail (.tail (.tail (.tail (.tail (.tail .head))))) | exact .tail (.tail (.tail (.tail (.tail (.tail (.tail .head)))))) | exact .tail (.tail (.tail (.tail (.tail (.tail (.tail (.tail .head))))))) | exact .tail (.tail (.tail (.tail (.tail (.tail (.tail (.tail (.tail .head)))))))) | exact .tail (.tail (.tail (.tail (.tail (.tail (.tail (.tail (.tail (.tail .head))))))))) | exact .tail (.tail (.tail (.tail (.tail (.tail (.tail (.tail (.tail (.tail (.tail .head))))))))))) (.cons (by first | exact .head | exact .tail .head | exact .tail (.tail .head) | exact .tail (.tail (.tail .head)) | exact .tail (.tail (.tail (.tail .head))) | exact .tail (.tail (.tail (.tail (.tail .head)))) | exact .tail (.tail (.tail (.tail (.tail (.tail .head))))) | exact .tail (.tail (.tail (.tail (.tail (.tail (.tail .head)))))) | exact .tail (.tail (.tail (.tail (.tail (.tail (.tail (.tail .head))))))) | exact .tail (.tail (.tail (.tail (.tail (.tail (.tail (.tail (.tail .head)))))))) | exact .tail (.tail (.tail (.tail (.tail (.tail (.tail (.tail (.tail (.tail .head))))))))) | exact .tail (.tail (.tail (.tail (.tail (.tail (.tail (.tail (.tail (.tail (.tail .head))))))))))) (.cons (by first | exact .head | exact .tail .head | exact .tail (.tail .head) | exact .tail (.tail (.tail .head)) | exact .tail (.tail (.tail (.tail .head))) | exact .tail (.tail (.tail (.tail (.tail .head)))) | exact .tail (.tail (.tail (.tail (.tail (.tail .head))))) | exact .tail (.tail (.tail (.tail (.tail (.tail (.tail .head)))))) | exact .tail (.tail (.tail (.tail (.tail (.tail (.tail (.tail .head))))))) | exact .tail (.tail (.tail (.tail (.tail (.tail (.tail (.tail (.tail .head)))))))) | exact .tail (.tail (.tail (.tail (.tail (.tail (.tail (.tail (.tail (.tail .head))))))))) | exact .tail (.tail (.tail (.tail (.tail (.tail (.tail (.tail (.tail (.tail (.tail .head))))))))))) (.cons (by first | exact .head | exact .tail .head | exact .tail (.tail .head) | exact .tail (.tail (.tail .head)) | exact .tail (.tail (.tail (.tail .head))) | exact .tail (.tail (.tail (.tail (.tail .head)))) | exact .tail (.tail (.tail (.tail (.tail (.tail .head))))) | exact .tail (.tail (.tail (.tail (.tail (.tail (.tail .head)))))) | exact .tail (.tail (.tail (.tail (.tail (.tail (.tail (.tail .head))))))) | exact .tail (.tail (.tail (.tail (.tail (.tail (.tail (.tail (.tail .head)))))))) | exact .tail (.tail (.tail (.tail (.tail (.tail (.tail (.tail (.tail (.tail .head))))))))) | exact .tail (.tail (.tail (.tail (.tail (.tail (.tail (.tail (.tail (.tail (.tail .head))))))))))) .nil)))))) | exact hwk (.cons (by first | exact .head | exact .tail .head | exact .tail (.tail .head) | exact .tail (.tail (.tail .head)) | exact .tail (.tail (.tail (.tail .head))) | exact .tail (.tail (.tail (.tail (.tail .head)))) | exact .tail (.tail (.tail (.tail (.tail (.tail .head))))) | exact .tail (.tail (.tail (.tail (.tail (.tail (.tail .head)))))) | exact .tail (.tail (.tail (.tail (.tail (.tail (.tail (.tail .head))))))) | exact .tail (.tail (.tail (.tail (.tail (.tail (.tail (.tail (.tail .head)))))))) | exact .tail (.tail (.tail (.tail (.tail (.tail (.tail (.tail (.tail (.tail .head))))))))) | exact .tail (.tail (.tail (.tail (.tail (.tail (.tail (.tail (.tail (.tail (.tail .head))))))))))) (.cons (by first | exact .head | exact .tail .head | exact .tail (.tail .head) | exact .tail (.tail (.tail .head)) | exact .tail (.tail (.tail (.tail .head))) | exact .tail (.tail (.tail (.tail (.tail .head)))) | exact .tail (.tail (.tail (.tail (.tail (.tail .head))))) | exact .tail (.tail (.tail (.tail (.tail (.tail (.tail .head)))))) | exact .tail (.tail (.tail (.tail (.tail (.tail (.tail (.tail .head))))))) | exact .tail (.tail (.tail (.tail (.tail (.tail (.tail (.tail (.tail .head)))))))) | exact .tail (.tail (.tail (.tail (.tail (.tail (.tail (.tail (.tail (.tail .head))))))))) | exact .tail (.tail (.tail (.tail (.tail (.tail (.tail (.tail (.tail (.tail (.tail .head))))))))))) (.cons (by first | exact .head | exact .tail .head | exact .tail (.tail .head) | exact .tail (.tail (.tail .head)) | exact .tail (.tail (.tail (.tail .head))) | exact .tail (.tail (.tail (.tail (.tail .head)))) | exact .tail (.tail (.tail (.tail (.tail (.tail .head))))) | exact .tail (.tail (.tail (.tail (.tail (.tail (.tail .head)))))) | exact .tail (.tail (.tail (.tail (.tail (.tail (.tail (.tail .head))))))) | exact .tail (.tail (.tail (.tail (.tail (.tail (.tail (.tail (.tail .head)))))))) | exact .tail (.tail (.tail (.tail (.tail (.tail (.tail (.tail (.tail (.tail .head))))))))) | exact .tail (.tail (.tail (.tail (.tail (.tail (.tail (.tail (.tail (.tail (.tail .head))))))))))) (.cons (by first | exact .head | exact .tail .head | exact .tail (.tail .head) | exact .tail (.tail (.tail .head)) | exact .tail (.tail (.tail (.tail .head))) | exact .tail (.tail (.tail (.tail (.tail .head)))) | exact .tail (.tail (.tail (.tail (.tail (.tail .head))))) | exact .tail (.tail (.tail (.tail (.tail (.tail (.tail .head)))))) | exact .tail (.tail (.tail (.tail (.tail (.tail (.tail (.tail .head))))))) | exact .tail (.tail (.tail (.tail (.tail (.tail (.tail (.tail (.tail .head)))))))) | exact .tail (.tail (.tail (.tail (.tail (.tail (.tail (.tail (.tail (.tail .head))))))))) | exact .tail (.tail (.tail (.tail (.tail (.tail (.tail (.tail (.tail (.tail (.tail .head))))))))))) (.cons (by first | exact .head | exact .tail .head | exact .tail (.tail .head) | exact .tail (.tail (.tail .head)) | exact .tail (.tail (.tail (.tail .head))) | exact .tail (.tail (.tail (.tail (.tail .head)))) | exact .tail (.tail (.tail (.tail (.tail (.tail .head))))) | exact .tail (.tail (.tail (.tail (.tail (.tail (.tail .head)))))) | exact .tail (.tail (.tail (.tail (.tail (.tail (.tail (.tail .head))))))) | exact .tail (.tail (.tail (.tail (.tail (.tail (.tail (.tail (.tail .head)))))))) | exact .tail (.tail (.tail (.tail (.tail (.tail (.tail (.tail (.tail (.tail .head))))))))) | exact .tail (.tail (.tail (.tail (.tail (.tail (.tail (.tail (.tail (.tail (.tail .head))))))))))) (.cons (by first | exact .head | exact .tail .head | exact .tail (.tail .head) | exact .tail (.tail (.tail .head)) | exact .tail (.tail (.tail (.tail .head))) | exact .tail (.tail (.tail (.tail (.tail .head)))) | exact .tail (.tail (.tail (.tail (.tail (.tail .head))))) | exact .tail (.tail (.tail (.tail (.tail (.tail (.tail .head)))))) | exact .tail (.tail (.tail (.tail (.tail (.tail (.tail (.tail .head))))))) | exact .tail (.tail (.tail (.tail (.tail (.tail (.tail (.tail (.tail .head)))))))) | exact .tail (.tail (.tail (.tail (.tail (.tail (.tail (.tail (.tail (.tail .head))))))))) | exact .tail (.tail (.tail (.tail (.tail (.tail (.tail (.tail (.tail (.tail (.tail .head))))))))))) (.cons (by first | exact .head | exact .tail .head | exact .tail (.tail .head) | exact .tail (.tail (.tail .head)) | exact .tail (.tail (.tail (.tail .head))) | exact .tail (.tail (.tail (.tail (.tail .head)))) | exact .tail (.tail (.tail (.tail (.tail (.tail .head))))) | exact .tail (.tail (.tail (.tail (.tail (.tail (.tail .head)))))) | exact .tail (.tail (.tail (.tail (.tail (.tail (.tail (.tail .head))))))) | exact .tail (.tail (.tail (.tail (.tail (.tail (.tail (.tail (.tail .head)))))))) | exact .tail (.tail (.tail (.tail (.tail (.tail (.tail (.tail (.tail (.tail .head))))))))) | exact .tail (.tail (.tail (.tail (.tail (.tail (.tail (.tail (.tail (.tail (.tail .head))))))))))) .nil)))))))) : HWk H H' := hw
theorem spla {A : List Res} (h : Split H A R := by first | exact .nil | exact (.cons (by first | exact .head | exact .tail .head | exact .tail (.tail .head) | exact .tail (.tail (.tail .head)) | exact .tail (.tail (.tail (.tail .head))) | exact .tail (.tail (.tail (.tail (.tail .head)))) | exact .tail (.tail (.tail (.tail (.tail (.tail .head))))) | exact .tail (.tail (.tail (.tail (.tail (.tail (.tail .head)))))) | exact .tail (.tail (.tail (.tail (.tail (.tail (.tail (.tail .head))))))) | exact .tail (.tail (.tail (.tail (.tail (.tail (.tail (.tail (.tail .head)))))))) | exact .tail (.tail (.tail (.tail (.tail (.tail (.tail (.tail (.tail (.tail .head))))))))) | exact .tail (.tail (.tail (.tail (.tail (.tail (.tail (.tail (.tail (.tail (.tail .head))))))))))) .nil) | exact (.cons (by first | exact .head | exact .tail .head | exact .tail (.tail .head) | exact .tail (.tail (.tail .head)) | exact .tail (.tail (.tail (.tail .head))) | exact .tail (.tail (.tail (.tail (.tail .head)))) | exact .tail (.tail (.tail (.tail (.tail (.tail .head))))) | exact .tail (.tail (.tail (.tail (.tail (.tail (.tail .head)))))) | exact .tail (.tail (.tail (.tail (.tail (.tail (.tail (.tail .head))))))) | exact .tail (.tail (.tail (.tail (.tail (.tail (.tail (.tail (.tail .head)))))))) | exact .tail (.tail (.tail (.tail (.tail (.tail (.tail (.tail (.tail (.tail .head))))))))) | exact .tail (.tail (.tail (.tail (.tail (.tail (.tail (.tail (.tail (.tail (.tail .head))))))))))) (.cons (by first | exact .head | exact .tail .head | exact .tail (.tail .head) | exact .tail (.tail (.tail .head)) | exact .tail (.tail (.tail (.tail .head))) | exact .tail (.tail (.tail (.tail (.tail .head)))) | exact .tail (.tail (.tail (.tail (.tail (.tail .head))))) | exact .tail (.tail (.tail (.tail (.tail (.tail (.tail .head)))))) | exact .tail (.tail (.tail (.tail (.tail (.tail (.tail (.tail .head))))))) | exact .tail (.tail (.tail (.tail (.tail (.tail (.tail (.tail (.tail .head)))))))) | exact .tail (.tail (.tail (.tail (.tail (.tail (.tail (.tail (.tail (.tail .head))))))))) | exact .tail (.tail (.tail (.tail (.tail (.tail (.tail (.tail (.tail (.tail (.tail .head))))))))))) .nil)) | exact (.cons (by first | exact .head | exact .tail .head | exact .tail (.tail .head) | exact .tail (.tail (.tail .head)) | exact .tail (.tail (.tail (.tail .head))) | exact .tail (.tail (.tail (.tail (.tail .head)))) | exact .tail (.tail (.tail (.tail (.tail (.tail .head))))) | exact .tail (.tail (.tail (.tail (.tail (.tail (.tail .head)))))) | exact .tail (.tail (.tail (.tail (.tail (.tail (.tail (.tail .head))))))) | exact .tail (.tail (.tail (.tail (.tail (.tail (.tail (.tail (.tail .head)))))))) | exact .tail (.tail (.tail (.tail (.tail (.tail (.tail (.tail (.tail (.tail .head))))))))) | exact .tail (.tail (.tail (.tail (.tail (.tail (.tail (.tail (.tail (.tail (.tail .head))))))))))) (.cons (by first | exact .head | exact .tail .head | exact .tail (.tail .head) | exact .tail (.tail (.tail .head)) | exact .tail (.tail (.tail (.tail .head))) | exact .tail (.tail (.tail (.tail (.tail .head)))) | exact .tail (.tail (.tail (.tail (.tail (.tail .head))))) | exact .tail (.tail (.tail (.tail (.tail (.tail (.tail .head)))))) | exact .tail (.tail (.tail (.tail (.tail (.tail (.tail (.tail .head))))))) | exact .tail (.tail (.tail (.tail (.tail (.tail (.tail (.tail (.tail .head)))))))) | exact .tail (.tail (.tail (.tail (.tail (.tail (.tail (.tail (.tail (.tail .head))))))))) | exact .tail (.tail (.tail (.tail (.tail (.tail (.tail (.tail (.tail (.tail (.tail .head))))))))))) (.cons (by first | exact .head | exact .tail .head | exact .tail (.tail .head) | exact .tail (.tail (.tail .head)) | exact .tail (.tail (.tail (.tail .head))) | exact .tail (.tail (.tail (.tail (.tail .head)))) | exact .tail (.tail (.tail (.tail (.tail (.tail .head))))) | exact .tail (.tail (.tail (.tail (.tail (.tail (.tail .head)))))) | exact .tail (.tail (.tail (.tail (.tail (.tail (.tail (.tail .head))))))) | exact .tail (.tail (.tail (.tail (.tail (.tail (.tail (.tail (.tail .head)))))))) | exact .tail (.tail (.tail (.tail (.tail (.tail (.tail (.tail (.tail (.tail .head))))))))) | exact .tail (.tail (.tail (.tail (.tail (.tail (.tail (.tail (.tail (.tail (.tail .head))))))))))) .nil))) | exact (.cons (by first | exact .head | exact .tail .head | exact .tail (.tail .head) | exact .tail (.tail (.tail .head)) | exact .tail (.tail (.tail (.tail .head))) | exact .tail (.tail (.tail (.tail (.tail .head)))) | exact .tail (.tail (.tail (.tail (.tail (.tail .head))))) | exact .tail (.tail (.tail (.tail (.tail (.tail (.tail .head)))))) | exact .tail (.tail (.tail (.tail (.tail (.tail (.tail (.tail .head))))))) | exact .tail (.tail (.tail (.tail (.tail (.tail (.tail (.tail (.tail .head)))))))) | exact .tail (.tail (.tail (.tail (.tail (.tail (.tail (.tail (.tail (.tail .head))))))))) | exact .tail (.tail (.tail (.tail (.tail (.tail (.tail (.tail (.tail (.tail (.tail .head))))))))))) (.cons (by first | exact .head | exact .tail .head | exact .tail (.tail .head) | exact .tail (.tail (.tail .head)) | exact .tail (.tail (.tail (.tail .head))) | exact .tail (.tail (.tail (.tail (.tail .head)))) | exact .tail (.tail (.tail (.tail (.tail (.tail .head))))) | exact .tail (.tail (.tail (.tail (.tail (.tail (.tail .head)))))) | exact .tail (.tail (.tail (.tail (.tail (.tail (.tail (.tail .head))))))) | exact .tail (.tail (.tail (.tail (.tail (.tail (.tail (.tail (.tail .head)))))))) | exact .tail (.tail (.tail (.tail (.tail (.tail (.tail (.tail (.tail (.tail .head))))))))) | exact .tail (.tail (.tail (.tail (.tail (.tail (.tail (.tail (.tail (.tail (.tail .head))))))))))) (.cons (by first | exact .head | exact .tail .head | exact .tail (.tail .head) | exact .tail (.tail (.tail .head)) | exact .tail (.tail (.tail (.tail .head))) | exact .tail (.tail (.tail (.tail (.tail .head)))) | exact .tail (.tail (.tail (.tail (.tail (.tail .head))))) | exact .tail (.tail (.tail (.tail (.tail (.tail (.tail .head)))))) | exact .tail (.tail (.tail (.tail (.tail (.tail (.tail (.tail .head))))))) | exact .tail (.tail (.tail (.tail (.tail (.tail (.tail (.tail (.tail .head)))))))) | exact .tail (.tail (.tail (.tail (.tail (.tail (.tail (.tail (.tail (.tail .head))))))))) | exact .tail (.tail (.tail (.tail (.tail (.tail (.tail (.tail (.tail (.tail (.tail .head))))))))))) (.cons (by first | exact .head | exact .tail .head | exact .tail (.tail .head) | exact .tail (.tail (.tail .head)) | exact .tail (.tail (.tail (.tail .head))) | exact .tail (.tail (.tail (.tail (.tail .head)))) | exact .tail (.tail (.tail (.tail (.tail (.tail .head))))) | exact .tail (.tail (.tail (.tail (.tail (.tail (.tail .head)))))) | exact .tail (.tail (.tail (.tail (.tail (.tail (.tail (.tail .head))))))) | exact .tail (.tail (.tail (.tail (.tail (.tail (.tail (.tail (.tail .head)))))))) | exact .tail (.tail (.tail (.tail (.tail (.tail (.tail (.tail (.tail (.tail .head))))))))) | exact .tail (.tail (.tail (.tail (.tail (.tail (.tail (.tail (.tail (.tail (.tail .head))))))))))) .nil)))) | exact (.cons (by first | exact .head | exact .tail .head | exact .tail (.tail .head) | exact .tail (.tail (.tail .head)) | exact .tail (.tail (.tail (.tail .head))) | exact .tail (.tail (.tail (.tail (.tail .head)))) | exact .tail (.tail (.tail (.tail (.tail (.tail .head))))) | exact .tail (.tail (.tail (.tail (.tail (.tail (.tail .head)))))) | exact .tail (.tail (.tail (.tail (.tail (.tail (.tail (.tail .head))))))) | exact .tail (.tail (.tail (.tail (.tail (.tail (.tail (.tail (.tail .head)))))))) | exact .tail (.tail (.tail (.tail (.tail (.tail (.tail (.tail (.tail (.tail .head))))))))) | exact .tail (.tail (.tail (.tail (.tail (.tail (.tail (.tail (.tail (.tail (.tail .head))))))))))) (.cons (by first | exact .head | exact .tail .head | exact .tail (.tail .head) | exact .tail (.tail (.tail .head)) | exact .tail (.tail (.tail (.tail .head))) | exact .tail (.tail (.tail (.tail (.tail .head)))) | exact .tail (.tail (.tail (.tail (.tail (.tail .head))))) | exact .tail (.tail (.tail (.tail (.tail (.tail (.tail .head)))))) | exact .tail (.tail (.tail (.tail (.tail (.tail (.tail (.tail .head))))))) | exact .tail (.tail (.tail (.tail (.tail (.tail (.tail (.tail (.tail .head)))))))) | exact .tail (.tail (.tail (.tail (.tail (.tail (.tail (.tail (.tail (.tail .head))))))))) | exact .tail (.tail (.tail (.tail (.tail (.tail (.tail (.tail (.tail (.tail (.tail .head))))))))))) (.cons (by first | exact .head | exact .tail .head | exact .tail (.tail .head) | exact .tail (.tail (.tail .head)) | exact .tail (.tail (.tail (.tail .head))) | exact .tail (.tail (.tail (.tail (.tail .head)))) | exact .tail (.tail (.tail (.tail (.tail (.tail .head))))) | exact .tail (.tail (.tail (.tail (.tail (.tail (.tail .head)))))) | exact .tail (.tail (.tail (.tail (.tail (.tail (.tail (.tail .head))))))) | exact .tail (.tail (.tail (.tail (.tail (.tail (.tail (.tail (.tail .head)))))))) | exact .tail (.tail (.tail (.tail (.tail (.tail (.tail (.tail (.tail (.tail .head))))))))) | exact .tail (.tail (.tail (.tail (.tail (.tail (.tail (.tail (.tail (.tail (.tail .head))))))))))) (.cons (by first | exact .head | exact .tail .head | exact .tail (.tail .head) | exact .tail (.tail (.tail .head)) | exact .tail (.tail (.tail (.tail .head))) | exact .tail (.tail (.tail (.tail (.tail .head)))) | exact .tail (.tail (.tail (.tail (.tail (.tail .head))))) | exact .tail (.tail (.tail (.tail (.tail (.tail (.tail .head)))))) | exact .tail (.tail (.tail (.tail (.tail (.tail (.tail (.tail .head))))))) | exact .tail (.tail (.tail (.tail (.tail (.tail (.tail (.tail (.tail .head)))))))) | exact .tail (.tail (.tail (.tail (.tail (.tail (.tail (.tail (.tail (.tail .head))))))))) | exact .tail (.tail (.tail (.tail (.tail (.tail (.tail (.tail (.tail (.tail (.tail .head))))))))))) (.cons (by first | exact .head | exact .tail .head | exact .tail (.tail .head) | exact .tail (.tail (.tail .head)) | exact .tail (.tail (.tail (.tail .head))) | exact .tail (.tail (.tail (.tail (.tail .head)))) | exact .tail (.tail (.tail (.tail (.tail (.tail .head))))) | exact .tail (.tail (.tail (.tail (.tail (.tail (.tail .head)))))) | exact .tail (.tail (.tail (.tail (.tail (.tail (.tail (.tail .head))))))) | exact .tail (.tail (.tail (.tail (.tail (.tail (.tail (.tail (.tail .head)))))))) | exact .tail (.tail (.tail (.tail (.tail (.tail (.tail (.tail (.tail (.tail .head))))))))) | exact .tail (.tail (.tail (.tail (.tail (.tail (.tail (.tail (.tail (.tail (.tail .head))))))))))) .nil))))) | exact (.cons (by first | exact .head | exact .tail .head | exact .tail (.tail .head) | exact .tail (.tail (.tail .head)) | exact .tail (.tail (.tail (.tail .head))) | exact .tail (.tail (.tail (.tail (.tail .head)))) | exact .tail (.tail (.tail (.tail (.tail (.tail .head))))) | exact .tail (.tail (.tail (.tail (.tail (.tail (.tail .head)))))) | exact .tail (.tail (.tail (.tail (.tail (.tail (.tail (.tail .head))))))) | exact .tail (.tail (.tail (.tail (.tail (.tail (.tail (.tail (.tail .head)))))))) | exact .tail (.tail (.tail (.tail (.tail (.tail (.tail (.tail (.tail (.tail .head))))))))) | exact .tail (.tail (.tail (.tail (.tail (.tail (.tail (.tail (.tail (.tail (.tail .head))))))))))) (.cons (by first | exact .head | exact .tail .head | exact .tail (.tail .head) | exact .tail (.tail (.tail .head)) | exact .tail (.tail (.tail (.tail .head))) | exact .tail (.tail (.tail (.tail (.tail .head)))) | exact .tail (.tail (.tail (.tail (.tail (.tail .head))))) | exact .tail (.tail (.tail (.tail (.tail (.tail (.tail .head)))))) | exact .tail (.tail (.tail (.tail (.tail (.tail (.tail (.tail .head))))))) | exact .tail (.tail (.tail (.tail (.tail (.tail (.tail (.tail (.tail .head)))))))) | exact .tail (.tail (.tail (.tail (.tail (.tail (.tail (.tail (.tail (.tail .head))))))))) | exact .tail (.tail (.tail (.tail (.tail (.tail (.tail (.tail (.tail (.tail (.tail .head))))))))))) (.cons (by first | exact .head | exact .tail .head | exact .tail (.tail .head) | exact .tail (.tail (.tail .head)) | exact .tail (.tail (.tail (.tail .head))) | exact .tail (.tail (.tail (.tail (.tail .head)))) | exact .tail (.tail (.tail (.tail (.tail (.tail .head))))) | exact .tail (.tail (.tail (.tail (.tail (.tail (.tail .head)))))) | exact .tail (.tail (.tail (.tail (.tail (.tail (.tail (.tail .head))))))) | exact .tail (.tail (.tail (.tail (.tail (.tail (.tail (.tail (.tail .head)))))))) | exact .tail (.tail (.tail (.tail (.tail (.tail (.tail (.tail (.tail (.tail .head))))))))) | exact .tail (.tail (.tail (.tail (.tail (.tail (.tail (.tail (.tail (.tail (.tail .head))))))))))) (.cons (by first | exact .head | exact .tail .head | exact .tail (.tail .head) | exact .tail (.tail (.tail .head)) | exact .tail (.tail (.tail (.tail .head))) | exact .tail (.tail (.tail (.tail (.tail .head)))) | exact .tail (.tail (.tail (.tail (.tail (.tail .head))))) | exact .tail (.tail (.tail (.tail (.tail (.tail (.tail .head)))))) | exact .tail (.tail (.tail (.tail (.tail (.tail (.tail (.tail .head))))))) | exact .tail (.tail (.tail (.tail (.tail (.tail (.tail (.tail (.tail .head)))))))) | exact .tail (.tail (.tail (.tail (.tail (.tail (.tail (.tail (.tail (.tail .head))))))))) | exact .tail (.tail (.tail (.tail (.tail (.tail (.tail (.tail (.tail (.tail (.tail .head))))))))))) (.cons (by first | exact .head | exact .tail .head | exact .tail (.tail .head) | exact .tail (.tail (.tail .head)) | exact .tail (.tail (.tail (.tail .head))) | exact .tail (.tail (.tail (.tail (.tail .head)))) | exact .tail (.tail (.tail (.tail (.tail (.tail .head))))) | exact .tail (.tail (.tail (.tail (.tail (.tail (.tail .head)))))) | exact .tail (.tail (.tail (.tail (.tail (.tail (.tail (.tail .head))))))) | exact .tail (.tail (.tail (.tail (.tail (.tail (.tail (.tail (.tail .head)))))))) | exact .tail (.tail (.tail (.tail (.tail (.tail (.tail (.tail (.tail (.tail .head))))))))) | exact .tail (.tail (.tail (.tail (.tail (.tail (.tail (.tail (.tail (.tail (.tail .head))))))))))) (.cons (by first | exact .head | exact .tail .head | exact .tail (.tail .head) | exact .tail (.tail (.tail .head)) | exact .tail (.tail (.tail (.tail .head))) | exact .tail (.tail (.tail (.tail (.tail .head)))) | exact .tail (.tail (.tail (.tail (.tail (.tail .head))))) | exact .tail (.tail (.tail (.tail (.tail (.tail (.tail .head)))))) | exact .tail (.tail (.tail (.tail (.tail (.tail (.tail (.tail .head))))))) | exact .tail (.tail (.tail (.tail (.tail (.tail (.tail (.tail (.tail .head)))))))) | exact .tail (.tail (.tail (.tail (.tail (.tail (.tail (.tail (.tail (.tail .head))))))))) | exact .tail (.tail (.tail (.tail (.tail (.tail (.tail (.tail (.tail (.tail (.tail .head))))))))))) .nil)))))) | exact (.cons (by first | exact .head | exact .tail .head | exact .tail (.tail .head) | exact .tail (.tail (.tail .head)) | exact .tail (.tail (.tail (.tail .head))) | exact .tail (.tail (.tail (.tail (.tail .head)))) | exact .tail (.tail (.tail (.tail (.tail (.tail .head))))) | exact .tail (.tail (.tail (.tail (.tail (.tail (.tail .head)))))) | exact .tail (.tail (.tail (.tail (.tail (.tail (.tail (.tail .head))))))) | exact .tail (.tail (.tail (.tail (.tail (.tail (.tail (.tail (.tail .head)))))))) | exact .tail (.tail (.tail (.tail (.tail (.tail (.tail (.tail (.tail (.tail .head))))))))) | exact .tail (.tail (.tail (.tail (.tail (.tail (.tail (.tail (.tail (.tail (.tail .head))))))))))) (.cons (by first | exact .head | exact .tail .head | exact .tail (.tail .head) | exact .tail (.tail (.tail .head)) | exact .tail (.tail (.tail (.tail .head))) | exact .tail (.tail (.tail (.tail (.tail .head)))) | exact .tail (.tail (.tail (.tail (.tail (.tail .head))))) | exact .tail (.tail (.tail (.tail (.tail (.tail (.tail .head)))))) | exact .tail (.tail (.tail (.tail (.tail (.tail (.tail (.tail .head))))))) | exact .tail (.tail (.tail (.tail (.tail (.tail (.tail (.tail (.tail .head)))))))) | exact .tail (.tail (.tail (.tail (.tail (.tail (.tail (.tail (.tail (.tail .head))))))))) | exact .tail (.tail (.tail (.tail (.tail (.tail (.tail (.tail (.tail (.tail (.tail .head))))))))))) (.cons (by first | exact .head | exact .tail .head | exact .tail (.tail .head) | exact .tail (.tail (.tail .head)) | exact .tail (.tail (.tail (.tail .head))) | exact .tail (.tail (.tail (.tail (.tail .head)))) | exact .tail (.tail (.tail (.tail (.tail (.tail .head))))) | exact .tail (.tail (.tail (.tail (.tail (.tail (.tail .head)))))) | exact .tail (.tail (.tail (.tail (.tail (.tail (.tail (.tail .head))))))) | exact .tail (.tail (.tail (.tail (.tail (.tail (.tail (.tail (.tail .head)))))))) | exact .tail (.tail (.tail (.tail (.tail (.tail (.tail (.tail (.tail (.tail .head))))))))) | exact .tail (.tail (.tail (.tail (.tail (.tail (.tail (.tail (.tail (.tail (.tail .head))))))))))) (.cons (by first | exact .head | exact .tail .head | exact .tail (.tail .head) | exact .tail (.tail (.tail .head)) | exact .tail (.tail (.tail (.tail .head))) | exact .tail (.tail (.tail (.tail (.tail .head)))) | exact .tail (.tail (.tail (.tail (.tail (.tail .head))))) | exact .tail (.tail (.tail (.tail (.tail (.tail (.tail .head)))))) | exact .tail (.tail (.tail (.tail (.tail (.tail (.tail (.tail .head))))))) | exact .tail (.tail (.tail (.tail (.tail (.tail (.tail (.tail (.tail .head)))))))) | exact .tail (.tail (.tail (.tail (.tail (.tail (.tail (.tail (.tail (.tail .head))))))))) | exact .tail (.tail (.tail (.tail (.tail (.tail (.tail (.tail (.tail (.tail (.tail .head))))))))))) (.cons (by first | exact .head | exact .tail .head | exact .tail (.tail .head) | exact .tail (.tail (.tail .head)) | exact .tail (.tail (.tail (.tail .head))) | exact .tail (.tail (.tail (.tail (.tail .head)))) | exact .tail (.tail (.tail (.tail (.tail (.tail .head))))) | exact .tail (.tail (.tail (.tail (.tail (.tail (.tail .head)))))) | exact .tail (.tail (.tail (.tail (.tail (.tail (.tail (.tail .head))))))) | exact .tail (.tail (.tail (.tail (.tail (.tail (.tail (.tail (.tail .head)))))))) | exact .tail (.tail (.tail (.tail (.tail (.tail (.tail (.tail (.tail (.tail .head))))))))) | exact .tail (.tail (.tail (.tail (.tail (.tail (.tail (.tail (.tail (.tail (.tail .head))))))))))) (.cons (by first | exact .head | exact .tail .head | exact .tail (.tail .head) | exact .tail (.tail (.tail .head)) | exact .tail (.tail (.tail (.tail .head))) | exact .tail (.tail (.tail (.tail (.tail .head)))) | exact .tail (.tail (.tail (.tail (.tail (.tail .head))))) | exact .tail (.tail (.tail (.tail (.tail (.tail (.tail .head)))))) | exact .tail (.tail (.tail (.tail (.tail (.tail (.tail (.tail .head))))))) | exact .tail (.tail (.tail (.tail (.tail (.tail (.tail (.tail (.tail .head)))))))) | exact .tail (.tail (.tail (.tail (.tail (.tail (.tail (.tail (.tail (.tail .head))))))))) | exact .tail (.tail (.tail (.tail (.tail (.tail (.tail (.tail (.tail (.tail (.tail .head))))))))))) (.cons (by first | exact .head | exact .tail .head | exact .tail (.tail .head) | exact .tail (.tail (.tail .head)) | exact .tail (.tail (.tail (.tail .head))) | exact .tail (.tail (.tail (.tail (.tail .head)))) | exact .tail (.tail (.tail (.tail (.tail (.tail .head))))) | exact .tail (.tail (.tail (.tail (.tail (.tail (.tail .head)))))) | exact .tail (.tail (.tail (.tail (.tail (.tail (.tail (.tail .head))))))) | exact .tail (.tail (.tail (.tail (.tail (.tail (.tail (.tail (.tail .head)))))))) | exact .tail (.tail (.tail (.tail (.tail (.tail (.tail (.tail (.tail (.tail .head))))))))) | exact .tail (.tail (.tail (.tail (.tail (.tail (.tail (.tail (.tail (.tail (.tail .head))))))))))) .nil)))))))) : Split H A R := h
theorem pulla {r : Res} (h : Pull r H R := by first | exact .head | exact .tail .head | exact .tail (.tail .head) | exact .tail (.tail (.tail .head)) | exact .tail (.tail (.tail (.tail .head))) | exact .tail (.tail (.tail (.tail (.tail .head)))) | exact .tail (.tail (.tail (.tail (.tail (.tail .head))))) | exact .tail (.tail (.tail (.tail (.tail (.tail (.tail .head)))))) | exact .tail (.tail (.tail (.tail (.tail (.tail (.tail (.tail .head))))))) | exact .tail (.tail (.tail (.tail (.tail (.tail (.tail (.tail (.tail .head)))))))) | exact .tail (.tail (.tail (.tail (.tail (.tail (.tail (.tail (.tail (.tail .head))))))))) | exact .tail (.tail (.tail (.tail (.tail (.tail (.tail (.tail (.tail (.tail (.tail .head))))))))))) : Pull r H R := h
theorem wka {L L' : Loc} (h : Wk L L' := by repeat (first | exact Wk.nil _ | refine Wk.cons (fun _ => by first | rfl | exact congrArg (Value.int _) (by first | omega | (dsimp only; omega)) | (simp only [val, Nat.reduceEqDiff, ↓reduceIte]; done) | (simp [val, args0]; done)) ?_)) : Wk L L' := h
theorem haa {args : Array Operand} {vs : Array Value} (h : ∀ g, args.map (evl L g) = vs := by intro g; first | (simp only [List.map_toArray, List.map_cons, List.map_nil, evl, val, Nat.reduceEqDiff, ↓reduceIte]; done) | (simp only [List.map_toArray, List.map_cons, List.map_nil, evl, val, Nat.reduceEqDiff, ↓reduceIte]; rfl)) : ∀ g, args.map (evl L g) = vs := h
theorem vca {vs cap all : Array Value} (h : vs ++ cap = all := by first | (simp only [List.append_toArray, List.cons_append, List.nil_append]; done) | (simp only [List.append_toArray, List.cons_append, List.nil_append]; rfl)) : vs ++ cap = all := h
theorem hxa {v : Value} (h : ∀ g, evl L g x = v := by intro g; first | (simp only [evl, val, Nat.reduceEqDiff, ↓reduceIte]; done) | (simp only [evl, val, Nat.reduceEqDiff, ↓reduceIte]; rfl)) : ∀ g, evl L g x = v := h
theorem h_keep {Hs : List Res} {X : Prop} (h : X) (hw : HWk H' Hs := by first | exact .refl _ | exact hwk .nil | exact hwk (.cons (by first | exact .head | exact .tail .head | exact .tail (.tail .head) | exact .tail (.tail (.tail .head)) | exact .tail (.tail (.tail (.tail .head))) | exact .tail (.tail (.tail (.tail (.tail .head)))) | exact .tail (.tail (.tail (.tail (.tail (.tail .head))))) | exact .tail (.tail (.tail (.tail (.tail (.tail (.tail .head)))))) | exact .tail (.tail (.tail (.tail (.tail (.tail (.tail (.tail .head))))))) | exact .tail (.tail (.tail (.tail (.tail (.tail (.tail (.tail (.tail .head)))))))) | exact .tail (.tail (.tail (.tail (.tail (.tail (.tail (.tail (.tail (.tail .head))))))))) | exact .tail (.tail (.tail (.tail (.tail (.tail (.tail (.tail (.tail (.tail (.tail .head))))))))))) .nil) | exact hwk (.cons (by first | exact .head | exact .tail .head | exact .tail (.tail .head) | exact .tail (.tail (.tail .head)) | exact .tail (.tail (.tail (.tail .head))) | exact .tail (.tail (.tail (.tail (.tail .head)))) | exact .tail (.tail (.tail (.tail (.tail (.tail .head))))) | exact .tail (.tail (.tail (.tail (.tail (.tail (.tail .head)))))) | exact .tail (.tail (.tail (.tail (.tail (.tail (.tail (.tail .head))))))) | exact .tail (.tail (.tail (.tail (.tail (.tail (.tail (.tail (.tail .head)))))))) | exact .tail (.tail (.tail (.tail (.tail (.tail (.tail (.tail (.tail (.tail .head))))))))) | exact .tail (.tail (.tail (.tail (.tail (.tail (.tail (.tail (.tail (.tail (.tail .head))))))))))) (.cons (by first | exact .head | exact .tail .head | exact .tail (.tail .head) | exact .tail (.tail (.tail .head)) | exact .tail (.tail (.tail (.tail .head))) | exact .tail (.tail (.tail (.tail (.tail .head)))) | exact .tail (.tail (.tail (.tail (.tail (.tail .head))))) | exact .tail (.tail (.tail (.tail (.tail (.tail (.tail .head)))))) | exact .tail (.tail (.tail (.tail (.tail (.tail (.tail (.tail .head))))))) | exact .tail (.tail (.tail (.tail (.tail (.tail (.tail (.tail (.tail .head)))))))) | exact .tail (.tail (.tail (.tail (.tail (.tail (.tail (.tail (.tail (.tail .head))))))))) | exact .tail (.tail (.tail (.tail (.tail (.tail (.tail (.tail (.tail (.tail (.tail .head))))))))))) .nil)) | exact hwk (.cons (by first | exact .head | exact .tail .head | exact .tail (.tail .head) | exact .tail (.tail (.tail .head)) | exact .tail (.tail (.tail (.tail .head))) | exact .tail (.tail (.tail (.tail (.tail .head)))) | exact .tail (.tail (.tail (.tail (.tail (.tail .head))))) | exact .tail (.tail (.tail (.tail (.tail (.tail (.tail .head)))))) | exact .tail (.tail (.tail (.tail (.tail (.tail (.tail (.tail .head))))))) | exact .tail (.tail (.tail (.tail (.tail (.tail (.tail (.tail (.tail .head)))))))) | exact .tail (.tail (.tail (.tail (.tail (.tail (.tail (.tail (.tail (.tail .head))))))))) | exact .tail (.tail (.tail (.tail (.tail (.tail (.tail (.tail (.tail (.tail (.tail .head))))))))))) (.cons (by first | exact .head | exact .tail .head | exact .tail (.tail .head) | exact .tail (.tail (.tail .head)) | exact .tail (.tail (.tail (.tail .head))) | exact .tail (.tail (.tail (.tail (.tail .head)))) | exact .tail (.tail (.tail (.tail (.tail (.tail .head))))) | exact .tail (.tail (.tail (.tail (.tail (.tail (.tail .head)))))) | exact .tail (.tail (.tail (.tail (.tail (.tail (.tail (.tail .head))))))) | exact .tail (.tail (.tail (.tail (.tail (.tail (.tail (.tail (.tail .head)))))))) | exact .tail (.tail (.tail (.tail (.tail (.tail (.tail (.tail (.tail (.tail .head))))))))) | exact .tail (.tail (.tail (.tail (.tail (.tail (.tail (.tail (.tail (.tail (.tail .head))))))))))) (.cons (by first | exact .head | exact .tail .head | exact .tail (.tail .head) | exact .tail (.tail (.tail .head)) | exact .tail (.tail (.tail (.tail .head))) | exact .tail (.tail (.tail (.tail (.tail .head)))) | exact .tail (.tail (.tail (.tail (.tail (.tail .head))))) | exact .tail (.tail (.tail (.tail (.tail (.tail (.tail .head)))))) | exact .tail (.tail (.tail (.tail (.tail (.tail (.tail (.tail .head))))))) | exact .tail (.tail (.tail (.tail (.tail (.tail (.tail (.tail (.tail .head)))))))) | exact .tail (.tail (.tail (.tail (.tail (.tail (.tail (.tail (.tail (.tail .head))))))))) | exact .tail (.tail (.tail (.tail (.tail (.tail (.tail (.tail (.tail (.tail (.tail .head))))))))))) .nil))) | exact hwk (.cons (by first | exact .head | exact .tail .head | exact .tail (.tail .head) | exact .tail (.tail (.tail .head)) | exact .tail (.tail (.tail (.tail .head))) | exact .tail (.tail (.tail (.tail (.tail .head)))) | exact .tail (.tail (.tail (.tail (.tail (.tail .head))))) | exact .tail (.tail (.tail (.tail (.tail (.tail (.tail .head)))))) | exact .tail (.tail (.tail (.tail (.tail (.tail (.tail (.tail .head))))))) | exact .tail (.tail (.tail (.tail (.tail (.tail (.tail (.tail (.tail .head)))))))) | exact .tail (.tail (.tail (.tail (.tail (.tail (.tail (.tail (.tail (.tail .head))))))))) | exact .tail (.tail (.tail (.tail (.tail (.tail (.tail (.tail (.tail (.tail (.tail .head))))))))))) (.cons (by first | exact .head | exact .tail .head | exact .tail (.tail .head) | exact .tail (.tail (.tail .head)) | exact .tail (.tail (.tail (.tail .head))) | exact .tail (.tail (.tail (.tail (.tail .head)))) | exact .tail (.tail (.tail (.tail (.tail (.tail .head))))) | exact .tail (.tail (.tail (.tail (.tail (.tail (.tail .head)))))) | exact .tail (.tail (.tail (.tail (.tail (.tail (.tail (.tail .head))))))) | exact .tail (.tail (.tail (.tail (.tail (.tail (.tail (.tail (.tail .head)))))))) | exact .tail (.tail (.tail (.tail (.tail (.tail (.tail (.tail (.tail (.tail .head))))))))) | exact .tail (.tail (.tail (.tail (.tail (.tail (.tail (.tail (.tail (.tail (.tail .head))))))))))) (.cons (by first | exact .head | exact .tail .head | exact .tail (.tail .head) | exact .tail (.tail (.tail .head)) | exact .tail (.tail (.tail (.tail .head))) | exact .tail (.tail (.tail (.tail (.tail .head)))) | exact .tail (.tail (.tail (.tail (.tail (.tail .head))))) | exact .tail (.tail (.tail (.tail (.tail (.tail (.tail .head)))))) | exact .tail (.tail (.tail (.tail (.tail (.tail (.tail (.tail .head))))))) | exact .tail (.tail (.tail (.tail (.tail (.tail (.tail (.tail (.tail .head)))))))) | exact .tail (.tail (.tail (.tail (.tail (.tail (.tail (.tail (.tail (.tail .head))))))))) | exact .tail (.tail (.tail (.tail (.tail (.tail (.tail (.tail (.tail (.tail (.tail .head))))))))))) (.cons (by first | exact .head | exact .tail .head | exact .tail (.tail .head) | exact .tail (.tail (.tail .head)) | exact .tail (.tail (.tail (.tail .head))) | exact .tail (.tail (.tail (.tail (.tail .head)))) | exact .tail (.tail (.tail (.tail (.tail (.tail .head))))) | exact .tail (.tail (.tail (.tail (.tail (.tail (.tail .head)))))) | exact .tail (.tail (.tail (.tail (.tail (.tail (.tail (.tail .head))))))) | exact .tail (.tail (.tail (.tail (.tail (.tail (.tail (.tail (.tail .head)))))))) | exact .tail (.tail (.tail (.tail (.tail (.tail (.tail (.tail (.tail (.tail .head))))))))) | exact .tail (.tail (.tail (.tail (.tail (.tail (.tail (.tail (.tail (.tail (.tail .head))))))))))) .nil)))) | exact hwk (.cons (by first | exact .head | exact .tail .head | exact .tail (.tail .head) | exact .tail (.tail (.tail .head)) | exact .tail (.tail (.tail (.tail .head))) | exact .tail (.tail (.tail (.tail (.tail .head)))) | exact .tail (.tail (.tail (.tail (.tail (.tail .head))))) | exact .tail (.tail (.tail (.tail (.tail (.tail (.tail .head)))))) | exact .tail (.tail (.tail (.tail (.tail (.tail (.tail (.tail .head))))))) | exact .tail (.tail (.tail (.tail (.tail (.tail (.tail (.tail (.tail .head)))))))) | exact .tail (.tail (.tail (.tail (.tail (.tail (.tail (.tail (.tail (.tail .head))))))))) | exact .tail (.tail (.tail (.tail (.tail (.tail (.tail (.tail (.tail (.tail (.tail .head))))))))))) (.cons (by first | exact .head | exact .tail .head | exact .tail (.tail .head) | exact .tail (.tail (.tail .head)) | exact .tail (.tail (.tail (.tail .head))) | exact .tail (.tail (.tail (.tail (.tail .head)))) | exact .tail (.tail (.tail (.tail (.tail (.tail .head))))) | exact .tail (.tail (.tail (.tail (.tail (.tail (.tail .head)))))) | exact .tail (.tail (.tail (.tail (.tail (.tail (.tail (.tail .head))))))) | exact .tail (.tail (.tail (.tail (.tail (.tail (.tail (.tail (.tail .head)))))))) | exact .tail (.tail (.tail (.tail (.tail (.tail (.tail (.tail (.tail (.tail .head))))))))) | exact .tail (.tail (.tail (.tail (.tail (.tail (.tail (.tail (.tail (.tail (.tail .head))))))))))) (.cons (by first | exact .head | exact .tail .head | exact .tail (.tail .head) | exact .tail (.tail (.tail .head)) | exact .tail (.tail (.tail (.tail .head))) | exact .tail (.tail (.tail (.tail (.tail .head)))) | exact .tail (.tail (.tail (.tail (.tail (.tail .head))))) | exact .tail (.tail (.tail (.tail (.tail (.tail (.tail .head)))))) | exact .tail (.tail (.tail (.tail (.tail (.tail (.tail (.tail .head))))))) | exact .tail (.tail (.tail (.tail (.tail (.tail (.tail (.tail (.tail .head)))))))) | exact .tail (.tail (.tail (.tail (.tail (.tail (.tail (.tail (.tail (.tail .head))))))))) | exact .tail (.tail (.tail (.tail (.tail (.tail (.tail (.tail (.tail (.tail (.tail .head))))))))))) (.cons (by first | exact .head | exact .tail .head | exact .tail (.tail .head) | exact .tail (.tail (.tail .head)) | exact .tail (.tail (.tail (.tail .head))) | exact .tail (.tail (.tail (.tail (.tail .head)))) | exact .tail (.tail (.tail (.tail (.tail (.tail .head))))) | exact .tail (.tail (.tail (.tail (.tail (.tail (.tail .head)))))) | exact .tail (.tail (.tail (.tail (.tail (.tail (.tail (.tail .head))))))) | exact .tail (.tail (.tail (.tail (.tail (.tail (.tail (.tail (.tail .head)))))))) | exact .tail (.tail (.tail (.tail (.tail (.tail (.tail (.tail (.tail (.tail .head))))))))) | exact .tail (.tail (.tail (.tail (.tail (.tail (.tail (.tail (.tail (.tail (.tail .head))))))))))) (.cons (by first | exact .head | exact .tail .head | exact .tail (.tail .head) | exact .tail (.tail (.tail .head)) | exact .tail (.tail (.tail (.tail .head))) | exact .tail (.tail (.tail (.tail (.tail .head)))) | exact .tail (.tail (.tail (.tail (.tail (.tail .head))))) | exact .tail (.tail (.tail (.tail (.tail (.tail (.tail .head)))))) | exact .tail (.tail (.tail (.tail (.tail (.tail (.tail (.tail .head))))))) | exact .tail (.tail (.tail (.tail (.tail (.tail (.tail (.tail (.tail .head)))))))) | exact .tail (.tail (.tail (.tail (.tail (.tail (.tail (.tail (.tail (.tail .head))))))))) | exact .tail (.tail (.tail (.tail (.tail (.tail (.tail (.tail (.tail (.tail (.tail .head))))))))))) .nil))))) | exact hwk (.cons (by first | exact .head | exact .tail .head | exact .tail (.tail .head) | exact .tail (.tail (.tail .head)) | exact .tail (.tail (.tail (.tail .head))) | exact .tail (.tail (.tail (.tail (.tail .head)))) | exact .tail (.tail (.tail (.tail (.tail (.tail .head))))) | exact .tail (.tail (.tail (.tail (.tail (.tail (.tail .head)))))) | exact .tail (.tail (.tail (.tail (.tail (.tail (.tail (.tail .head))))))) | exact .tail (.tail (.tail (.tail (.tail (.tail (.tail (.tail (.tail .head)))))))) | exact .tail (.tail (.tail (.tail (.tail (.tail (.tail (.tail (.tail (.tail .head))))))))) | exact .tail (.tail (.tail (.tail (.tail (.tail (.tail (.tail (.tail (.tail (.tail .head))))))))))) (.cons (by first | exact .head | exact .tail .head | exact .tail (.tail .head) | exact .tail (.tail (.tail .head)) | exact .tail (.tail (.tail (.tail .head))) | exact .tail (.tail (.tail (.tail (.tail .head)))) | exact .tail (.tail (.tail (.tail (.tail (.tail .head))))) | exact .tail (.tail (.tail (.tail (.tail (.tail (.tail .head)))))) | exact .tail (.tail (.tail (.tail (.tail (.tail (.tail (.tail .head))))))) | exact .tail (.tail (.tail (.tail (.tail (.tail (.tail (.tail (.tail .head)))))))) | exact .tail (.tail (.tail (.tail (.tail (.tail (.tail (.tail (.tail (.tail .head))))))))) | exact .tail (.tail (.tail (.tail (.tail (.tail (.tail (.tail (.tail (.tail (.tail .head))))))))))) (.cons (by first | exact .head | exact .tail .head | exact .tail (.tail .head) | exact .tail (.tail (.tail .head)) | exact .tail (.tail (.tail (.tail .head))) | exact .tail (.tail (.tail (.tail (.tail .head)))) | exact .tail (.tail (.tail (.tail (.tail (.tail .head))))) | exact .tail (.tail (.tail (.tail (.tail (.tail (.tail .head)))))) | exact .tail (.tail (.tail (.tail (.tail (.tail (.tail (.tail .head))))))) | exact .tail (.tail (.tail (.tail (.tail (.tail (.tail (.tail (.tail .head)))))))) | exact .tail (.tail (.tail (.tail (.tail (.tail (.tail (.tail (.tail (.tail .head))))))))) | exact .tail (.tail (.tail (.tail (.tail (.tail (.tail (.tail (.tail (.tail (.tail .head))))))))))) (.cons (by first | exact .head | exact .tail .head | exact .tail (.tail .head) | exact .tail (.tail (.tail .head)) | exact .tail (.tail (.tail (.tail .head))) | exact .tail (.tail (.tail (.tail (.tail .head)))) | exact .tail (.tail (.tail (.tail (.tail (.tail .head))))) | exact .tail (.tail (.tail (.tail (.tail (.tail (.tail .head)))))) | exact .tail (.tail (.tail (.tail (.tail (.tail (.tail (.tail .head))))))) | exact .tail (.tail (.tail (.tail (.tail (.tail (.tail (.tail (.tail .head)))))))) | exact .tail (.tail (.tail (.tail (.tail (.tail (.tail (.tail (.tail (.tail .head))))))))) | exact .tail (.tail (.tail (.tail (.tail (.tail (.tail (.tail (.tail (.tail (.tail .head))))))))))) (.cons (by first | exact .head | exact .tail .head | exact .tail (.tail .head) | exact .tail (.tail (.tail .head)) | exact .tail (.tail (.tail (.tail .head))) | exact .tail (.tail (.tail (.tail (.tail .head)))) | exact .tail (.tail (.tail (.tail (.tail (.tail .head))))) | exact .tail (.tail (.tail (.tail (.tail (.tail (.tail .head)))))) | exact .tail (.tail (.tail (.tail (.tail (.tail (.tail (.tail .head))))))) | exact .tail (.tail (.tail (.tail (.tail (.tail (.tail (.tail (.tail .head)))))))) | exact .tail (.tail (.tail (.tail (.tail (.tail (.tail (.tail (.tail (.tail .head))))))))) | exact .tail (.tail (.tail (.tail (.tail (.tail (.tail (.tail (.tail (.tail (.tail .head))))))))))) (.cons (by first | exact .head | exact .tail .head | exact .tail (.tail .head) | exact .tail (.tail (.tail .head)) | exact .tail (.tail (.tail (.tail .head))) | exact .tail (.tail (.tail (.tail (.tail .head)))) | exact .tail (.tail (.tail (.tail (.tail (.tail .head))))) | exact .tail (.tail (.tail (.tail (.tail (.tail (.tail .head)))))) | exact .tail (.tail (.tail (.tail (.tail (.tail (.tail (.tail .head))))))) | exact .tail (.tail (.tail (.tail (.tail (.tail (.tail (.tail (.tail .head)))))))) | exact .tail (.tail (.tail (.tail (.tail (.tail (.tail (.tail (.tail (.tail .head))))))))) | exact .tail (.tail (.tail (.tail (.tail (.tail (.tail (.tail (.tail (.tail (.tail .head))))))))))) .nil)))))) | exact hwk (.cons (by first | exact .head | exact .tail .head | exact .tail (.tail .head) | exact .tail (.tail (.tail .head)) | exact .tail (.tail (.tail (.tail .head))) | exact .tail (.tail (.tail (.tail (.tail .head)))) | exact .tail (.tail (.tail (.tail (.tail (.tail .head))))) | exact .tail (.tail (.tail (.tail (.tail (.tail (.tail .head)))))) | exact .tail (.tail (.tail (.tail (.tail (.tail (.tail (.tail .head))))))) | exact .tail (.tail (.tail (.tail (.tail (.tail (.tail (.tail (.tail .head)))))))) | exact .tail (.tail (.tail (.tail (.tail (.tail (.tail (.tail (.tail (.tail .head))))))))) | exact .tail (.tail (.tail (.tail (.tail (.tail (.tail (.tail (.tail (.tail (.tail .head))))))))))) (.cons (by first | exact .head | exact .tail .head | exact .tail (.tail .head) | exact .tail (.tail (.tail .head)) | exact .tail (.tail (.tail (.tail .head))) | exact .tail (.tail (.tail (.tail (.tail .head)))) | exact .tail (.tail (.tail (.tail (.tail (.tail .head))))) | exact .tail (.tail (.tail (.tail (.tail (.tail (.tail .head)))))) | exact .tail (.tail (.tail (.tail (.tail (.tail (.tail (.tail .head))))))) | exact .tail (.tail (.tail (.tail (.tail (.tail (.tail (.tail (.tail .head)))))))) | exact .tail (.tail (.tail (.tail (.tail (.tail (.tail (.tail (.tail (.tail .head))))))))) | exact .tail (.tail (.tail (.tail (.tail (.tail (.tail (.tail (.tail (.tail (.tail .head))))))))))) (.cons (by first | exact .head | exact .tail .head | exact .tail (.tail .head) | exact .tail (.tail (.tail .head)) | exact .tail (.tail (.tail (.tail .head))) | exact .tail (.tail (.tail (.tail (.tail .head)))) | exact .tail (.tail (.tail (.tail (.tail (.tail .head))))) | exact .tail (.tail (.tail (.tail (.tail (.tail (.tail .head)))))) | exact .tail (.tail (.tail (.tail (.tail (.tail (.tail (.tail .head))))))) | exact .tail (.tail (.tail (.tail (.tail (.tail (.tail (.tail (.tail .head)))))))) | exact .tail (.tail (.tail (.tail (.tail (.tail (.tail (.tail (.tail (.tail .head))))))))) | exact .tail (.tail (.tail (.tail (.tail (.tail (.tail (.tail (.tail (.tail (.tail .head))))))))))) (.cons (by first | exact .head | exact .tail .head | exact .tail (.tail .head) | exact .tail (.tail (.tail .head)) | exact .tail (.tail (.tail (.tail .head))) | exact .tail (.tail (.tail (.tail (.tail .head)))) | exact .tail (.tail (.tail (.tail (.tail (.tail .head))))) | exact .tail (.tail (.tail (.tail (.tail (.tail (.tail .head)))))) | exact .tail (.tail (.tail (.tail (.tail (.tail (.tail (.tail .head))))))) | exact .tail (.tail (.tail (.tail (.tail (.tail (.tail (.tail (.tail .head)))))))) | exact .tail (.tail (.tail (.tail (.tail (.tail (.tail (.tail (.tail (.tail .head))))))))) | exact .tail (.tail (.tail (.tail (.tail (.tail (.tail (.tail (.tail (.tail (.tail .head))))))))))) (.cons (by first | exact .head | exact .tail .head | exact .tail (.tail .head) | exact .tail (.tail (.tail .head)) | exact .tail (.tail (.tail (.tail .head))) | exact .tail (.tail (.tail (.tail (.tail .head)))) | exact .tail (.tail (.tail (.tail (.tail (.tail .head))))) | exact .tail (.tail (.tail (.tail (.tail (.tail (.tail .head)))))) | exact .tail (.tail (.tail (.tail (.tail (.tail (.tail (.tail .head))))))) | exact .tail (.tail (.tail (.tail (.tail (.tail (.tail (.tail (.tail .head)))))))) | exact .tail (.tail (.tail (.tail (.tail (.tail (.tail (.tail (.tail (.tail .head))))))))) | exact .tail (.tail (.tail (.tail (.tail (.tail (.tail (.tail (.tail (.tail (.tail .head))))))))))) (.cons (by first | exact .head | exact .tail .head | exact .tail (.tail .head) | exact .tail (.tail (.tail .head)) | exact .tail (.tail (.tail (.tail .head))) | exact .tail (.tail (.tail (.tail (.tail .head)))) | exact .tail (.tail (.tail (.tail (.tail (.tail .head))))) | exact .tail (.tail (.tail (.tail (.tail (.tail (.tail .head)))))) | exact .tail (.tail (.tail (.tail (.tail (.tail (.tail (.tail .head))))))) | exact .tail (.tail (.tail (.tail (.tail (.tail (.tail (.tail (.tail .head)))))))) | exact .tail (.tail (.tail (.tail (.tail (.tail (.tail (.tail (.tail (.tail .head))))))))) | exact .tail (.tail (.tail (.tail (.tail (.tail (.tail (.tail (.tail (.tail (.tail .head))))))))))) (.cons (by first | exact .head | exact .tail .head | exact .tail (.tail .head) | exact .tail (.tail (.tail .head)) | exact .tail (.tail (.tail (.tail .head))) | exact .tail (.tail (.tail (.tail (.tail .head)))) | exact .tail (.tail (.tail (.tail (.tail (.tail .head))))) | exact .tail (.tail (.tail (.tail (.tail (.tail (.tail .head)))))) | exact .tail (.tail (.tail (.tail (.tail (.tail (.tail (.tail .head))))))) | exact .tail (.tail (.tail (.tail (.tail (.tail (.tail (.tail (.tail .head)))))))) | exact .tail (.tail (.tail (.tail (.tail (.tail (.tail (.tail (.tail (.tail .head))))))))) | exact .tail (.tail (.tail (.tail (.tail (.tail (.tail (.tail (.tail (.tail (.tail .head))))))))))) .nil)))))))) : X ∧ HWk H' Hs := ⟨h, hw⟩
/-- A call through an interface. -/
theorem o_inv {f T d : Nat} {nm : String} {args : Array Operand} {ts : Array TypeId} {ty : TypeId} {p : String} {e : Array Edge} {vs : Array Value} {u r : Value} {H1 R : List Res} {Qf : Value → List Res → Prop} {rest : List Oper}
    (hc : ∀ vs w, (callMethod (.iface T u) nm vs).run P w = .ok (.enter f (#[r] ++ vs)) w) (hx : ∀ g, evl L g x = .iface T u) (ha : ∀ g, args.map (evl L g) = vs) (hs : Split H H1 R) {all : Array Value} (hva : #[r] ++ vs = all) (hf : Fn P G f all H1 Qf)
    (h : ∀ v H', Qf v H' → OP P n G ops Q rest ((d, v) :: L) (H' ++ R)) (hn : d < n := by decide) :
    OP P n G ops Q (⟨some d, .call ⟨.invoke x nm, args, ts⟩, ty, p, e, none⟩ :: rest) L H := by
  subst hva
  intro F hF g a w hag hsat
  refine wpList_plain rfl fun K hK => ?_
  have hsat' := hsat.perm hs
  have hrun : (execOp a.eval ⟨some d, .call ⟨.invoke x nm, args, ts⟩, ty, p, e, none⟩).run P w = .ok (.enter f (#[r] ++ vs)) w := by
    rw [hag.eval]
    have h1 := ha g
    have h2 : (#[Value.iface T u] ++ vs)[0]? = some (Value.iface T u) := by rw [Array.getElem?_append_left (Nat.zero_lt_one)]; rfl
    simp [execOp, resolve, invoke, hx g, h1]
    have h3 := hc vs w
    revert h3 h2
    cases (#[Value.iface T u] ++ vs)[0]? with
    | none => intro h2; cases h2
    | some z => intro h2 h3; cases h2; exact h3
  unfold Oper.wp
  rw [hrun]
  refine (hf (F.add R) (hF.add hsat') w hsat'.split).mono fun e w' ⟨v', H', he, h1, h2⟩ => ?_
  subst he
  exact hK _ _ (h v' H' h2 F hF g _ w' (hag.put hn v') (hsat'.join h1))
theorem x_mf {d : Nat} {fn : Go.Fn} {first cap : Array Operand} {ty : TypeId} {p : String} {e : Array Edge} {fs cs : Array Value}
    (hf : ∀ g, first.map (evl L g) = fs) (hc : ∀ g, cap.map (evl L g) = cs) (hn : d < n := by decide) :
    Ex P n G ops L H ⟨some d, .makeFunc fn first cap, ty, p, e, none⟩ d (.func fn fs cs) :=
  .mk hn (fun _ _ g w _ => by simp [execOp, Instr.makeFunc, hf g, hc g])
theorem hla {parts : Array (Nat × Operand)} {lst : List (Nat × Value)} (hl : ∀ g, (parts.map fun x => (x.1, evl L g x.2)).toList = lst := by intro g; first | (simp only [List.map_toArray, List.map_cons, List.map_nil, evl, val, Nat.reduceEqDiff, ↓reduceIte]; done) | (simp only [List.map_toArray, List.map_cons, List.map_nil, evl, val, Nat.reduceEqDiff, ↓reduceIte]; rfl)) : ∀ g, (parts.map fun x => (x.1, evl L g x.2)).toList = lst := hl
theorem x_bd {d t : Nat} {parts : Array (Nat × Operand)} {ty : TypeId} {p : String} {e : Array Edge} {lst : List (Nat × Value)} {cells : Array Value}
    (hl : ∀ g, (parts.map fun x => (x.1, evl L g x.2)).toList = lst) (hb : P.built t lst = some cells) (hn : d < n := by decide) :
    Ex P n G ops L H ⟨some d, .build t parts, ty, p, e, none⟩ d (.agg cells) :=
  .mk hn (fun _ _ g w _ => by
    have h1 := hl g
    have h2 : (parts.map fun x => match x with | (i, x) => (i, evl L g x)) = (parts.map fun x => (x.1, evl L g x.2)) := by rfl
    simp only [execOp]
    rw [h2]
    simp [run_build w t _ cells (by rw [h1]; exact hb)])
/-- A literal of one element. -/
theorem o_bs1 {T : Nat} {v : Value} {vs zs : List Value} (hu : P.underlying t = some (.slice T)) (hz : zeroOf P T = some zs)
    (h : ∀ b, OP P n G ops Q rest ((d, .slice (some ⟨b, 0, none⟩) 1 1) :: L) (pt b vs T :: H)) (hx : ∀ g, evl L g x = v := by intro g; first | (simp only [evl, val, Nat.reduceEqDiff, ↓reduceIte]; rfl) | simp only [evl, val, Nat.reduceEqDiff, ↓reduceIte])
    (hv : v.cells.toList = vs := by first | (simp only [Value.cells, List.toList_toArray]; rfl) | rfl) (hl : vs.length = zs.length := by rfl) (h0 : 0 < zs.length := by decide) (h24 : zs.length ≤ 2 ^ 24 := by decide) (hsz : szOf P T = some zs.length := by kernel_rfl) (hn : d < n := by decide) :
    OP P n G ops Q (⟨some d, .buildSlice t 1 #[(0, x)], ty, p, e, none⟩ :: rest) L H := by
  refine o_bs (vs := vs) (fun g w => ?_) h hn
  unfold zeroOf at hz
  unfold szOf at hsz
  cases hi : P.info? T with
  | none => simp [hi] at hz
  | some i =>
    cases hzz : i.zero with
    | none => simp [hi, hzz] at hz
    | some z =>
      simp [hi] at hsz
      have hvs : v.cells.size = i.size := by rw [hsz, ← hl, ← hv, Array.length_toList]
      have hf := Great.fill_whole (s := i.size) (by omega) [v] ((Array.range (1 * i.size)).map (z.cells[· % z.cells.size]!)) (by intro u hu; simp at hu; rw [hu]; exact hvs) (by simp)
      have := run_buildSlice (P := P) w t T 1 #[(0, v)] vs.toArray i z hu hi hzz (by omega) (by omega) (by rw [← hv]; simpa using hf)
      simpa [hx g] using this
theorem r_c3 {fn : Func} {Q : Value → List Res → Prop} {t T k b u s : Nat} {cs : List Value} {T' : TypeId} {vx vy : Value} (hr : fn.results = #[.cell t T, .tmp u, .tmp s]) (ht : aggSz P T = some k)
    (hv : ∀ g, val L g t = .pointer (some ⟨b, 0, none⟩)) (hx : ∀ g, val L g u = vx) (hy : ∀ g, val L g s = vy) (hp : Pull (pt b cs T') H R) (hl : cs.length = k) (hH : HWk H H') (h : Q (.tuple #[.agg cs.toArray, vx, vy]) H') : retP P n fn Q .ret L H := by
  refine ⟨_, _, fun F g a w ha hs => ?_, hH, h⟩
  have h1 := (ha.get t).trans (hv g)
  have h3 := (ha.get u).trans (hx g)
  have h4 := (ha.get s).trans (hy g)
  simp only [Array.getD_eq_getD_getElem?] at h1 h3 h4
  have h2 := run_loadA (P := P) (w := w) (b := b) (i := 0) ht hl (fun j v hj => by rw [Sat.cell (hs.perm hp)]; simpa using hj)
  simp [results, hr, h1, h3, h4, asAddr, h2]
/-- A call through a function's value. -/
theorem o_cv {f d : Nat} {args : Array Operand} {ts : Array TypeId} {ty : TypeId} {p : String} {e : Array Edge} {vs cap : Array Value} {H1 R : List Res} {Qf : Value → List Res → Prop} {rest : List Oper}
    (hc : ∀ (a : Array Value) w, (callFunc f a).run P w = .ok (.enter f a) w) (hx : ∀ g, evl L g x = .func (.func f) #[] cap) (ha : ∀ g, args.map (evl L g) = vs) (hs : Split H H1 R) {all : Array Value} (hva : vs ++ cap = all) (hf : Fn P G f all H1 Qf)
    (h : ∀ v H', Qf v H' → OP P n G ops Q rest ((d, v) :: L) (H' ++ R)) (hn : d < n := by decide) :
    OP P n G ops Q (⟨some d, .call ⟨.value x, args, ts⟩, ty, p, e, none⟩ :: rest) L H := by
  subst hva
  intro F hF g a w hag hsat
  refine wpList_plain rfl fun K hK => ?_
  have hsat' := hsat.perm hs
  have hrun : (execOp a.eval ⟨some d, .call ⟨.value x, args, ts⟩, ty, p, e, none⟩).run P w = .ok (.enter f (vs ++ cap)) w := by
    rw [hag.eval]
    have h1 := ha g
    simp [execOp, resolve, Deferred.ofValue, invoke, hx g, h1, hc]
  unfold Oper.wp
  rw [hrun]
  refine (hf (F.add R) (hF.add hsat') w hsat'.split).mono fun e w' ⟨v', H', he, h1, h2⟩ => ?_
  subst he
  exact hK _ _ (h v' H' h2 F hF g _ w' (hag.put hn v') (hsat'.join h1))
end
end Go.Proofs.YtlmefkhglooepaaGreatDoor
namespace Go.Proofs.YtlmefkhglooepaaGreatDoor
open Go
noncomputable abbrev P : Program := Tryz.prog
theorem k2 : oneSz P 2 = true := by kernel_rfl
theorem k3 : oneSz P 3 = true := by kernel_rfl
theorem k4 : oneSz P 4 = true := by kernel_rfl
theorem k5 : oneSz P 5 = true := by kernel_rfl
theorem k9 : oneSz P 9 = true := by kernel_rfl
theorem k29 : oneSz P 29 = true := by kernel_rfl
theorem g31 : aggSz P 31 = some 3 := by kernel_rfl
theorem g36 : aggSz P 36 = some 14 := by kernel_rfl
theorem g38 : aggSz P 38 = some 15 := by kernel_rfl
theorem g46 : aggSz P 46 = some 16 := by kernel_rfl
theorem k56 : oneSz P 56 = true := by kernel_rfl
theorem k58 : oneSz P 58 = true := by kernel_rfl
theorem k64 : oneSz P 64 = true := by kernel_rfl
theorem k65 : oneSz P 65 = true := by kernel_rfl
theorem k66 : oneSz P 66 = true := by kernel_rfl
theorem k69 : oneSz P 69 = true := by kernel_rfl
theorem k71 : oneSz P 71 = true := by kernel_rfl
theorem k72 : oneSz P 72 = true := by kernel_rfl
theorem k73 : oneSz P 73 = true := by kernel_rfl
theorem k74 : oneSz P 74 = true := by kernel_rfl
theorem g76 : aggSz P 76 = some 3 := by kernel_rfl
theorem k77 : oneSz P 77 = true := by kernel_rfl
theorem k78 : oneSz P 78 = true := by kernel_rfl
theorem k83 : oneSz P 83 = true := by kernel_rfl
theorem k89 : oneSz P 89 = true := by kernel_rfl
theorem k105 : oneSz P 105 = true := by kernel_rfl
theorem k117 : oneSz P 117 = true := by kernel_rfl
theorem k122 : oneSz P 122 = true := by kernel_rfl
theorem k123 : oneSz P 123 = true := by kernel_rfl
theorem k124 : oneSz P 124 = true := by kernel_rfl
theorem k125 : oneSz P 125 = true := by kernel_rfl
theorem k133 : oneSz P 133 = true := by kernel_rfl
theorem k137 : oneSz P 137 = true := by kernel_rfl
theorem k143 : oneSz P 143 = true := by kernel_rfl
theorem k147 : oneSz P 147 = true := by kernel_rfl
theorem k170 : oneSz P 170 = true := by kernel_rfl
theorem k204 : oneSz P 204 = true := by kernel_rfl
theorem g256 : aggSz P 256 = some 7 := by kernel_rfl
theorem k267 : oneSz P 267 = true := by kernel_rfl
theorem k268 : oneSz P 268 = true := by kernel_rfl
theorem k269 : oneSz P 269 = true := by kernel_rfl
theorem g280 : aggSz P 280 = some 2 := by kernel_rfl
theorem g293 : aggSz P 293 = some 4 := by kernel_rfl
theorem e22 : szOf P 38 = some 15 := by kernel_rfl
theorem e29 : szOf P 36 = some 14 := by kernel_rfl
theorem e42 : szOf P 46 = some 16 := by kernel_rfl
theorem e65 : szOf P 69 = some 1 := by kernel_rfl
theorem e78 : szOf P 5 = some 1 := by kernel_rfl
theorem e122 : szOf P 137 = some 1 := by kernel_rfl
theorem e131 : szOf P 5 = some 1 := by kernel_rfl
theorem e133 : szOf P 5 = some 1 := by kernel_rfl
theorem e197 : szOf P 5 = some 1 := by kernel_rfl
theorem e198 : szOf P 5 = some 1 := by kernel_rfl
theorem e199 : szOf P 5 = some 1 := by kernel_rfl
theorem e200 : szOf P 5 = some 1 := by kernel_rfl
theorem e201 : szOf P 5 = some 1 := by kernel_rfl
theorem e204 : szOf P 5 = some 1 := by kernel_rfl
theorem e209 : szOf P 2 = some 1 := by kernel_rfl
theorem e267 : szOf P 283 = some 3 := by kernel_rfl
theorem e268 : szOf P 293 = some 4 := by kernel_rfl
theorem e278 : szOf P 5 = some 1 := by kernel_rfl
theorem e281 : szOf P 280 = some 2 := by kernel_rfl
theorem e298 : szOf P 16 = some 1 := by kernel_rfl
theorem e315 : szOf P 77 = some 1 := by kernel_rfl
theorem e319 : szOf P 316 = some 256 := by kernel_rfl
theorem e323 : szOf P 5 = some 1 := by kernel_rfl
theorem f31_0 : fieldOff P 31 0 = some 0 := by kernel_rfl
theorem f31_1 : fieldOff P 31 1 = some 1 := by kernel_rfl
theorem f31_2 : fieldOff P 31 2 = some 2 := by kernel_rfl
theorem f36_0 : fieldOff P 36 0 = some 0 := by kernel_rfl
theorem f36_1 : fieldOff P 36 1 = some 1 := by kernel_rfl
theorem f36_2 : fieldOff P 36 2 = some 2 := by kernel_rfl
theorem f36_3 : fieldOff P 36 3 = some 3 := by kernel_rfl
theorem f36_4 : fieldOff P 36 4 = some 4 := by kernel_rfl
theorem f36_5 : fieldOff P 36 5 = some 5 := by kernel_rfl
theorem f36_6 : fieldOff P 36 6 = some 6 := by kernel_rfl
theorem f36_7 : fieldOff P 36 7 = some 7 := by kernel_rfl
theorem f36_8 : fieldOff P 36 8 = some 8 := by kernel_rfl
theorem f36_9 : fieldOff P 36 9 = some 9 := by kernel_rfl
theorem f36_10 : fieldOff P 36 10 = some 10 := by kernel_rfl
theorem f36_11 : fieldOff P 36 11 = some 11 := by kernel_rfl
theorem f36_12 : fieldOff P 36 12 = some 12 := by kernel_rfl
theorem f36_13 : fieldOff P 36 13 = some 13 := by kernel_rfl
theorem f38_0 : fieldOff P 38 0 = some 0 := by kernel_rfl
theorem f38_1 : fieldOff P 38 1 = some 14 := by kernel_rfl
theorem f46_0 : fieldOff P 46 0 = some 0 := by kernel_rfl
theorem f46_1 : fieldOff P 46 1 = some 14 := by kernel_rfl
theorem f46_2 : fieldOff P 46 2 = some 15 := by kernel_rfl
theorem f68_0 : fieldOff P 68 0 = some 0 := by kernel_rfl
theorem f68_1 : fieldOff P 68 1 = some 1 := by kernel_rfl
theorem f68_2 : fieldOff P 68 2 = some 2 := by kernel_rfl
theorem f68_3 : fieldOff P 68 3 = some 3 := by kernel_rfl
theorem f68_4 : fieldOff P 68 4 = some 4 := by kernel_rfl
theorem f76_0 : fieldOff P 76 0 = some 0 := by kernel_rfl
theorem f76_1 : fieldOff P 76 1 = some 1 := by kernel_rfl
theorem f76_2 : fieldOff P 76 2 = some 2 := by kernel_rfl
theorem f80_0 : fieldOff P 80 0 = some 0 := by kernel_rfl
theorem f80_1 : fieldOff P 80 1 = some 1 := by kernel_rfl
theorem f80_2 : fieldOff P 80 2 = some 2 := by kernel_rfl
theorem f80_3 : fieldOff P 80 3 = some 3 := by kernel_rfl
theorem f80_4 : fieldOff P 80 4 = some 4 := by kernel_rfl
theorem f80_5 : fieldOff P 80 5 = some 5 := by kernel_rfl
theorem f80_6 : fieldOff P 80 6 = some 6 := by kernel_rfl
theorem f80_7 : fieldOff P 80 7 = some 7 := by kernel_rfl
theorem f80_8 : fieldOff P 80 8 = some 10 := by kernel_rfl
theorem f80_9 : fieldOff P 80 9 = some 11 := by kernel_rfl
theorem f80_10 : fieldOff P 80 10 = some 12 := by kernel_rfl
theorem f80_11 : fieldOff P 80 11 = some 13 := by kernel_rfl
theorem f80_12 : fieldOff P 80 12 = some 14 := by kernel_rfl
theorem f80_13 : fieldOff P 80 13 = some 15 := by kernel_rfl
theorem f80_14 : fieldOff P 80 14 = some 16 := by kernel_rfl
theorem f80_15 : fieldOff P 80 15 = some 17 := by kernel_rfl
theorem f80_16 : fieldOff P 80 16 = some 18 := by kernel_rfl
theorem f82_0 : fieldOff P 82 0 = some 0 := by kernel_rfl
theorem f82_1 : fieldOff P 82 1 = some 19 := by kernel_rfl
theorem f82_2 : fieldOff P 82 2 = some 20 := by kernel_rfl
theorem f82_3 : fieldOff P 82 3 = some 21 := by kernel_rfl
theorem f85_0 : fieldOff P 85 0 = some 0 := by kernel_rfl
theorem f85_1 : fieldOff P 85 1 = some 1 := by kernel_rfl
theorem f116_0 : fieldOff P 116 0 = some 0 := by kernel_rfl
theorem f116_1 : fieldOff P 116 1 = some 1 := by kernel_rfl
theorem f116_2 : fieldOff P 116 2 = some 2 := by kernel_rfl
theorem f121_0 : fieldOff P 121 0 = some 0 := by kernel_rfl
theorem f121_1 : fieldOff P 121 1 = some 1 := by kernel_rfl
theorem f127_0 : fieldOff P 127 0 = some 0 := by kernel_rfl
theorem f127_1 : fieldOff P 127 1 = some 1 := by kernel_rfl
theorem f127_2 : fieldOff P 127 2 = some 2 := by kernel_rfl
theorem f127_3 : fieldOff P 127 3 = some 3 := by kernel_rfl
theorem f127_4 : fieldOff P 127 4 = some 4 := by kernel_rfl
theorem f127_5 : fieldOff P 127 5 = some 5 := by kernel_rfl
theorem f127_6 : fieldOff P 127 6 = some 6 := by kernel_rfl
theorem f139_0 : fieldOff P 139 0 = some 0 := by kernel_rfl
theorem f139_1 : fieldOff P 139 1 = some 1 := by kernel_rfl
theorem f139_2 : fieldOff P 139 2 = some 2 := by kernel_rfl
theorem f145_0 : fieldOff P 145 0 = some 0 := by kernel_rfl
theorem f149_0 : fieldOff P 149 0 = some 0 := by kernel_rfl
theorem f149_1 : fieldOff P 149 1 = some 1 := by kernel_rfl
theorem f149_2 : fieldOff P 149 2 = some 2 := by kernel_rfl
theorem f149_3 : fieldOff P 149 3 = some 3 := by kernel_rfl
theorem f149_4 : fieldOff P 149 4 = some 4 := by kernel_rfl
theorem f149_5 : fieldOff P 149 5 = some 5 := by kernel_rfl
theorem f149_6 : fieldOff P 149 6 = some 6 := by kernel_rfl
theorem f163_0 : fieldOff P 163 0 = some 0 := by kernel_rfl
theorem f173_0 : fieldOff P 173 0 = some 0 := by kernel_rfl
theorem f173_1 : fieldOff P 173 1 = some 1 := by kernel_rfl
theorem f173_2 : fieldOff P 173 2 = some 2 := by kernel_rfl
theorem f173_3 : fieldOff P 173 3 = some 3 := by kernel_rfl
theorem f173_4 : fieldOff P 173 4 = some 4 := by kernel_rfl
theorem f173_5 : fieldOff P 173 5 = some 5 := by kernel_rfl
theorem f181_0 : fieldOff P 181 0 = some 0 := by kernel_rfl
theorem f181_1 : fieldOff P 181 1 = some 1 := by kernel_rfl
theorem f181_2 : fieldOff P 181 2 = some 2 := by kernel_rfl
theorem f181_3 : fieldOff P 181 3 = some 3 := by kernel_rfl
theorem f181_4 : fieldOff P 181 4 = some 4 := by kernel_rfl
theorem f181_5 : fieldOff P 181 5 = some 5 := by kernel_rfl
theorem f181_6 : fieldOff P 181 6 = some 6 := by kernel_rfl
theorem f181_7 : fieldOff P 181 7 = some 7 := by kernel_rfl
theorem f208_0 : fieldOff P 208 0 = some 0 := by kernel_rfl
theorem f208_1 : fieldOff P 208 1 = some 1 := by kernel_rfl
theorem f208_2 : fieldOff P 208 2 = some 2 := by kernel_rfl
theorem f208_3 : fieldOff P 208 3 = some 3 := by kernel_rfl
theorem f229_0 : fieldOff P 229 0 = some 0 := by kernel_rfl
theorem f229_1 : fieldOff P 229 1 = some 1 := by kernel_rfl
theorem f229_2 : fieldOff P 229 2 = some 2 := by kernel_rfl
theorem f229_3 : fieldOff P 229 3 = some 3 := by kernel_rfl
theorem f256_0 : fieldOff P 256 0 = some 0 := by kernel_rfl
theorem f256_1 : fieldOff P 256 1 = some 1 := by kernel_rfl
theorem f256_2 : fieldOff P 256 2 = some 2 := by kernel_rfl
theorem f256_3 : fieldOff P 256 3 = some 3 := by kernel_rfl
theorem f256_4 : fieldOff P 256 4 = some 4 := by kernel_rfl
theorem f256_5 : fieldOff P 256 5 = some 5 := by kernel_rfl
theorem f256_6 : fieldOff P 256 6 = some 6 := by kernel_rfl
theorem f271_0 : fieldOff P 271 0 = some 0 := by kernel_rfl
theorem f271_2 : fieldOff P 271 2 = some 2 := by kernel_rfl
theorem f271_3 : fieldOff P 271 3 = some 3 := by kernel_rfl
theorem f271_5 : fieldOff P 271 5 = some 5 := by kernel_rfl
theorem f271_6 : fieldOff P 271 6 = some 6 := by kernel_rfl
theorem f271_7 : fieldOff P 271 7 = some 7 := by kernel_rfl
theorem f280_0 : fieldOff P 280 0 = some 0 := by kernel_rfl
theorem f280_1 : fieldOff P 280 1 = some 1 := by kernel_rfl
theorem f283_0 : fieldOff P 283 0 = some 0 := by kernel_rfl
theorem f283_1 : fieldOff P 283 1 = some 1 := by kernel_rfl
theorem f283_2 : fieldOff P 283 2 = some 2 := by kernel_rfl
theorem f293_0 : fieldOff P 293 0 = some 0 := by kernel_rfl
theorem f293_1 : fieldOff P 293 1 = some 1 := by kernel_rfl
theorem z31 : zeroOf P 31 = some ([.bool false, .string ⟨#[]⟩, .slice none 0 0]) := by kernel_rfl
theorem z36 : zeroOf P 36 = some ([.string ⟨#[]⟩, .string ⟨#[]⟩, .string ⟨#[]⟩, .bool false, .int .i64 0, .int .i64 0, .int .i64 0, .int .i64 0, .int .i64 0, .int .i64 0, .int .i64 0, .int .i64 0, .int .i64 0, .int .i64 0]) := by kernel_rfl
theorem z38 : zeroOf P 38 = some ([.string ⟨#[]⟩, .string ⟨#[]⟩, .string ⟨#[]⟩, .bool false, .int .i64 0, .int .i64 0, .int .i64 0, .int .i64 0, .int .i64 0, .int .i64 0, .int .i64 0, .int .i64 0, .int .i64 0, .int .i64 0, .string ⟨#[]⟩]) := by kernel_rfl
theorem z46 : zeroOf P 46 = some ([.string ⟨#[]⟩, .string ⟨#[]⟩, .string ⟨#[]⟩, .bool false, .int .i64 0, .int .i64 0, .int .i64 0, .int .i64 0, .int .i64 0, .int .i64 0, .int .i64 0, .int .i64 0, .int .i64 0, .int .i64 0, .int .i64 0, .string ⟨#[]⟩]) := by kernel_rfl
theorem z68 : zeroOf P 68 = some ([.nilIface, .slice none 0 0, .string ⟨#[]⟩, .map none, .int .i64 0]) := by kernel_rfl
theorem z76 : zeroOf P 76 = some ([.int .u64 0, .int .i64 0, .pointer none]) := by kernel_rfl
theorem z131 : zeroOf P 131 = some ([.int .u8 0, .int .u8 0, .int .u8 0, .int .u8 0, .int .u8 0, .int .u8 0, .int .u8 0, .int .u8 0, .int .u8 0]) := by kernel_rfl
theorem z133 : zeroOf P 133 = some ([.slice none 0 0]) := by kernel_rfl
theorem z145 : zeroOf P 145 = some ([.int .u32 0]) := by kernel_rfl
theorem z197 : zeroOf P 197 = some (List.replicate 30 (.int .u8 0)) := by kernel_rfl
theorem z198 : zeroOf P 198 = some (List.replicate 28 (.int .u8 0)) := by kernel_rfl
theorem z199 : zeroOf P 199 = some (List.replicate 46 (.int .u8 0)) := by kernel_rfl
theorem z200 : zeroOf P 200 = some (List.replicate 76 (.int .u8 0)) := by kernel_rfl
theorem z201 : zeroOf P 201 = some ([.int .u8 0, .int .u8 0, .int .u8 0, .int .u8 0, .int .u8 0, .int .u8 0, .int .u8 0, .int .u8 0, .int .u8 0, .int .u8 0, .int .u8 0, .int .u8 0, .int .u8 0, .int .u8 0, .int .u8 0, .int .u8 0, .int .u8 0, .int .u8 0, .int .u8 0, .int .u8 0, .int .u8 0, .int .u8 0]) := by kernel_rfl
theorem z204 : zeroOf P 204 = some ([.slice none 0 0]) := by kernel_rfl
theorem z256 : zeroOf P 256 = some ([.slice none 0 0, .nilIface, .int .i64 0, .int .i64 0, .nilIface, .int .i64 0, .int .i64 0]) := by kernel_rfl
theorem z280 : zeroOf P 280 = some ([.int .u8 0, .int .u8 0]) := by kernel_rfl
theorem z293 : zeroOf P 293 = some ([.int .i64 0, .int .u8 0, .bool false, .bool false]) := by kernel_rfl
theorem z320 : zeroOf P 320 = some (List.replicate 2048 (.int .u32 0)) := by kernel_rfl
theorem z323 : zeroOf P 323 = some ([.int .u8 0, .int .u8 0, .int .u8 0, .int .u8 0, .int .u8 0, .int .u8 0, .int .u8 0, .int .u8 0, .int .u8 0, .int .u8 0, .int .u8 0, .int .u8 0, .int .u8 0, .int .u8 0, .int .u8 0, .int .u8 0]) := by kernel_rfl
theorem z2 : zeroOf P 2 = some ([.int .i64 0]) := by kernel_rfl
theorem info2 : (P.info? 2).map (fun i => (i.zero, i.size, i.bytes)) = some (some (.int .i64 0), 1, 8) := by kernel_rfl
theorem z5 : zeroOf P 5 = some ([.int .u8 0]) := by kernel_rfl
theorem info5 : (P.info? 5).map (fun i => (i.zero, i.size, i.bytes)) = some (some (.int .u8 0), 1, 1) := by kernel_rfl
theorem info36 : (P.info? 36).map (fun i => (i.zero, i.size, i.bytes)) = some (some (.agg #[.string ⟨#[]⟩, .string ⟨#[]⟩, .string ⟨#[]⟩, .bool false, .int .i64 0, .int .i64 0, .int .i64 0, .int .i64 0, .int .i64 0, .int .i64 0, .int .i64 0, .int .i64 0, .int .i64 0, .int .i64 0]), 14, 136) := by kernel_rfl
theorem info38 : (P.info? 38).map (fun i => (i.zero, i.size, i.bytes)) = some (some (.agg #[.string ⟨#[]⟩, .string ⟨#[]⟩, .string ⟨#[]⟩, .bool false, .int .i64 0, .int .i64 0, .int .i64 0, .int .i64 0, .int .i64 0, .int .i64 0, .int .i64 0, .int .i64 0, .int .i64 0, .int .i64 0, .string ⟨#[]⟩]), 15, 152) := by kernel_rfl
theorem info46 : (P.info? 46).map (fun i => (i.zero, i.size, i.bytes)) = some (some (.agg #[.string ⟨#[]⟩, .string ⟨#[]⟩, .string ⟨#[]⟩, .bool false, .int .i64 0, .int .i64 0, .int .i64 0, .int .i64 0, .int .i64 0, .int .i64 0, .int .i64 0, .int .i64 0, .int .i64 0, .int .i64 0, .int .i64 0, .string ⟨#[]⟩]), 16, 160) := by kernel_rfl
theorem z69 : zeroOf P 69 = some ([.pointer none]) := by kernel_rfl
theorem info69 : (P.info? 69).map (fun i => (i.zero, i.size, i.bytes)) = some (some (.pointer none), 1, 8) := by kernel_rfl
theorem z137 : zeroOf P 137 = some ([.pointer none]) := by kernel_rfl
theorem info137 : (P.info? 137).map (fun i => (i.zero, i.size, i.bytes)) = some (some (.pointer none), 1, 8) := by kernel_rfl
theorem z283 : zeroOf P 283 = some ([.string ⟨#[]⟩, .int .i64 0, .bool false]) := by kernel_rfl
theorem info283 : (P.info? 283).map (fun i => (i.zero, i.size, i.bytes)) = some (some (.agg #[.string ⟨#[]⟩, .int .i64 0, .bool false]), 3, 32) := by kernel_rfl
theorem info293 : (P.info? 293).map (fun i => (i.zero, i.size, i.bytes)) = some (some (.agg #[.int .i64 0, .int .u8 0, .bool false, .bool false]), 4, 16) := by kernel_rfl
theorem mixed : P.follows .mixedOrders = true := by kernel_rfl
end Go.Proofs.YtlmefkhglooepaaGreatDoor
namespace Go.Proofs.YtlmefkhglooepaaGreatDoor
open Go
theorem one_cells {v : Value} (h : v.oneCell' = true) : v.cells = #[v] := by cases v <;> simp_all [Value.cells, Value.oneCell']
theorem agg_cells (cs : Array Value) : (Value.agg cs).cells = cs := rfl
theorem m61_ReadAt (v : Value) (vs : Array Value) (w : World) : (callMethod (.iface 61 v) "ReadAt" vs).run P w = .ok (.enter 172 (#[v] ++ vs)) w := by kernel_rfl
theorem m83_Write (v : Value) (vs : Array Value) (w : World) : (callMethod (.iface 83 v) "Write" vs).run P w = .ok (.enter 176 (#[v] ++ vs)) w := by kernel_rfl
theorem m117_Write (v : Value) (vs : Array Value) (w : World) : (callMethod (.iface 117 v) "Write" vs).run P w = .ok (.enter 94 (#[v] ++ vs)) w := by kernel_rfl
theorem m118_Write (v : Value) (vs : Array Value) (w : World) : (callMethod (.iface 118 v) "Write" vs).run P w = .ok (.enter 181 (#[v] ++ vs)) w := by kernel_rfl
theorem m123_Write (v : Value) (vs : Array Value) (w : World) : (callMethod (.iface 123 v) "Write" vs).run P w = .ok (.enter 183 (#[v] ++ vs)) w := by kernel_rfl
theorem m142_Write (v : Value) (vs : Array Value) (w : World) : (callMethod (.iface 142 v) "Write" vs).run P w = .ok (.enter 191 (#[v] ++ vs)) w := by kernel_rfl
theorem m161_Read (v : Value) (vs : Array Value) (w : World) : (callMethod (.iface 161 v) "Read" vs).run P w = .ok (.enter 193 (#[v] ++ vs)) w := by kernel_rfl
theorem m164_Read (v : Value) (vs : Array Value) (w : World) : (callMethod (.iface 164 v) "Read" vs).run P w = .ok (.enter 194 (#[v] ++ vs)) w := by kernel_rfl
theorem m164_ReadAt (v : Value) (vs : Array Value) (w : World) : (callMethod (.iface 164 v) "ReadAt" vs).run P w = .ok (.enter 195 (#[v] ++ vs)) w := by kernel_rfl
theorem m171_Read (v : Value) (vs : Array Value) (w : World) : (callMethod (.iface 171 v) "Read" vs).run P w = .ok (.enter 198 (#[v] ++ vs)) w := by kernel_rfl
theorem m183_Read (v : Value) (vs : Array Value) (w : World) : (callMethod (.iface 183 v) "Read" vs).run P w = .ok (.enter 201 (#[v] ++ vs)) w := by kernel_rfl
theorem m291_Read (T : TypeId) (v : Value) (vs : Array Value) (w : World) : (callMethod (.iface 291 (.agg #[.iface 164 v])) "Read" vs).run P w = .ok (.enter 194 (#[v] ++ vs)) w := by kernel_rfl
theorem pl31 (parts) : P.built 31 parts = Instr.fill (#[(0, 1), (1, 1), (2, 1)][·]?) #[.bool false, .string ⟨#[]⟩, .slice none 0 0] parts := by kernel_rfl
theorem pl36 (parts) : P.built 36 parts = Instr.fill (#[(0, 1), (1, 1), (2, 1), (3, 1), (4, 1), (5, 1), (6, 1), (7, 1), (8, 1), (9, 1), (10, 1), (11, 1), (12, 1), (13, 1)][·]?) #[.string ⟨#[]⟩, .string ⟨#[]⟩, .string ⟨#[]⟩, .bool false, .int .i64 0, .int .i64 0, .int .i64 0, .int .i64 0, .int .i64 0, .int .i64 0, .int .i64 0, .int .i64 0, .int .i64 0, .int .i64 0] parts := by kernel_rfl
theorem pl38 (parts) : P.built 38 parts = Instr.fill (#[(0, 14), (14, 1)][·]?) #[.string ⟨#[]⟩, .string ⟨#[]⟩, .string ⟨#[]⟩, .bool false, .int .i64 0, .int .i64 0, .int .i64 0, .int .i64 0, .int .i64 0, .int .i64 0, .int .i64 0, .int .i64 0, .int .i64 0, .int .i64 0, .string ⟨#[]⟩] parts := by kernel_rfl
theorem pl46 (parts) : P.built 46 parts = Instr.fill (#[(0, 14), (14, 1), (15, 1)][·]?) #[.string ⟨#[]⟩, .string ⟨#[]⟩, .string ⟨#[]⟩, .bool false, .int .i64 0, .int .i64 0, .int .i64 0, .int .i64 0, .int .i64 0, .int .i64 0, .int .i64 0, .int .i64 0, .int .i64 0, .int .i64 0, .int .i64 0, .string ⟨#[]⟩] parts := by kernel_rfl
theorem pl76 (parts) : P.built 76 parts = Instr.fill (#[(0, 1), (1, 1), (2, 1)][·]?) #[.int .u64 0, .int .i64 0, .pointer none] parts := by kernel_rfl
theorem pl80 (parts) : P.built 80 parts = Instr.fill (#[(0, 1), (1, 1), (2, 1), (3, 1), (4, 1), (5, 1), (6, 1), (7, 3), (10, 1), (11, 1), (12, 1), (13, 1), (14, 1), (15, 1), (16, 1), (17, 1), (18, 1)][·]?) #[.string ⟨#[]⟩, .string ⟨#[]⟩, .bool false, .int .u16 0, .int .u16 0, .int .u16 0, .int .u16 0, .int .u64 0, .int .i64 0, .pointer none, .int .u16 0, .int .u16 0, .int .u32 0, .int .u32 0, .int .u32 0, .int .u64 0, .int .u64 0, .slice none 0 0, .int .u32 0] parts := by kernel_rfl
theorem pl82 (parts) : P.built 82 parts = Instr.fill (#[(0, 19), (19, 1), (20, 1), (21, 1)][·]?) #[.string ⟨#[]⟩, .string ⟨#[]⟩, .bool false, .int .u16 0, .int .u16 0, .int .u16 0, .int .u16 0, .int .u64 0, .int .i64 0, .pointer none, .int .u16 0, .int .u16 0, .int .u32 0, .int .u32 0, .int .u32 0, .int .u64 0, .int .u64 0, .slice none 0 0, .int .u32 0, .pointer none, .nilIface, .int .i64 0] parts := by kernel_rfl
theorem pl85 (parts) : P.built 85 parts = Instr.fill (#[(0, 1), (1, 1)][·]?) #[.pointer none, .slice none 0 0] parts := by kernel_rfl
theorem pl116 (parts) : P.built 116 parts = Instr.fill (#[(0, 1), (1, 1), (2, 1)][·]?) #[.string ⟨#[]⟩, .int .i64 0, .int .i64 0] parts := by kernel_rfl
theorem pl121 (parts) : P.built 121 parts = Instr.fill (#[(0, 1), (1, 1)][·]?) #[.nilIface, .int .i64 0] parts := by kernel_rfl
theorem pl127 (parts) : P.built 127 parts = Instr.fill (#[(0, 1), (1, 1), (2, 1), (3, 1), (4, 1), (5, 1), (6, 1)][·]?) #[.pointer none, .slice none 0 0, .pointer none, .bool false, .map none, .string ⟨#[]⟩, .nilFunc] parts := by kernel_rfl
theorem pl139 (parts) : P.built 139 parts = Instr.fill (#[(0, 1), (1, 1), (2, 1)][·]?) #[.pointer none, .int .u64 0, .bool false] parts := by kernel_rfl
theorem pl142 (parts) : P.built 142 parts = Instr.fill (#[][·]?) #[] parts := by kernel_rfl
theorem pl149 (parts) : P.built 149 parts = Instr.fill (#[(0, 1), (1, 1), (2, 1), (3, 1), (4, 1), (5, 1), (6, 1)][·]?) #[.pointer none, .nilIface, .pointer none, .nilIface, .pointer none, .pointer none, .bool false] parts := by kernel_rfl
theorem pl163 (parts) : P.built 163 parts = Instr.fill (#[(0, 1)][·]?) #[.nilIface] parts := by kernel_rfl
theorem pl173 (parts) : P.built 173 parts = Instr.fill (#[(0, 1), (1, 1), (2, 1), (3, 1), (4, 1), (5, 1)][·]?) #[.nilIface, .pointer none, .int .u64 0, .pointer none, .nilIface, .nilIface] parts := by kernel_rfl
theorem pl176 (parts) : P.built 176 parts = Instr.fill (#[(0, 1)][·]?) #[.string ⟨#[]⟩] parts := by kernel_rfl
theorem pl181 (parts) : P.built 181 parts = Instr.fill (#[(0, 1), (1, 1), (2, 1), (3, 1), (4, 1), (5, 1), (6, 1), (7, 1)][·]?) #[.int .u32 0, .int .u32 0, .int .u64 0, .int .u64 0, .int .u64 0, .int .u64 0, .int .u16 0, .string ⟨#[]⟩] parts := by kernel_rfl
theorem pl208 (parts) : P.built 208 parts = Instr.fill (#[(0, 1), (1, 1), (2, 1), (3, 1), (4, 1)][·]?) #[.nilIface, .int .i64 0, .int .i64 0, .int .i64 0, .int .i64 0] parts := by kernel_rfl
theorem pl229 (parts) : P.built 229 parts = Instr.fill (#[(0, 1), (1, 1), (2, 1), (3, 1)][·]?) #[.nilIface, .slice none 0 0, .int .i64 0, .nilIface] parts := by kernel_rfl
theorem pl249 (parts) : P.built 249 parts = Instr.fill (#[(0, 1)][·]?) #[.nilIface] parts := by kernel_rfl
theorem pl256 (parts) : P.built 256 parts = Instr.fill (#[(0, 1), (1, 1), (2, 1), (3, 1), (4, 1), (5, 1), (6, 1)][·]?) #[.slice none 0 0, .nilIface, .int .i64 0, .int .i64 0, .nilIface, .int .i64 0, .int .i64 0] parts := by kernel_rfl
theorem pl271 (parts) : P.built 271 parts = Instr.fill (#[(0, 1), (1, 1), (2, 1), (3, 1), (4, 1), (5, 1), (6, 1), (7, 1)][·]?) #[.bool false, .string ⟨#[]⟩, .slice none 0 0, .slice none 0 0, .string ⟨#[]⟩, .int .i64 0, .int .i64 0, .pointer none] parts := by kernel_rfl
theorem pl283 (parts) : P.built 283 parts = Instr.fill (#[(0, 1), (1, 1), (2, 1)][·]?) #[.string ⟨#[]⟩, .int .i64 0, .bool false] parts := by kernel_rfl
theorem pl290 (parts) : P.built 290 parts = Instr.fill (#[(0, 1)][·]?) #[.nilIface] parts := by kernel_rfl
theorem pl291 (parts) : P.built 291 parts = Instr.fill (#[(0, 1)][·]?) #[.nilIface] parts := by kernel_rfl
theorem pl293 (parts) : P.built 293 parts = Instr.fill (#[(0, 1), (1, 1), (2, 1), (3, 1)][·]?) #[.int .i64 0, .int .u8 0, .bool false, .bool false] parts := by kernel_rfl
theorem bd31   : P.built 31 [] = some #[.bool false, .string ⟨#[]⟩, .slice none 0 0] := by
  rw [pl31]; simp [Instr.fill]
theorem bd31_0_1 {v0 v1 : Value} (h0 : v0.oneCell' = true := by rfl) (h1 : v1.oneCell' = true := by rfl) : P.built 31 [(0, v0), (1, v1)] = some #[v0, v1, .slice none 0 0] := by
  rw [pl31]; simp [Instr.fill, one_cells h0, one_cells h1]
theorem bd36_0 {v0 : Value} (h0 : v0.oneCell' = true := by rfl) : P.built 36 [(0, v0)] = some #[v0, .string ⟨#[]⟩, .string ⟨#[]⟩, .bool false, .int .i64 0, .int .i64 0, .int .i64 0, .int .i64 0, .int .i64 0, .int .i64 0, .int .i64 0, .int .i64 0, .int .i64 0, .int .i64 0] := by
  rw [pl36]; simp [Instr.fill, one_cells h0]
theorem bd36_0_1_2_3_4_5_6_7_8_9_10_11_12_13 {v0 v1 v2 v3 v4 v5 v6 v7 v8 v9 v10 v11 v12 v13 : Value} (h0 : v0.oneCell' = true := by rfl) (h1 : v1.oneCell' = true := by rfl) (h2 : v2.oneCell' = true := by rfl) (h3 : v3.oneCell' = true := by rfl) (h4 : v4.oneCell' = true := by rfl) (h5 : v5.oneCell' = true := by rfl) (h6 : v6.oneCell' = true := by rfl) (h7 : v7.oneCell' = true := by rfl) (h8 : v8.oneCell' = true := by rfl) (h9 : v9.oneCell' = true := by rfl) (h10 : v10.oneCell' = true := by rfl) (h11 : v11.oneCell' = true := by rfl) (h12 : v12.oneCell' = true := by rfl) (h13 : v13.oneCell' = true := by rfl) : P.built 36 [(0, v0), (1, v1), (2, v2), (3, v3), (4, v4), (5, v5), (6, v6), (7, v7), (8, v8), (9, v9), (10, v10), (11, v11), (12, v12), (13, v13)] = some #[v0, v1, v2, v3, v4, v5, v6, v7, v8, v9, v10, v11, v12, v13] := by
  rw [pl36]; simp [Instr.fill, one_cells h0, one_cells h1, one_cells h2, one_cells h3, one_cells h4, one_cells h5, one_cells h6, one_cells h7, one_cells h8, one_cells h9, one_cells h10, one_cells h11, one_cells h12, one_cells h13]
theorem bd36_4_5_6_7_8_9_10_11_12_13 {v4 v5 v6 v7 v8 v9 v10 v11 v12 v13 : Value} (h4 : v4.oneCell' = true := by rfl) (h5 : v5.oneCell' = true := by rfl) (h6 : v6.oneCell' = true := by rfl) (h7 : v7.oneCell' = true := by rfl) (h8 : v8.oneCell' = true := by rfl) (h9 : v9.oneCell' = true := by rfl) (h10 : v10.oneCell' = true := by rfl) (h11 : v11.oneCell' = true := by rfl) (h12 : v12.oneCell' = true := by rfl) (h13 : v13.oneCell' = true := by rfl) : P.built 36 [(4, v4), (5, v5), (6, v6), (7, v7), (8, v8), (9, v9), (10, v10), (11, v11), (12, v12), (13, v13)] = some #[.string ⟨#[]⟩, .string ⟨#[]⟩, .string ⟨#[]⟩, .bool false, v4, v5, v6, v7, v8, v9, v10, v11, v12, v13] := by
  rw [pl36]; simp [Instr.fill, one_cells h4, one_cells h5, one_cells h6, one_cells h7, one_cells h8, one_cells h9, one_cells h10, one_cells h11, one_cells h12, one_cells h13]
theorem bd38_0_1 {v0_0 v0_1 v0_2 v0_3 v0_4 v0_5 v0_6 v0_7 v0_8 v0_9 v0_10 v0_11 v0_12 v0_13 v1 : Value} (h1 : v1.oneCell' = true := by rfl) : P.built 38 [(0, .agg #[v0_0, v0_1, v0_2, v0_3, v0_4, v0_5, v0_6, v0_7, v0_8, v0_9, v0_10, v0_11, v0_12, v0_13]), (1, v1)] = some #[v0_0, v0_1, v0_2, v0_3, v0_4, v0_5, v0_6, v0_7, v0_8, v0_9, v0_10, v0_11, v0_12, v0_13, v1] := by
  rw [pl38]; simp [Instr.fill, agg_cells, one_cells h1]
theorem bd46   : P.built 46 [] = some #[.string ⟨#[]⟩, .string ⟨#[]⟩, .string ⟨#[]⟩, .bool false, .int .i64 0, .int .i64 0, .int .i64 0, .int .i64 0, .int .i64 0, .int .i64 0, .int .i64 0, .int .i64 0, .int .i64 0, .int .i64 0, .int .i64 0, .string ⟨#[]⟩] := by
  rw [pl46]; simp [Instr.fill]
theorem bd46_0_1 {v0_0 v0_1 v0_2 v0_3 v0_4 v0_5 v0_6 v0_7 v0_8 v0_9 v0_10 v0_11 v0_12 v0_13 v1 : Value} (h1 : v1.oneCell' = true := by rfl) : P.built 46 [(0, .agg #[v0_0, v0_1, v0_2, v0_3, v0_4, v0_5, v0_6, v0_7, v0_8, v0_9, v0_10, v0_11, v0_12, v0_13]), (1, v1)] = some #[v0_0, v0_1, v0_2, v0_3, v0_4, v0_5, v0_6, v0_7, v0_8, v0_9, v0_10, v0_11, v0_12, v0_13, v1, .string ⟨#[]⟩] := by
  rw [pl46]; simp [Instr.fill, agg_cells, one_cells h1]
theorem bd76_0_1_2 {v0 v1 v2 : Value} (h0 : v0.oneCell' = true := by rfl) (h1 : v1.oneCell' = true := by rfl) (h2 : v2.oneCell' = true := by rfl) : P.built 76 [(0, v0), (1, v1), (2, v2)] = some #[v0, v1, v2] := by
  rw [pl76]; simp [Instr.fill, one_cells h0, one_cells h1, one_cells h2]
theorem bd80_0_1_2_6_16 {v0 v1 v2 v6 v16 : Value} (h0 : v0.oneCell' = true := by rfl) (h1 : v1.oneCell' = true := by rfl) (h2 : v2.oneCell' = true := by rfl) (h6 : v6.oneCell' = true := by rfl) (h16 : v16.oneCell' = true := by rfl) : P.built 80 [(0, v0), (1, v1), (2, v2), (6, v6), (16, v16)] = some #[v0, v1, v2, .int .u16 0, .int .u16 0, .int .u16 0, v6, .int .u64 0, .int .i64 0, .pointer none, .int .u16 0, .int .u16 0, .int .u32 0, .int .u32 0, .int .u32 0, .int .u64 0, .int .u64 0, .slice none 0 0, v16] := by
  rw [pl80]; simp [Instr.fill, one_cells h0, one_cells h1, one_cells h2, one_cells h6, one_cells h16]
theorem bd82   : P.built 82 [] = some #[.string ⟨#[]⟩, .string ⟨#[]⟩, .bool false, .int .u16 0, .int .u16 0, .int .u16 0, .int .u16 0, .int .u64 0, .int .i64 0, .pointer none, .int .u16 0, .int .u16 0, .int .u32 0, .int .u32 0, .int .u32 0, .int .u64 0, .int .u64 0, .slice none 0 0, .int .u32 0, .pointer none, .nilIface, .int .i64 0] := by
  rw [pl82]; simp [Instr.fill]
theorem bd82_1_2 {v1 v2 : Value} (h1 : v1.oneCell' = true := by rfl) (h2 : v2.oneCell' = true := by rfl) : P.built 82 [(1, v1), (2, v2)] = some #[.string ⟨#[]⟩, .string ⟨#[]⟩, .bool false, .int .u16 0, .int .u16 0, .int .u16 0, .int .u16 0, .int .u64 0, .int .i64 0, .pointer none, .int .u16 0, .int .u16 0, .int .u32 0, .int .u32 0, .int .u32 0, .int .u64 0, .int .u64 0, .slice none 0 0, .int .u32 0, v1, v2, .int .i64 0] := by
  rw [pl82]; simp [Instr.fill, one_cells h1, one_cells h2]
theorem bd85   : P.built 85 [] = some #[.pointer none, .slice none 0 0] := by
  rw [pl85]; simp [Instr.fill]
theorem bd116_0_1_2 {v0 v1 v2 : Value} (h0 : v0.oneCell' = true := by rfl) (h1 : v1.oneCell' = true := by rfl) (h2 : v2.oneCell' = true := by rfl) : P.built 116 [(0, v0), (1, v1), (2, v2)] = some #[v0, v1, v2] := by
  rw [pl116]; simp [Instr.fill, one_cells h0, one_cells h1, one_cells h2]
theorem bd121_0 {v0 : Value} (h0 : v0.oneCell' = true := by rfl) : P.built 121 [(0, v0)] = some #[v0, .int .i64 0] := by
  rw [pl121]; simp [Instr.fill, one_cells h0]
theorem bd127_0 {v0 : Value} (h0 : v0.oneCell' = true := by rfl) : P.built 127 [(0, v0)] = some #[v0, .slice none 0 0, .pointer none, .bool false, .map none, .string ⟨#[]⟩, .nilFunc] := by
  rw [pl127]; simp [Instr.fill, one_cells h0]
theorem bd139_0_1 {v0 v1 : Value} (h0 : v0.oneCell' = true := by rfl) (h1 : v1.oneCell' = true := by rfl) : P.built 139 [(0, v0), (1, v1)] = some #[v0, v1, .bool false] := by
  rw [pl139]; simp [Instr.fill, one_cells h0, one_cells h1]
theorem bd142   : P.built 142 [] = some #[] := by
  rw [pl142]; simp [Instr.fill]
theorem bd149_1_4_5 {v1 v4 v5 : Value} (h1 : v1.oneCell' = true := by rfl) (h4 : v4.oneCell' = true := by rfl) (h5 : v5.oneCell' = true := by rfl) : P.built 149 [(1, v1), (4, v4), (5, v5)] = some #[.pointer none, v1, .pointer none, .nilIface, v4, v5, .bool false] := by
  rw [pl149]; simp [Instr.fill, one_cells h1, one_cells h4, one_cells h5]
theorem bd163_0 {v0 : Value} (h0 : v0.oneCell' = true := by rfl) : P.built 163 [(0, v0)] = some #[v0] := by
  rw [pl163]; simp [Instr.fill, one_cells h0]
theorem bd173_0_1_3_4 {v0 v1 v3 v4 : Value} (h0 : v0.oneCell' = true := by rfl) (h1 : v1.oneCell' = true := by rfl) (h3 : v3.oneCell' = true := by rfl) (h4 : v4.oneCell' = true := by rfl) : P.built 173 [(0, v0), (1, v1), (3, v3), (4, v4)] = some #[v0, v1, .int .u64 0, v3, v4, .nilIface] := by
  rw [pl173]; simp [Instr.fill, one_cells h0, one_cells h1, one_cells h3, one_cells h4]
theorem bd176_0 {v0 : Value} (h0 : v0.oneCell' = true := by rfl) : P.built 176 [(0, v0)] = some #[v0] := by
  rw [pl176]; simp [Instr.fill, one_cells h0]
theorem bd181_0_1_2_3_4_5_6 {v0 v1 v2 v3 v4 v5 v6 : Value} (h0 : v0.oneCell' = true := by rfl) (h1 : v1.oneCell' = true := by rfl) (h2 : v2.oneCell' = true := by rfl) (h3 : v3.oneCell' = true := by rfl) (h4 : v4.oneCell' = true := by rfl) (h5 : v5.oneCell' = true := by rfl) (h6 : v6.oneCell' = true := by rfl) : P.built 181 [(0, v0), (1, v1), (2, v2), (3, v3), (4, v4), (5, v5), (6, v6)] = some #[v0, v1, v2, v3, v4, v5, v6, .string ⟨#[]⟩] := by
  rw [pl181]; simp [Instr.fill, one_cells h0, one_cells h1, one_cells h2, one_cells h3, one_cells h4, one_cells h5, one_cells h6]
theorem bd208_0_1_2_3_4 {v0 v1 v2 v3 v4 : Value} (h0 : v0.oneCell' = true := by rfl) (h1 : v1.oneCell' = true := by rfl) (h2 : v2.oneCell' = true := by rfl) (h3 : v3.oneCell' = true := by rfl) (h4 : v4.oneCell' = true := by rfl) : P.built 208 [(0, v0), (1, v1), (2, v2), (3, v3), (4, v4)] = some #[v0, v1, v2, v3, v4] := by
  rw [pl208]; simp [Instr.fill, one_cells h0, one_cells h1, one_cells h2, one_cells h3, one_cells h4]
theorem bd229_1_3 {v1 v3 : Value} (h1 : v1.oneCell' = true := by rfl) (h3 : v3.oneCell' = true := by rfl) : P.built 229 [(1, v1), (3, v3)] = some #[.nilIface, v1, .int .i64 0, v3] := by
  rw [pl229]; simp [Instr.fill, one_cells h1, one_cells h3]
theorem bd249_0 {v0 : Value} (h0 : v0.oneCell' = true := by rfl) : P.built 249 [(0, v0)] = some #[v0] := by
  rw [pl249]; simp [Instr.fill, one_cells h0]
theorem bd256_0_1_5_6 {v0 v1 v5 v6 : Value} (h0 : v0.oneCell' = true := by rfl) (h1 : v1.oneCell' = true := by rfl) (h5 : v5.oneCell' = true := by rfl) (h6 : v6.oneCell' = true := by rfl) : P.built 256 [(0, v0), (1, v1), (5, v5), (6, v6)] = some #[v0, v1, .int .i64 0, .int .i64 0, .nilIface, v5, v6] := by
  rw [pl256]; simp [Instr.fill, one_cells h0, one_cells h1, one_cells h5, one_cells h6]
theorem bd271_1_0 {v1 v0 : Value} (h1 : v1.oneCell' = true := by rfl) (h0 : v0.oneCell' = true := by rfl) : P.built 271 [(1, v1), (0, v0)] = some #[v0, v1, .slice none 0 0, .slice none 0 0, .string ⟨#[]⟩, .int .i64 0, .int .i64 0, .pointer none] := by
  rw [pl271]; simp [Instr.fill, one_cells h1, one_cells h0]
theorem bd271_1_2_3_5_6 {v1 v2 v3 v5 v6 : Value} (h1 : v1.oneCell' = true := by rfl) (h2 : v2.oneCell' = true := by rfl) (h3 : v3.oneCell' = true := by rfl) (h5 : v5.oneCell' = true := by rfl) (h6 : v6.oneCell' = true := by rfl) : P.built 271 [(1, v1), (2, v2), (3, v3), (5, v5), (6, v6)] = some #[.bool false, v1, v2, v3, .string ⟨#[]⟩, v5, v6, .pointer none] := by
  rw [pl271]; simp [Instr.fill, one_cells h1, one_cells h2, one_cells h3, one_cells h5, one_cells h6]
theorem bd283_0_1_2 {v0 v1 v2 : Value} (h0 : v0.oneCell' = true := by rfl) (h1 : v1.oneCell' = true := by rfl) (h2 : v2.oneCell' = true := by rfl) : P.built 283 [(0, v0), (1, v1), (2, v2)] = some #[v0, v1, v2] := by
  rw [pl283]; simp [Instr.fill, one_cells h0, one_cells h1, one_cells h2]
theorem bd290_0 {v0 : Value} (h0 : v0.oneCell' = true := by rfl) : P.built 290 [(0, v0)] = some #[v0] := by
  rw [pl290]; simp [Instr.fill, one_cells h0]
theorem bd291_0 {v0 : Value} (h0 : v0.oneCell' = true := by rfl) : P.built 291 [(0, v0)] = some #[v0] := by
  rw [pl291]; simp [Instr.fill, one_cells h0]
theorem bd293_0_1_2_3 {v0 v1 v2 v3 : Value} (h0 : v0.oneCell' = true := by rfl) (h1 : v1.oneCell' = true := by rfl) (h2 : v2.oneCell' = true := by rfl) (h3 : v3.oneCell' = true := by rfl) : P.built 293 [(0, v0), (1, v1), (2, v2), (3, v3)] = some #[v0, v1, v2, v3] := by
  rw [pl293]; simp [Instr.fill, one_cells h0, one_cells h1, one_cells h2, one_cells h3]
end Go.Proofs.YtlmefkhglooepaaGreatDoor
