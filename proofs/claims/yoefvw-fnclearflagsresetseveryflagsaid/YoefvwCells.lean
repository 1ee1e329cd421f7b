/-
  The formatter's cells: program-free laws.
-/
import Derived.Test.YoefvwBase
namespace Go.Proofs.Yoefvw
open Go.RowKit

/-- The formatter's fifteen cells ahead of intbuf, in block F: the pointer, the twelve flags, width, precision. -/
structure FmtAt (T : TypeId) (w : World) (F : Nat) (p : Value) (f : Nat → Bool) (wid prec : Int) : Prop where
  tag : ∃ cs, w.heap[F]? = some (.cells cs T (0, 0))
  c0 : w.cell? ⟨F, 0, none⟩ = some p
  cf : ∀ k, k < 12 → w.cell? ⟨F, 1 + k, none⟩ = some (.bool (f k))
  cw : w.cell? ⟨F, 13, none⟩ = some (.int .i64 wid)
  cp : w.cell? ⟨F, 14, none⟩ = some (.int .i64 prec)

def upd (f : Nat → Bool) (k : Nat) (b : Bool) : Nat → Bool := fun j => if j = k then b else f j

section
variable {T : TypeId} {w w' : World} {F : Nat} {p : Value} {f : Nat → Bool} {wid prec : Int}

theorem FmtAt.fr (h : FmtAt T w F p f wid prec) (k : Nat) : w.frozen? ⟨F, k, none⟩ = false := by
  obtain ⟨cs, hc⟩ := h.tag
  simp [World.frozen?, hc]

theorem FmtAt.lt (h : FmtAt T w F p f wid prec) : F < w.heap.size := by
  obtain ⟨cs, hc⟩ := h.tag
  exact lt_of_block hc

theorem FmtAt.same (h : FmtAt T w F p f wid prec) (hb : w'.heap[F]? = w.heap[F]?) : FmtAt T w' F p f wid prec := by
  have hc : ∀ k, w'.cell? ⟨F, k, none⟩ = w.cell? ⟨F, k, none⟩ := fun k => World.cell?_of_block hb
  exact ⟨by rw [hb]; exact h.tag, by rw [hc]; exact h.c0, fun k hk => by rw [hc]; exact h.cf k hk, by rw [hc]; exact h.cw, by rw [hc]; exact h.cp⟩

theorem tag_setCell (h : ∃ cs, w.heap[F]? = some (.cells cs T (0, 0))) (a : Addr) (u : Value) : ∃ cs, (w.setCell a u).heap[F]? = some (.cells cs T (0, 0)) := by
  obtain ⟨cs, hc⟩ := h
  by_cases hb : F = a.block
  · subst hb
    exact ⟨if a.spot.isSome then cs else cs.setIfInBounds a.off u, by simp [World.setCell, Array.getElem?_modify, hc]⟩
  · exact ⟨cs, by rw [Below.heap_setCell _ _ _ _ hb]; exact hc⟩

theorem grownBy_setCell (w : World) (a : Addr) (u : Value) : w.grownBy (w.setCell a u) (some a.block) :=
  ⟨rfl, rfl, rfl, by simp [World.setCell], fun k _ hk => Below.heap_setCell _ _ _ _ (fun e => hk (by rw [e]))⟩

theorem grownBy_trans {w1 w2 w3 : World} {r : Option Nat} (h : w1.grownBy w2 r) (k : w2.grownBy w3 r) : w1.grownBy w3 r :=
  ⟨k.os.trans h.os, k.tape.trans h.tape, k.output.trans h.output, Nat.le_trans h.size k.size, fun i hi hr => (k.block i (Nat.lt_of_lt_of_le hi h.size) hr).trans (h.block i hi hr)⟩

/-- The cell behind a store into block F at another place, or at this one. -/
theorem cell_set (w : World) (F i j : Nat) (u v : Value) (h : w.cell? ⟨F, j, none⟩ = some v) : (w.setCell ⟨F, i, none⟩ u).cell? ⟨F, j, none⟩ = some (if j = i then u else v) := by
  unfold World.cell? at h ⊢
  simp only [World.setCell, Array.getElem?_modify]
  simp only [if_true]
  cases hq : w.heap[F]? with
  | none => rw [hq] at h; simp at h
  | some o =>
    rw [hq] at h
    cases o with
    | cells cs t fr =>
      simp at h ⊢
      rw [Array.getElem?_setIfInBounds]
      have hj := (Array.getElem?_eq_some_iff.1 h).1
      by_cases e : i = j
      · subst e; simp [hj]
      · have e' : ¬ j = i := fun x => e x.symm
        simp [e, e', h]
    | _ => simp at h

theorem FmtAt.setFlag (h : FmtAt T w F p f wid prec) (k : Nat) (hk : k < 12) (b : Bool) : FmtAt T (w.setCell ⟨F, 1 + k, none⟩ (.bool b)) F p (upd f k b) wid prec := by
  refine ⟨tag_setCell h.tag _ _, ?_, fun j hj => ?_, ?_, ?_⟩
  · rw [cell_set w F _ _ _ _ h.c0, if_neg (by omega)]
  · rw [cell_set w F _ _ _ _ (h.cf j hj)]
    by_cases e : j = k
    · rw [if_pos (by omega)]; simp [upd, e]
    · rw [if_neg (by omega)]; simp [upd, e]
  · rw [cell_set w F _ _ _ _ h.cw, if_neg (by omega)]
  · rw [cell_set w F _ _ _ _ h.cp, if_neg (by omega)]

theorem FmtAt.setWid (h : FmtAt T w F p f wid prec) (n : Int) : FmtAt T (w.setCell ⟨F, 13, none⟩ (.int .i64 n)) F p f n prec := by
  refine ⟨tag_setCell h.tag _ _, ?_, fun j hj => ?_, ?_, ?_⟩
  · rw [cell_set w F _ _ _ _ h.c0, if_neg (by omega)]
  · rw [cell_set w F _ _ _ _ (h.cf j hj), if_neg (by omega)]
  · rw [cell_set w F _ _ _ _ h.cw, if_pos rfl]
  · rw [cell_set w F _ _ _ _ h.cp, if_neg (by omega)]

theorem FmtAt.setPrec (h : FmtAt T w F p f wid prec) (n : Int) : FmtAt T (w.setCell ⟨F, 14, none⟩ (.int .i64 n)) F p f wid n := by
  refine ⟨tag_setCell h.tag _ _, ?_, fun j hj => ?_, ?_, ?_⟩
  · rw [cell_set w F _ _ _ _ h.c0, if_neg (by omega)]
  · rw [cell_set w F _ _ _ _ (h.cf j hj), if_neg (by omega)]
  · rw [cell_set w F _ _ _ _ h.cw, if_neg (by omega)]
  · rw [cell_set w F _ _ _ _ h.cp, if_pos rfl]

theorem FmtAt.setPtr (h : FmtAt T w F p f wid prec) (q : Value) : FmtAt T (w.setCell ⟨F, 0, none⟩ q) F q f wid prec := by
  refine ⟨tag_setCell h.tag _ _, ?_, fun j hj => ?_, ?_, ?_⟩
  · rw [cell_set w F _ _ _ _ h.c0, if_pos rfl]
  · rw [cell_set w F _ _ _ _ (h.cf j hj), if_neg (by omega)]
  · rw [cell_set w F _ _ _ _ h.cw, if_neg (by omega)]
  · rw [cell_set w F _ _ _ _ h.cp, if_neg (by omega)]

/-- The twelve flags stored at once. -/
theorem FmtAt.setFlags (g : Nat → Bool) : ∀ (n k : Nat) (w : World) (f : Nat → Bool), k + n ≤ 12 → FmtAt T w F p f wid prec →
    ∃ f', FmtAt T (w.setCells F (1 + k) ((List.range' k n).map fun j => Value.bool (g j))) F p f' wid prec ∧ w.grownBy (w.setCells F (1 + k) ((List.range' k n).map fun j => Value.bool (g j))) (some F) ∧ ∀ j, f' j = if k ≤ j ∧ j < k + n then g j else f j := by
  intro n
  induction n with
  | zero => exact fun k w f _ h => ⟨f, h, World.grownBy.refl _ _, fun j => by rw [if_neg (by omega)]⟩
  | succ n ih =>
    intro k w f hk h
    obtain ⟨f', h1, h2, h3⟩ := ih (k + 1) (w.setCell ⟨F, 1 + k, none⟩ (.bool (g k))) (upd f k (g k)) (by omega) (h.setFlag k (by omega) _)
    rw [List.range'_succ, List.map_cons, World.setCells]
    rw [show 1 + (k + 1) = 1 + k + 1 from by omega] at h1 h2
    refine ⟨f', h1, grownBy_trans (grownBy_setCell w _ _) h2, fun j => ?_⟩
    rw [h3 j]
    by_cases e : j = k
    · subst e; rw [if_neg (by omega), if_pos (by omega)]; simp [upd]
    · by_cases e2 : k ≤ j ∧ j < k + (n + 1)
      · rw [if_pos (by omega), if_pos e2]
      · rw [if_neg (by omega), if_neg e2]; simp [upd, e]
end
end Go.Proofs.Yoefvw
