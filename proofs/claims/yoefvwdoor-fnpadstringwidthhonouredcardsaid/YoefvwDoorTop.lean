/-
  Shared by the laws' own walks.
-/
import Derived.Test.YoefvwDoorWpad
namespace Go.Proofs.YoefvwDoor
open Go.RowKit

theorem own_form {B : Nat} {w : World} {v : Value} {l : List UInt8} (h : Own B w v l) : ∃ ao c, v = .slice ao l.length c ∧ l.length ≤ c ∧ c ≤ maxLen := by
  rcases h.2 with ⟨rfl, hl⟩ | ⟨g, cap, cur, rfl, _, _, hn, hm, _⟩
  · exact ⟨none, 0, by rw [hl], by omega, by omega⟩
  · exact ⟨_, _, rfl, hn, hm⟩

theorem Reads.pre {w : World} {ao : Option Addr} {l m : List UInt8} {c : Nat} (h : Reads w (.slice ao (l ++ m).length c) (l ++ m)) : Reads w (.slice ao l.length c) l := by
  rcases h with ⟨e, h0⟩ | ⟨x, c', e, h1, h2, h3⟩
  · obtain ⟨rfl, rfl⟩ := List.append_eq_nil_iff.1 h0
    exact .inl ⟨e, rfl⟩
  · injection e with e1 e2 e3
    subst e1; subst e3
    rw [List.length_append] at h1
    refine .inr ⟨x, c, rfl, by omega, h2, fun i d hd => h3 i d ?_⟩
    rw [List.getElem?_append_left (List.getElem?_eq_some_iff.1 hd).1]
    exact hd

theorem Reads.slice {w : World} {v : Value} {l : List UInt8} (h : Reads w v l) : ∃ ao cap, v = .slice ao l.length cap := by
  rcases h with ⟨rfl, rfl⟩ | ⟨a, cap, rfl, _⟩
  · exact ⟨none, 0, rfl⟩
  · exact ⟨_, _, rfl⟩

set_option maxHeartbeats 400000 in
theorem wpadZZ_any (B : Nat) (w : World) (F bx : Nat) (f : Nat → Bool) (wid prec : Int) (l : List UInt8) (h : Fm B w F bx f wid prec l) (n : Int) (hmax : w.cell? ⟨0, 0, none⟩ = some (.int .i64 2147483647)) (hl : l.length ≤ 4194304) (hn : n ≤ 4194304) :
    Calls Efvg.prog 22 #[.pointer (some ⟨F, 0, none⟩), .int .i64 n] w fun e w' => e = .returned (.tuple #[]) ∧ Fm B w' F bx f wid prec (l ++ pads (f 6) n.toNat) ∧ Below B w w' := by
  have K := hide (wpad_any B w F bx f wid prec l h n hmax hl hn)
  clear h hmax
  go_enter Efvg.func22, Efvg.ntmps22
  go_wp2_with (go_at_call 35; refine (unhide K).mono ?_; rintro e w' ⟨rfl, hh⟩)
  go_end0
  exact ⟨rfl, hh⟩

/-- What 'append(out, v...)' asks of its source. -/
theorem src_of {w : World} {ao : Option Addr} {c : Nat} {l : List UInt8} (h : Reads w (.slice ao l.length c) l) :
    (ao = none → l.length = 0 ∧ c = 0) ∧ ∀ ad, ao = some ad → ∀ j u, (bcs l)[j]? = some u → w.cell? (ad.add j) = some u := by
  rcases h with ⟨e, h0⟩ | ⟨x, c', e, h1, h2, h3⟩
  · injection e with e1 e2 e3
    subst e1; subst e3
    exact ⟨fun _ => ⟨e2, rfl⟩, fun ad h => by cases h⟩
  · injection e with e1 e2 e3
    subst e1; subst e3
    refine ⟨fun h => (by cases h), fun ad had j u hu => ?_⟩
    cases had
    rw [bcs_get] at hu
    obtain ⟨b, hb, rfl⟩ := Option.map_eq_some_iff.1 hu
    exact h3 j b hb

theorem src_below {B : Nat} {w w' : World} {ao : Option Addr} {xs : List Value} (h : ∀ ad, ao = some ad → ∀ j u, xs[j]? = some u → w.cell? (ad.add j) = some u) (hb : Below B w w') (hs : w.heap.size ≤ B) :
    ∀ ad, ao = some ad → ∀ j u, xs[j]? = some u → w'.cell? (ad.add j) = some u := fun ad ha j u hu => by
  have hh := h ad ha j u hu
  have := World.block_lt_of_cell? w _ hh
  rw [hb.cell (by omega)]
  exact hh
end Go.Proofs.YoefvwDoor
