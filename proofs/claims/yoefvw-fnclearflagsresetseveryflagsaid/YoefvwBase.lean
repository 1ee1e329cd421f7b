/-
  Program-free laws for this seat: rows of bytes that the call owns, slices that read as bytes, the formatter's cells.
-/
import Derived.WalkKit
import Derived.WalkSpells
import Derived.WalkLawsBesides
import Derived.Laws.CopyOwn
import Derived.Laws.AppendOwnNone
import Derived.Lib.AppendStr
import Derived.Deep.MidRow
import Derived.Deep.AppendLies
namespace Go.Proofs.Yoefvw
open Go.RowKit

theorem hide {p : Prop} (h : p) : Hid p := h
theorem unhide {p : Prop} (h : Hid p) : p := h

/-- Bytes as cells. -/
def bcs (l : List UInt8) : List Value := l.map fun b => Value.int .u8 b.toNat
theorem bcs_length (l : List UInt8) : (bcs l).length = l.length := by simp [bcs]
theorem bcs_append (l m : List UInt8) : bcs (l ++ m) = bcs l ++ bcs m := by simp [bcs]
theorem bcs_one (c : UInt8) : bcs [c] = [Value.int .u8 c.toNat] := rfl
theorem bcs_get (l : List UInt8) (i : Nat) : (bcs l)[i]? = (l[i]?).map fun b => Value.int .u8 b.toNat := by simp [bcs]
theorem bcs_oneCell (l : List UInt8) : ∀ u ∈ bcs l, u.oneCell' = true := by
  intro u hu
  simp only [bcs, List.mem_map] at hu
  obtain ⟨b, _, rfl⟩ := hu
  rfl
theorem bcs_str (s : ByteArray) : Lib.strCells s = bcs s.data.toList := rfl

/-- A slice value that reads as the bytes l, wherever it lies. -/
def Reads (w : World) (v : Value) (l : List UInt8) : Prop :=
  (v = .slice none 0 0 ∧ l = []) ∨
  ∃ a cap, v = .slice (some a) l.length cap ∧ l.length ≤ cap ∧ cap ≤ maxLen ∧ ∀ i c, l[i]? = some c → w.cell? (a.add i) = some (.int .u8 c.toNat)

/-- A slice value that owns a row of the bytes l, among the blocks from B on. -/
def Own (B : Nat) (w : World) (v : Value) (l : List UInt8) : Prop := w.ownsRow B 5 1 v l.length (bcs l)

theorem Own.reads {B : Nat} {w : World} {v : Value} {l : List UInt8} (h : Own B w v l) : Reads w v l := by
  have h1 := h
  rcases h.2 with ⟨rfl, hl⟩ | ⟨g, cap, cur, rfl, hb, hg, hn, hm, hs, ht⟩
  · exact .inl ⟨rfl, List.eq_nil_of_length_eq_zero hl⟩
  · refine .inr ⟨⟨g, 0, none⟩, cap, rfl, hn, hm, fun i c hc => ?_⟩
    exact World.ownsRow.cells h1 (g := g) rfl i _ (by rw [bcs_get, hc]; rfl)

theorem Own.mono {B B' : Nat} {w : World} {v : Value} {l : List UInt8} (h : Own B w v l) (hB : B' ≤ B) : Own B' w v l := by
  refine ⟨h.1, ?_⟩
  rcases h.2 with h2 | ⟨g, cap, cur, hv, hb, r⟩
  · exact .inl h2
  · exact .inr ⟨g, cap, cur, hv, Nat.le_trans hB hb, r⟩

/-- What is owned among the blocks below B' stays owned while only blocks from B' on turn. -/
theorem Own.below {B B' : Nat} {w w' : World} {v : Value} {l : List UInt8} (h : Own B w v l) (hb : Below B' w w') (hs : w.heap.size ≤ B') : Own B w' v l := by
  refine ⟨h.1, ?_⟩
  rcases h.2 with h2 | ⟨g, cap, cur, hv, hg, hh, r⟩
  · exact .inl h2
  · refine .inr ⟨g, cap, cur, hv, hg, ?_, r⟩
    have := lt_of_block hh
    rw [hb.block g (by omega)]
    exact hh

theorem Reads.below {B' : Nat} {w w' : World} {v : Value} {l : List UInt8} (h : Reads w v l) (hb : Below B' w w') (hs : w.heap.size ≤ B') : Reads w' v l := by
  rcases h with h | ⟨a, cap, hv, h1, h2, hc⟩
  · exact .inl h
  · refine .inr ⟨a, cap, hv, h1, h2, fun i c hi => ?_⟩
    have hh := hc i c hi
    have := World.block_lt_of_cell? w _ hh
    rw [hb.cell (by omega)]
    exact hh

theorem Below.of_grown {w w' : World} (h : w.grownBy w' none) : Below w.heap.size w w' :=
  ⟨h.os, h.tape, h.output, h.size, fun k hk => h.block k hk (by simp)⟩

/-- An address at which a byte lies is written out. -/
theorem addr_of_cell {w : World} {a : Addr} {v : Value} (h : w.cell? (a.add 0) = some v) : ∃ b off, a = ⟨b, off, none⟩ := by
  obtain ⟨b, off, spot⟩ := a
  cases spot with
  | none => exact ⟨b, off, rfl⟩
  | some s =>
    exfalso
    simp only [World.cell?, Addr.add, if_pos] at h
    split at h <;> simp_all

/-- The three shapes of a slice that reads as l. -/
theorem Reads.shape {w : World} {v : Value} {l : List UInt8} (h : Reads w v l) :
    (v = .slice none 0 0 ∧ l = []) ∨ (∃ a cap, v = .slice (some a) 0 cap ∧ cap ≤ maxLen ∧ l = []) ∨
    ∃ b off cap, v = .slice (some ⟨b, off, none⟩) l.length cap ∧ 0 < l.length ∧ l.length ≤ cap ∧ cap ≤ maxLen ∧ b < w.heap.size ∧ ∀ i c, l[i]? = some c → w.cell? ⟨b, off + i, none⟩ = some (.int .u8 c.toNat) := by
  rcases h with h | ⟨a, cap, rfl, h1, h2, hc⟩
  · exact .inl h
  · cases l with
    | nil => exact .inr (.inl ⟨a, cap, rfl, h2, rfl⟩)
    | cons c r =>
      have h0 := hc 0 c rfl
      obtain ⟨b, off, rfl⟩ := addr_of_cell h0
      have hb := World.block_lt_of_cell? w _ h0
      refine .inr (.inr ⟨b, off, cap, rfl, by simp, h1, h2, ?_, fun i d hd => ?_⟩)
      · rw [Addr.add_lit] at hb; exact hb
      · have := hc i d hd
        rwa [Addr.add_lit] at this

end Go.Proofs.Yoefvw
