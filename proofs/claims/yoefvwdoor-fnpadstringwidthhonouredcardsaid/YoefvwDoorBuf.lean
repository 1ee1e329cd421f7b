/-
  The walks of (*fmtbuf).Write and (*fmtbuf).WriteString.
-/
import Derived.Test.YoefvwDoorTop
namespace Go.Proofs.YoefvwDoor
open Go.RowKit

theorem owns_slice {B : Nat} {w : World} {v : Value} {n : Nat} {xs : List Value} (h : w.ownsRow B 5 1 v n xs) : ∃ ao c, v = .slice ao n c := by
  rcases h.2 with ⟨rfl, rfl⟩ | ⟨g, cap, cur, rfl, _⟩
  · exact ⟨none, 0, rfl⟩
  · exact ⟨_, _, rfl⟩

theorem grown_of_drew {w w1 : World} {nq : Nat} {r : Option Nat} (h : (w.drewN nq).grownBy w1 r) : w.grownBy w1 r := ⟨h.os, h.tape, h.output, h.size, h.block⟩

/-- 'append(s, x...)' where the two slice types are not one: only their being slices is asked. -/
theorem append_types {P : Program} (w : World) (t u ty e e' : TypeId) (ht : P.underlying t = some (.slice e)) (hu : P.underlying u = some (.slice e')) (a a' : Option Addr) (n c n' c' : Nat) :
    (Builtin.append_ #[t, u] ty #[.slice a n c, .slice a' n' c']).run P w = (Builtin.append_ #[t, t] ty #[.slice a n c, .slice a' n' c']).run P w := by
  simp [Builtin.append_, run_underlying ht, run_underlying hu]

theorem wpList_append_own_two {P : Program} {w : World} {ops : Array Oper} {rest : List Oper} {o : Oper} {a : Act} {Q : Exit → Act → World → Prop} (hgd : o.guard = none) (s x : Operand) (t u : TypeId)
    (ho : o.op = .call { callee := .builtin .append, args := #[s, x], argTypes := #[t, u] })
    (base : Nat) (e : TypeId) (i : TypeInfo) (z : Value) (ht : P.underlying t = some (.slice e)) (hu : P.underlying u = some (.slice e)) (hi : P.info? e = some i) (hz : i.zero = some z)
    (hsize : i.size = 1) (hby : i.bytes = 1) (hzs : z.cells.size = 1)
    (ao : Option Addr) (n c0 : Nat) (xs : List Value) (hs : a.eval s = .slice ao n c0) (hown : w.ownsRow base e 1 (.slice ao n c0) n xs)
    (ap : Option Addr) (m c : Nat) (news : List Value) (hx : a.eval x = .slice ap m c) (hl : news.length = m) (hnone : ap = none → m = 0 ∧ c = 0) (hnews : ∀ ad, ap = some ad → ∀ j u, news[j]? = some u → w.cell? (ad.add j) = some u) (h1 : ∀ u ∈ news, u.oneCell' = true)
    (h63 : n + m ≤ maxLen) (hbytes : n + m ≤ 140737488355328) (hbase : base ≤ w.heap.size)
    (h : ∀ v' w', w'.ownsRow base e 1 v' (n + m) (xs ++ news) → w.grownBy w' (Value.ownBlock (.slice ao n c0)) → wpList P ops Q rest (a.put o.dst v') w') : wpList P ops Q (o :: rest) a w := by
  refine wpList_plain hgd fun K hK => ?_
  have key : ∃ v' w', (Builtin.append_ #[t, t] o.type #[.slice ao n c0, .slice ap m c]).run P w = .ok v' w' ∧ w'.ownsRow base e 1 v' (n + m) (xs ++ news) ∧ w.grownBy w' (Value.ownBlock (.slice ao n c0)) := by
    cases ap with
    | none =>
      obtain ⟨rfl, rfl⟩ := hnone rfl
      obtain rfl : news = [] := List.eq_nil_of_length_eq_zero hl
      exact ⟨_, w, run_append_owned_none (P := P) (w := w) base t o.type e i 1 ht hi _ n xs hown, by simpa using hown, World.grownBy.refl _ _⟩
    | some ad =>
      obtain ⟨v', w', hr, h2, h3, _⟩ := run_append_own (P := P) w base t o.type e i z 1 1 ht hi hz hsize hby hzs (by decide) _ n xs hown ad m c news (by omega) (hnews ad rfl) h1 h63 (by omega) hbase
      exact ⟨v', w', hr, h2, h3⟩
  obtain ⟨v', w', hr, h2, h3⟩ := key
  rw [← append_types w t u o.type e e ht hu] at hr
  unfold Oper.wp execOp
  simp only [ho, resolve, invoke, builtin, Sem.run_bind, Sem.run_pure, Result.andThen_ok, List.map_toArray, List.map_cons, List.map_nil, hs, hx, hr]
  exact hK _ _ (h v' w' h2 h3)

set_option maxHeartbeats 800000 in
theorem writeStr_core (B : Nat) (w : World) (bx : Nat) (ao : Option Addr) (c : Nat) (l : List UInt8) (s : ByteArray) (hbx : w.cell? ⟨bx, 0, none⟩ = some (.slice ao l.length c)) (hfx : w.frozen? ⟨bx, 0, none⟩ = false)
    (hne : some bx ≠ Value.ownBlock (.slice ao l.length c)) (hbs : bx < w.heap.size) (hmax : w.cell? ⟨0, 0, none⟩ = some (.int .i64 2147483647)) (hown : Own B w (.slice ao l.length c) l) (hB : B ≤ w.heap.size) (hl : l.length ≤ 4194304) (hs : s.size ≤ 4194304) :
    Calls Efvg.prog 38 #[.pointer (some ⟨bx, 0, none⟩), .string s] w fun e w' => e = .returned (.tuple #[]) ∧ ∃ v' w1, Own B w1 v' (l ++ s.data.toList) ∧ w.grownBy w1 (Value.ownBlock (.slice ao l.length c)) ∧ w' = w1.setCell ⟨bx, 0, none⟩ v' := by
  obtain ⟨i0, hi, hz0, hz1, hz2⟩ := info_parts Efvg.info5
  have Hown := hide hown
  have Hne := hide hne
  clear hown hne
  go_enter Efvg.func38, Efvg.ntmps38
  go_wp2
  go_quiet (fail)
  go_wp2_with (at_builtin; refine Lib.wpList_append_own_string _ rfl (.tmp 17) (.tmp 18) 43 9 rfl B 5 i0 Efvg.underlying43 Efvg.underlying9 hi hz0 hz1 hz2 (.slice ao l.length c) l.length (bcs l) rfl (unhide Hown) s rfl (by unfold maxLen; omega) (by omega) (by exact hB) ?_; intro v' w1 hown1 hgrow1 hnil1; clear hnil1; obtain ⟨ao', c', rfl⟩ := owns_slice hown1; replace hgrow1 := grown_of_drew hgrow1; have k1 := (hgrow1.cell_far ⟨bx, 0, none⟩ hbs (unhide Hne)).trans hbx; have k2 := (hgrow1.frozen_far ⟨bx, 0, none⟩ hbs (unhide Hne)).trans hfx; replace hgrow1 := hide hgrow1; replace hown1 := hide hown1)
  go_end0
  refine ⟨rfl, _, w1, ?_, unhide hgrow1, rfl⟩
  have := unhide hown1
  rw [bcs_str, ← bcs_append] at this
  have e : (l ++ s.data.toList).length = l.length + s.size := by rw [List.length_append]; rfl
  unfold Own
  rw [e]
  exact this

set_option maxHeartbeats 800000 in
theorem write_core (B : Nat) (w : World) (bx : Nat) (ao : Option Addr) (c : Nat) (l : List UInt8) (ap : Option Addr) (cp : Nat) (m : List UInt8) (hbx : w.cell? ⟨bx, 0, none⟩ = some (.slice ao l.length c)) (hfx : w.frozen? ⟨bx, 0, none⟩ = false)
    (hne : some bx ≠ Value.ownBlock (.slice ao l.length c)) (hbs : bx < w.heap.size) (hmax : w.cell? ⟨0, 0, none⟩ = some (.int .i64 2147483647)) (hown : Own B w (.slice ao l.length c) l) (hB : B ≤ w.heap.size) (hl : l.length ≤ 4194304) (hs : m.length ≤ 4194304)
    (hr : Reads w (.slice ap m.length cp) m) :
    Calls Efvg.prog 41 #[.pointer (some ⟨bx, 0, none⟩), .slice ap m.length cp] w fun e w' => e = .returned (.tuple #[]) ∧ ∃ v' w1, Own B w1 v' (l ++ m) ∧ w.grownBy w1 (Value.ownBlock (.slice ao l.length c)) ∧ w' = w1.setCell ⟨bx, 0, none⟩ v' := by
  obtain ⟨i0, hi, hz0, hz1, hz2⟩ := info_parts Efvg.info5
  have hsrc := src_of hr
  have Hown := hide hown
  have Hne := hide hne
  have Hr := hide hsrc
  clear hown hne hr hsrc
  go_enter Efvg.func41, Efvg.ntmps41
  go_wp2
  go_quiet (fail)
  go_wp2_with (at_builtin; refine wpList_append_own_two rfl (.tmp 17) (.tmp 18) 43 23 rfl B 5 i0 (.int .u8 0) Efvg.underlying43 Efvg.underlying23 hi hz0 hz1 hz2 rfl ao l.length c (bcs l) rfl (unhide Hown) ap m.length cp (bcs m) rfl (bcs_length m) (unhide Hr).1 (unhide Hr).2 (bcs_oneCell m) (by unfold maxLen; omega) (by omega) (by exact hB) ?_; intro v' w1 hown1 hgrow1; obtain ⟨ao', c', rfl⟩ := owns_slice hown1; replace hgrow1 := grown_of_drew hgrow1; have k1 := (hgrow1.cell_far ⟨bx, 0, none⟩ hbs (unhide Hne)).trans hbx; have k2 := (hgrow1.frozen_far ⟨bx, 0, none⟩ hbs (unhide Hne)).trans hfx; replace hgrow1 := hide hgrow1; replace hown1 := hide hown1)
  go_end0
  refine ⟨rfl, _, w1, ?_, unhide hgrow1, rfl⟩
  have := unhide hown1
  rw [← bcs_append] at this
  unfold Own
  rw [List.length_append]
  exact this
end Go.Proofs.YoefvwDoor
