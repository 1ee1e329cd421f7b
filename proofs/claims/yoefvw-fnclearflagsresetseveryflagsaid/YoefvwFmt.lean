/-
  The walks of the formatter: ZZnewFormatter, the setters, clearFlags, ZZbuf.
-/
import Derived.Test.YoefvwLeaf
import Derived.Test.YoefvwCells
namespace Go.Proofs.Yoefvw
open Go.RowKit

theorem noFlags_one : (#[.bool false, .bool false, .bool false, .bool false, .bool false, .bool false, .bool false, .bool false, .bool false, .bool false, .bool false, .bool false] : Array Value).all (·.oneCell') = true := by kernel_rfl

set_option maxHeartbeats 400000 in
/-- (*formatter).clearFlags: the twelve flags are false; nothing else turns. -/
theorem clearFlags_any (w : World) (F : Nat) (p : Value) (f : Nat → Bool) (wid prec : Int) (h : FmtAt 42 w F p f wid prec) :
    Calls Efvg.prog 18 #[.pointer (some ⟨F, 0, none⟩)] w fun e w' => e = .returned (.tuple #[]) ∧ ∃ f', FmtAt 42 w' F p f' wid prec ∧ (∀ k, k < 12 → f' k = false) ∧ w.grownBy w' (some F) := by
  have hz46 : ∀ w, (zeroValue 39).run Efvg.prog w = .ok (.agg #[.bool false, .bool false, .bool false, .bool false, .bool false, .bool false, .bool false, .bool false, .bool false, .bool false, .bool false, .bool false]) w := fun _ => by kernel_rfl
  have hth : w.there F 1 12 := fun j hj => ⟨by rw [h.cf j hj]; rfl, h.fr _⟩
  have hi : (Efvg.prog.info? 39).map (·.size) = some 12 := by kernel_rfl
  obtain ⟨f', h1, h2, h3⟩ := FmtAt.setFlags (T := 42) (F := F) (p := p) (wid := wid) (prec := prec) (fun _ => false) 12 0 w f (by omega) h
  have hf : ∀ k, k < 12 → f' k = false := fun k hk => by rw [h3 k, if_pos (by omega)]
  have H1 := hide h1
  have H2 := hide h2
  clear h1 h2 h3
  go_enter Efvg.func18, Efvg.ntmps18
  go_wp2_with (refine wpList_store_mid rfl 39 (.tmp 5) (.tmp 3) rfl F 1 #[.bool false, .bool false, .bool false, .bool false, .bool false, .bool false, .bool false, .bool false, .bool false, .bool false, .bool false, .bool false] rfl rfl hth hi noFlags_one ?_)
  go_end0
  exact ⟨rfl, f', unhide H1, hf, unhide H2⟩

set_option maxHeartbeats 400000 in
theorem setWidth_any (w : World) (F : Nat) (p : Value) (f : Nat → Bool) (wid prec : Int) (h : FmtAt 42 w F p f wid prec) (b : Bool) (n : Int) :
    Calls Efvg.prog 7 #[.pointer (some ⟨F, 0, none⟩), .bool b, .int .i64 n] w fun e w' => e = .returned (.tuple #[]) ∧ FmtAt 42 w' F p (upd f 0 b) n prec ∧ w.grownBy w' (some F) := by
  have c1 : w.cell? ⟨F, 1, none⟩ = some (.bool (f 0)) := h.cf 0 (by omega)
  have c13 := h.cw
  have f1 := h.fr 1
  have f13 := h.fr 13
  have H := hide h
  clear h
  go_enter Efvg.func7, Efvg.ntmps7
  go_wp2
  go_end0
  exact ⟨rfl, ((unhide H).setFlag 0 (by omega) b).setWid n, grownBy_trans (grownBy_setCell w _ _) (grownBy_setCell _ _ _)⟩

set_option maxHeartbeats 400000 in
theorem setPrec_any (w : World) (F : Nat) (p : Value) (f : Nat → Bool) (wid prec : Int) (h : FmtAt 42 w F p f wid prec) (b : Bool) (n : Int) :
    Calls Efvg.prog 8 #[.pointer (some ⟨F, 0, none⟩), .bool b, .int .i64 n] w fun e w' => e = .returned (.tuple #[]) ∧ FmtAt 42 w' F p (upd f 1 b) wid n ∧ w.grownBy w' (some F) := by
  have c1 : w.cell? ⟨F, 2, none⟩ = some (.bool (f 1)) := h.cf 1 (by omega)
  have c13 := h.cp
  have f1 := h.fr 2
  have f13 := h.fr 14
  have H := hide h
  clear h
  go_enter Efvg.func8, Efvg.ntmps8
  go_wp2
  go_end0
  exact ⟨rfl, ((unhide H).setFlag 1 (by omega) b).setPrec n, grownBy_trans (grownBy_setCell w _ _) (grownBy_setCell _ _ _)⟩

set_option maxHeartbeats 400000 in
theorem setFlags_any (w : World) (F : Nat) (p : Value) (f : Nat → Bool) (wid prec : Int) (h : FmtAt 42 w F p f wid prec) (b1 b2 b3 b4 b5 : Bool) :
    Calls Efvg.prog 9 #[.pointer (some ⟨F, 0, none⟩), .bool b1, .bool b2, .bool b3, .bool b4, .bool b5] w fun e w' => e = .returned (.tuple #[]) ∧ FmtAt 42 w' F p (upd (upd (upd (upd (upd f 2 b1) 3 b2) 4 b3) 5 b4) 6 b5) wid prec ∧ w.grownBy w' (some F) := by
  have c3 : w.cell? ⟨F, 3, none⟩ = some (.bool (f 2)) := h.cf 2 (by omega)
  have c4 : w.cell? ⟨F, 4, none⟩ = some (.bool (f 3)) := h.cf 3 (by omega)
  have c5 : w.cell? ⟨F, 5, none⟩ = some (.bool (f 4)) := h.cf 4 (by omega)
  have c6 : w.cell? ⟨F, 6, none⟩ = some (.bool (f 5)) := h.cf 5 (by omega)
  have c7 : w.cell? ⟨F, 7, none⟩ = some (.bool (f 6)) := h.cf 6 (by omega)
  have f3 := h.fr 3
  have f4 := h.fr 4
  have f5 := h.fr 5
  have f6 := h.fr 6
  have f7 := h.fr 7
  have H := hide h
  clear h
  go_enter Efvg.func9, Efvg.ntmps9
  go_wp2
  go_end0
  exact ⟨rfl, (((((unhide H).setFlag 2 (by omega) b1).setFlag 3 (by omega) b2).setFlag 4 (by omega) b3).setFlag 5 (by omega) b4).setFlag 6 (by omega) b5,
    grownBy_trans (grownBy_trans (grownBy_trans (grownBy_trans (grownBy_setCell w _ _) (grownBy_setCell _ _ _)) (grownBy_setCell _ _ _)) (grownBy_setCell _ _ _)) (grownBy_setCell _ _ _)⟩

set_option maxHeartbeats 400000 in
theorem zzClear_any (w : World) (F : Nat) (p : Value) (f : Nat → Bool) (wid prec : Int) (h : FmtAt 42 w F p f wid prec) :
    Calls Efvg.prog 11 #[.pointer (some ⟨F, 0, none⟩)] w fun e w' => e = .returned (.tuple #[]) ∧ ∃ f', FmtAt 42 w' F p f' wid prec ∧ (∀ k, k < 12 → f' k = false) ∧ w.grownBy w' (some F) := by
  go_enter Efvg.func11, Efvg.ntmps11
  go_wp2_with (go_at_call 18; refine (clearFlags_any _ _ _ _ _ _ h).mono ?_; rintro e w' ⟨rfl, hh⟩)
  go_end0
  exact ⟨rfl, hh⟩

set_option maxHeartbeats 400000 in
/-- (*formatter).init -/
theorem init_any (w : World) (F : Nat) (p q : Value) (f : Nat → Bool) (wid prec : Int) (x : Option Addr) (hq : q = .pointer x) (h : FmtAt 42 w F p f wid prec) :
    Calls Efvg.prog 17 #[.pointer (some ⟨F, 0, none⟩), q] w fun e w' => e = .returned (.tuple #[]) ∧ ∃ f', FmtAt 42 w' F q f' wid prec ∧ (∀ k, k < 12 → f' k = false) ∧ w.grownBy w' (some F) := by
  subst hq
  have c0 := h.c0
  have f0 := h.fr 0
  have H := hide h
  clear h
  have hB := hide (clearFlags_any _ _ _ _ _ _ ((unhide H).setPtr (.pointer x)))
  go_enter Efvg.func17, Efvg.ntmps17
  go_wp2_with (go_at_call 18; refine (unhide hB).mono ?_; rintro e w' ⟨rfl, hh⟩)
  go_end0
  obtain ⟨f', h1, h2, h3⟩ := hh
  exact ⟨rfl, f', h1, h2, grownBy_trans (grownBy_setCell w _ _) h3⟩

/-- The zero formatter. -/
def fzero : Array Value := #[.pointer none, .bool false, .bool false, .bool false, .bool false, .bool false, .bool false, .bool false, .bool false, .bool false, .bool false, .bool false, .bool false, .int .i64 0, .int .i64 0, .int .u8 0, .int .u8 0, .int .u8 0, .int .u8 0, .int .u8 0, .int .u8 0, .int .u8 0, .int .u8 0, .int .u8 0, .int .u8 0, .int .u8 0, .int .u8 0, .int .u8 0, .int .u8 0, .int .u8 0, .int .u8 0, .int .u8 0, .int .u8 0, .int .u8 0, .int .u8 0, .int .u8 0, .int .u8 0, .int .u8 0, .int .u8 0, .int .u8 0, .int .u8 0, .int .u8 0, .int .u8 0, .int .u8 0, .int .u8 0, .int .u8 0, .int .u8 0, .int .u8 0, .int .u8 0, .int .u8 0, .int .u8 0, .int .u8 0, .int .u8 0, .int .u8 0, .int .u8 0, .int .u8 0, .int .u8 0, .int .u8 0, .int .u8 0, .int .u8 0, .int .u8 0, .int .u8 0, .int .u8 0, .int .u8 0, .int .u8 0, .int .u8 0, .int .u8 0, .int .u8 0, .int .u8 0, .int .u8 0, .int .u8 0, .int .u8 0, .int .u8 0, .int .u8 0, .int .u8 0, .int .u8 0, .int .u8 0, .int .u8 0, .int .u8 0, .int .u8 0, .int .u8 0, .int .u8 0, .int .u8 0]
theorem fzero_flag (k : Nat) (hk : k < 12) : fzero[1 + k]? = some (.bool false) := by
  have h : ∀ k : Fin 12, fzero[1 + k.1]? = some (.bool false) := by
    intro k
    match k with
    | 0 | 1 | 2 | 3 | 4 | 5 | 6 | 7 | 8 | 9 | 10 | 11 => rfl
  exact h ⟨k, hk⟩

theorem fzero_at (w : World) : FmtAt 42 (w.alloc (.cells fzero 42)) w.heap.size (.pointer none) (fun _ => false) 0 0 :=
  ⟨⟨fzero, heap_alloc_new w _⟩, by rw [World.cell?_alloc_at _ _ _ _ rfl]; rfl, fun k hk => by rw [World.cell?_alloc_at _ _ _ _ rfl]; exact fzero_flag k hk, by rw [World.cell?_alloc_at _ _ _ _ rfl]; rfl, by rw [World.cell?_alloc_at _ _ _ _ rfl]; rfl⟩

theorem zero42 : ∀ w, (zeroValue 42).run Efvg.prog w = .ok (.agg fzero) w := fun _ => by kernel_rfl

/-- The formatter whole: its struct in block F, its buffer's box in block bx, the buffer's row; all among the blocks from B on. -/
structure Fm (B : Nat) (w : World) (F bx : Nat) (f : Nat → Bool) (wid prec : Int) (l : List UInt8) : Prop where
  bF : B ≤ F
  bb : B ≤ bx
  fa : FmtAt 42 w F (.pointer (some ⟨bx, 0, none⟩)) f wid prec
  box : ∃ v, w.heap[bx]? = some (.cells #[v] 36 (0, 0)) ∧ Own B w v l

theorem own_slice {B : Nat} {w : World} {v : Value} {l : List UInt8} (h : Own B w v l) : ∃ ao c, v = .slice ao l.length c := by
  rcases h.2 with ⟨rfl, hl⟩ | ⟨g, cap, cur, rfl, _⟩
  · exact ⟨none, 0, by rw [hl]⟩
  · exact ⟨_, _, rfl⟩

/-- What a value owns lies in no block that bears another tag. -/
theorem own_far {B : Nat} {w : World} {v : Value} {l : List UInt8} (h : Own B w v l) {F : Nat} {cs : Array Value} {T : TypeId} (hF : w.heap[F]? = some (.cells cs T (0, 0))) (hT : T ≠ 5) : v.ownBlock ≠ some F := by
  rcases h.2 with ⟨rfl, hl⟩ | ⟨g, cap, cur, rfl, _, hg, _⟩
  · simp [Value.ownBlock]
  · intro e
    simp [Value.ownBlock] at e
    subst e
    rw [hg] at hF
    simp at hF
    exact hT hF.2.symm

theorem own_kept {B : Nat} {w w' : World} {v : Value} {l : List UInt8} {r : Option Nat} (h : Own B w v l) (hg : w.grownBy w' r) (hne : v.ownBlock ≠ r ∨ v.ownBlock = none) : Own B w' v l :=
  World.ownsRow.kept h hg (by rcases hne with h | h; exact .inr h; exact .inl h)

set_option maxHeartbeats 400000 in
theorem new_core (ao : Option Addr) (n c : Nat) (w : World) :
    Calls Efvg.prog 6 #[.slice ao n c] w fun e w' => e = .returned (.pointer (some ⟨w.heap.size + 1, 0, none⟩)) ∧ ∃ f', FmtAt 42 w' (w.heap.size + 1) (.pointer (some ⟨w.heap.size, 0, none⟩)) f' 0 0 ∧ (∀ k, k < 12 → f' k = false) ∧
      ((w.alloc (.cells #[.slice ao n c] 36)).alloc (.cells fzero 42)).grownBy w' (some (w.heap.size + 1)) := by
  have hz := zero42
  have h42 : FmtAt 42 ((w.alloc (.cells #[.slice ao n c] 36)).alloc (.cells fzero 42)) (w.heap.size + 1) (.pointer none) (fun _ => false) 0 0 := by
    have := fzero_at (w.alloc (.cells #[.slice ao n c] 36))
    simpa using this
  have hB := hide (init_any _ _ _ (.pointer (some ⟨w.heap.size, 0, none⟩)) _ _ _ _ rfl h42)
  clear h42
  go_enter Efvg.func6, Efvg.ntmps6
  go_wp2_with (go_at_call 17; refine (unhide hB).mono ?_; rintro e w' ⟨rfl, hh⟩)
  go_ret
  exact ⟨rfl, hh⟩

/-- ZZnewFormatter -/
theorem new_any (B : Nat) (v : Value) (l : List UInt8) (w : World) (hown : Own B w v l) (hB : B ≤ w.heap.size) :
    Calls Efvg.prog 6 #[v] w fun e w' => e = .returned (.pointer (some ⟨w.heap.size + 1, 0, none⟩)) ∧ ∃ f', Fm B w' (w.heap.size + 1) w.heap.size f' 0 0 l ∧ (∀ k, k < 12 → f' k = false) ∧ Below w.heap.size w w' := by
  obtain ⟨ao, c, rfl⟩ := own_slice hown
  refine (new_core ao l.length c w).mono fun e w' ⟨he, f', h1, h2, h3⟩ => ⟨he, f', ⟨by omega, hB, h1, ?_⟩, h2, ?_⟩
  · refine ⟨_, ?_, own_kept ((World.ownsRow.alloc (World.ownsRow.alloc hown _) _)) h3 (.inl ?_)⟩
    · rw [h3.block _ (by simp; omega) (by simp)]
      rw [Below.heap_alloc _ _ _ (by simp), heap_alloc_new]
    · intro e
      have := (World.ownsRow.lt hown _ e).2
      omega
  · exact (((Below.refl _ _).alloc (Nat.le_refl _) _).alloc (by simp) _).grown h3 (by simp; omega) (fun k hk => by simp at hk; omega)

section
variable {B : Nat} {w w' : World} {F bx : Nat} {f : Nat → Bool} {wid prec : Int} {l : List UInt8}

theorem Fm.ne (h : Fm B w F bx f wid prec l) : bx ≠ F := by
  obtain ⟨v, hv, _⟩ := h.box
  obtain ⟨cs, hc⟩ := h.fa.tag
  intro e
  rw [e, hc] at hv
  simp at hv

/-- A step that turns the struct's block alone. -/
theorem Fm.upd (h : Fm B w F bx f wid prec l) {f' : Nat → Bool} {wid' prec' : Int} (ha : FmtAt 42 w' F (.pointer (some ⟨bx, 0, none⟩)) f' wid' prec') (hg : w.grownBy w' (some F)) : Fm B w' F bx f' wid' prec' l := by
  have hne := h.ne
  obtain ⟨v, hv, ho⟩ := h.box
  obtain ⟨cs, hc⟩ := h.fa.tag
  refine ⟨h.bF, h.bb, ha, v, ?_, own_kept ho hg (.inl (own_far ho hc (by decide)))⟩
  rw [hg.block bx (lt_of_block hv) (by simpa using hne)]
  exact hv

/-- A step that turns nothing below B', where all of the formatter lies below. -/
theorem Fm.below {B' : Nat} (h : Fm B w F bx f wid prec l) (hb : Below B' w w') (hs : w.heap.size ≤ B') : Fm B w' F bx f wid prec l := by
  obtain ⟨v, hv, ho⟩ := h.box
  refine ⟨h.bF, h.bb, h.fa.same (hb.block F (by have := h.fa.lt; omega)), v, ?_, ho.below hb hs⟩
  rw [hb.block bx (by have := lt_of_block hv; omega)]
  exact hv

theorem Fm.low (h : Fm B w F bx f wid prec l) (hg : w.grownBy w' (some F)) : Below B w w' :=
  (Below.refl _ _).grown hg (by have := h.fa.lt; have := h.bF; omega) (fun k hk => by simp at hk; subst hk; exact h.bF)

theorem Fm.size (h : Fm B w F bx f wid prec l) : B ≤ w.heap.size := by have := h.fa.lt; have := h.bF; omega
end

set_option maxHeartbeats 400000 in
theorem buf_core (w : World) (F bx : Nat) (v : Value) (h0 : w.cell? ⟨F, 0, none⟩ = some (.pointer (some ⟨bx, 0, none⟩))) (h1 : w.cell? ⟨bx, 0, none⟩ = some v) :
    Calls Efvg.prog 16 #[.pointer (some ⟨F, 0, none⟩)] w fun e w' => e = .returned v ∧ w = w' := by
  go_enter Efvg.func16, Efvg.ntmps16
  go_wp2
  go_ret
  exact ⟨rfl, rfl⟩

/-- ZZbuf -/
theorem buf_any (B : Nat) (w : World) (F bx : Nat) (f : Nat → Bool) (wid prec : Int) (l : List UInt8) (h : Fm B w F bx f wid prec l) :
    Calls Efvg.prog 16 #[.pointer (some ⟨F, 0, none⟩)] w fun e w' => ∃ v, e = .returned v ∧ Own B w v l ∧ w = w' := by
  obtain ⟨v, hv, ho⟩ := h.box
  exact (buf_core w F bx v h.fa.c0 (cell_of_one hv)).mono fun e w' ⟨he, hw⟩ => ⟨v, he, ho, hw⟩
end Go.Proofs.Yoefvw
