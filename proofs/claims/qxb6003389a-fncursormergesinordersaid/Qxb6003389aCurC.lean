import Derived.Test.Qxb6003389aCurB
namespace Go.Proofs.Qxb6003389a
open Go.RowKit

/-- What the cursor does next: the element, and what is left of the two lists. -/
def nx : List Int → List Int → Option (Int × List Int × List Int)
  | [], [] => none
  | x :: s, [] => some (x, s, [])
  | [], y :: e => some (y, [], e)
  | x :: s, y :: e => if x < y then some (x, s, y :: e) else some (y, x :: s, e)
theorem nx_none {s e : List Int} (h : nx s e = none) : s = [] ∧ e = [] := by
  match s, e, h with
  | [], [], _ => exact ⟨rfl, rfl⟩
  | x :: s, y :: e, h => simp only [nx] at h; split at h <;> cases h
theorem nx_some {s e s' e' : List Int} {u : Int} (h : nx s e = some (u, s', e')) : Mrg.mrg s e = u :: Mrg.mrg s' e' := by
  match s, e, h with
  | x :: s, [], h => simp only [nx, Option.some.injEq, Prod.mk.injEq] at h; obtain ⟨rfl, rfl, rfl⟩ := h; cases s <;> simp [Mrg.mrg]
  | [], y :: e, h => simp only [nx, Option.some.injEq, Prod.mk.injEq] at h; obtain ⟨rfl, rfl, rfl⟩ := h; simp [Mrg.mrg]
  | x :: s, y :: e, h =>
    simp only [nx] at h
    split at h
    · rename_i hlt
      simp only [Option.some.injEq, Prod.mk.injEq] at h; obtain ⟨rfl, rfl, rfl⟩ := h
      rw [Mrg.mrg, if_pos hlt]
    · rename_i hlt
      simp only [Option.some.injEq, Prod.mk.injEq] at h; obtain ⟨rfl, rfl, rfl⟩ := h
      rw [Mrg.mrg, if_neg hlt]
theorem nx_mrg {s e : List Int} {u : Int} {r : List Int} (h : Mrg.mrg s e = u :: r) : ∃ s' e', nx s e = some (u, s', e') ∧ Mrg.mrg s' e' = r := by
  match hn : nx s e with
  | none => obtain ⟨rfl, rfl⟩ := nx_none hn; simp [Mrg.mrg] at h
  | some (v, s', e') =>
    have := nx_some hn
    rw [h] at this
    simp only [List.cons.injEq] at this
    obtain ⟨rfl, rfl⟩ := this
    exact ⟨s', e', rfl, rfl⟩

theorem Row.cons {k : IntKind} {w : World} {a : Option Addr} {x : Int} {s : List Int} (h : Row k w a (x :: s)) :
    ∃ b off, a = some ⟨b, off, none⟩ ∧ b < w.heap.size ∧ w.cell? ⟨b, off, none⟩ = some (.int k x) ∧ ∀ off', (s.length = 0 ∨ off' = off + 1) → Row k w (some ⟨b, off', none⟩) s := by
  rcases h with h | ⟨b, off, rfl, hc⟩
  · cases h
  · have h0 := hc 0 (by simp)
    refine ⟨b, off, rfl, World.block_lt_of_cell? w _ h0, by simpa using h0, fun off' ho => ?_⟩
    rcases ho with ho | rfl
    · exact .inl (List.length_eq_zero_iff.1 ho)
    · refine .inr ⟨b, off + 1, rfl, fun i hi => ?_⟩
      have := hc (i + 1) (by simp only [List.length_cons]; omega)
      rw [show off + 1 + i = off + (i + 1) from by omega, this]
      simp

/-- The cursor at block 'p': two slices that read as 's' and 'e' in the older world 'w3'. -/
def Cur (w3 w : World) (p : Nat) (s e : List Int) : Prop :=
  ∃ a cap a' cap', w.heap[p]? = some (.cells #[.slice a s.length cap, .slice a' e.length cap'] 43 (0, 0)) ∧ Row .i64 w3 a s ∧ Row .i64 w3 a' e ∧ s.length ≤ cap ∧ e.length ≤ cap'

theorem grown_set (w : World) (p j m : Nat) (v : Value) : w.grownBy ((w.setCell ⟨p, j, none⟩ v).drewN m) (some p) :=
  ⟨rfl, rfl, rfl, by simp, fun k _ hk => heap_setCell_other w ⟨p, j, none⟩ k v (fun e => hk (by simp [e]))⟩

theorem pop_some {w3 w w' : World} {p b off n : Nat} {s e : List Int} {v0 : Value} {a' : Option Addr} {cap' : Nat} (hh : w.heap[p]? = some (.cells #[v0, .slice a' e.length cap'] 43 (0, 0))) (he : Row .i64 w3 a' e) (hc : e.length ≤ cap')
    (hs : s.length = n) (ht : ∀ off', (s.length = 0 ∨ off' = off + 1) → Row .i64 w3 (some ⟨b, off', none⟩) s) (h : Pop p 0 b off n w w') : Cur w3 w' p s e ∧ w.grownBy w' (some p) := by
  obtain ⟨m, off', c', rfl, h1, h2⟩ := h
  subst hs
  refine ⟨⟨_, c', a', cap', ?_, ht off' h2, he, h1, hc⟩, grown_set _ _ _ _ _⟩
  rw [World.heap_drewN, heap_setCell_same w p 0 _ 43 _ hh]
  rfl
theorem pop_every {w3 w w' : World} {p b off n : Nat} {s e : List Int} {v1 : Value} {a : Option Addr} {cap : Nat} (hh : w.heap[p]? = some (.cells #[.slice a s.length cap, v1] 43 (0, 0))) (he : Row .i64 w3 a s) (hc : s.length ≤ cap)
    (hs : e.length = n) (ht : ∀ off', (e.length = 0 ∨ off' = off + 1) → Row .i64 w3 (some ⟨b, off', none⟩) e) (h : Pop p 1 b off n w w') : Cur w3 w' p s e ∧ w.grownBy w' (some p) := by
  obtain ⟨m, off', c', rfl, h1, h2⟩ := h
  subst hs
  refine ⟨⟨a, cap, _, c', ?_, he, ht off' h2, hc, h1⟩, grown_set _ _ _ _ _⟩
  rw [World.heap_drewN, heap_setCell_same w p 1 _ 43 _ hh]
  rfl

theorem next_yes (w3 w : World) (p : Nat) (s e s' e' : List Int) (u : Int) (hb : Below w3.heap.size w3 w) (hc : Cur w3 w p s e) (hs : s.length ≤ 2048) (he : e.length ≤ 2048) (h : nx s e = some (u, s', e')) :
    Calls Try.prog 26 #[.pointer (some ⟨p, 0, none⟩)] w fun e w' => e = .returned (.tuple #[.int .i64 u, .bool true]) ∧ Cur w3 w' p s' e' ∧ w.grownBy w' (some p) := by
  obtain ⟨a, cap, a', cap', hh, hr, hr', hl, hl'⟩ := hc
  have c0 := cell_of_row w p 0 _ 43 (0, 0) hh
  have c1 := cell_of_row w p 1 _ 43 (0, 0) hh
  have f0 := frozen_of_row w p 0 _ 43 hh
  have f1 := frozen_of_row w p 1 _ 43 hh
  match s, e, h with
  | x :: s, [], h =>
    simp only [nx, Option.some.injEq, Prod.mk.injEq] at h; obtain ⟨rfl, rfl, rfl⟩ := h
    obtain ⟨b, off, rfl, hbl, hx, ht⟩ := hr.cons
    rw [← hb.cell (by exact hbl)] at hx
    refine (next_some1 p b off s.length cap a' cap' x w (by simp only [List.length_cons] at hs; omega) c0 hx hl c1 f0).mono ?_
    rintro e w' ⟨rfl, hp⟩
    exact ⟨rfl, pop_some hh hr' hl' rfl ht hp⟩
  | [], y :: e, h =>
    simp only [nx, Option.some.injEq, Prod.mk.injEq] at h; obtain ⟨rfl, rfl, rfl⟩ := h
    obtain ⟨b, off, rfl, hbl, hx, ht⟩ := hr'.cons
    rw [← hb.cell (by exact hbl)] at hx
    refine (next_every1 p b off e.length cap' a cap y w (by simp only [List.length_cons] at he; omega) c0 c1 hx hl' f1).mono ?_
    rintro e w' ⟨rfl, hp⟩
    exact ⟨rfl, pop_every hh hr hl rfl ht hp⟩
  | x :: s, y :: e, h =>
    obtain ⟨b, off, rfl, hbl, hx, ht⟩ := hr.cons
    obtain ⟨b', off', rfl, hbl', hx', ht'⟩ := hr'.cons
    rw [← hb.cell (by exact hbl)] at hx
    rw [← hb.cell (by exact hbl')] at hx'
    simp only [List.length_cons] at hs he
    simp only [nx] at h
    split at h
    · rename_i hlt
      simp only [Option.some.injEq, Prod.mk.injEq] at h; obtain ⟨rfl, rfl, rfl⟩ := h
      refine (next_some2 p b off s.length cap b' off' e.length cap' x y w (by omega) (by omega) c0 hx hl c1 hx' hl' f0 hlt).mono ?_
      rintro e w' ⟨rfl, hp⟩
      exact ⟨rfl, pop_some hh hr' hl' rfl ht hp⟩
    · rename_i hlt
      simp only [Option.some.injEq, Prod.mk.injEq] at h; obtain ⟨rfl, rfl, rfl⟩ := h
      refine (next_every2 p b off s.length cap b' off' e.length cap' x y w (by omega) (by omega) c0 hx hl c1 hx' hl' f1 hlt).mono ?_
      rintro e w' ⟨rfl, hp⟩
      exact ⟨rfl, pop_every hh hr hl rfl ht' hp⟩
theorem next_no (w3 w : World) (p : Nat) (hc : Cur w3 w p [] []) :
    Calls Try.prog 26 #[.pointer (some ⟨p, 0, none⟩)] w fun e w' => e = .returned (.tuple #[.int .i64 0, .bool false]) ∧ Cur w3 w' p [] [] ∧ w.grownBy w' (some p) := by
  obtain ⟨a, cap, a', cap', hh, hr, hr', hl, hl'⟩ := hc
  refine (next_none p a a' cap cap' w (cell_of_row w p 0 _ 43 (0, 0) hh) (cell_of_row w p 1 _ 43 (0, 0) hh)).mono ?_
  rintro e w' ⟨rfl, m, rfl⟩
  exact ⟨rfl, ⟨a, cap, a', cap', hh, hr, hr', hl, hl'⟩, ⟨rfl, rfl, rfl, Nat.le_refl _, fun _ _ _ => rfl⟩⟩

set_option maxHeartbeats 400000 in
theorem zznext_yes (w3 w : World) (p : Nat) (s e s' e' : List Int) (u : Int) (hb : Hid (Below w3.heap.size w3 w)) (hc : Hid (Cur w3 w p s e)) (hs : s.length ≤ 2048) (he : e.length ≤ 2048) (h : Hid (nx s e = some (u, s', e'))) :
    Calls Try.prog 20 #[.pointer (some ⟨p, 0, none⟩)] w fun e w' => e = .returned (.tuple #[.int .i64 u, .bool true]) ∧ Cur w3 w' p s' e' ∧ w.grownBy w' (some p) := by
  go_enter Try.func20, Try.ntmps20
  go_wp2_with fail
  refine (next_yes w3 w p s e s' e' u hb.out hc.out hs he h.out).mono ?_
  rintro e w' ⟨rfl, h1, h2⟩
  go_wp2_with fail
  go_ret2
  exact ⟨rfl, h1, h2⟩
set_option maxHeartbeats 400000 in
theorem zznext_no (w3 w : World) (p : Nat) (hc : Hid (Cur w3 w p [] [])) :
    Calls Try.prog 20 #[.pointer (some ⟨p, 0, none⟩)] w fun e w' => e = .returned (.tuple #[.int .i64 0, .bool false]) ∧ Cur w3 w' p [] [] ∧ w.grownBy w' (some p) := by
  go_enter Try.func20, Try.ntmps20
  go_wp2_with fail
  refine (next_no w3 w p hc.out).mono ?_
  rintro e w' ⟨rfl, h1, h2⟩
  go_wp2_with fail
  go_ret2
  exact ⟨rfl, h1, h2⟩

set_option maxHeartbeats 400000 in
theorem zzcursor_any (a a' : Option Addr) (n n' cap cap' : Nat) (w : World) :
    Calls Try.prog 19 #[.slice a n cap, .slice a' n' cap'] w fun e w' => e = .returned (.pointer (some ⟨w.heap.size, 0, none⟩)) ∧ w' = w.alloc (.cells #[.slice a n cap, .slice a' n' cap'] 43) := by
  go_enter Try.func19, Try.ntmps19
  go_wp2
  go_ret
  exact ⟨rfl, rfl⟩
end Go.Proofs.Qxb6003389a
