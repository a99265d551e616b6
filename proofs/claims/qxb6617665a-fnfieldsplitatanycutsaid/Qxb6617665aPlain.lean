/-
  SEAT b6617665a. The plain laws of the look-up; copies of slices.
-/
import Derived.Test.Qxb6617665aOk
import Derived.Test.Qxb6617665aBytes

namespace Go.Proofs.Qxb6617665a.Pre

open Go.RowKit

/-! ### The look-up -/

theorem first_split (F : Nat → Fd) (q : ByteArray) (b : Nat) : ∀ a i, firstFrom F q (a + b) i = (firstFrom F q a i).or (firstFrom F q b (i + a))
  | 0, i => by rw [Nat.zero_add]; rfl
  | a + 1, i => by
    rw [show a + 1 + b = (a + b) + 1 by omega, firstFrom, firstFrom]
    by_cases h : keq (F i) q = true
    · rw [if_pos h, if_pos h]; rfl
    · rw [if_neg h, if_neg h, first_split F q b a (i + 1), show i + 1 + a = i + (a + 1) by omega]

theorem first_congr (F G : Nat → Fd) (q : ByteArray) : ∀ k i, (∀ j, i ≤ j → j < i + k → F j = G j) → firstFrom F q k i = firstFrom G q k i
  | 0, _, _ => rfl
  | k + 1, i, h => by
    rw [firstFrom, firstFrom, h i (Nat.le_refl _) (by omega), first_congr F G q k (i + 1) (fun j h1 h2 => h j (by omega) (by omega))]

theorem first_shift (F G : Nat → Fd) (q : ByteArray) (c d : Nat) : ∀ k i, (∀ j, i ≤ j → j < i + k → F (c + j) = G (d + j)) → firstFrom F q k (c + i) = firstFrom G q k (d + i)
  | 0, _, _ => rfl
  | k + 1, i, h => by
    rw [firstFrom, firstFrom, h i (Nat.le_refl _) (by omega)]
    have := first_shift F G q c d k (i + 1) (fun j h1 h2 => h j (by omega) (by omega))
    rw [show c + i + 1 = c + (i + 1) by omega, show d + i + 1 = d + (i + 1) by omega, this]

theorem first_some (F : Nat → Fd) (q : ByteArray) (f : Fd) : ∀ k i, firstFrom F q k i = some f → ∃ j, i ≤ j ∧ j < i + k ∧ F j = f ∧ keq f q = true
  | 0, _, h => by cases h
  | k + 1, i, h => by
    rw [firstFrom] at h
    by_cases hk : keq (F i) q = true
    · rw [if_pos hk] at h
      cases h
      exact ⟨i, Nat.le_refl _, by omega, rfl, hk⟩
    · rw [if_neg hk] at h
      obtain ⟨j, h1, h2, h3⟩ := first_some F q f k (i + 1) h
      exact ⟨j, by omega, by omega, h3⟩

theorem first_none (F : Nat → Fd) (q : ByteArray) : ∀ k i, firstFrom F q k i = none → ∀ j, i ≤ j → j < i + k → keq (F j) q = false
  | 0, _, _ => fun j h1 h2 => by omega
  | k + 1, i, h => fun j h1 h2 => by
    rw [firstFrom] at h
    by_cases hk : keq (F i) q = true
    · rw [if_pos hk] at h; cases h
    · rw [if_neg hk] at h
      by_cases hj : j = i
      · subst hj; simpa using hk
      · exact first_none F q k (i + 1) h j (by omega) (by omega)

/-- The layout with e put in at place p. -/
def ins (F : Nat → Fd) (p : Nat) (e : Fd) (i : Nat) : Fd := if i < p then F i else if i = p then e else F (i - 1)

theorem look_ins (F : Nat → Fd) (q : ByteArray) (n p : Nat) (e : Fd) (hp : p ≤ n) :
    firstFrom (ins F p e) q (n + 1) 0 = (firstFrom F q p 0).or (if keq e q = true then some e else firstFrom F q (n - p) p) := by
  rw [show n + 1 = p + ((n - p) + 1) by omega, first_split]
  have h1 : firstFrom (ins F p e) q p 0 = firstFrom F q p 0 := first_congr _ _ q p 0 (fun j _ h => by unfold ins; rw [if_pos (by omega)])
  have h2 : firstFrom (ins F p e) q (n - p) (1 + p) = firstFrom F q (n - p) (0 + p) := first_shift _ _ q 1 0 (n - p) p (fun j h _ => by
    unfold ins; rw [if_neg (by omega), if_neg (by omega), show 1 + j - 1 = 0 + j by omega])
  have h3 : ins F p e p = e := by unfold ins; rw [if_neg (by omega), if_pos rfl]
  rw [h1, Nat.zero_add, firstFrom, h3, Nat.add_comm p 1, h2, Nat.zero_add]

theorem look_old (F : Nat → Fd) (q : ByteArray) (n p : Nat) (hp : p ≤ n) : firstFrom F q n 0 = (firstFrom F q p 0).or (firstFrom F q (n - p) p) := by
  conv => lhs; rw [show n = p + (n - p) by omega]
  rw [first_split, Nat.zero_add]

/-! ### Copies -/

theorem rdf_rd {w : World} {a : Option Addr} {n : Nat} {V : Nat → Value} (h : RdF w a n V) : Rd w a ((List.range n).map V) := by
  rcases h with h | ⟨b, off, ha, hc⟩
  · exact .inl (by simp [h])
  · refine .inr ⟨b, off, ha, fun i v hv => ?_⟩
    rw [List.getElem?_map] at hv
    by_cases hi : i < n
    · rw [List.getElem?_range hi] at hv
      cases hv
      exact hc i hi
    · rw [List.getElem?_eq_none (by simpa using hi)] at hv
      cases hv

theorem row_rdf {w : World} {g n : Nat} {t : TypeId} {V : Nat → Value} (h : Row w g t ((List.range n).map V)) : RdF w (some ⟨g, 0, none⟩) n V :=
  .inr ⟨g, 0, rfl, fun i hi => by rw [Nat.zero_add, h.cell, List.getElem?_map, List.getElem?_range hi]; rfl⟩

theorem copy_facts (t e : TypeId) (z : Value) (bytes : Nat) (hu : Try.prog.underlying t = some (.slice e)) (hinfo : (Try.prog.info? e).map (fun i => (i.zero, i.size, i.bytes)) = some (some z, 1, bytes))
    (x : Addr) (n d : Nat) (V : Nat → Value) (hV : ∀ i, (V i).oneCell' = true) (w : World) (h : RdF w (some x) n V) :
    ∃ w2, (Builtin.copy_ #[t, t] 3 #[.slice (some ⟨w.heap.size, 0, none⟩) n n, .slice (some x) n d]).run Try.prog (w.alloc (.cells (madeCells #[z] n) e)) = .ok (goInt n) w2 ∧ RdF w2 (some ⟨w.heap.size, 0, none⟩) n V ∧ Below w.heap.size w w2 := by
  have b0 := (Below.refl w.heap.size w).alloc (Nat.le_refl _) (.cells (madeCells #[z] n) e)
  have hs : (Try.prog.info? e).map (·.size) = some 1 := by
    obtain ⟨i, hi, _, hs, _⟩ := info_parts hinfo
    rw [hi]; simp [hs]
  obtain ⟨w2, hcp, hR, hB⟩ := run_copy_full (P := Try.prog) _ t 3 e hu hs (some x) n d w.heap.size _ ((List.range n).map V) e (Row.made w z n e) (by simp) (by simp) ((rdf_rd h).since b0)
    (fun v hv => by obtain ⟨i, _, rfl⟩ := List.mem_map.1 hv; exact hV i) _ w b0 (Nat.le_refl _)
  exact ⟨w2, hcp, row_rdf hR, hB⟩

theorem info9 : (Try.prog.info? 9).map (fun i => (i.zero, i.size, i.bytes)) = some (some (.string ⟨#[]⟩), 1, 16) := by kernel_rfl
theorem info3 : (Try.prog.info? 3).map (fun i => (i.zero, i.size, i.bytes)) = some (some (.int .i64 0), 1, 8) := by kernel_rfl
theorem info5 : (Try.prog.info? 5).map (fun i => (i.zero, i.size, i.bytes)) = some (some (.int .u8 0), 1, 1) := by kernel_rfl

/-- A slice of the call's own (or nil), as a copy leaves it. -/
def Mine (w : World) (a : Option Addr) (n c : Nat) (V : Nat → Value) : Prop := c = n ∧ ((a = none ∧ n = 0) ∨ ∃ g, a = some ⟨g, 0, none⟩) ∧ RdF w a n V

theorem Mine.since {w w' : World} {a : Option Addr} {n c : Nat} {V : Nat → Value} (h : Mine w a n c V) (hf : Below w.heap.size w w') : Mine w' a n c V := ⟨h.1, h.2.1, h.2.2.since hf⟩

end Go.Proofs.Qxb6617665a.Pre
