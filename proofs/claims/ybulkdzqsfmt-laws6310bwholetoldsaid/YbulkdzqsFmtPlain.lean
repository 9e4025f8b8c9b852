/-
  The plain part of seat b6310aF: names, masks, and what a list of grants grants. No Go here.
-/
import Derived.WalkKit
namespace Go.Proofs.YbulkdzqsFmt.Pl

/-- The mask of a list of positions. -/
def Mk (l : List Nat) : Nat := l.foldl (fun m p => m ||| 2 ^ p) 0
theorem Mk_nil : Mk [] = 0 := rfl
theorem Mk_snoc (l : List Nat) (p : Nat) : Mk (l ++ [p]) = Mk l ||| 2 ^ p := by simp [Mk, List.foldl_append]
theorem fold_lt (l : List Nat) (h : ∀ p ∈ l, p < 63) : ∀ m, m < 2 ^ 63 → l.foldl (fun m p => m ||| 2 ^ p) m < 2 ^ 63 := by
  induction l with
  | nil => intro m hm; exact hm
  | cons a t ih =>
    intro m hm
    exact ih (fun p hp => h p (by simp [hp])) _ (Nat.or_lt_two_pow hm (Nat.pow_lt_pow_right (by omega) (h a (by simp))))
theorem Mk_lt (l : List Nat) (h : ∀ p ∈ l, p < 63) : Mk l < 2 ^ 63 := fold_lt l h 0 (by decide)

/-- The names, as bytes. -/
def roleL : Nat → List UInt8
  | 0 => [97, 100, 109, 105, 110]
  | 1 => [114, 101, 97, 100, 101, 114]
  | 2 => [119, 114, 105, 116, 101, 114]
  | 3 => [103, 117, 101, 115, 116]
  | 4 => [103, 104, 111, 115, 116]
  | _ => []
def resL : Nat → List UInt8
  | 0 => [42]
  | 1 => [97]
  | 2 => [98]
  | 3 => [99]
  | _ => [100]
def roleIdx (k : List UInt8) : Option Nat := if k = roleL 0 then some 0 else if k = roleL 1 then some 1 else if k = roleL 2 then some 2 else if k = roleL 3 then some 3 else none
def resIdx (k : List UInt8) : Option Nat := if k = resL 0 then some 0 else if k = resL 1 then some 1 else if k = resL 2 then some 2 else if k = resL 3 then some 3 else none

theorem roleIdx_roleL : ∀ j, j < 4 → roleIdx (roleL j) = some j
  | 0, _ | 1, _ | 2, _ | 3, _ => by decide
  | _ + 4, h => by omega
theorem resIdx_resL : ∀ j, j < 4 → resIdx (resL j) = some j
  | 0, _ | 1, _ | 2, _ | 3, _ => by decide
  | _ + 4, h => by omega
theorem roleIdx_some {k : List UInt8} {j : Nat} (h : roleIdx k = some j) : k = roleL j ∧ j < 4 := by
  unfold roleIdx at h
  split at h
  · cases h; exact ⟨by assumption, by omega⟩
  · split at h
    · cases h; exact ⟨by assumption, by omega⟩
    · split at h
      · cases h; exact ⟨by assumption, by omega⟩
      · split at h
        · cases h; exact ⟨by assumption, by omega⟩
        · cases h
theorem resIdx_some {k : List UInt8} {j : Nat} (h : resIdx k = some j) : k = resL j ∧ j < 4 := by
  unfold resIdx at h
  split at h
  · cases h; exact ⟨by assumption, by omega⟩
  · split at h
    · cases h; exact ⟨by assumption, by omega⟩
    · split at h
      · cases h; exact ⟨by assumption, by omega⟩
      · split at h
        · cases h; exact ⟨by assumption, by omega⟩
        · cases h
theorem roleL_inj {i j : Nat} (hi : i < 4) (hj : j < 4) (h : roleL i = roleL j) : i = j := by
  have := roleIdx_roleL i hi
  rw [h, roleIdx_roleL j hj] at this
  exact (Option.some.inj this).symm
theorem resL_inj {i j : Nat} (hi : i < 4) (hj : j < 4) (h : resL i = resL j) : i = j := by
  have := resIdx_resL i hi
  rw [h, resIdx_resL j hj] at this
  exact (Option.some.inj this).symm
theorem roleL_iff {j : Nat} (hj : j < 4) (k : List UInt8) : roleL j = k ↔ roleIdx k = some j :=
  ⟨fun h => by rw [← h]; exact roleIdx_roleL j hj, fun h => (roleIdx_some h).1.symm⟩
theorem resL_iff {j : Nat} (hj : j < 4) (k : List UInt8) : resL j = k ↔ resIdx k = some j :=
  ⟨fun h => by rw [← h]; exact resIdx_resL j hj, fun h => (resIdx_some h).1.symm⟩

/-- Grants: (role, resource, permission). -/
def perms (L : List (Nat × Nat × Nat)) (j k : Nat) : List Nat := (L.filter fun g => g.1 == j && g.2.1 == k && g.2.2 != 63).map (·.2.2)
def named (L : List (Nat × Nat × Nat)) (j : Nat) : Bool := L.any fun g => g.1 == j

theorem perms_nil (j k : Nat) : perms [] j k = [] := rfl
theorem named_nil (j : Nat) : named [] j = false := rfl
theorem named_snoc (L : List (Nat × Nat × Nat)) (g : Nat × Nat × Nat) (j : Nat) : named (L ++ [g]) j = (named L j || g.1 == j) := by simp [named]
theorem perms_hit (L : List (Nat × Nat × Nat)) (j k p : Nat) (hp : p ≠ 63) : perms (L ++ [(j, k, p)]) j k = perms L j k ++ [p] := by simp [perms, List.filter_append, hp]
theorem perms_miss (L : List (Nat × Nat × Nat)) (g : Nat × Nat × Nat) (j k : Nat) (h : ¬ (g.1 = j ∧ g.2.1 = k ∧ g.2.2 ≠ 63)) : perms (L ++ [g]) j k = perms L j k := by
  have hf : (g.1 == j && g.2.1 == k && g.2.2 != 63) = false := by
    cases hh : (g.1 == j && g.2.1 == k && g.2.2 != 63)
    · rfl
    · simp at hh; exact absurd ⟨hh.1.1, hh.1.2, hh.2⟩ h
  simp [perms, List.filter_append, hf]
theorem perms_lt (L : List (Nat × Nat × Nat)) (hL : ∀ g ∈ L, g.2.2 < 64) (j k : Nat) : ∀ p ∈ perms L j k, p < 63 := by
  intro p hp
  simp [perms] at hp
  obtain ⟨a, b, hm, hh⟩ := hp
  have := hL _ hm
  simp at this
  have := hh.2
  omega
theorem perms_len (L : List (Nat × Nat × Nat)) (j k : Nat) : (perms L j k).length ≤ L.length := by
  simp only [perms, List.length_map]; exact List.length_filter_le _ _
theorem perms_named {L : List (Nat × Nat × Nat)} {j k : Nat} (h : perms L j k ≠ []) : named L j = true := by
  obtain ⟨p, hp⟩ := List.exists_mem_of_ne_nil _ h
  simp [perms] at hp
  obtain ⟨a, b, hm, hh⟩ := hp
  simp only [named, List.any_eq_true]
  exact ⟨(a, b, p), hm, by simp [hh.1.1]⟩

/-- What a role grants on a resource. -/
def Sp (pm : Nat → Nat → List Nat) (key r : List UInt8) : Nat :=
  match roleIdx key with
  | none => 0
  | some j => Mk (pm j 0) ||| (match resIdx r with | some k => Mk (pm j k) | none => 0)

theorem Sp_none {pm : Nat → Nat → List Nat} {key : List UInt8} (h : roleIdx key = none) (r : List UInt8) : Sp pm key r = 0 := by unfold Sp; rw [h]
theorem Sp_some {pm : Nat → Nat → List Nat} {key : List UInt8} {j : Nat} (h : roleIdx key = some j) (r : List UInt8) : Sp pm key r = Mk (pm j 0) ||| (match resIdx r with | some k => Mk (pm j k) | none => 0) := by unfold Sp; rw [h]
theorem Sp_lt {pm : Nat → Nat → List Nat} (h : ∀ j k, Mk (pm j k) < 2 ^ 63) (key r : List UInt8) : Sp pm key r < 2 ^ 63 := by
  unfold Sp
  split
  · decide
  · refine Nat.or_lt_two_pow (h _ _) ?_
    split
    · exact h _ _
    · decide

/-- One grant more. -/
theorem Sp_snoc (L : List (Nat × Nat × Nat)) (j k p : Nat) (hj : j < 4) (hk : k < 4) (key r : List UInt8) :
    Sp (perms (L ++ [(j, k, p)])) key r = Sp (perms L) key r ||| (if roleL j = key ∧ p ≠ 63 ∧ (resL k = r ∨ resL k = resL 0) then 2 ^ p else 0) := by
  cases hr : roleIdx key with
  | none =>
    have hn : ¬ (roleL j = key ∧ p ≠ 63 ∧ (resL k = r ∨ resL k = resL 0)) := fun h => by rw [(roleL_iff hj key).1 h.1] at hr; cases hr
    rw [Sp_none hr, Sp_none hr, if_neg hn]; rfl
  | some i =>
    rw [Sp_some hr, Sp_some hr]
    by_cases hij : roleL j = key
    · have e : j = i := by have := (roleL_iff hj key).1 hij; rw [hr] at this; exact (Option.some.inj this).symm
      subst e
      by_cases hp : p = 63
      · rw [if_neg (fun h => h.2.1 hp), perms_miss L (j, k, p) j 0 (fun h => h.2.2 hp)]
        cases resIdx r with
        | none => simp
        | some q => simp only; rw [perms_miss L (j, k, p) j q (fun h => h.2.2 hp)]; simp
      · by_cases hk0 : k = 0
        · subst hk0
          rw [if_pos ⟨hij, hp, .inr rfl⟩, perms_hit L j 0 p hp, Mk_snoc]
          cases hq : resIdx r with
          | none => simp
          | some q =>
            simp only
            by_cases hq0 : q = 0
            · subst hq0
              rw [perms_hit L j 0 p hp, Mk_snoc, Nat.or_self, Nat.or_self]
            · rw [perms_miss L (j, 0, p) j q (fun h => hq0 h.2.1.symm)]
              rw [Nat.or_assoc, Nat.or_comm (2 ^ p), ← Nat.or_assoc]
        · rw [perms_miss L (j, k, p) j 0 (fun h => hk0 h.2.1)]
          cases hq : resIdx r with
          | none =>
            have hn : ¬ (roleL j = key ∧ p ≠ 63 ∧ (resL k = r ∨ resL k = resL 0)) := fun h => by
              rcases h.2.2 with h1 | h1
              · rw [(resL_iff hk r).1 h1] at hq; cases hq
              · exact hk0 (resL_inj hk (by omega) h1)
            rw [if_neg hn]; simp
          | some q =>
            simp only
            by_cases hqk : k = q
            · subst hqk
              have hrk : resL k = r := (resL_iff hk r).2 hq
              rw [if_pos ⟨hij, hp, .inl hrk⟩, perms_hit L j k p hp, Mk_snoc, Nat.or_assoc]
            · have hn : ¬ (roleL j = key ∧ p ≠ 63 ∧ (resL k = r ∨ resL k = resL 0)) := fun h => by
                rcases h.2.2 with h1 | h1
                · have := (resL_iff hk r).1 h1; rw [hq] at this; exact hqk (Option.some.inj this).symm
                · exact hk0 (resL_inj hk (by omega) h1)
              rw [if_neg hn, perms_miss L (j, k, p) j q (fun h => hqk h.2.1)]; simp
    · have hne : j ≠ i := fun e => hij (by rw [e]; exact (roleIdx_some hr).1.symm)
      rw [if_neg (fun h => hij h.1), perms_miss L (j, k, p) i 0 (fun h => hne h.1)]
      cases resIdx r with
      | none => simp
      | some q => simp only; rw [perms_miss L (j, k, p) i q (fun h => hne h.1)]; simp

end Go.Proofs.YbulkdzqsFmt.Pl
