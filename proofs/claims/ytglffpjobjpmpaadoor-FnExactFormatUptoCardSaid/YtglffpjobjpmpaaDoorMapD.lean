/-
  A MAP OF TEXTS OF THE CALL's OWN: looked up; and the map that a list of pairs makes, in plain Lean.
-/
import Derived.Test.YtglffpjobjpmpaaDoorPair
import Derived.Maps.Own
import Derived.Maps.OwnOps
import Derived.Maps.OwnSet
import Derived.Maps.StringElems
import Derived.Maps.Views
import Derived.Sort.KeysCollected
namespace Go.Proofs.YtglffpjobjpmpaaDoor
open Go.RowKit Go.WideMaps Go.Maps Go.Sort

theorem zeroStr (w : World) : (zeroValue 9).run Tryd.prog w = .ok (.string ⟨#[]⟩) w := by kernel_rfl
theorem keyLaw : Keyed Tryd.prog 9 := string_keyed Tryd.underlying9

/-- Block b is a map of texts, of at most n entries, that reads as D. -/
def MapIs (b n : Nat) (D : DataW Unit) (w : World) : Prop := w.ownsMap Tryd.prog 9 (plainElem Tryd.prog 9) b n D
theorem MapIs.below {b n B : Nat} {D : DataW Unit} {w w' : World} (h : MapIs b n D w) (hB : b < B) (hb : Below B w w') : MapIs b n D w' := by
  obtain ⟨es, clock, h1, h2⟩ := h
  exact ⟨es, clock, by rw [hb.block b hB]; exact h1, h2⟩
/-- What the map says of a name, as bytes. -/
def valD (D : DataW Unit) (k : List UInt8) : List UInt8 := match D.atKey (.string k) (.lit (.string [])) with
  | .lit (.string x) => x
  | _ => []
theorem MapIs.lookup0 {b n : Nat} {D : DataW Unit} {w : World} (h : MapIs b n D w) (s : ByteArray) (hs : s.size ≤ maxLen) :
    ∃ x : ByteArray, (Instr.lookup 37 (.map (some b)) (.string s) false).run Tryd.prog w = .ok (.string x) w ∧ L x = valD D (L s) := by
  obtain ⟨v, ps, hrun, hv⟩ := World.ownsMap.lookup h keyLaw Tryd.underlying37 (zeroStr w) (plainElem_string Tryd.underlying9 (by decide)) (keyOf_string_mk Tryd.underlying9 hs)
  obtain ⟨x, rfl, hx, _⟩ := plainElem_string_inv Tryd.underlying9 hv
  refine ⟨x, hrun, ?_⟩
  have e : D.atKey (.string (L s)) (.lit (.string [])) = .lit (.string x.data.toList) := (Prod.mk.inj hx).1
  unfold valD
  rw [e]
  rfl

theorem strKey (x : List UInt8) : WideAt.IsKeyLit (.string x) := trivial
/-- The map that the pairs make: of those with one name the last counts. -/
def Dof (l : List Pr) : DataW Unit := l.foldl (fun D p => D.put (.string (L p.n)) (.lit (.string (L p.v)))) (.map [])
theorem Dof_snoc (l : List Pr) (p : Pr) : Dof (l ++ [p]) = (Dof l).put (.string (L p.n)) (.lit (.string (L p.v))) := by unfold Dof; rw [List.foldl_append]; rfl
theorem snoc_ind {α : Type} {M : List α → Prop} (h0 : M []) (h1 : ∀ l a, M l → M (l ++ [a])) (l : List α) : M l := by
  have key : ∀ r : List α, M r.reverse := by
    intro r
    induction r with
    | nil => exact h0
    | cons a r ih => rw [List.reverse_cons]; exact h1 _ _ ih
  have := key l.reverse
  rwa [List.reverse_reverse] at this
theorem Dof_isMap (l : List Pr) : IsMap (Dof l) := by
  refine snoc_ind (M := fun l => IsMap (Dof l)) isMap_empty (fun l p h => ?_) l
  rw [Dof_snoc]; exact h.put _ _
theorem Dof_has (l : List Pr) (k : List UInt8) : Maps.has (Dof l) (.string k) = l.any (fun p => decide (L p.n = k)) := by
  refine snoc_ind (M := fun l => Maps.has (Dof l) (.string k) = l.any (fun p => decide (L p.n = k))) rfl (fun l p h => ?_) l
  rw [Dof_snoc, List.any_append]
  by_cases e : L p.n = k
  · subst e
    rw [Maps.has_put_same (Dof_isMap l) (strKey _)]
    simp
  · rw [Maps.has_put_other (fun h => e (by cases h; rfl)), h]
    simp [e]
theorem Dof_val (l : List Pr) (k : List UInt8) : valD (Dof l) k = [] ∨ ∃ p ∈ l, L p.n = k ∧ valD (Dof l) k = L p.v := by
  refine snoc_ind (M := fun l => valD (Dof l) k = [] ∨ ∃ p ∈ l, L p.n = k ∧ valD (Dof l) k = L p.v) (.inl rfl) (fun l p h => ?_) l
  by_cases e : L p.n = k
  · subst e
    refine .inr ⟨p, by simp, rfl, ?_⟩
    unfold valD
    rw [Dof_snoc, atKey_put_same (Dof_isMap l) (strKey _)]
  · have hv : valD (Dof (l ++ [p])) k = valD (Dof l) k := by
      unfold valD
      rw [Dof_snoc, atKey_put_other (fun h => e (by cases h; rfl))]
    rw [hv]
    rcases h with h | ⟨q, hq, h1, h2⟩
    · exact .inl h
    · exact .inr ⟨q, by simp [hq], h1, h2⟩
theorem valD_len (l : List Pr) (m : Nat) (h : ∀ p ∈ l, p.v.size ≤ m) (k : List UInt8) : (valD (Dof l) k).length ≤ m := by
  rcases Dof_val l k with e | ⟨p, hp, _, e⟩
  · rw [e]; exact Nat.zero_le _
  · rw [e, L_length]; exact h p hp

theorem MapIs.mem {b n : Nat} {D : DataW Unit} {w : World} (h : MapIs b n D w) (x : List UInt8) : x ∈ strKeys D ↔ Maps.has D (.string x) = true := by
  obtain ⟨es, rfl, hk⟩ := World.ownsMap.keysOf h
  have key : ∀ p ∈ es, ∃ y, p.1 = .string y := fun p hp => by
    obtain ⟨key, hkey⟩ := hk p hp
    obtain ⟨y, _, e, _⟩ := Maps.keyOf_str Tryd.underlying9 hkey
    exact ⟨y, e⟩
  rw [has_eq, List.any_eq_true]
  constructor
  · intro hx
    obtain ⟨p, hp, e⟩ := List.mem_map.1 hx
    obtain ⟨y, hy⟩ := key p hp
    refine ⟨p, hp, ?_⟩
    rw [hy] at e ⊢
    have : y = x := e
    rw [this]
    exact WideAt.sameKey_self (strKey _)
  · rintro ⟨p, hp, e⟩
    refine List.mem_map.2 ⟨p, hp, ?_⟩
    have := WideAt.sameKey_eq e
    rw [this]; rfl
theorem MapIs.len_le {b n : Nat} {D : DataW Unit} {w : World} (h : MapIs b n D w) : (strKeys D).length ≤ n := by
  have := World.ownsMap.size_le h
  obtain ⟨es, rfl, _⟩ := World.ownsMap.keysOf h
  simpa [strKeys, Maps.size] using this
end Go.Proofs.YtglffpjobjpmpaaDoor
