/-
  THE PLAIN LAW OF FnExactFormat: the keys in order are the names of the pairs in order.
-/
import Derived.Test.YtglffpjobjpmpaaDoorRef
import Derived.Test.YtglffpjobjpmpaaDoorSpF
import Derived.Test.YtglffpjobjpmpaaDoorNam
import Derived.Sort.Walk0
namespace Go.Proofs.YtglffpjobjpmpaaDoor
open Go.RowKit Go.WideMaps Go.Maps Go.Sort

theorem leB_total (x y : List UInt8) : (leB x y || leB y x) = true := by
  rcases List.le_total x y with h | h <;> simp [h]
theorem leB_trans (x y z : List UInt8) (h1 : leB x y = true) (h2 : leB y z = true) : leB x z = true := by
  simp only [decide_eq_true_eq] at h1 h2 ⊢
  exact List.le_trans h1 h2
theorem ltP_le (y x : Pr) (h : ltP y x = true) : leB (L y.n) (L x.n) = true := by
  unfold ltP at h
  rw [bytesLess_eq, toList_L, toList_L] at h
  exact decide_eq_true (List.le_of_lt (of_decide_eq_true h))
theorem ltP_not (y x : Pr) (h : ltP y x = false) : leB (L x.n) (L y.n) = true := by
  unfold ltP at h
  rw [bytesLess_eq, toList_L, toList_L] at h
  exact decide_eq_true (List.not_lt.1 (of_decide_eq_false h))
theorem tw_mem (f : Pr → Bool) (l : List Pr) : ∀ z ∈ l.takeWhile f, f z = true := by
  induction l with
  | nil => intro z hz; cases hz
  | cons a r ih =>
    intro z hz
    cases h : f a with
    | false => simp [h] at hz
    | true =>
      simp [h] at hz
      rcases hz with rfl | hz
      · exact h
      · exact ih z hz
def LeP (a b : Pr) : Prop := leB (L a.n) (L b.n) = true
theorem insP_sorted (l : List Pr) (x : Pr) (h : l.Pairwise LeP) : (insP l x).Pairwise LeP := by
  have hsp := List.takeWhile_append_dropWhile (p := fun y => ltP y x) (l := l)
  have hp := h
  rw [← hsp, List.pairwise_append] at hp
  have hge : ∀ z ∈ l.dropWhile (fun y => ltP y x), LeP x z := by
    intro z hz
    cases hd : l.dropWhile (fun y => ltP y x) with
    | nil => rw [hd] at hz; cases hz
    | cons a r =>
      have ha : ltP a x = false := by
        have := List.head?_dropWhile_not (fun y => ltP y x) l
        rw [hd] at this
        simpa using this
      have hxa : LeP x a := ltP_not a x ha
      rw [hd] at hz
      rcases List.mem_cons.1 hz with rfl | hz
      · exact hxa
      · have h2 := hp.2.1
        rw [hd] at h2
        exact leB_trans _ _ _ hxa ((List.pairwise_cons.1 h2).1 z hz)
  have hle : ∀ z ∈ l.takeWhile (fun y => ltP y x), LeP z x := fun z hz => ltP_le z x (tw_mem _ _ z hz)
  unfold insP
  rw [List.append_assoc, List.pairwise_append]
  refine ⟨hp.1, ?_, ?_⟩
  · rw [List.singleton_append, List.pairwise_cons]
    exact ⟨hge, hp.2.1⟩
  · intro a ha b hb
    rcases List.mem_append.1 hb with hb | hb
    · simp at hb; rw [hb]; exact hle a ha
    · exact hp.2.2 a ha b hb
theorem insP_perm (l : List Pr) (x : Pr) : (insP l x).Perm (l ++ [x]) := by
  have hsp := List.takeWhile_append_dropWhile (p := fun y => ltP y x) (l := l)
  unfold insP
  rw [List.append_assoc]
  conv => rhs; rw [← hsp]
  rw [List.append_assoc]
  exact List.Perm.append_left _ List.perm_append_comm
theorem sortP_sorted (l : List Pr) : (sortP l).Pairwise LeP := by
  refine snoc_ind (M := fun l => (sortP l).Pairwise LeP) List.Pairwise.nil (fun l p h => ?_) l
  rw [sortP_snoc]; exact insP_sorted _ _ h
theorem sortP_perm (l : List Pr) : (sortP l).Perm l := by
  refine snoc_ind (M := fun l => (sortP l).Perm l) (List.Perm.refl _) (fun l p h => ?_) l
  rw [sortP_snoc]; exact (insP_perm _ _).trans (h.append_right _)

theorem NamesOk.same {l : List Pr} (h : NamesOk l) : ∀ p ∈ l, ∀ q ∈ l, L p.n = L q.n → p = q := by
  have := h.2
  clear h
  induction l with
  | nil => intro p hp; cases hp
  | cons a r ih =>
    obtain ⟨h1, h2⟩ := List.pairwise_cons.1 this
    intro p hp q hq e
    rcases List.mem_cons.1 hp with rfl | hp' <;> rcases List.mem_cons.1 hq with rfl | hq'
    · rfl
    · exact absurd (by rw [e]) (h1 q hq')
    · exact absurd (by rw [e]) (h1 p hp')
    · exact ih h2 p hp' q hq' e
theorem Dof_there (l : List Pr) (k : List UInt8) (h : ∃ p ∈ l, L p.n = k) : ∃ q ∈ l, L q.n = k ∧ valD (Dof l) k = L q.v := by
  revert h
  refine snoc_ind (M := fun l => (∃ p ∈ l, L p.n = k) → ∃ q ∈ l, L q.n = k ∧ valD (Dof l) k = L q.v) (fun h => by obtain ⟨p, hp, _⟩ := h; cases hp) (fun l p ih h => ?_) l
  by_cases e : L p.n = k
  · subst e
    refine ⟨p, by simp, rfl, ?_⟩
    unfold valD
    rw [Dof_snoc, atKey_put_same (Dof_isMap l) (strKey _)]
  · have hv : valD (Dof (l ++ [p])) k = valD (Dof l) k := by
      unfold valD
      rw [Dof_snoc, atKey_put_other (fun h => e (by cases h; rfl))]
    obtain ⟨q, hq, he⟩ := h
    rcases List.mem_append.1 hq with hq | hq
    · obtain ⟨q', h1, h2, h3⟩ := ih ⟨q, hq, he⟩
      exact ⟨q', by simp [h1], h2, by rw [hv]; exact h3⟩
    · simp at hq; rw [hq] at he; exact absurd he e
theorem NamesOk.nodup {l : List Pr} (h : NamesOk l) : (l.map fun p => L p.n).Nodup := by
  rw [List.Nodup, List.pairwise_map]
  exact h.2.imp fun hne e => hne (by rw [e])

theorem keys_sorted {b n : Nat} {l : List Pr} {w : World} (hm : MapIs b n (Dof l) w) (h : NamesOk l) : (strKeys (Dof l)).mergeSort leB = (sortP l).map fun p => L p.n := by
  have hp : (l.map fun p => L p.n).Perm (strKeys (Dof l)) := by
    obtain ⟨es, he, htidy⟩ := World.ownsMap.tidy hm keyLaw
    obtain ⟨es', he', hk⟩ := World.ownsMap.keysOf hm
    rw [he] at he'
    cases he'
    have key : ∀ p ∈ es, ∃ y, p.1 = .string y := fun p hp => by
      obtain ⟨key, hkey⟩ := hk p hp
      obtain ⟨y, _, e, _⟩ := Maps.keyOf_str Tryd.underlying9 hkey
      exact ⟨y, e⟩
    rw [he]
    refine perm_strKeys htidy key h.nodup fun x => ?_
    rw [← he, Dof_has, List.any_eq_true, List.mem_map]
    simp
  rw [← mergeSort_of_perm hp]
  have hp2 : (l.map fun p => L p.n).Perm ((sortP l).map fun p => L p.n) := ((sortP_perm l).map _).symm
  rw [mergeSort_of_perm hp2]
  refine List.mergeSort_of_pairwise ?_
  rw [List.pairwise_map]
  exact sortP_sorted l

theorem format_law {b n : Nat} {l : List Pr} {w : World} (ty : List UInt8) (hm : MapIs b n (Dof l) w) (h : NamesOk l) : fmtR ty (Dof l) ((strKeys (Dof l)).mergeSort leB) = Lib.toLowerA ty ++ fmtP (sortP l) := by
  rw [keys_sorted hm h]
  unfold fmtR
  rw [if_pos]
  · congr 1
    unfold fmtAll fmtP
    rw [List.flatMap_map]
    have : ∀ S : List Pr, (∀ p ∈ S, p ∈ l) → (S.flatMap fun p => fmt1 (L p.n) (valD (Dof l) (L p.n))) = S.flatMap fun p => fmt1 (L p.n) (L p.v) := by
      intro S
      induction S with
      | nil => intro _; rfl
      | cons p r ih =>
        intro hS
        obtain ⟨q, hq, h1, h2⟩ := Dof_there l (L p.n) ⟨p, hS p (by simp), rfl⟩
        have e := h.same q hq p (hS p (by simp)) h1
        rw [List.flatMap_cons, List.flatMap_cons, h2, e, ih fun z hz => hS z (by simp [hz])]
    exact this _ fun p hp => (sortP_mem l p).1 hp
  · rw [List.all_eq_true]
    intro k hk
    obtain ⟨p, hp, e⟩ := List.mem_map.1 hk
    rw [← e]
    exact h.1 p ((sortP_mem l p).1 hp)
end Go.Proofs.YtglffpjobjpmpaaDoor
