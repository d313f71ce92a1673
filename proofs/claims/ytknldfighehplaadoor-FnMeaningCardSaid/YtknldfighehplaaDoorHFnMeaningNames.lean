/- The names of two lists of options, the tags that a number assigns, the copies of lists of lists: that the printed functions come to an end, and how long what they return is; conditions: lengths in bounds. -/
import Derived.Test.YtknldfighehplaaDoorHFnMeaningEvals
namespace Go.Proofs.YtknldfighehplaaDoor.HFnMeaningNames
set_option linter.unusedSimpArgs false
set_option linter.unusedVariables false
open Go.RowKit Go.Proofs.YtknldfighehplaaDoor.HFnMeaningList Go.Proofs.YtknldfighehplaaDoor.HFnMeaningPlain Go.Proofs.YtknldfighehplaaDoor.HFnMeaningEvals Go.Proofs.YtknldfighehplaaDoor.PFnMeaning Go.Proofs.YtknldfighehplaaDoorW.PrintWords Go.Proofs.YtknldfighehplaaDoorW.PrintLast Go.Proofs.YtknldfighehplaaDoorW.PrintMore

theorem names2 (L : List (List (List ByteArray))) (N J : Int) (l : List (List ByteArray)) (ln i : Int) (o : List ByteArray) (ho : o.length ≤ 1000000) (k : Nat) : ∀ (m n : Nat) (x3 : List ByteArray), m + n = o.length → x3.length + m ≤ 1000000000 → x3.length + m < k →
    ∃ x3' : List ByteArray, x3'.length ≤ x3.length + m ∧ spec_TagNames.l2 (k + m + 1) x3 L N J l ln i o o.length n = spec_TagNames.l1 k x3' L N J l ln (wrap64 (i + 1)) := by
  intro m
  induction m with
  | zero =>
    intro n x3 hn h1 h2
    have : n = o.length := by omega
    subst this
    exact ⟨x3, by omega, by rw [spec_TagNames.l2, if_neg (by omega)]⟩
  | succ m ih =>
    intro n x3 hn h1 h2
    have hlt : n < o.length := by omega
    have hw : wrap64 ((n : Int) + 1) = ((n + 1 : Nat) : Int) := by unfold wrap64; omega
    rw [show k + (m + 1) + 1 = (k + m + 1) + 1 by omega, spec_TagNames.l2, if_pos (by omega), if_pos (by omega), if_pos (by omega), termParts_is]
    simp only [Option.bind_some]
    rw [tagsListed_is _ _ (by omega) _ (by omega), hw]
    simp only [Option.bind_some]
    split
    · obtain ⟨y, hy1, hy2⟩ := ih (n + 1) x3 (by omega) (by omega) (by omega)
      exact ⟨y, by omega, hy2⟩
    · rw [if_pos (by omega)]
      obtain ⟨y, hy1, hy2⟩ := ih (n + 1) (x3 ++ [nameOf (rdOf ByteArray.empty o n)]) (by omega) (by simp; omega) (by simp; omega)
      exact ⟨y, by simp at hy1; omega, hy2⟩
def cost (l : List (List ByteArray)) : Nat := (l.map fun o => o.length + 2).sum
def tot (l : List (List ByteArray)) : Nat := (l.map List.length).sum
theorem names1 (L : List (List (List ByteArray))) (N J : Int) (l : List (List ByteArray)) (hl : l.length ≤ 1000000) (hs : ∀ o ∈ l, o.length ≤ 1000000) (k : Nat) : ∀ (m j : Nat) (x3 : List ByteArray), m + j = l.length → x3.length + tot (l.drop j) ≤ 1000000000 → x3.length + tot (l.drop j) < k →
    ∃ x3' : List ByteArray, x3'.length ≤ x3.length + tot (l.drop j) ∧ spec_TagNames.l1 (k + cost (l.drop j) + 1) x3 L N J l l.length j = spec_TagNames.l0 k x3' L N (wrap64 (J + 1)) := by
  intro m
  induction m with
  | zero =>
    intro j x3 hj h1 h2
    have : j = l.length := by omega
    subst this
    exact ⟨x3, by omega, by rw [List.drop_length, spec_TagNames.l1, if_neg (by omega)]; rfl⟩
  | succ m ih =>
    intro j x3 hj h1 h2
    have hlt : j < l.length := by omega
    have hw : wrap64 ((j : Int) + 1) = ((j + 1 : Nat) : Int) := by unfold wrap64; omega
    have hin := hs _ (rd1_mem hlt)
    have hc : k + cost (l.drop j) + 1 = ((k + cost (l.drop (j + 1)) + 1) + (rd_L1 l j).length + 1) + 1 := by
      rw [drop_rd1 hlt]; simp only [cost, List.map_cons, List.sum_cons]; omega
    have ht : tot (l.drop j) = (rd_L1 l j).length + tot (l.drop (j + 1)) := by rw [drop_rd1 hlt]; simp [tot]
    obtain ⟨y, hy1, hy2⟩ := names2 L N J l l.length j (rd_L1 l j) hin (k + cost (l.drop (j + 1)) + 1) (rd_L1 l j).length 0 x3 (by omega) (by omega) (by omega)
    obtain ⟨z, hz1, hz2⟩ := ih (j + 1) y (by omega) (by omega) (by omega)
    refine ⟨z, by omega, ?_⟩
    rw [hc, spec_TagNames.l1, if_pos (by omega), if_pos (by omega), if_pos (by omega)]
    rw [show ((0 : Nat) : Int) = 0 from rfl] at hy2
    rw [hy2, hw, hz2]
theorem w01 : wrap64 (0 + 1) = 1 := by unfold wrap64; omega
theorem w11 : wrap64 (1 + 1) = 2 := by unfold wrap64; omega
theorem names_is (a b : List (List ByteArray)) (ha : a.length ≤ 1000000) (hb : b.length ≤ 1000000) (hsa : ∀ o ∈ a, o.length ≤ 1000000) (hsb : ∀ o ∈ b, o.length ≤ 1000000) (ht : tot a + tot b ≤ 1000000000) :
    ∃ (K : Nat) (r : List ByteArray), spec_TagNames.f K [a, b] = some r ∧ r.length ≤ tot a + tot b := by
  obtain ⟨k1, hk1⟩ : ∃ k1, k1 = tot a + tot b + 1 := ⟨_, rfl⟩
  obtain ⟨k2, hk2⟩ : ∃ k2, k2 = (k1 + 1) + cost b + 1 := ⟨_, rfl⟩
  obtain ⟨y, hy1, hy2⟩ := names1 [a, b] 2 0 a ha hsa (k2 + 1) a.length 0 [] (by omega) (by simp; omega) (by simp; omega)
  rw [List.drop_zero] at hy1 hy2
  have hy3 : y.length ≤ tot a := by simpa using hy1
  obtain ⟨z, hz1, hz2⟩ := names1 [a, b] 2 1 b hb hsb (k1 + 1) b.length 0 y (by omega) (by rw [List.drop_zero]; omega) (by rw [List.drop_zero]; omega)
  rw [List.drop_zero] at hz1 hz2
  refine ⟨((k2 + 1) + cost a + 1) + 1, z, ?_, by omega⟩
  unfold spec_TagNames.f
  rw [show (([a, b] : List (List (List ByteArray))).length : Int) = 2 from rfl, spec_TagNames.l0, if_pos (by first | omega | simp), if_pos (by first | omega | simp), if_pos (by first | omega | simp), show rd_L7 [a, b] 0 = a from rfl]
  rw [show ((0 : Nat) : Int) = 0 from rfl] at hy2 hz2
  rw [hy2, w01, spec_TagNames.l0, if_pos (by first | omega | simp), if_pos (by first | omega | simp), if_pos (by simp), show rd_L7 [a, b] 1 = b from rfl, hk2, hz2, w11, spec_TagNames.l0, if_neg (by omega)]
theorem assigned_l (a1 : Int) (l : List ByteArray) (hl : l.length ≤ 2147483647) : ∀ (m n k : Nat) (acc : List ByteArray), m + n = l.length → m < k → acc.length + m ≤ 4294967296 →
    ∃ r : List ByteArray, spec_Assigned.l0 k a1 acc l l.length n = some r ∧ r.length ≤ acc.length + m := by
  intro m
  induction m with
  | zero =>
    intro n k acc hn hk ha
    obtain ⟨k, rfl⟩ : ∃ j, k = j + 1 := ⟨k - 1, by omega⟩
    have : n = l.length := by omega
    subst this
    exact ⟨acc, by rw [spec_Assigned.l0, if_neg (by omega)], by omega⟩
  | succ m ih =>
    intro n k acc hn hk ha
    obtain ⟨k, rfl⟩ : ∃ j, k = j + 1 := ⟨k - 1, by omega⟩
    have hlt : n < l.length := by omega
    have hw : wrap64 ((n : Int) + 1) = ((n + 1 : Nat) : Int) := by unfold wrap64; omega
    rw [spec_Assigned.l0, if_pos (by omega), if_pos (by omega), if_pos (by omega), hw]
    split
    · rw [if_pos (by omega)]
      obtain ⟨r, h1, h2⟩ := ih (n + 1) k (acc ++ [rdOf ByteArray.empty l n]) (by omega) (by omega) (by simp; omega)
      exact ⟨r, h1, by simp at h2; omega⟩
    · obtain ⟨r, h1, h2⟩ := ih (n + 1) k acc (by omega) (by omega) (by omega)
      exact ⟨r, h1, by omega⟩
theorem assigned_is (a1 : Int) (l : List ByteArray) (hl : l.length ≤ 2147483647) : ∃ r : List ByteArray, spec_Assigned.f (l.length + 1) l a1 = some r ∧ r.length ≤ l.length := by
  obtain ⟨r, h1, h2⟩ := assigned_l a1 l hl l.length 0 (l.length + 1) [] (by omega) (by omega) (by simp; omega)
  exact ⟨r, by unfold spec_Assigned.f; exact h1, by simpa using h2⟩
theorem constraints_is (M : Nat) (a b : List (List ByteArray)) (ha : a.length ≤ 1000000) (hb : b.length ≤ 1000000) (hM : M ≤ 1000000) (hsa : within M a) (hsb : within M b) : impl_constraints.f (2000000 + M + 4) [a, b] = some [a, b] := by
  unfold impl_constraints.f
  rw [show (([a, b] : List (List (List ByteArray))).length : Int) = 2 from rfl, show 2000000 + M + 4 = (2000000 + M + 1) + 1 + 1 + 1 by omega, impl_constraints.l0, if_pos (by first | omega | simp), if_pos (by first | omega | simp), if_pos (by first | omega | simp), show rd_L7 [a, b] 0 = a from rfl, constraint_is M a (by omega) (by omega) hsa _ (by omega)]
  simp only [Option.bind_some]
  rw [if_pos (by simp), w01, impl_constraints.l0, if_pos (by first | omega | simp), if_pos (by first | omega | simp), if_pos (by simp), show rd_L7 [a, b] 1 = b from rfl, constraint_is M b (by omega) (by omega) hsb _ (by omega)]
  simp only [Option.bind_some]
  rw [if_pos (by simp), w11, impl_constraints.l0, if_neg (by omega)]
  rfl
end Go.Proofs.YtknldfighehplaaDoor.HFnMeaningNames
