import Derived.Below
namespace Go.Proofs.Ybulkagkq.Hp

/-- the element at i -/
def el (zs : List Int) (i : Nat) : Int := zs.getD i 0
def swapL (zs : List Int) (i j : Nat) : List Int := (zs.set i (el zs j)).set j (el zs i)

theorem swapL_length (zs : List Int) (i j : Nat) : (swapL zs i j).length = zs.length := by simp [swapL]

theorem swapL_perm (zs : List Int) (i j : Nat) (hi : i < zs.length) (hj : j < zs.length) : (swapL zs i j).Perm zs := by
  have h := Array.swap_perm (xs := zs.toArray) (i := i) (j := j) (by simpa using hi) (by simpa using hj)
  have h' := h.toList
  simpa [swapL, el, List.getD_eq_getElem?_getD, hi, hj, List.getElem?_eq_getElem] using h'

theorem el_swapL (zs : List Int) (i j k : Nat) (hi : i < zs.length) (hj : j < zs.length) : el (swapL zs i j) k = if k = j then el zs i else if k = i then el zs j else el zs k := by
  unfold swapL
  by_cases e1 : k = j
  · subst e1; simp [el, hj]
  · by_cases e2 : k = i
    · subst e2
      rw [if_neg e1, if_pos rfl]
      simp only [el, List.getD_eq_getElem?_getD]
      rw [List.getElem?_set_ne (by omega)]
      simp [hi]
    · rw [if_neg e1, if_neg e2]
      simp only [el, List.getD_eq_getElem?_getD]
      rw [List.getElem?_set_ne (by omega), List.getElem?_set_ne (by omega)]

def HeapN (n : Nat) (zs : List Int) : Prop := ∀ k, 0 < k → k < n → el zs ((k - 1) / 2) ≤ el zs k

structure UpInv (zs : List Int) (j : Nat) : Prop where
  lt : j < zs.length
  off : ∀ k, 0 < k → k < zs.length → k ≠ j → el zs ((k - 1) / 2) ≤ el zs k
  kid : ∀ k, 0 < k → k < zs.length → (k - 1) / 2 = j → 0 < j → el zs ((j - 1) / 2) ≤ el zs k

theorem up_stop {zs : List Int} {j : Nat} (h : UpInv zs j) (hs : j = 0 ∨ el zs ((j - 1) / 2) ≤ el zs j) : HeapN zs.length zs := by
  intro k hk hkn
  by_cases e : k = j
  · subst e; omega
  · exact h.off k hk hkn e

theorem up_step {zs : List Int} {j : Nat} (h : UpInv zs j) (hj : 0 < j) (hs : el zs j < el zs ((j - 1) / 2)) : UpInv (swapL zs ((j - 1) / 2) j) ((j - 1) / 2) := by
  have hlt := h.lt
  have hp : (j - 1) / 2 < j := by omega
  have hpl : (j - 1) / 2 < zs.length := by omega
  refine ⟨by rw [swapL_length]; omega, fun k hk hkn hne => ?_, fun k hk hkn he hp0 => ?_⟩
  · rw [swapL_length] at hkn
    rw [el_swapL _ _ _ _ hpl hlt, el_swapL _ _ _ _ hpl hlt]
    by_cases e1 : k = j
    · subst e1
      rw [if_neg (by omega), if_pos rfl, if_pos rfl]; omega
    · rw [if_neg e1, if_neg hne]
      have ho := h.off k hk hkn e1
      by_cases e2 : (k - 1) / 2 = j
      · rw [if_pos e2]
        exact h.kid k hk hkn e2 hj
      · rw [if_neg e2]
        by_cases e3 : (k - 1) / 2 = (j - 1) / 2
        · rw [if_pos e3]; rw [e3] at ho; omega
        · rw [if_neg e3]; exact ho
  · rw [swapL_length] at hkn
    rw [el_swapL _ _ _ _ hpl hlt, el_swapL _ _ _ _ hpl hlt]
    have hpp := h.off ((j - 1) / 2) hp0 hpl (by omega)
    rw [if_neg (by omega), if_neg (by omega)]
    by_cases e1 : k = j
    · rw [if_pos e1]; exact hpp
    · rw [if_neg e1, if_neg (by omega)]
      have ho := h.off k hk hkn e1
      rw [he] at ho
      omega

structure DownInv (n : Nat) (zs : List Int) (i : Nat) : Prop where
  le : n ≤ zs.length
  off : ∀ k, 0 < k → k < n → (k - 1) / 2 ≠ i → el zs ((k - 1) / 2) ≤ el zs k
  kid : ∀ k, 0 < k → k < n → (k - 1) / 2 = i → 0 < i → el zs ((i - 1) / 2) ≤ el zs k

theorem down_stop1 {n : Nat} {zs : List Int} {i : Nat} (h : DownInv n zs i) (hs : n ≤ 2 * i + 1) : HeapN n zs :=
  fun k hk hkn => h.off k hk hkn (by omega)

/-- j: the smaller child of i -/
structure Small (n : Nat) (zs : List Int) (i j : Nat) : Prop where
  is : j = 2 * i + 1 ∨ j = 2 * i + 2
  lt : j < n
  one : 2 * i + 1 < n → el zs j ≤ el zs (2 * i + 1)
  two : 2 * i + 2 < n → el zs j ≤ el zs (2 * i + 2)

theorem Small.kid {n : Nat} {zs : List Int} {i j : Nat} (h : Small n zs i j) {k : Nat} (hk : 0 < k) (hkn : k < n) (he : (k - 1) / 2 = i) : el zs j ≤ el zs k := by
  have : k = 2 * i + 1 ∨ k = 2 * i + 2 := by omega
  rcases this with rfl | rfl
  · exact h.one hkn
  · exact h.two hkn

theorem down_stop2 {n : Nat} {zs : List Int} {i j : Nat} (h : DownInv n zs i) (s : Small n zs i j) (hs : ¬ el zs j < el zs i) : HeapN n zs := by
  intro k hk hkn
  by_cases e : (k - 1) / 2 = i
  · rw [e]
    have := s.kid hk hkn e
    omega
  · exact h.off k hk hkn e

theorem down_step {n : Nat} {zs : List Int} {i j : Nat} (h : DownInv n zs i) (s : Small n zs i j) (hs : el zs j < el zs i) : DownInv n (swapL zs i j) j := by
  have hle := h.le
  have hj := s.lt
  have his := s.is
  have hpj : (j - 1) / 2 = i := by omega
  have hij : i < j := by omega
  have hil : i < zs.length := by omega
  have hjl : j < zs.length := by omega
  refine ⟨by rw [swapL_length]; exact hle, fun k hk hkn hne => ?_, fun k hk hkn he hj0 => ?_⟩
  · rw [el_swapL _ _ _ _ hil hjl, el_swapL _ _ _ _ hil hjl]
    rw [if_neg hne]
    by_cases e1 : k = j
    · subst e1
      rw [if_pos hpj, if_pos rfl]; omega
    · rw [if_neg e1]
      by_cases e2 : (k - 1) / 2 = i
      · rw [if_pos e2, if_neg (by omega)]
        exact s.kid hk hkn e2
      · rw [if_neg e2]
        by_cases e3 : k = i
        · subst e3
          rw [if_pos rfl]
          exact h.kid j (by omega) hj hpj hk
        · rw [if_neg e3]
          exact h.off k hk hkn e2
  · rw [el_swapL _ _ _ _ hil hjl, el_swapL _ _ _ _ hil hjl]
    rw [hpj, if_neg (by omega), if_pos rfl, if_neg (by omega), if_neg (by omega)]
    have := h.off k hk hkn (by omega)
    rw [he] at this
    exact this

theorem heap_root {n : Nat} {zs : List Int} (h : HeapN n zs) : ∀ k, k < n → el zs 0 ≤ el zs k := by
  intro k
  induction k using Nat.strongRecOn with
  | ind k ih =>
    intro hk
    by_cases e : k = 0
    · subst e; omega
    · have h1 := h k (by omega) hk
      have h2 := ih ((k - 1) / 2) (by omega) (by omega)
      omega

theorem up_push {zs : List Int} (x : Int) (h : HeapN zs.length zs) : UpInv (zs ++ [x]) zs.length := by
  have hel : ∀ k, k < zs.length → el (zs ++ [x]) k = el zs k := fun k hk => by simp only [el, List.getD_eq_getElem?_getD]; rw [List.getElem?_append_left hk]
  refine ⟨by simp, fun k hk hkn hne => ?_, fun k hk hkn he h0 => ?_⟩
  · simp at hkn
    rw [hel _ (by omega), hel _ (by omega)]
    exact h k hk (by omega)
  · simp at hkn; omega

theorem down_pop {zs : List Int} {m : Nat} (hl : zs.length = m + 1) (h : HeapN zs.length zs) : DownInv m (swapL zs 0 m) 0 := by
  refine ⟨by rw [swapL_length]; omega, fun k hk hkn hne => ?_, fun k hk hkn he h0 => by omega⟩
  rw [el_swapL _ _ _ _ (by omega) (by omega), el_swapL _ _ _ _ (by omega) (by omega)]
  rw [if_neg (by omega), if_neg hne, if_neg (by omega), if_neg (by omega)]
  exact h k hk (by omega)
end Go.Proofs.Ybulkagkq.Hp
