import PyProof.Rows.All
import Wide.All
import OpenK.AllK
import Wide.FinOn
import PySem.Challenge.RW_sc0031_01
set_option Elab.async false
namespace Mine
def isBord (w : List Int) (b : Nat) : Bool := w.take b == w.drop (w.length - b)
def bord (w : List Int) : Nat := ((List.range w.length).reverse.find? (isBord w)).getD 0
structure KI (ns : List Int) (i idx : Nat) : Prop where
  ipos : 1 ≤ i
  ils : i < ns.length
  ilt : idx < i
  bord : ns.take idx = (ns.take i).drop (i - idx)
  none : ∀ b, idx < b → b < i → ns.take b = (ns.take i).drop (i - b) → ns.getD b 0 ≠ ns.getD i 0
theorem fnd (p : Nat → Bool) (h0 : p 0 = true) : ∀ n, p (((List.range n).reverse.find? p).getD 0) = true ∧ (1 ≤ n → ((List.range n).reverse.find? p).getD 0 < n) ∧ ∀ b, ((List.range n).reverse.find? p).getD 0 < b → b < n → p b = false := by
  intro n
  induction n with
  | zero => exact ⟨h0, fun h => absurd h (by decide), fun b _ h => absurd h (Nat.not_lt_zero _)⟩
  | succ n ih =>
    rw [List.range_succ, List.reverse_append]
    simp only [List.reverse_cons, List.reverse_nil, List.nil_append, List.cons_append, List.find?_cons]
    cases hp : p n with
    | true =>
      refine ⟨hp, fun _ => Nat.lt_succ_self _, fun b h1 h2 => ?_⟩
      simp only [Option.getD_some] at h1
      omega
    | false =>
      obtain ⟨i1, i2, i3⟩ := ih
      refine ⟨i1, fun _ => ?_, fun b h1 h2 => ?_⟩
      · cases n with
        | zero => rw [h0] at hp; cases hp
        | succ m => have := i2 (by omega); dsimp only; omega
      · by_cases e : b = n
        · rw [e]; exact hp
        · exact i3 b h1 (by omega)
theorem bord_iff {ns : List Int} {i b : Nat} (hb : b ≤ i) (hi : i ≤ ns.length) : ns.take b = (ns.take i).drop (i - b) ↔ ∀ j, j < b → ns.getD j 0 = ns.getD (i - b + j) 0 := by
  constructor
  · intro h j hj
    have h1 := congrArg (fun l => l.getD j 0) h
    simp only [List.getD_eq_getElem?_getD, List.getElem?_drop, List.getElem?_take] at h1 ⊢
    rw [if_pos hj, if_pos (by omega)] at h1
    exact h1
  · intro h
    apply List.ext_getElem
    · simp only [List.length_take, List.length_drop]; omega
    · intro j h1 h2
      have h3 : j < b := by simp only [List.length_take] at h1; omega
      have h4 := h j h3
      simp only [List.getElem_take, List.getElem_drop]
      simpa [List.getD, show j < ns.length by omega, show i - b + j < ns.length by omega] using h4
theorem bord_spec {ns : List Int} {i : Nat} (h1 : 1 ≤ i) (h2 : i ≤ ns.length) : bord (ns.take i) < i ∧ (∀ j, j < bord (ns.take i) → ns.getD j 0 = ns.getD (i - bord (ns.take i) + j) 0) ∧
    ∀ b, bord (ns.take i) < b → b < i → ¬ ∀ j, j < b → ns.getD j 0 = ns.getD (i - b + j) 0 := by
  have hl : (ns.take i).length = i := by rw [List.length_take]; omega
  have hp : ∀ b, b ≤ i → (isBord (ns.take i) b = true ↔ ∀ j, j < b → ns.getD j 0 = ns.getD (i - b + j) 0) := by
    intro b hb
    rw [← bord_iff hb h2]
    unfold isBord
    rw [hl, beq_iff_eq, List.take_take, Nat.min_eq_left hb]
  obtain ⟨q1, q2, q3⟩ := fnd (isBord (ns.take i)) (by simp [isBord]) i
  have e : bord (ns.take i) = ((List.range i).reverse.find? (isBord (ns.take i))).getD 0 := by unfold bord; rw [hl]
  rw [← e] at q1 q2 q3
  have q2 := q2 h1
  refine ⟨q2, (hp _ (by omega)).mp q1, fun b hb1 hb2 hb3 => ?_⟩
  have := q3 b hb1 hb2
  rw [(hp b (by omega)).mpr hb3] at this
  cases this
theorem bord_uniq {ns : List Int} {i r : Nat} (h1 : 1 ≤ i) (h2 : i ≤ ns.length) (hr : r < i) (hb : ∀ j, j < r → ns.getD j 0 = ns.getD (i - r + j) 0) (hm : ∀ b, r < b → b < i → ¬ ∀ j, j < b → ns.getD j 0 = ns.getD (i - b + j) 0) : bord (ns.take i) = r := by
  obtain ⟨s1, s2, s3⟩ := bord_spec h1 h2
  rcases Nat.lt_trichotomy (bord (ns.take i)) r with h | h | h
  · exact absurd hb (s3 r h hr)
  · exact h
  · exact absurd s2 (hm _ h s1)
theorem ki_start {ns : List Int} {i : Nat} (h1 : 1 ≤ i) (h2 : i < ns.length) : KI ns i (bord (ns.take i)) := by
  obtain ⟨s1, s2, s3⟩ := bord_spec h1 (Nat.le_of_lt h2)
  exact ⟨h1, h2, s1, (bord_iff (Nat.le_of_lt s1) (Nat.le_of_lt h2)).mpr s2, fun b hb1 hb2 hb3 => absurd ((bord_iff (Nat.le_of_lt hb2) (Nat.le_of_lt h2)).mp hb3) (s3 b hb1 hb2)⟩
theorem ki_up {ns : List Int} {i idx : Nat} (h : KI ns i idx) : ∀ b, idx + 1 < b → b < i + 1 → ¬ ∀ j, j < b → ns.getD j 0 = ns.getD (i + 1 - b + j) 0 := by
  intro b hb1 hb2 hb3
  obtain ⟨c, rfl⟩ : ∃ c, b = c + 1 := ⟨b - 1, by omega⟩
  refine h.none c (by omega) (by omega) ((bord_iff (by omega) (Nat.le_of_lt h.ils)).mpr fun j hj => ?_) ?_
  · have := hb3 j (by omega)
    rwa [show i + 1 - (c + 1) = i - c by omega] at this
  · have := hb3 c (by omega)
    rwa [show i + 1 - (c + 1) + c = i by omega] at this
theorem ki_fail {ns : List Int} {i : Nat} (h : KI ns i 0) (hn : ns.getD i 0 ≠ ns.getD 0 0) : bord (ns.take (i + 1)) = 0 := by
  refine bord_uniq (by omega) h.ils (by omega) (fun j hj => absurd hj (Nat.not_lt_zero _)) fun b hb1 hb2 hb3 => ?_
  by_cases e : b = 1
  · subst e
    have := hb3 0 (by omega)
    rw [show i + 1 - 1 + 0 = i by omega] at this
    exact hn this.symm
  · exact ki_up h b (by omega) hb2 hb3
theorem ki_hit {ns : List Int} {i idx : Nat} (h : KI ns i idx) (hn : ns.getD i 0 = ns.getD idx 0) : bord (ns.take (i + 1)) = idx + 1 := by
  have hb := (bord_iff (Nat.le_of_lt h.ilt) (Nat.le_of_lt h.ils)).mp h.bord
  have := h.ilt
  refine bord_uniq (by omega) h.ils (by omega) (fun j hj => ?_) (ki_up h)
  rw [show i + 1 - (idx + 1) = i - idx by omega]
  by_cases e : j = idx
  · subst e
    rw [show i - j + j = i by omega]; exact hn.symm
  · exact hb j (by omega)
theorem ki_next {ns : List Int} {i idx : Nat} (h : KI ns i idx) (h0 : idx ≠ 0) (hn : ns.getD i 0 ≠ ns.getD idx 0) : KI ns i (bord (ns.take idx)) ∧ bord (ns.take idx) < idx := by
  have hb := (bord_iff (Nat.le_of_lt h.ilt) (Nat.le_of_lt h.ils)).mp h.bord
  have hlt := h.ilt
  have hls := h.ils
  obtain ⟨s1, s2, s3⟩ := bord_spec (ns := ns) (i := idx) (by omega) (by omega)
  refine ⟨⟨h.ipos, h.ils, by omega, (bord_iff (by omega) (by omega)).mpr fun j hj => ?_, fun b hb1 hb2 hb3 => ?_⟩, s1⟩
  · rw [s2 j hj, hb _ (by omega)]
    congr 1; omega
  · rcases Nat.lt_trichotomy b idx with e | e | e
    · exfalso
      refine s3 b hb1 e fun j hj => ?_
      have h3 := (bord_iff (by omega) (by omega)).mp hb3 j hj
      rw [h3, hb (idx - b + j) (by omega)]
      congr 1; omega
    · subst e; exact fun h9 => hn h9.symm
    · exact h.none b e hb2 hb3
end Mine
namespace Mine
def mcut : List Int → Nat
  | [] => 0
  | a :: r => if a :: r = (a :: r).reverse then 0 else mcut r + 1
def mirror (w : List Int) : List Int := w ++ (w.take (mcut w)).reverse
theorem mcut_spec : ∀ w : List Int, mcut w ≤ w.length ∧ w.drop (mcut w) = (w.drop (mcut w)).reverse ∧ ∀ c, c < mcut w → w.drop c ≠ (w.drop c).reverse := by
  intro w
  induction w with
  | nil => exact ⟨Nat.le_refl _, rfl, fun c h => absurd h (Nat.not_lt_zero _)⟩
  | cons a r ih =>
    rw [mcut]
    by_cases h : a :: r = (a :: r).reverse
    · rw [if_pos h]
      exact ⟨Nat.zero_le _, h, fun c h => absurd h (Nat.not_lt_zero _)⟩
    · rw [if_neg h]
      refine ⟨by rw [List.length_cons]; omega, ih.2.1, fun c hc => ?_⟩
      cases c with
      | zero => exact h
      | succ c => exact ih.2.2 c (by omega)
theorem pal_iff {l : List Int} : l = l.reverse ↔ ∀ j, j < l.length → l.getD j 0 = l.getD (l.length - 1 - j) 0 := by
  constructor
  · intro h j hj
    have h1 := congrArg (fun l => l.getD j 0) h
    simp only [List.getD_eq_getElem?_getD, List.getElem?_reverse hj] at h1 ⊢
    exact h1
  · intro h
    apply List.ext_getElem (by rw [List.length_reverse])
    intro j h1 h2
    have h3 := h j h1
    rw [List.getElem_reverse]
    simpa [List.getD, h1, show l.length - 1 - j < l.length by omega] using h3
/-- the tail from c on is a palindrome, told by places -/
theorem pal_drop {l : List Int} {c : Nat} (hc : c ≤ l.length) : l.drop c = (l.drop c).reverse ↔ ∀ j, j < l.length - c → l.getD (c + j) 0 = l.getD (l.length - 1 - j) 0 := by
  rw [pal_iff, List.length_drop]
  constructor
  · intro h j hj
    have := h j hj
    simp only [List.getD_eq_getElem?_getD, List.getElem?_drop] at this ⊢
    rw [this, show c + (l.length - c - 1 - j) = l.length - 1 - j by omega]
  · intro h j hj
    have := h j hj
    simp only [List.getD_eq_getElem?_getD, List.getElem?_drop] at this ⊢
    rw [this, show c + (l.length - c - 1 - j) = l.length - 1 - j by omega]
theorem mirror_len (w : List Int) : (mirror w).length = w.length + mcut w := by
  have := (mcut_spec w).1
  rw [mirror, List.length_append, List.length_reverse, List.length_take]; omega
theorem mirror_pal (w : List Int) : mirror w = (mirror w).reverse := by
  have h := (mcut_spec w).2.1
  have e : mirror w = w.take (mcut w) ++ (w.drop (mcut w) ++ (w.take (mcut w)).reverse) := by
    rw [mirror, ← List.append_assoc, List.take_append_drop]
  rw [e, List.reverse_append, List.reverse_append, List.reverse_reverse, ← h, List.append_assoc]
theorem mirror_getD {w : List Int} {j : Nat} (h : j < w.length) : (mirror w).getD j 0 = w.getD j 0 := by
  unfold mirror
  simp only [List.getD_eq_getElem?_getD, List.getElem?_append_left h]
end Mine
namespace Mine
theorem mcut_snoc (P : List Int) (x : Int) : mcut (P ++ [x]) ≤ P.length := by
  apply Nat.le_of_not_lt
  intro h
  refine (mcut_spec (P ++ [x])).2.2 P.length h ?_
  rw [List.drop_left]; rfl
theorem clos {P : List Int} {x : Int} (hP : P = P.reverse) {m : Nat} (h1 : P.length < m) (h2 : m ≤ P.length + (mcut (P ++ [x]) + 1)) : bord ((mirror (P ++ [x])).take m) = m - (mcut (P ++ [x]) + 1) := by
  have hW : (P ++ [x]).length = P.length + 1 := by rw [List.length_append]; rfl
  have hL := mirror_len (P ++ [x])
  have hM := pal_iff.mp (mirror_pal (P ++ [x]))
  have hc := mcut_snoc P x
  have hq := pal_iff.mp hP
  have hsp := (mcut_spec (P ++ [x])).2.2
  have hlow : ∀ j, j < P.length → (mirror (P ++ [x])).getD j 0 = P.getD j 0 := fun j hj => by
    rw [mirror_getD (by omega)]
    simp only [List.getD_eq_getElem?_getD, List.getElem?_append_left hj]
  have hlowW : ∀ j, j < P.length + 1 → (mirror (P ++ [x])).getD j 0 = (P ++ [x]).getD j 0 := fun j hj => mirror_getD (by omega)
  rw [hL, hW] at hM
  generalize hc' : mcut (P ++ [x]) = c at *
  generalize hM' : mirror (P ++ [x]) = M at *
  generalize hn : P.length = n at *
  have hPal : ∀ j, j < n → M.getD j 0 = M.getD (n - 1 - j) 0 := fun j hj => by
    rw [hlow j hj, hlow _ (by omega)]; exact hq j hj
  refine bord_uniq (by omega) (by omega) (by omega) (fun j hj => ?_) fun b hb1 hb2 hb => ?_
  · rw [hPal j (by omega), hM (n - 1 - j) (by omega)]
    congr 1; omega
  · obtain ⟨p, hp⟩ : ∃ p, p = m - b := ⟨_, rfl⟩
    rw [← hp] at hb
    have hp1 : 1 ≤ p := by omega
    have hp2 : p ≤ n := by omega
    have e0 : M.getD (p - 1) 0 = M.getD n 0 := by
      have := hb (n - p) (by omega)
      rw [show p + (n - p) = n by omega] at this
      rw [← this, hPal (p - 1) (by omega)]
      congr 1; omega
    refine hsp (p - 1) (by omega) ((pal_drop (by omega)).mpr fun j hj => ?_)
    rw [hW] at hj ⊢
    rw [← hlowW _ (by omega), ← hlowW _ (by omega)]
    by_cases j0 : j = 0
    · subst j0
      rw [show p - 1 + 0 = p - 1 by omega, show n + 1 - 1 - 0 = n by omega]; exact e0
    · by_cases j1 : j = n + 1 - p
      · rw [show p - 1 + j = n by omega, show n + 1 - 1 - j = p - 1 by omega]; exact e0.symm
      · have := hb (j - 1) (by omega)
        rw [show p + (j - 1) = p - 1 + j by omega] at this
        rw [← this, hPal (j - 1) (by omega)]
        congr 1; omega
end Mine
namespace Mine
def palW (lets : List Int) : Nat → List Int
  | 0 => []
  | k + 1 => mirror (palW lets k ++ [lets.getD k 0])
def lensK (lets : List Int) (k : Nat) : List Int := (List.range (k + 1)).map fun j => ((palW lets j).length : Int)
def Sorted (ns : List Int) : Prop := ∀ i j, i ≤ j → j < ns.length → ns.getD i 0 ≤ ns.getD j 0
def cntLe (ns : List Int) (x : Int) : Nat := (ns.filter fun a => decide (a ≤ x)).length
theorem mcut_len : ∀ (w : List Int) (a : Int), mcut (w ++ [a]) ≤ w.length := by
  intro w a
  induction w with
  | nil => simp [mcut]
  | cons b r ih =>
    rw [List.cons_append, mcut]
    split
    · exact Nat.zero_le _
    · rw [List.length_cons]; omega
theorem palW_len (lets : List Int) : ∀ k, (palW lets k).length ≤ 2 ^ k - 1 := by
  intro k
  induction k with
  | zero => simp [palW]
  | succ k ih =>
    have h1 := mcut_len (palW lets k) (lets.getD k 0)
    have h2 : 2 ^ (k + 1) = 2 ^ k + 2 ^ k := by rw [Nat.pow_succ]; omega
    have h3 : 1 ≤ 2 ^ k := Nat.one_le_two_pow
    rw [palW, mirror, List.length_append, List.length_reverse, List.length_take, List.length_append, List.length_cons, List.length_nil]
    omega
theorem palW_lt (lets : List Int) (k : Nat) : (palW lets k).length < (palW lets (k + 1)).length := by
  rw [palW, mirror, List.length_append, List.length_append, List.length_cons, List.length_nil]
  omega
theorem palW_mono (lets : List Int) {i j : Nat} (h : i ≤ j) : (palW lets i).length ≤ (palW lets j).length := by
  induction h with
  | refl => exact Nat.le_refl _
  | step _ ih => exact Nat.le_trans ih (Nat.le_of_lt (palW_lt lets _))
theorem lensK_getD (lets : List Int) {k j : Nat} (h : j ≤ k) : (lensK lets k).getD j 0 = ((palW lets j).length : Int) := by
  simp [lensK, List.getD, show j < k + 1 by omega]
theorem lens_sorted (lets : List Int) (k : Nat) : Sorted (lensK lets k) := by
  intro i j hij hj
  have hj : j < k + 1 := by simpa [lensK] using hj
  rw [lensK_getD lets (by omega), lensK_getD lets (by omega)]
  exact Int.ofNat_le.mpr (palW_mono lets hij)
theorem cntLe_lens (lets : List Int) (p : Nat) : ∀ k, p < (palW lets k).length → (1 : Nat) ≤ cntLe (lensK lets k) (p : Int) ∧ cntLe (lensK lets k) (p : Int) ≤ k := by
  intro k
  induction k with
  | zero => intro h; simp [palW] at h
  | succ k ih =>
    intro h
    have e : lensK lets (k + 1) = lensK lets k ++ [((palW lets (k + 1)).length : Int)] := by
      unfold lensK; rw [List.range_succ, List.map_append]; rfl
    have e2 : cntLe (lensK lets (k + 1)) (p : Int) = cntLe (lensK lets k) (p : Int) := by
      unfold cntLe
      rw [e, List.filter_append]
      simp only [List.filter_cons, List.filter_nil]
      rw [if_neg (by simp; omega), List.append_nil]
    rw [e2]
    by_cases hk : p < (palW lets k).length
    · have := ih hk; omega
    · have h3 : cntLe (lensK lets k) (p : Int) = k + 1 := by
        unfold cntLe
        rw [List.filter_eq_self.mpr]
        · simp [lensK]
        · intro a ha
          simp only [lensK, List.mem_map, List.mem_range] at ha
          obtain ⟨j, hj, rfl⟩ := ha
          have := palW_mono lets (show j ≤ k by omega)
          simp only [decide_eq_true_eq]; omega
      omega
theorem lens_cnt (lets : List Int) (k p : Nat) (h : p < (palW lets k).length) : (1 : Nat) ≤ cntLe (lensK lets k) (p : Int) ∧ cntLe (lensK lets k) (p : Int) ≤ k := cntLe_lens lets p k h
end Mine
namespace Mine
def insAt (ns : List Int) (c : Nat) (x : Int) : List Int := ns.take c ++ x :: ns.drop c
def rowK (lets : List Int) : Nat → List Int
  | 0 => []
  | k + 1 => insAt (rowK lets k) (cntLe ((rowK lets k).map fun i => lets.getD i.toNat 0) (lets.getD k 0)) (k : Int)
/-- where the count stands, sorted lists fall apart -/
theorem cnt_split : ∀ {ns : List Int}, Sorted ns → ∀ x j, j < ns.length → (j < cntLe ns x ↔ ns.getD j 0 ≤ x) := by
  intro ns
  induction ns with
  | nil => intro _ x j h; exact absurd h (Nat.not_lt_zero _)
  | cons a r ih =>
    intro hs x j hj
    have hr : Sorted r := fun i j hij hj => by simpa using hs (i + 1) (j + 1) (by omega) (by simpa using hj)
    have h0 : ∀ i, i < r.length → a ≤ r.getD i 0 := fun i hi => by simpa using hs 0 (i + 1) (by omega) (by simpa using hi)
    unfold cntLe
    rw [List.filter_cons]
    by_cases ha : a ≤ x
    · rw [if_pos (by simpa using ha), List.length_cons]
      cases j with
      | zero => simpa using ha
      | succ j => simpa [cntLe] using ih hr x j (by simpa using hj)
    · rw [if_neg (by simpa using ha)]
      have h1 : r.filter (fun a => decide (a ≤ x)) = [] := by
        rw [List.filter_eq_nil_iff]
        intro b hb
        obtain ⟨i, hi, rfl⟩ := List.getElem_of_mem hb
        have := h0 i hi
        simp only [List.getD, hi, List.getElem?_eq_getElem, Option.getD_some] at this
        simp only [decide_eq_true_eq]; omega
      rw [h1]
      have : a ≤ (a :: r).getD j 0 := by simpa using hs 0 j (by omega) hj
      simp only [List.length_nil]
      constructor
      · intro h; omega
      · intro h; omega
theorem ins_perm (ns : List Int) (c : Nat) (x : Int) : (insAt ns c x).Perm (x :: ns) := by
  unfold insAt
  refine List.perm_middle.trans ?_
  rw [List.take_append_drop]
theorem ins_sorted {ns : List Int} (hs : Sorted ns) (x : Int) : Sorted (insAt ns (cntLe ns x) x) := by
  have hc : cntLe ns x ≤ ns.length := List.length_filter_le ..
  have hg : ∀ j, (insAt ns (cntLe ns x) x).getD j 0 = if j < cntLe ns x then ns.getD j 0 else if j = cntLe ns x then x else ns.getD (j - 1) 0 := by
    intro j
    unfold insAt
    simp only [List.getD_eq_getElem?_getD]
    by_cases h1 : j < cntLe ns x
    · rw [if_pos h1, List.getElem?_append_left (by rw [List.length_take]; omega), List.getElem?_take, if_pos h1]
    · rw [if_neg h1, List.getElem?_append_right (by rw [List.length_take]; omega), List.length_take, Nat.min_eq_left hc]
      by_cases h2 : j = cntLe ns x
      · rw [if_pos h2, h2, Nat.sub_self]; rfl
      · rw [if_neg h2, show j - cntLe ns x = (j - cntLe ns x - 1) + 1 by omega, List.getElem?_cons_succ, List.getElem?_drop]
        congr 2; omega
  intro i j hij hj
  have hl : (insAt ns (cntLe ns x) x).length = ns.length + 1 := (ins_perm ns _ x).length_eq
  rw [hl] at hj
  rw [hg i, hg j]
  have hsp := cnt_split hs x
  have hc' : ∀ p, cntLe ns x ≤ p → p < ns.length → x ≤ ns.getD p 0 := fun p h1 h2 => by
    have : ¬ ns.getD p 0 ≤ x := fun h => by have := (hsp p h2).mpr h; omega
    omega
  by_cases h1 : i < cntLe ns x
  · rw [if_pos h1]
    have h2 := (hsp i (by omega)).mp h1
    by_cases h3 : j < cntLe ns x
    · rw [if_pos h3]; exact hs i j hij (by omega)
    · rw [if_neg h3]
      by_cases h4 : j = cntLe ns x
      · rw [if_pos h4]; exact h2
      · rw [if_neg h4]; exact hs i (j - 1) (by omega) (by omega)
  · rw [if_neg h1, if_neg (show ¬ j < cntLe ns x by omega)]
    by_cases h4 : i = cntLe ns x
    · rw [if_pos h4]
      by_cases h5 : j = cntLe ns x
      · rw [if_pos h5]; exact Int.le_refl _
      · rw [if_neg h5]; exact hc' (j - 1) (by omega) (by omega)
    · rw [if_neg h4, if_neg (show ¬ j = cntLe ns x by omega)]
      exact hs (i - 1) (j - 1) (by omega) (by omega)
theorem rowK_ok {lets : List Int} : ∀ {k : Nat}, k ≤ lets.length → (rowK lets k).length = k ∧ (∀ i ∈ rowK lets k, 0 ≤ i ∧ i < (k : Int)) ∧ Sorted ((rowK lets k).map fun i => lets.getD i.toNat 0) ∧ ((rowK lets k).map fun i => lets.getD i.toNat 0).Perm (lets.take k) := by
  intro k
  induction k with
  | zero => intro _; refine ⟨rfl, fun i h => (nomatch h), fun i j _ h => absurd h (Nat.not_lt_zero _), .refl _⟩
  | succ k ih =>
    intro h
    obtain ⟨i1, i2, i3, i4⟩ := ih (by omega)
    have hm : (rowK lets (k + 1)).map (fun i => lets.getD i.toNat 0) = insAt ((rowK lets k).map fun i => lets.getD i.toNat 0) (cntLe ((rowK lets k).map fun i => lets.getD i.toNat 0) (lets.getD k 0)) (lets.getD k 0) := by
      simp only [rowK, insAt, List.map_append, List.map_cons, List.map_take, List.map_drop, Int.toNat_natCast]
    have hp := ins_perm (rowK lets k) (cntLe ((rowK lets k).map fun i => lets.getD i.toNat 0) (lets.getD k 0)) (k : Int)
    refine ⟨by rw [rowK, hp.length_eq, List.length_cons, i1], fun i hi => ?_, by rw [hm]; exact ins_sorted i3 _, ?_⟩
    · rw [rowK, hp.mem_iff] at hi
      rcases List.mem_cons.mp hi with rfl | hi
      · omega
      · have := i2 i hi; omega
    · rw [hm]
      refine (ins_perm _ _ _).trans ?_
      have hk : k < lets.length := by omega
      rw [List.take_succ_eq_append_getElem hk, show lets.getD k 0 = lets[k] by simp [List.getD, hk]]
      exact (List.Perm.cons _ i4).trans (List.perm_append_singleton _ _).symm
end Mine
namespace Mine
theorem palW_pal (lets : List Int) : ∀ k, palW lets k = (palW lets k).reverse
  | 0 => rfl
  | _ + 1 => mirror_pal _
theorem palW_step (lets : List Int) (k p : Nat) (h : p < (palW lets k).length) : (palW lets (k + 1)).getD p 0 = (palW lets k).getD p 0 := by
  rw [palW, mirror_getD (by rw [List.length_append]; omega)]
  simp only [List.getD_eq_getElem?_getD, List.getElem?_append_left h]
theorem palW_at (lets : List Int) (k : Nat) : (palW lets (k + 1)).getD (palW lets k).length 0 = lets.getD k 0 := by
  rw [palW, mirror_getD (by rw [List.length_append]; simp)]
  simp [List.getD_eq_getElem?_getD]
theorem palW_pre (lets : List Int) (j : Nat) : ∀ d p, p < (palW lets j).length → (palW lets (j + d)).getD p 0 = (palW lets j).getD p 0 := by
  intro d
  induction d with
  | zero => intro p _; rfl
  | succ d ih =>
    intro p hp
    rw [← Nat.add_assoc, palW_step lets _ _ (Nat.lt_of_lt_of_le hp (palW_mono lets (Nat.le_add_right j d))), ih p hp]
theorem palW_next (lets : List Int) {j k : Nat} (h : j < k) : (palW lets k).getD (palW lets j).length 0 = lets.getD j 0 := by
  obtain ⟨d, rfl⟩ : ∃ d, k = (j + 1) + d := ⟨k - (j + 1), by omega⟩
  rw [palW_pre lets (j + 1) d _ (palW_lt lets j), palW_at]
theorem palW_prefix (lets : List Int) : ∀ k n, n ≤ (palW lets k).length → (∀ j, j < n → (palW lets k).getD j 0 = (palW lets k).getD (n - 1 - j) 0) → ∃ j, j ≤ k ∧ n = (palW lets j).length := by
  intro k
  induction k with
  | zero => intro n h _; exact ⟨0, Nat.le_refl _, by simpa [palW] using h⟩
  | succ k ih =>
    intro n h hp
    by_cases hn : n ≤ (palW lets k).length
    · obtain ⟨j, hj, e⟩ := ih n hn fun j hj => by
        have := hp j hj
        rwa [palW_step lets k _ (by omega), palW_step lets k _ (by omega)] at this
      exact ⟨j, by omega, e⟩
    · refine ⟨k + 1, Nat.le_refl _, ?_⟩
      have hl : (palW lets (k + 1)).length = (palW lets k).length + 1 + mcut (palW lets k ++ [lets.getD k 0]) := by
        rw [palW, mirror_len, List.length_append]; rfl
      have hWl : (palW lets k ++ [lets.getD k 0]).length = (palW lets k).length + 1 := by rw [List.length_append]; rfl
      apply Nat.le_antisymm h
      apply Nat.le_of_not_lt
      intro hlt
      obtain ⟨e, he⟩ : ∃ e, e = n - 1 - (palW lets k).length := ⟨_, rfl⟩
      refine (mcut_spec (palW lets k ++ [lets.getD k 0])).2.2 e (by omega) ((pal_drop (by have := mcut_snoc (palW lets k) (lets.getD k 0); omega)).mpr fun j hj => ?_)
      rw [hWl] at hj ⊢
      have hw : ∀ q, q < (palW lets k).length + 1 → (palW lets k ++ [lets.getD k 0]).getD q 0 = (palW lets (k + 1)).getD q 0 := fun q hq => by
        rw [palW, mirror_getD (by rw [hWl]; exact hq)]
      rw [hw _ (by omega), hw _ (by omega), hp (e + j) (by omega)]
      congr 1; omega
/-- a palindromic tail of P x of length two or more is x (P_j) x -/
theorem tail_pal (lets : List Int) {k c : Nat} {x : Int} (hc : c < (palW lets k).length) (h : (palW lets k ++ [x]).drop c = ((palW lets k ++ [x]).drop c).reverse) : ∃ j, j < k ∧ lets.getD j 0 = x ∧ (palW lets j).length + c + 1 = (palW lets k).length := by
  have hWl : (palW lets k ++ [x]).length = (palW lets k).length + 1 := by rw [List.length_append]; rfl
  have hq := pal_iff.mp (palW_pal lets k)
  have hw : ∀ q, q < (palW lets k).length → (palW lets k ++ [x]).getD q 0 = (palW lets k).getD q 0 := fun q hq => by
    simp only [List.getD_eq_getElem?_getD, List.getElem?_append_left hq]
  have hx : (palW lets k ++ [x]).getD (palW lets k).length 0 = x := by simp [List.getD_eq_getElem?_getD]
  have hp := (pal_drop (by omega)).mp h
  rw [hWl] at hp
  obtain ⟨l, hl⟩ : ∃ l, l + c + 1 = (palW lets k).length := ⟨(palW lets k).length - 1 - c, by omega⟩
  have h0 := hp 0 (by omega)
  rw [show c + 0 = c by omega, show (palW lets k).length + 1 - 1 - 0 = (palW lets k).length by omega, hx, hw c hc] at h0
  obtain ⟨j, hj, e⟩ := palW_prefix lets k l (by omega) fun j hj => by
    have := hp (l - j) (by omega)
    rw [show (palW lets k).length + 1 - 1 - (l - j) = c + 1 + j by omega, hw _ (by omega), hw _ (by omega)] at this
    rw [hq j (by omega), hq (l - 1 - j) (by omega), show (palW lets k).length - 1 - j = c + (l - j) by omega, show (palW lets k).length - 1 - (l - 1 - j) = c + 1 + j by omega]
    exact this
  have hjk : j < k := by
    apply Nat.lt_of_le_of_ne hj
    intro e2
    rw [e2] at e
    omega
  refine ⟨j, hjk, ?_, by omega⟩
  rw [← palW_next lets hjk, ← e, hq l (by omega), show (palW lets k).length - 1 - l = c by omega]
  exact h0
theorem pal_tail (lets : List Int) {k i : Nat} {x : Int} (hi : i < k) (hx : lets.getD i 0 = x) : ∀ c, (palW lets i).length + c + 1 = (palW lets k).length → (palW lets k ++ [x]).drop c = ((palW lets k ++ [x]).drop c).reverse := by
  intro c hc
  have hWl : (palW lets k ++ [x]).length = (palW lets k).length + 1 := by rw [List.length_append]; rfl
  have hq := pal_iff.mp (palW_pal lets k)
  have hqi := pal_iff.mp (palW_pal lets i)
  have hw : ∀ q, q < (palW lets k).length → (palW lets k ++ [x]).getD q 0 = (palW lets k).getD q 0 := fun q hq => by
    simp only [List.getD_eq_getElem?_getD, List.getElem?_append_left hq]
  have hxx : (palW lets k ++ [x]).getD (palW lets k).length 0 = x := by simp [List.getD_eq_getElem?_getD]
  have hi2 : ∀ q, q < (palW lets i).length → (palW lets k).getD q 0 = (palW lets i).getD q 0 := fun q hlq => by
    have := palW_pre lets i (k - i) q hlq
    rwa [show i + (k - i) = k by omega] at this
  have hcx : (palW lets k).getD c 0 = x := by
    rw [hq c (by omega), show (palW lets k).length - 1 - c = (palW lets i).length by omega, palW_next lets hi, hx]
  refine (pal_drop (by omega)).mpr fun j hj => ?_
  rw [hWl] at hj ⊢
  by_cases h0 : j = 0
  · subst h0
    rw [show c + 0 = c by omega, show (palW lets k).length + 1 - 1 - 0 = (palW lets k).length by omega, hxx, hw c (by omega), hcx]
  · by_cases h1 : c + j = (palW lets k).length
    · rw [h1, show (palW lets k).length + 1 - 1 - j = c by omega, hxx, hw c (by omega), hcx]
    · rw [hw _ (by omega), hw _ (by omega), hq (c + j) (by omega), hq ((palW lets k).length + 1 - 1 - j) (by omega), hi2 _ (by omega), hi2 _ (by omega), hqi _ (by omega)]
      congr 1; omega
/-- where the last x stands, so much the closure grows (Justin) -/
theorem just_last (lets : List Int) {k i : Nat} {x : Int} (hi : i < k) (hx : lets.getD i 0 = x) (hl : ∀ j, i < j → j < k → lets.getD j 0 ≠ x) : (palW lets i).length + mcut (palW lets k ++ [x]) + 1 = (palW lets k).length := by
  have hlt : (palW lets i).length < (palW lets k).length := Nat.lt_of_lt_of_le (palW_lt lets i) (palW_mono lets hi)
  obtain ⟨c, hc⟩ : ∃ c, (palW lets i).length + c + 1 = (palW lets k).length := ⟨(palW lets k).length - 1 - (palW lets i).length, by omega⟩
  have h1 := pal_tail lets hi hx c hc
  have h2 : mcut (palW lets k ++ [x]) ≤ c := Nat.le_of_not_lt fun h => (mcut_spec _).2.2 c h h1
  obtain ⟨j, hj, hjx, e⟩ := tail_pal lets (c := mcut (palW lets k ++ [x])) (by omega) (mcut_spec _).2.1
  have h3 : j ≤ i := Nat.le_of_not_lt fun h => hl j h hj hjx
  have h4 := palW_mono lets h3
  omega
theorem just_new (lets : List Int) {k : Nat} {x : Int} (hl : ∀ j, j < k → lets.getD j 0 ≠ x) : mcut (palW lets k ++ [x]) = (palW lets k).length := by
  apply Nat.le_antisymm (mcut_snoc _ _)
  apply Nat.le_of_not_lt
  intro h
  obtain ⟨j, hj, hjx, _⟩ := tail_pal lets h (mcut_spec _).2.1
  exact hl j hj hjx
end Mine
namespace Mine
/-- rows: among equal keys the later place stands behind -/
def Late (lets row : List Int) : Prop := ∀ i j, i < j → j < row.length → lets.getD (row.getD i 0).toNat 0 = lets.getD (row.getD j 0).toNat 0 → row.getD i 0 < row.getD j 0
theorem ins_getD {ns : List Int} {c : Nat} (hc : c ≤ ns.length) (x : Int) (j : Nat) : (insAt ns c x).getD j 0 = if j < c then ns.getD j 0 else if j = c then x else ns.getD (j - 1) 0 := by
  unfold insAt
  simp only [List.getD_eq_getElem?_getD]
  by_cases h1 : j < c
  · rw [if_pos h1, List.getElem?_append_left (by rw [List.length_take]; omega), List.getElem?_take, if_pos h1]
  · rw [if_neg h1, List.getElem?_append_right (by rw [List.length_take]; omega), List.length_take, Nat.min_eq_left hc]
    by_cases h2 : j = c
    · rw [if_pos h2, h2, Nat.sub_self]; rfl
    · rw [if_neg h2, show j - c = (j - c - 1) + 1 by omega, List.getElem?_cons_succ, List.getElem?_drop]
      congr 2; omega
theorem map_key {lets row : List Int} {j : Nat} (h : j < row.length) : (row.map fun i => lets.getD i.toNat 0).getD j 0 = lets.getD (row.getD j 0).toNat 0 := by
  simp [List.getD, h]
theorem rowK_late {lets : List Int} : ∀ {k : Nat}, k ≤ lets.length → Late lets (rowK lets k) := by
  intro k
  induction k with
  | zero => intro _ i j _ h; exact absurd h (Nat.not_lt_zero _)
  | succ k ih =>
    intro h i j hij hj hk
    have ih := ih (by omega)
    obtain ⟨i1, i2, i3, i4⟩ := rowK_ok (lets := lets) (k := k) (by omega)
    have hcl : cntLe ((rowK lets k).map fun i => lets.getD i.toNat 0) (lets.getD k 0) ≤ (rowK lets k).length := by
      have := List.length_filter_le (fun a => decide (a ≤ lets.getD k 0)) ((rowK lets k).map fun i => lets.getD i.toNat 0)
      rwa [List.length_map] at this
    have hsp := cnt_split i3 (lets.getD k 0)
    rw [(rowK_ok (lets := lets) h).1] at hj
    have hr : ∀ q, q < k → (rowK lets k).getD q 0 < (k : Int) := fun q hq => by
      refine (i2 _ ?_).2
      simp [List.getD, show q < (rowK lets k).length by omega]
    rw [rowK] at hk ⊢
    rw [ins_getD hcl _ i, ins_getD hcl _ j] at hk ⊢
    generalize hc : cntLe ((rowK lets k).map fun i => lets.getD i.toNat 0) (lets.getD k 0) = c at *
    by_cases h1 : i < c
    · rw [if_pos h1] at hk ⊢
      by_cases h2 : j < c
      · rw [if_pos h2] at hk ⊢; exact ih i j hij (by omega) hk
      · rw [if_neg h2] at hk ⊢
        by_cases h3 : j = c
        · rw [if_pos h3]; exact hr i (by omega)
        · rw [if_neg h3] at hk ⊢; exact ih i (j - 1) (by omega) (by omega) hk
    · rw [if_neg h1, if_neg (show ¬ j < c by omega), if_neg (show ¬ j = c by omega)] at hk ⊢
      by_cases h3 : i = c
      · exfalso
        rw [if_pos h3, Int.toNat_natCast] at hk
        have h4 := hsp (j - 1) (by rw [List.length_map]; omega)
        rw [map_key (by omega), ← hk] at h4
        have := h4.mpr (Int.le_refl _)
        omega
      · rw [if_neg h3] at hk ⊢
        exact ih (i - 1) (j - 1) (by omega) (by omega) hk
end Mine
namespace Mine
def cntLt (ns : List Int) (x : Int) : Nat := (ns.filter fun a => decide (a < x)).length
def growthOf (lets lens row : List Int) (x : Int) : Int :=
  let keys := row.map fun i => lets.getD i.toNat 0
  if cntLt keys x = cntLe keys x then lens.getD row.length 0 + 1 else lens.getD row.length 0 - lens.getD (row.getD (cntLe keys x - 1) 0).toNat 0
theorem filt_le (l : List Int) (x : Int) : (l.filter fun a => decide (a < x)).length ≤ (l.filter fun a => decide (a ≤ x)).length := by
  induction l with
  | nil => simp
  | cons a r ih =>
    simp only [List.filter_cons]
    by_cases h : a < x
    · have h2 : a ≤ x := by omega
      simp [h, h2, ih]
    · by_cases h2 : a ≤ x
      · simp [h, h2]; omega
      · simp [h, h2, ih]
theorem cnt_mem {x : Int} : ∀ {l : List Int}, x ∈ l → cntLt l x < cntLe l x := by
  intro l
  induction l with
  | nil => intro h; cases h
  | cons a r ih =>
    intro h
    unfold cntLt cntLe
    simp only [List.filter_cons]
    have hf := filt_le r x
    rcases List.mem_cons.mp h with rfl | h
    · simp only [Int.lt_irrefl, decide_false, Int.le_refl, decide_true, if_true, List.length_cons]
      simp only [Bool.false_eq_true, if_false]; omega
    · have ih := ih h
      unfold cntLt cntLe at ih
      by_cases h1 : a < x
      · have h2 : a ≤ x := by omega
        simp [h1, h2, ih]
      · by_cases h2 : a ≤ x
        · simp [h1, h2]; omega
        · simp [h1, h2, ih]
theorem cnt_out {x : Int} {l : List Int} (h : x ∉ l) : cntLt l x = cntLe l x := by
  unfold cntLt cntLe
  congr 1
  refine List.filter_congr fun a ha => ?_
  have : a ≠ x := fun e => h (e ▸ ha)
  rw [decide_eq_decide]; omega
theorem rowK_all {lets : List Int} : ∀ {k j : Nat}, j < k → (j : Int) ∈ rowK lets k := by
  intro k
  induction k with
  | zero => intro j h; exact absurd h (Nat.not_lt_zero _)
  | succ k ih =>
    intro j h
    rw [rowK, (ins_perm _ _ _).mem_iff]
    by_cases e : j = k
    · rw [e]; exact .head _
    · exact .tail _ (ih (by omega))
theorem mem_at {l : List Int} {x : Int} (h : x ∈ l) : ∃ p, p < l.length ∧ l.getD p 0 = x := by
  obtain ⟨p, hp, rfl⟩ := List.getElem_of_mem h
  exact ⟨p, hp, by simp [List.getD, hp]⟩
theorem growth_is (lets : List Int) {k : Nat} (hk : k ≤ lets.length) (x : Int) : growthOf lets (lensK lets k) (rowK lets k) x = ((mcut (palW lets k ++ [x]) + 1 : Nat) : Int) := by
  obtain ⟨i1, i2, i3, i4⟩ := rowK_ok hk
  have hlt := rowK_late hk
  have hall := fun j => rowK_all (lets := lets) (k := k) (j := j)
  unfold growthOf
  dsimp only
  rw [i1, lensK_getD lets (Nat.le_refl k)]
  have hin : ∀ j, j < k → lets.getD j 0 = x → x ∈ (rowK lets k).map fun i => lets.getD i.toNat 0 := fun j hj e => List.mem_map.mpr ⟨_, hall j hj, by rw [Int.toNat_natCast]; exact e⟩
  split
  · rename_i h
    rw [just_new lets fun j hj e => Nat.ne_of_lt (cnt_mem (hin j hj e)) h]
    omega
  · rename_i h
    have hm : x ∈ (rowK lets k).map fun i => lets.getD i.toNat 0 := Decidable.byContradiction fun hn => h (cnt_out hn)
    obtain ⟨p, hp, hpx⟩ := mem_at hm
    have hsp := cnt_split i3 x
    have hpc := (hsp p hp).mpr (by omega)
    have hcl : cntLe ((rowK lets k).map fun i => lets.getD i.toNat 0) x ≤ (rowK lets k).length := by
      have := List.length_filter_le (fun a => decide (a ≤ x)) ((rowK lets k).map fun i => lets.getD i.toNat 0)
      rwa [List.length_map] at this
    rw [List.length_map] at hsp hp
    generalize hc : cntLe ((rowK lets k).map fun i => lets.getD i.toNat 0) x = c at *
    have hq1 := (hsp (c - 1) (by omega)).mp (by omega)
    have hq2 := i3 p (c - 1) (by omega) (by rw [List.length_map]; omega)
    have hq : lets.getD ((rowK lets k).getD (c - 1) 0).toNat 0 = x := by rw [← map_key (by omega)]; omega
    have hb := i2 ((rowK lets k).getD (c - 1) 0) (by simp [List.getD, show c - 1 < (rowK lets k).length by omega])
    obtain ⟨i, hi⟩ : ∃ i : Nat, (rowK lets k).getD (c - 1) 0 = (i : Int) := ⟨((rowK lets k).getD (c - 1) 0).toNat, by omega⟩
    rw [hi, Int.toNat_natCast] at hq
    rw [hi] at hb
    rw [hi, Int.toNat_natCast, lensK_getD lets (by omega)]
    have := just_last lets (k := k) (i := i) (x := x) (by omega) hq fun j hj1 hj2 hjx => by
      obtain ⟨r, hr, hrj⟩ := mem_at (hall j hj2)
      have h3 := (hsp r hr).mpr (by rw [map_key hr, hrj, Int.toNat_natCast]; omega)
      by_cases e : r = c - 1
      · rw [← e, hrj] at hi; omega
      · have h4 := hlt r (c - 1) (by omega) (by omega) (by rw [hrj, hi, Int.toNat_natCast, Int.toNat_natCast, hjx, hq])
        rw [hrj, hi] at h4; omega
    omega
end Mine
namespace Mine
def grK (lets : List Int) (k : Nat) : List Int := (List.range k).map fun j => growthOf lets (lensK lets j) (rowK lets j) (lets.getD j 0)
def table (ns : List Int) : List Int := (List.range ns.length).map fun i => ((bord (ns.take (i + 1)) : Nat) : Int)
theorem grK_getD {lets : List Int} {k j : Nat} (h : k ≤ lets.length) (hj : j < k) : (grK lets k).getD j 0 = ((mcut (palW lets j ++ [lets.getD j 0]) + 1 : Nat) : Int) := by
  rw [← growth_is lets (by omega) (lets.getD j 0)]
  simp [grK, List.getD, hj]
theorem palW_len_succ (lets : List Int) (j : Nat) : (palW lets (j + 1)).length = (palW lets j).length + (mcut (palW lets j ++ [lets.getD j 0]) + 1) := by
  rw [palW, mirror_len, List.length_append, List.length_cons, List.length_nil]; omega
theorem growths_ok (lets : List Int) (k : Nat) (h : k ≤ lets.length) : grK lets k = (List.range k).map fun j => (lensK lets k).getD (j + 1) 0 - (lensK lets k).getD j 0 := by
  unfold grK
  refine List.map_congr_left fun j hj => ?_
  have hj := List.mem_range.mp hj
  rw [growth_is lets (by omega), lensK_getD lets (by omega), lensK_getD lets (by omega), palW_len_succ]
  omega
theorem palW_take (lets : List Int) {j k n : Nat} (hj : j ≤ k) (hn : n ≤ (palW lets j).length) : (palW lets k).take n = (palW lets j).take n := by
  have hm := palW_mono lets hj
  apply List.ext_getElem (by rw [List.length_take, List.length_take]; omega)
  intro p h1 h2
  have hp : p < n := by rw [List.length_take] at h1; omega
  have := palW_pre lets j (k - j) p (by omega)
  rw [show j + (k - j) = k by omega] at this
  rw [List.getElem_take, List.getElem_take]
  simpa [List.getD, show p < (palW lets k).length by omega, show p < (palW lets j).length by omega] using this
theorem table_ok (lets : List Int) (k : Nat) (h : k ≤ lets.length) : table (palW lets k) = (List.range (palW lets k).length).map (fun (p : Nat) => (p : Int) + 1 - (grK lets k).getD (cntLe (lensK lets k) (p : Int) - 1) 0) := by
  unfold table
  refine List.map_congr_left fun p hp => ?_
  have hp := List.mem_range.mp hp
  obtain ⟨c1, c2⟩ := lens_cnt lets k p hp
  have hl : (lensK lets k).length = k + 1 := by simp [lensK]
  have hsp := cnt_split (lens_sorted lets k) (p : Int)
  obtain ⟨j, hj⟩ : ∃ j, cntLe (lensK lets k) (p : Int) = j + 1 := ⟨cntLe (lensK lets k) (p : Int) - 1, by omega⟩
  rw [hj] at hsp c2 ⊢
  have h1 := (hsp j (by omega)).mp (by omega)
  have h2 := hsp (j + 1) (by omega)
  rw [lensK_getD lets (by omega)] at h1 h2
  have h3 : p < (palW lets (j + 1)).length := by omega
  rw [show j + 1 - 1 = j by omega, grK_getD h (by omega), palW_take lets (j := j + 1) (by omega) (by omega)]
  have hs := palW_len_succ lets j
  have := clos (palW_pal lets j) (x := lets.getD j 0) (m := p + 1) (by omega) (by omega)
  have hm := mcut_snoc (palW lets j) (lets.getD j 0)
  rw [palW, this]
  omega
/-- a letter behind the word -/
theorem table_snoc {P : List Int} (hP : P = P.reverse) (x : Int) : table (P ++ [x]) = table P ++ [(P.length : Int) + 1 - ((mcut (P ++ [x]) + 1 : Nat) : Int)] := by
  have hc := mcut_snoc P x
  have h := clos hP (x := x) (m := P.length + 1) (by omega) (by omega)
  have hW : (P ++ [x]).length = P.length + 1 := by rw [List.length_append]; rfl
  rw [mirror, List.take_left' hW] at h
  unfold table
  rw [hW, List.range_succ, List.map_append]
  congr 1
  · refine List.map_congr_left fun i hi => ?_
    have := List.mem_range.mp hi
    rw [List.take_append_of_le_length (by omega)]
  · simp only [List.map_cons, List.map_nil]
    rw [List.take_of_length_le (by omega), h]
    congr 1; omega
end Mine
namespace Mine
def gr (lets : List Int) (j : Nat) : Nat := mcut (palW lets j ++ [lets.getD j 0]) + 1
/-- the growths do not sink -/
theorem gr_up (lets : List Int) (j : Nat) : gr lets j ≤ gr lets (j + 1) := by
  apply Nat.le_of_not_lt
  intro hlt
  have e1 : (palW lets (j + 1)).length = (palW lets j).length + gr lets j := palW_len_succ lets j
  have e2 : (palW lets (j + 2)).length = (palW lets (j + 1)).length + gr lets (j + 1) := palW_len_succ lets (j + 1)
  have p2 : 1 ≤ gr lets (j + 1) := Nat.succ_pos _
  have b1 : bord ((palW lets (j + 1)).take (palW lets (j + 1)).length) = (palW lets (j + 1)).length - gr lets j := clos (palW_pal lets j) (by omega) (Nat.le_of_eq e1)
  have b2 : bord ((palW lets (j + 2)).take (palW lets (j + 2)).length) = (palW lets (j + 2)).length - gr lets (j + 1) := clos (palW_pal lets (j + 1)) (by omega) (Nat.le_of_eq e2)
  obtain ⟨-, -, s3⟩ := bord_spec (ns := palW lets (j + 1)) (i := (palW lets (j + 1)).length) (by omega) (Nat.le_refl _)
  obtain ⟨-, s2, -⟩ := bord_spec (ns := palW lets (j + 2)) (i := (palW lets (j + 2)).length) (by omega) (Nat.le_refl _)
  rw [b1] at s3
  rw [b2] at s2
  refine s3 ((palW lets (j + 1)).length - gr lets (j + 1)) (by omega) (by omega) fun q hq => ?_
  have := s2 q (by omega)
  rw [palW_step lets (j + 1) q (by omega), palW_step lets (j + 1) _ (by omega)] at this
  rw [this]
  congr 1; omega
end Mine
namespace Mine
def stepsK (lets : List Int) (k : Nat) : List Int := (List.range (palW lets k).length).map fun (p : Nat) => (p : Int) + 1 - (table (palW lets k)).getD p 0
theorem table_at {ns : List Int} {j : Nat} (h : j < ns.length) : (table ns).getD j 0 = ((bord (ns.take (j + 1)) : Nat) : Int) := by
  simp [table, List.getD, h]
theorem stepsK_succ (lets : List Int) (k : Nat) : stepsK lets (k + 1) = stepsK lets k ++ List.replicate (gr lets k) ((gr lets k : Nat) : Int) := by
  have e1 : (palW lets (k + 1)).length = (palW lets k).length + gr lets k := palW_len_succ lets k
  unfold stepsK
  rw [e1, List.range_add, List.map_append, List.map_map]
  congr 1
  · refine List.map_congr_left fun p hp => ?_
    have hp := List.mem_range.mp hp
    rw [table_at (by omega), table_at hp, palW_take lets (j := k) (by omega) (by omega)]
  · apply List.ext_getElem (by simp)
    intro i h1 h2
    have hi : i < gr lets k := by simpa using h2
    have hm := mcut_snoc (palW lets k) (lets.getD k 0)
    have hg : gr lets k = mcut (palW lets k ++ [lets.getD k 0]) + 1 := rfl
    have := clos (palW_pal lets k) (x := lets.getD k 0) (m := (palW lets k).length + i + 1) (by omega) (by omega)
    simp only [List.getElem_map, List.getElem_range, Function.comp, List.getElem_replicate]
    rw [table_at (by omega), palW, this]
    omega
theorem gr_mono (lets : List Int) {i j : Nat} (h : i ≤ j) : gr lets i ≤ gr lets j := by
  induction h with
  | refl => exact Nat.le_refl _
  | step _ ih => exact Nat.le_trans ih (gr_up lets _)
theorem steps_mem (lets : List Int) : ∀ k a, a ∈ stepsK lets k → a ≤ ((gr lets k : Nat) : Int) := by
  intro k
  induction k with
  | zero => intro a h; simp [stepsK, palW] at h
  | succ k ih =>
    intro a h
    rw [stepsK_succ] at h
    have := gr_up lets k
    rcases List.mem_append.mp h with h | h
    · have := ih a h; omega
    · have := (List.mem_replicate.mp h).2; omega
theorem sorted_app {l r : List Int} (hl : Sorted l) (hr : Sorted r) (h : ∀ a ∈ l, ∀ b ∈ r, a ≤ b) : Sorted (l ++ r) := by
  intro i j hij hj
  rw [List.length_append] at hj
  simp only [List.getD_eq_getElem?_getD]
  by_cases h1 : j < l.length
  · rw [List.getElem?_append_left (by omega), List.getElem?_append_left h1]
    have := hl i j hij h1
    simpa only [List.getD_eq_getElem?_getD] using this
  · by_cases h2 : i < l.length
    · rw [List.getElem?_append_left h2, List.getElem?_append_right (by omega)]
      have h3 : j - l.length < r.length := by omega
      simp only [List.getElem?_eq_getElem h2, List.getElem?_eq_getElem h3, Option.getD_some]
      exact h _ (List.getElem_mem _) _ (List.getElem_mem _)
    · rw [List.getElem?_append_right (by omega), List.getElem?_append_right (by omega)]
      have := hr (i - l.length) (j - l.length) (by omega) (by omega)
      simpa only [List.getD_eq_getElem?_getD] using this
theorem sorted_rep (n : Nat) (v : Int) : Sorted (List.replicate n v) := by
  intro i j hij hj
  rw [List.length_replicate] at hj
  simp [List.getD_eq_getElem?_getD, hj, show i < n by omega]
theorem steps_sorted (lets : List Int) : ∀ k, Sorted (stepsK lets k) := by
  intro k
  induction k with
  | zero => intro i j _ h; simp [stepsK, palW] at h
  | succ k ih =>
    rw [stepsK_succ]
    refine sorted_app ih (sorted_rep _ _) fun a ha b hb => ?_
    rw [(List.mem_replicate.mp hb).2]
    exact steps_mem lets k a ha
theorem grK_next (lets : List Int) (k : Nat) (h : k + 1 ≤ lets.length) : grK lets (k + 1) = grK lets k ++ [((gr lets k : Nat) : Int)] := by
  unfold grK
  rw [List.range_succ, List.map_append]
  congr 1
  simp only [List.map_cons, List.map_nil]
  rw [growth_is lets (by omega)]; rfl
theorem gr_mem (lets : List Int) : ∀ k, k ≤ lets.length → ∀ a ∈ grK lets k, a ≤ ((gr lets k : Nat) : Int) := by
  intro k
  induction k with
  | zero => intro _ a h; cases h
  | succ k ih =>
    intro hk a h
    rw [grK_next lets k hk] at h
    have := gr_up lets k
    rcases List.mem_append.mp h with h | h
    · have := ih (by omega) a h; omega
    · have := List.mem_singleton.mp h; omega
/-- how many stand below a bar -/
def cntP (P : Int → Bool) (l : List Int) : Nat := (l.filter P).length
theorem cntP_all {P : Int → Bool} {l : List Int} (h : ∀ a ∈ l, P a = true) : cntP P l = l.length := by
  unfold cntP; rw [List.filter_eq_self.mpr h]
theorem cntP_app (P : Int → Bool) (l r : List Int) : cntP P (l ++ r) = cntP P l + cntP P r := by
  unfold cntP; rw [List.filter_append, List.length_append]
theorem steps_len (lets : List Int) (k : Nat) : (stepsK lets k).length = (palW lets k).length := by simp [stepsK]
theorem cntP_steps (lets : List Int) (P : Int → Bool) (hP : ∀ a b, a ≤ b → P b = true → P a = true) : ∀ k, k ≤ lets.length → cntP P (stepsK lets k) = (palW lets (cntP P (grK lets k))).length := by
  intro k
  induction k with
  | zero => intro _; rfl
  | succ k ih =>
    intro hk
    rw [stepsK_succ, grK_next lets k hk, cntP_app, cntP_app]
    have hl : (grK lets k).length = k := by simp [grK]
    cases hb : P ((gr lets k : Nat) : Int) with
    | true =>
      rw [cntP_all fun a ha => hP _ _ (steps_mem lets k a ha) hb, cntP_all (l := grK lets k) fun a ha => hP _ _ (gr_mem lets k (by omega) a ha) hb, cntP_all (l := [((gr lets k : Nat) : Int)]) fun a ha => (List.mem_singleton.mp ha) ▸ hb, cntP_all (l := List.replicate _ _) fun a ha => (List.mem_replicate.mp ha).2 ▸ hb, hl, steps_len, List.length_replicate, List.length_singleton]
      exact (palW_len_succ lets k).symm
    | false =>
      have e1 : cntP P (List.replicate (gr lets k) ((gr lets k : Nat) : Int)) = 0 := by
        unfold cntP
        rw [List.length_eq_zero_iff, List.filter_eq_nil_iff]
        intro a ha
        rw [(List.mem_replicate.mp ha).2, hb]; simp
      have e2 : cntP P [((gr lets k : Nat) : Int)] = 0 := by
        unfold cntP; rw [List.filter_cons, hb]; rfl
      rw [e1, e2, Nat.add_zero, Nat.add_zero]
      exact ih (by omega)
theorem steps_le (lets : List Int) (k : Nat) (hk : k ≤ lets.length) (x : Int) : ((cntLe (stepsK lets k) x : Nat) : Int) = (lensK lets k).getD (cntLe (grK lets k) x) 0 := by
  have h := cntP_steps lets (fun a => decide (a ≤ x)) (fun a b h hb => by simp only [decide_eq_true_eq] at hb ⊢; omega) k hk
  have hl : (grK lets k).length = k := by simp [grK]
  have h2 : cntLe (grK lets k) x ≤ (grK lets k).length := List.length_filter_le ..
  rw [lensK_getD lets (by omega)]
  exact congrArg Nat.cast h
theorem steps_lt (lets : List Int) (k : Nat) (hk : k ≤ lets.length) (x : Int) : ((cntLt (stepsK lets k) x : Nat) : Int) = (lensK lets k).getD (cntLt (grK lets k) x) 0 := by
  have h := cntP_steps lets (fun a => decide (a < x)) (fun a b h hb => by simp only [decide_eq_true_eq] at hb ⊢; omega) k hk
  have hl : (grK lets k).length = k := by simp [grK]
  have h2 : cntLt (grK lets k) x ≤ (grK lets k).length := List.length_filter_le ..
  rw [lensK_getD lets (by omega)]
  exact congrArg Nat.cast h
/-- the table of the word with a letter behind it -/
theorem table_letter (lets : List Int) (k : Nat) (hk : k ≤ lets.length) (x : Int) : table (palW lets k ++ [x]) = table (palW lets k) ++ [((palW lets k).length : Int) + 1 - growthOf lets (lensK lets k) (rowK lets k) x] := by
  rw [table_snoc (palW_pal lets k), growth_is lets hk]
end Mine
namespace Mine
theorem table_length (ns : List Int) : (table ns).length = ns.length := by simp [table]
theorem table_getD {ns : List Int} {j : Nat} (h : j < ns.length) : (table ns).getD j 0 = ((bord (ns.take (j + 1)) : Nat) : Int) := by
  simp [table, List.getD, h]
theorem set_ok {ns T : List Int} {i : Nat} {v : Int} (hl : T.length = ns.length) (hi : i + 1 < ns.length) (hT : ∀ j < i + 1, T.getD j 0 = (table ns).getD j 0) (hv : v = ((bord (ns.take (i + 1 + 1)) : Nat) : Int)) :
    ∀ j < i + 1 + 1, (T.set (i + 1) v).getD j 0 = (table ns).getD j 0 := by
  intro j hj
  by_cases e : j = i + 1
  · subst e
    rw [table_getD (by omega), List.getD_eq_getElem?_getD, List.getElem?_set_self (by omega), hv]; rfl
  · rw [List.getD_eq_getElem?_getD, List.getElem?_set_ne (fun h => e h.symm), ← List.getD_eq_getElem?_getD]
    exact hT j (by omega)
theorem table_eq {ns T : List Int} (hl : T.length = ns.length) (hT : ∀ j < ns.length - 1 + 1, T.getD j 0 = (table ns).getD j 0) : T = table ns := by
  apply List.ext_getElem (by rw [hl, table_length])
  intro j h1 h2
  have := hT j (by omega)
  simpa [List.getD, h1, h2] using this
theorem table_first {ns : List Int} : ∀ j < 0 + 1, (List.replicate ns.length (0 : Int)).getD j 0 = (table ns).getD j 0 := by
  intro j hj
  have : j = 0 := by omega
  subst this
  cases ns with
  | nil => rfl
  | cons a r =>
    rw [table_getD (by simp)]
    simp [List.replicate_succ, bord, isBord, List.range, List.range.loop]
theorem set_ok0 {ns T : List Int} {i idx : Nat} (hl : T.length = ns.length) (hi : i + 1 < ns.length) (hT : ∀ j < i + 1, T.getD j 0 = (table ns).getD j 0) (hK : KI ns (i + 1) idx) (h0 : idx = 0) (hn : ns.getD (i + 1) 0 ≠ ns.getD idx 0) :
    ∀ j < i + 1 + 1, (T.set (i + 1) 0).getD j 0 = (table ns).getD j 0 := by
  subst h0
  exact set_ok hl hi hT (by rw [ki_fail hK hn]; rfl)
theorem set_ok1 {ns T : List Int} {i idx : Nat} (hl : T.length = ns.length) (hi : i + 1 < ns.length) (hT : ∀ j < i + 1, T.getD j 0 = (table ns).getD j 0) (hK : KI ns (i + 1) idx) (hn : ns.getD (i + 1) 0 = ns.getD idx 0) :
    ∀ j < i + 1 + 1, (T.set (i + 1) ((idx : Int) + 1)).getD j 0 = (table ns).getD j 0 :=
  set_ok hl hi hT (by rw [ki_hit hK hn]; rfl)
end Mine
namespace Mine
end Mine
namespace Mine
theorem mcut_pal {l : List Int} (h : l = l.reverse) : mcut l = 0 := by
  cases l with
  | nil => rfl
  | cons a r => rw [mcut, if_pos h]
theorem mcut_ne {l : List Int} {c : Nat} (h : l.drop c ≠ (l.drop c).reverse) : c + 1 ≤ l.length ∧ mcut (l.drop c) = mcut (l.drop (c + 1)) + 1 := by
  have hc : c < l.length := by
    apply Nat.lt_of_not_le
    intro hle
    apply h
    rw [List.drop_of_length_le hle]; rfl
  refine ⟨hc, ?_⟩
  have e : l.drop c = l[c] :: l.drop (c + 1) := (List.drop_eq_getElem_cons hc)
  rw [e] at h ⊢
  rw [mcut, if_neg h]
end Mine
namespace Mine
end Mine
namespace Mine
def PMono (P : Int → Bool) (ns : List Int) : Prop := ∀ i j, i ≤ j → j < ns.length → P (ns.getD j 0) = true → P (ns.getD i 0) = true
theorem mono_le {ns : List Int} (h : Sorted ns) (x : Int) : PMono (fun a => decide (a ≤ x)) ns := fun i j hij hj hp => by
  have := h i j hij hj
  simp only [decide_eq_true_eq] at hp ⊢
  omega
theorem mono_lt {ns : List Int} (h : Sorted ns) (x : Int) : PMono (fun a => decide (a < x)) ns := fun i j hij hj hp => by
  have := h i j hij hj
  simp only [decide_eq_true_eq] at hp ⊢
  omega
structure BI (P : Int → Bool) (ns : List Int) (lo hi : Nat) : Prop where
  le : lo ≤ hi
  hl : hi ≤ ns.length
  lows : ∀ j, j < lo → P (ns.getD j 0) = true
  highs : ∀ j, hi ≤ j → j < ns.length → P (ns.getD j 0) = false
theorem bi_start (P : Int → Bool) (ns : List Int) : BI P ns 0 ns.length := ⟨Nat.zero_le _, Nat.le_refl _, fun _ h => absurd h (Nat.not_lt_zero _), fun _ h1 h2 => by omega⟩
theorem bi_low {P : Int → Bool} {ns : List Int} {lo hi mid : Nat} (hm : PMono P ns) (h : BI P ns lo hi) (h1 : mid < hi) (h2 : lo ≤ mid) (hp : P (ns.getD mid 0) = true) : BI P ns (mid + 1) hi :=
  ⟨h1, h.hl, fun j hj => hm j mid (by omega) (by have := h.hl; omega) hp, h.highs⟩
theorem bi_high {P : Int → Bool} {ns : List Int} {lo hi mid : Nat} (hm : PMono P ns) (h : BI P ns lo hi) (h1 : mid < hi) (h2 : lo ≤ mid) (hp : P (ns.getD mid 0) = false) : BI P ns lo mid :=
  ⟨h2, by have := h.hl; omega, h.lows, fun j hj hl => by
    cases hq : P (ns.getD j 0) with
    | false => rfl
    | true => rw [hm mid j hj hl hq] at hp; cases hp⟩
theorem bi_end {P : Int → Bool} : ∀ {ns : List Int} {lo : Nat}, BI P ns lo lo → (ns.filter P).length = lo := by
  intro ns
  induction ns with
  | nil => intro lo h; have := h.hl; simp at this; simp [this]
  | cons a r ih =>
    intro lo h
    cases lo with
    | zero =>
      have h0 : P a = false := h.highs 0 (Nat.le_refl _) (by simp)
      have : BI P r 0 0 := ⟨Nat.le_refl _, Nat.zero_le _, fun _ h => absurd h (Nat.not_lt_zero _), fun j _ hl => h.highs (j + 1) (Nat.zero_le _) (by simpa using hl)⟩
      rw [List.filter_cons, h0]
      simpa using ih this
    | succ lo =>
      have h0 : P a = true := h.lows 0 (Nat.succ_pos _)
      have : BI P r lo lo := ⟨Nat.le_refl _, by have := h.hl; simpa using this, fun j hj => h.lows (j + 1) (Nat.succ_lt_succ hj), fun j hj hl => h.highs (j + 1) (Nat.succ_le_succ hj) (by simpa using hl)⟩
      rw [List.filter_cons, h0]
      simpa using ih this
end Mine
namespace Mine
theorem map_getD {f : Int → Int} {ns : List Int} {j : Nat} (h : j < ns.length) : (ns.map f).getD j 0 = f (ns.getD j 0) := by
  simp [List.getD, h]
theorem getD_ok {ns : List Int} {n : Int} (hr : ∀ i ∈ ns, 0 ≤ i ∧ i < n) {j : Nat} (h : j < ns.length) : 0 ≤ ns.getD j 0 ∧ ns.getD j 0 < n := by
  refine hr _ ?_
  simp [List.getD, h]
end Mine
namespace Mine
end Mine
namespace Mine
theorem cntLe_le (ns : List Int) (x : Int) : cntLe ns x ≤ ns.length := List.length_filter_le ..
theorem cntLt_le (ns : List Int) (x : Int) : cntLt ns x ≤ ns.length := List.length_filter_le ..
end Mine
namespace Mine
theorem cntLt_perm {a b : List Int} (h : a.Perm b) (x : Int) : cntLt a x = (b.filter fun c => decide (c < x)).length := (h.filter _).length_eq
theorem cntLe_perm {a b : List Int} (h : a.Perm b) (x : Int) : cntLe a x = (b.filter fun c => decide (c ≤ x)).length := (h.filter _).length_eq
end Mine
namespace Mine
end Mine
namespace Mine
def keysOf (lets row : List Int) : List Int := row.map fun i => lets.getD i.toNat 0
theorem lensK_length (lets : List Int) (k : Nat) : (lensK lets k).length = k + 1 := by simp [lensK]
theorem grK_length (lets : List Int) (k : Nat) : (grK lets k).length = k := by simp [grK]
theorem lensK_succ (lets : List Int) (k : Nat) : lensK lets (k + 1) = lensK lets k ++ [((palW lets (k + 1)).length : Int)] := by
  unfold lensK; rw [List.range_succ, List.map_append]; rfl
theorem grK_succ (lets : List Int) (k : Nat) : grK lets (k + 1) = grK lets k ++ [growthOf lets (lensK lets k) (rowK lets k) (lets.getD k 0)] := by
  unfold grK; rw [List.range_succ, List.map_append]; rfl
end Mine
namespace Mine
theorem palW_len63 (lets : List Int) {k : Nat} (h : k ≤ 6) : (palW lets k).length ≤ 63 := by
  have h1 := palW_len lets k
  have h2 : 2 ^ k ≤ 2 ^ 6 := Nat.pow_le_pow_right (by decide) h
  have : (2 : Nat) ^ 6 = 64 := by decide
  omega
end Mine
namespace Mine
end Mine
namespace Mine
end Mine
open PySem PySem.W PyProof.Rows
namespace Mine
set_option maxRecDepth 100000 in
set_option maxHeartbeats 8000000 in
open_top hd for PySem.Challenge.rw_sc0031_01
end Mine
open PySem PySem.W PySem.Calls PyProof.Rows
set_option maxRecDepth 100000
namespace Mine
/-- a stop: no line of the library serves it -/
def Stop (P : Prop) : Prop := P
theorem Stop.mk {P : Prop} (h : Stop P) : P := h
theorem Stop.out {P : Prop} (h : P) : Stop P := h
theorem fr_know {h₀ h : Heap} {L : Addr} {m : Str → Option Value} {x : Str} {v : Option Value} (F : Fr h₀ L h m) (hm : m x = v) :
    Fr h₀ L h (fun y => if y = x then v else m y) := by
  have e : (fun y => if y = x then v else m y) = m := by
    funext y
    by_cases hy : y = x
    · rw [if_pos hy, hy, hm]
    · rw [if_neg hy]
  rw [e]; exact F
theorem news_sub {h₀ h : Heap} {L : Addr} {news news' : List (Addr × Obj)} (N : News h₀ L h news) (hs : ∀ p ∈ news', p ∈ news) : News h₀ L h news' := fun p hp => N p (hs p hp)
theorem news_drop1 {h₀ h : Heap} {L : Addr} {a : Addr × Obj} {news : List (Addr × Obj)} (N : News h₀ L h (a :: news)) : News h₀ L h news := fun p hp => N p (.tail _ hp)
theorem news_drop2 {h₀ h : Heap} {L : Addr} {a b : Addr × Obj} {news : List (Addr × Obj)} (N : News h₀ L h (a :: b :: news)) : News h₀ L h (a :: news) :=
  news_sub N fun _ hp => (List.mem_cons.mp hp).elim (fun e => e ▸ .head _) fun h => .tail _ (.tail _ h)
theorem news_left {h₀ h : Heap} {L : Addr} {a b : List (Addr × Obj)} (N : News h₀ L h (a ++ b)) : News h₀ L h a := fun p hp => N p (List.mem_append_left _ hp)
theorem all_ne {l : Nat} {news : List (Addr × Obj)} (h : ∀ p ∈ news, p.1 < l) : ∀ p ∈ news, p.1 ≠ l := fun p hp => Nat.ne_of_lt (h p hp)
theorem lt_of_allLt {d : Addr} : ∀ {news : List (Addr × Obj)}, AllLt d news → ∀ p ∈ news, p.1 < d := by
  intro news
  induction news with
  | nil => intro _ p hp; cases hp
  | cons q r ih =>
    intro h p hp
    rcases List.mem_cons.mp hp with rfl | hp
    · exact h.1
    · exact ih h.2 p hp
theorem all_neL {l : Nat} {news : List (Addr × Obj)} (h : AllLt l news) : ∀ p ∈ news, p.1 ≠ l := all_ne (lt_of_allLt h)
theorem all_app {d : Nat} {a b : List (Addr × Obj)} (h1 : ∀ p ∈ a, p.1 ≠ d) (h2 : ∀ p ∈ b, p.1 ≠ d) : ∀ p ∈ a ++ b, p.1 ≠ d := fun p hp => (List.mem_append.mp hp).elim (h1 p) (h2 p)
section
variable {prog : Program} {w : World} {A : Around} {E : Value → Shared → Prop} {s : Shared} {env : Env} {h₀ : Heap} {x : Str} {body : List Stmt} {Q : Flow → Shared → Prop}
/-- how a turn of a loop over an iterator at I ends -/
def TurnEnd (h₀ : Heap) (L : Addr) (I : Addr) (own : List (Addr × Obj)) (J : (Str → Option Value) → List (Addr × Obj) → Prop) (s₁ s₂ : Shared) : Prop :=
  ∃ h' tk m' news', s₂ = { s₁ with heap := h', toks := tk } ∧ Fr h₀ L h' m' ∧ News h₀ L h' news' ∧ (∀ p ∈ own, p ∈ news') ∧ ∃ nx, (∀ p ∈ nx, p ∈ news') ∧ (∀ p ∈ nx, p.1 ≠ I) ∧ J m' nx
def TurnPost (h₀ : Heap) (L : Addr) (I : Addr) (own : List (Addr × Obj)) (J : (Str → Option Value) → List (Addr × Obj) → Prop) (s₁ : Shared) (Q : Flow → Shared → Prop) (f : Flow) (s₂ : Shared) : Prop :=
  match f with
  | .ret v => Q (.ret v) s₂
  | .brk => Q .next s₂
  | _ => TurnEnd h₀ L I own J s₁ s₂
theorem loop_gen {I : Addr} {n : Nat} {P : Nat → Value → Prop} {St : Nat → Heap → Prop} {m₀ : Str → Option Value} {news : List (Addr × Obj)} {fp : List Addr} (J : Nat → (Str → Option Value) → List (Addr × Obj) → Prop)
    (W : Walks prog w A I fp [I] n P St) (hLf : env.locals ∉ fp) (hwr : h₀.get? I = none) (hnw : ∀ p ∈ news, p.1 ≠ I) (hst : St 0 s.heap) (F : Fr h₀ env.locals s.heap m₀) (N : News h₀ env.locals s.heap news) (hj : J 0 m₀ news)
    (turn : ∀ i v m₁ news₁ h tk own, i < n → P i v → J i m₁ news₁ → (∀ p ∈ news₁, p.1 ≠ I) → (∀ p ∈ own, p.1 ∈ fp) → (∃ o, (I, o) ∈ own) → Fr h₀ env.locals h (fun y => if y = x then some v else m₁ y) → News h₀ env.locals h (news₁ ++ own) →
      wpAny (model prog w) A (execs body env) (TurnPost h₀ env.locals I own (J (i + 1)) { s with heap := h, toks := tk } Q) E { s with heap := h, toks := tk })
    (hI : ∀ i h, St i h → ∃ o, h.get? I = some o)
    (done : ∀ m₁ news₁ h tk, J n m₁ news₁ → Fr h₀ env.locals h m₁ → News h₀ env.locals h news₁ → Q .next { s with heap := h, toks := tk }) :
    LoopAtV prog w A h₀ env x body Q E (.ref I) s := by
  refine ⟨I, fp, [I], n, P, St, m₀, news, J, rfl, W, hLf, ?_, ?_, hst, F, N, hj, ?_, ?_⟩
  · intro b hb; rw [List.mem_singleton.mp hb]; exact hwr
  · intro p hp hI; exact hnw p hp (List.mem_singleton.mp hI)
  · rintro i v m₁ news₁ s₁ own ⟨hh', tk', rfl⟩ hin hP hJ hoff hown hown2 hown3 hst1 F₁ N₁
    have N₂ : News h₀ env.locals hh' (news₁ ++ own) := fun p hp => N₁ p ((List.mem_append.mp hp).elim (fun h => List.mem_append.mpr (.inr h)) fun h => List.mem_append.mpr (.inl h))
    have hne : ∀ p ∈ news₁, p.1 ≠ I := fun p hp e => hoff p hp (by rw [e]; exact List.mem_singleton.mpr rfl)
    obtain ⟨oI, hoI⟩ := hI _ _ hst1
    have hIo : (I, oI) ∈ own := hown3 I (W.sub I (List.mem_singleton.mpr rfl)) hwr oI hoI
    refine wpAny_mono (turn i v m₁ news₁ hh' tk' own hin hP hJ hne hown ⟨oI, hIo⟩ F₁ N₂) (fun f s₂ p => ?_) fun _ _ e => e
    have fin : TurnEnd h₀ env.locals I own (J (i + 1)) { s with heap := hh', toks := tk' } s₂ → LoopStepU h₀ env.locals [I] own (J (i + 1)) { s with heap := hh', toks := tk' } .next s₂ := by
      rintro ⟨h', tk, m', news', e, F', N', ho, nx, hn, hne', hm⟩
      exact ⟨rfl, h', tk, m', nx, e, F', fun p hp => N' p ((List.mem_append.mp hp).elim (ho p) (hn p)), fun p hp hq => hne' p hp (List.mem_singleton.mp hq), hm⟩
    cases f with
    | ret v => exact .ret p
    | brk => exact .brk p
    | next => exact .next (fin p)
    | cont => exact .cont (fin p)
  · intro h' tk m' news' F' N' _ hJ
    exact done m' news' h' tk hJ F' N'
/-- a for over a range object by ones -/
theorem loop_range {r : Addr} {a₀ b₀ : Int} {t₀ u₀ v₀ : Tok} {n : Nat} {m₀ : Str → Option Value} {news : List (Addr × Obj)} (J : Nat → (Str → Option Value) → List (Addr × Obj) → Prop)
    (hh : A.handled = none) (hr : IsRange s.heap r a₀ b₀ 1 t₀ u₀ v₀) (hsmall : Builtin.Range.small a₀ b₀ 1 = true) (hn : Builtin.Range.rangeSize a₀ b₀ 1 = (n : Int)) (F : Fr h₀ env.locals s.heap m₀) (N : News h₀ env.locals s.heap news) (hj : J 0 m₀ news)
    (turn : ∀ i t m₁ news₁ h tk own (I : Addr), i < n → J i m₁ news₁ → (∀ p ∈ news₁, p.1 ≠ I) → (∃ o, (I, o) ∈ own) → (∀ p ∈ own, p.1 = I) → @LT.lt Nat _ env.locals I → Fr h₀ env.locals h (fun y => if y = x then some (.int (a₀ + (i : Int)) t) else m₁ y) → News h₀ env.locals h (news₁ ++ own) →
      wpAny (model prog w) A (execs body env) (TurnPost h₀ env.locals I own (J (i + 1)) { s with heap := h, toks := tk } Q) E { s with heap := h, toks := tk })
    (done : ∀ m₁ news₁ h tk, J n m₁ news₁ → Fr h₀ env.locals h m₁ → News h₀ env.locals h news₁ → Q .next { s with heap := h, toks := tk }) :
    wpAny (model prog w) A (pyIter (.ref r)) (fun it s₂ => LoopAtV prog w A h₀ env x body Q E it s₂) E s := by
  refine wpAny_pyIter_range hr hsmall ?_
  have W : Walks prog w A s.heap.objs.size [s.heap.objs.size] [s.heap.objs.size] n (fun i v => i < n ∧ ∃ t, v = .int (a₀ + i * 1) t)
      (fun i h => IsRangeIter h s.heap.objs.size (a₀ + (i : Nat) * 1) ((n : Int) - (i : Nat)) 1) := (Walks.range hh _ a₀ 1 n).bound
  refine loop_gen J W ?_ ?_ ?_ (by show IsRangeIter _ _ _ _ _; rw [hn]; simpa using Heap.get?_push_size _ rfl) (F.push _) (fun p hp => ⟨Heap.get?_push_of_some _ (N p hp).1, (N p hp).2⟩) hj ?_ ?_ ?_
  · intro hm
    exact absurd F.ns.lt ((List.mem_singleton.mp hm) ▸ Nat.lt_irrefl _)
  · exact next_is_new F
  · intro p hp hI
    exact absurd (Heap.lt_size (N p hp).1) (hI ▸ Nat.lt_irrefl _)
  · rintro i v m₁ news₁ h tk own hi ⟨_, t, rfl⟩ hJ hne hown hIo F₁ N₁
    have e1 : a₀ + (i : Int) * 1 = a₀ + (i : Int) := by omega
    rw [e1] at F₁
    exact turn i t m₁ news₁ h tk own _ hi hJ hne hIo (fun p hp => List.mem_singleton.mp (hown p hp)) F.ns.lt F₁ N₁
  · intro i h hst
    exact ⟨_, hst⟩
  · exact done
/-- while with an else -/
def WhilePost (h₀ : Heap) (L : Addr) (s : Shared) (J : Nat → (Str → Option Value) → List (Addr × Obj) → Prop) (Q : Flow → Shared → Prop) (n : Nat) (f : Flow) (s₃ : Shared) : Prop :=
  match f with
  | .ret v => Q (.ret v) s₃
  | .brk => Q .next s₃
  | _ => ∃ h' tk m₂ news₂ n', s₃ = { s with heap := h', toks := tk } ∧ Fr h₀ L h' m₂ ∧ News h₀ L h' news₂ ∧ n' < n ∧ J n' m₂ news₂
def TestIf (b : Bool) (T F : Prop) : Prop := if b = true then T else F
theorem while_gen {L : Addr} {test : Expr} {body orelse : List Stmt} {pos : Pos} {m : Str → Option Value} {news : List (Addr × Obj)} (J : Nat → (Str → Option Value) → List (Addr × Obj) → Prop) {n₀ : Nat}
    (F : Fr h₀ L s.heap m) (N : News h₀ L s.heap news) (hJ : J n₀ m news)
    (turn : ∀ n m₁ news₁ h₁ tk₁, Fr h₀ L h₁ m₁ → News h₀ L h₁ news₁ → J n m₁ news₁ →
      wpAny (model prog w) A (isTrue test env (eval test env)) (fun b s₂ =>
        TestIf b (wpAny (model prog w) A (execs body env) (WhilePost h₀ L s J Q n) E s₂) (wpAny (model prog w) A (execs orelse env) Q E s₂)) E { s with heap := h₁, toks := tk₁ })
    (hE : PassesOwn (model prog w) A env E := by passes_own) :
    wpAny (model prog w) A (exec (.While test body orelse pos) env) Q E s := by
  refine wpAny_While (codeAny_whileLoop (fun n s' => ∃ h₁ tk₁ m₁ news₁, s' = { s with heap := h₁, toks := tk₁ } ∧ Fr h₀ L h₁ m₁ ∧ News h₀ L h₁ news₁ ∧ J n m₁ news₁) ?_ n₀ ⟨s.heap, s.toks, m, news, rfl, F, N, hJ⟩)
  rintro n s' ⟨h₁, tk₁, m₁, news₁, rfl, F₁, N₁, J₁⟩
  refine wpAny_mono (turn n m₁ news₁ h₁ tk₁ F₁ N₁ J₁) (fun b s₂ h₂ => ?_) hE
  unfold TestIf at h₂
  cases b with
  | false =>
    simp only [Bool.false_eq_true, if_false] at h₂ ⊢
    exact wpAny_mono h₂ (fun f s₃ h₃ => h₃) hE
  | true =>
    simp only [if_true] at h₂ ⊢
    refine wpAny_mono h₂ (fun f s₃ h₃ => ?_) hE
    cases f with
    | next =>
      obtain ⟨h', tk, m₂, news₂, n', rfl, F₂, N₂, hn, J₂⟩ := h₃
      exact ⟨n', hn, h', tk, m₂, news₂, rfl, F₂, N₂, J₂⟩
    | cont =>
      obtain ⟨h', tk, m₂, news₂, n', rfl, F₂, N₂, hn, J₂⟩ := h₃
      exact ⟨n', hn, h', tk, m₂, news₂, rfl, F₂, N₂, J₂⟩
    | brk => exact h₃
    | ret v => exact h₃
end
section
variable {prog : Program} {w : World} {A : Around} {E : Value → Shared → Prop} {s : Shared} {h₀ : Heap} {L l : Addr} {m : Str → Option Value} {news : List (Addr × Obj)} {value slice : PySem.Expr} {vs : List Value} {ns : List Int} {vk : Value} {Q : Value → Shared → Prop}
theorem m_tail_ops {o i : Value} {T id : String} {ops : List Value} (hT : s.TypeIs o T)
    (hl : typeLookup (.type T) "__getitem__" = pure (some (.builtin id))) (h : wpAny (model prog w) A (getItem o i) Q E s)
    (hs : subscripted slice false o i = operate ops (getItem o i)) :
    wpAny (model prog w) A (subscriptTail value slice o i) Q E s := by
  unfold subscriptTail
  refine wpAny_bind ?_
  rw [getitemInPython_of_ne hT.not_modules]
  refine wpAny_bind (wpAny_specialOf hT hl ?_)
  have fin : wpAny (model prog w) A (subscripted slice false o i) (fun r s₃ => wpAny (model prog w) A (letTemporaryGo value o r >>= fun _ => pure r) Q E s₃) E s := by
    rw [hs]
    exact wpAny_operating (wpAny_mono h (fun r s₃ h₃ => wpAny_bind (wpAny_letTemporaryGo (wpAny_pure h₃))) fun _ _ x => x)
  first
    | exact wpAny_pure (wpAny_bind fin)
    | exact wpAny_bind (wpAny_pure (wpAny_bind fin))
    | exact wpAny_bind fin
theorem m_slice3 {items : Array Value} {vl vu : Value} {lo hi st : Option Int} {ops : List Value}
    (F : Fr h₀ L s.heap m) (N : News h₀ L s.heap news) (hl : s.heap.IsList l items) (pl : IsPart vl lo) (pu : IsPart vu hi) (pk : IsPart vk st) (h0 : st ≠ some 0)
    (h : ∀ D h', Fr h₀ L h' m → News h₀ L h' ((D, { cls := .type "list", data := .seq (slicePick items lo hi st) }) :: news) → (∀ p ∈ news, p.1 < D) → Q (.ref D) { s with heap := h' })
    (hs : subscripted slice false (.ref l) (.ref s.heap.objs.size) = operate ops (getItem (.ref l) (.ref s.heap.objs.size)))
    (hsz : items.size ≤ sizeLine) :
    wpAny (model prog w) A (subscriptTail value slice (.ref l) (.ref s.heap.objs.size)) Q E { s with heap := s.heap.push { cls := .type "slice", data := .fields #[vl, vu, vk] } } := by
  refine m_tail_ops (Heap.IsList.typeIs (s := { s with heap := s.heap.push { cls := .type "slice", data := .fields #[vl, vu, vk] } }) (hl.push _)) list_getitem_lookup
    (wpAny_getItem_list_slice (hl.push _) (Heap.IsSliceOf.new ..) pl pu pk h0 ?_ hsz) hs
  have N1 := News.push (F.push { cls := .type "slice", data := .fields #[vl, vu, vk] }) (N.grown fun _ _ e => Heap.get?_push_of_some _ e) { cls := .type "list", data := .seq (slicePick items lo hi st) }
  exact h _ _ ((F.push _).push _) N1 (fun p hp => by rw [Heap.size_push]; exact Nat.lt_succ_of_lt (Heap.lt_size (N p hp).1))
theorem m_rev {ops : List Value} (F : Fr h₀ L s.heap m) (N : News h₀ L s.heap news) (hl : s.heap.IsList l vs.toArray) (pk : IsPart vk (some (-1))) (hi : IntsAre vs ns)
    (h : ∀ D ws h', Fr h₀ L h' m → News h₀ L h' ((D, listOf (List.toArray ws) 0) :: news) → (∀ p ∈ news, p.1 < D) → IntsAre ws ns.reverse → ns.reverse.length = ns.length → Q (.ref D) { s with heap := h' })
    (hs : subscripted slice false (.ref l) (.ref s.heap.objs.size) = operate ops (getItem (.ref l) (.ref s.heap.objs.size))) (hz : vs.toArray.size ≤ sizeLine) :
    wpAny (model prog w) A (subscriptTail value slice (.ref l) (.ref s.heap.objs.size)) Q E { s with heap := s.heap.push { cls := .type "slice", data := .fields #[.none, .none, vk] } } := by
  refine m_slice3 F N hl .none .none pk (by decide) (fun D h' F' N' l1 => h D vs.reverse h' F' ?_ l1 hi.reverse (List.length_reverse ..)) hs hz
  rw [krv_pick] at N'
  exact N'
end
theorem upd_split {d : Addr} {o o' : Obj} {post : List (Addr × Obj)} (h2 : ∀ p ∈ post, p.1 ≠ d) : ∀ {pre : List (Addr × Obj)}, (∀ p ∈ pre, p.1 ≠ d) → Upd d o o' (pre ++ (d, o) :: post) (pre ++ (d, o') :: post) := by
  intro pre
  induction pre with
  | nil => intro _; exact Upd.head h2
  | cons q r ih => intro h1; exact Upd.tail (h1 q (.head _)) (ih fun p hp => h1 p (.tail _ hp))
theorem ins_ints {vs : List Value} {ns : List Int} {c : Nat} {x : Int} {t : Tok} (hi : IntsAre vs ns) (hc : c ≤ ns.length) : IntsAre (kl_ins vs (c : Int) (.int x t)) (ns.take c ++ x :: ns.drop c) := by
  have hl := hi.length
  have e : kl_ins vs (c : Int) (.int x t) = vs.take c ++ .int x t :: vs.drop c := by
    unfold kl_ins
    rw [if_neg (by omega), Int.toNat_natCast, Nat.min_eq_left (by omega)]
  rw [e]
  exact (hi.take c).append (.cons x t (hi.drop c))
theorem fits_small {x : Int} (h0 : 0 ≤ x) (h1 : x < 2 ^ 62) : Builtin.List.listFitsIndex x = true := by
  unfold Builtin.List.listFitsIndex
  simp
  omega
theorem sub4 {α : Type} {a b c d : α} {l : List α} (h1 : a ∈ l) (h2 : b ∈ l) (h3 : c ∈ l) (h4 : d ∈ l) : ∀ q ∈ [a, b, c, d], q ∈ l := by
  intro q hq
  simp only [List.mem_cons, List.not_mem_nil, or_false] at hq
  rcases hq with rfl | rfl | rfl | rfl <;> assumption
section
open LCg LCt
variable {prog : Program} {w : World} {A : Around} {s : Shared} {h₀ : Heap} {L : Addr} {m : Str → Option Value} {env : Env} {ct elt : Expr} {x : Str} {scope : Scope} {cl : List (Str × Addr)} {S : List (Addr × Obj) → Prop} {P : Nat → Value → Prop} {Fin : List Value → List (Addr × Obj) → Prop} {news : List (Addr × Obj)} {n : Nat}
theorem ints_snoc {vs : List Value} {ns : List Int} {x : Int} {t : Tok} (h : IntsAre vs ns) : IntsAre (vs ++ [.int x t]) (ns ++ [x]) := h.append (.cons x t .nil)
/-- how the walk of an element (or of a test) ends -/
def EltEnd (h₀ : Heap) (L : Addr) (m : Str → Option Value) (led : List (Addr × Obj)) (s₁ s₂ : Shared) : Prop :=
  ∃ h' tk', s₂ = { s₁ with heap := h', toks := tk' } ∧ Fr h₀ L h' m ∧ News h₀ L h' led
theorem rest_U (f : Nat → Int) (hS : S news) (fin : ∀ ys, IntsAre ys ((List.range n).map f) → Fin ys news)
    (turn : ∀ i v I oI C oC D ys m₂ h tk, i < n → P i v → NsObj oC m₂ → m₂ x = some v → Fr h₀ L h m → News h₀ L h ((I, oI) :: (C, oC) :: (D, lst ys) :: news) → Off3 I C D news →
      wpAny (model prog w) A (eval elt (compEnvC scope cl C env)) (fun y s₂ => (∃ t, y = .int (f i) t) ∧ EltEnd h₀ L m ((I, oI) :: (C, oC) :: (D, lst ys) :: news) { s with heap := h, toks := tk } s₂) (fun _ _ => False) { s with heap := h, toks := tk }) :
    CompRest prog w A h₀ L m env elt x scope cl s S P Fin n 0 [] news := by
  have all : ∀ k i ys, i + k = n → IntsAre ys ((List.range i).map f) → CompRest prog w A h₀ L m env elt x scope cl s S P Fin k i ys news := by
    intro k
    induction k with
    | zero =>
      intro i ys hik hys
      have : i = n := by omega
      subst this
      exact fin ys hys
    | succ k ih =>
      intro i ys hik hys
      refine CompRest.succ fun v I oI C oC D m₂ h tk E' hP hC hx F N off ne => ?_
      refine wpAny_mono (turn i v I oI C oC D ys m₂ h tk (by omega) hP hC hx F N off) (fun y s₂ hy => ?_) fun _ _ e => e.elim
      obtain ⟨⟨t, rfl⟩, h', tk', rfl, F', N'⟩ := hy
      refine CompEnd.intro F' N' news (fun p hp => hp) off hS (ih (i + 1) _ (by omega) ?_)
      rw [List.range_succ, List.map_append]
      exact ints_snoc hys
  exact all n 0 [] (by omega) .nil
theorem rest_T (c : Nat → Bool) (f : Nat → Int) (hS : S news) (fin : ∀ ys, IntsAre ys (((List.range n).filter c).map f) → Fin ys news)
    (turn : ∀ i v I oI C oC D ys m₂ h tk, i < n → P i v → NsObj oC m₂ → m₂ x = some v → Fr h₀ L h m → News h₀ L h ((I, oI) :: (C, oC) :: (D, lst ys) :: news) → Off3 I C D news →
      wpAny (model prog w) A (isTrue ct (compEnvC scope cl C env) (eval ct (compEnvC scope cl C env))) (fun ok s₁ => ok = c i ∧ (if c i = true then
        wpAny (model prog w) A (eval elt (compEnvC scope cl C env)) (fun y s₂ => (∃ t, y = .int (f i) t) ∧ EltEnd h₀ L m ((I, oI) :: (C, oC) :: (D, lst ys) :: news) { s with heap := h, toks := tk } s₂) (fun _ _ => False) s₁
        else EltEnd h₀ L m ((I, oI) :: (C, oC) :: (D, lst ys) :: news) { s with heap := h, toks := tk } s₁)) (fun _ _ => False) { s with heap := h, toks := tk }) :
    CompRestT prog w A h₀ L m env ct elt x scope cl s S P Fin n 0 [] news := by
  have all : ∀ k i ys, i + k = n → IntsAre ys (((List.range i).filter c).map f) → CompRestT prog w A h₀ L m env ct elt x scope cl s S P Fin k i ys news := by
    intro k
    induction k with
    | zero =>
      intro i ys hik hys
      have : i = n := by omega
      subst this
      exact fin ys hys
    | succ k ih =>
      intro i ys hik hys
      refine CompRestT.succ fun v I oI C oC D m₂ h tk E' hP hC hx F N off ne => ?_
      refine wpAny_mono (turn i v I oI C oC D ys m₂ h tk (by omega) hP hC hx F N off) (fun ok s₁ h₁ => ?_) fun _ _ e => e.elim
      obtain ⟨rfl, h₁⟩ := h₁
      cases hc : c i with
      | true =>
        rw [hc] at h₁
        simp only [if_true] at h₁ ⊢
        refine wpAny_mono h₁ (fun y s₂ hy => ?_) fun _ _ e => e.elim
        obtain ⟨⟨t, rfl⟩, h', tk', rfl, F', N'⟩ := hy
        refine CompEnd.intro F' N' news (fun p hp => hp) off hS (ih (i + 1) _ (by omega) ?_)
        rw [List.range_succ, List.filter_append, List.map_append]
        simp only [List.filter_cons, hc, if_true, List.filter_nil, List.map_cons, List.map_nil]
        exact ints_snoc hys
      | false =>
        rw [hc] at h₁
        simp only [Bool.false_eq_true, if_false] at h₁ ⊢
        obtain ⟨h', tk', rfl, F', N'⟩ := h₁
        refine CompEnd.intro F' N' news (fun p hp => hp) off hS (ih (i + 1) _ (by omega) ?_)
        rw [List.range_succ, List.filter_append, List.map_append]
        simp only [List.filter_cons, hc, Bool.false_eq_true, if_false, List.filter_nil, List.map_nil, List.append_nil]
        exact hys
  exact all n 0 [] (by omega) .nil
end
theorem item_ints {vs : List Value} {ns : List Int} {i : Nat} {v : Value} (hi : IntsAre vs ns) (h : vs.toArray[i]? = some v) : ∃ t, v = .int (ns.getD i 0) t := by
  have h' : vs[i]? = some v := by simpa using h
  obtain ⟨hl, _⟩ := List.getElem?_eq_some_iff.mp h'
  have hl' : i < ns.length := by rw [← hi.length]; exact hl
  obtain ⟨t, hx⟩ := hi.get i (ns.getD i 0) (by rw [List.getD_eq_getElem?_getD, List.getElem?_eq_getElem hl']; rfl)
  rw [hx] at h'
  exact ⟨t, (Option.some.inj h').symm⟩
theorem map_range_getD (g : Int → Int) (ns : List Int) : (List.range ns.length).map (fun i => g (ns.getD i 0)) = ns.map g := by
  apply List.ext_getElem
  · simp
  · intro i h1 h2
    simp at h1
    simp [List.getD, h1]
theorem filter_range_getD (c : Int → Bool) (g : Int → Int) : ∀ (ns : List Int), ((List.range ns.length).filter fun i => c (ns.getD i 0)).map (fun i => g (ns.getD i 0)) = (ns.filter c).map g := by
  intro ns
  induction ns with
  | nil => rfl
  | cons a r ih =>
    rw [List.length_cons, List.range_succ_eq_map, List.filter_cons, List.filter_cons]
    have e0 : (a :: r).getD 0 0 = a := rfl
    have hf : (List.filter (fun i => c ((a :: r).getD i 0)) ((List.range r.length).map Nat.succ)) = ((List.range r.length).filter fun i => c (r.getD i 0)).map Nat.succ := by
      rw [List.filter_map]; rfl
    rw [e0, hf]
    cases hc : c a with
    | true => simp only [if_true, List.map_cons, List.map_map, e0, ← ih]; rfl
    | false => simp only [Bool.false_eq_true, if_false, List.map_map, ← ih]; rfl
theorem mem_sh {α : Type} {fx gl r : List α} : ∀ p ∈ gl ++ (fx ++ r), p ∈ fx ++ (gl ++ r) := by
  intro p hp
  simp only [List.mem_append] at hp ⊢
  rcases hp with h | h | h
  · exact .inr (.inl h)
  · exact .inl h
  · exact .inr (.inr h)
theorem mem_sh2 {α : Type} {fx gl r : List α} : ∀ p ∈ fx ++ (gl ++ r), p ∈ gl ++ (fx ++ r) := by
  intro p hp
  simp only [List.mem_append] at hp ⊢
  rcases hp with h | h | h
  · exact .inr (.inl h)
  · exact .inl h
  · exact .inr (.inr h)
theorem mem_sh3 {α : Type} {ll fx gl r : List α} : ∀ p ∈ ll ++ (fx ++ (gl ++ r)), p ∈ fx ++ (gl ++ (ll ++ r)) := by
  intro p hp
  simp only [List.mem_append] at hp ⊢
  rcases hp with h | h | h | h
  · exact .inr (.inr (.inl h))
  · exact .inl h
  · exact .inr (.inl h)
  · exact .inr (.inr (.inr h))
theorem mem_sh4 {α : Type} {a f : α} {ll fx r : List α} : ∀ p ∈ a :: f :: (fx ++ (ll ++ r)), p ∈ f :: (ll ++ (a :: fx ++ r)) := by
  intro p hp
  simp only [List.mem_append, List.mem_cons] at hp ⊢
  rcases hp with h | h | h | h | h
  · exact .inr (.inr (.inl (.inl h)))
  · exact .inl h
  · exact .inr (.inr (.inl (.inr h)))
  · exact .inr (.inl h)
  · exact .inr (.inr (.inr h))
end Mine
open PySem PySem.W PySem.Calls PyProof.Rows
set_option maxRecDepth 100000
namespace Mine
local macro_rules | `(tactic| news_mem) => `(tactic| (focus ((repeat (first | exact List.Mem.head _ | with_reducible assumption | refine' List.Mem.tail _ ?_ | (refine' List.mem_append_left _ ?_; (repeat (first | exact List.Mem.head _ | with_reducible assumption | refine' List.Mem.tail _ ?_ | assumption)); done) | refine' List.mem_append_right _ ?_ | assumption)); done)))
local macro_rules | `(tactic| k_mem) => `(tactic| (focus ((repeat (first | exact List.Mem.head _ | with_reducible assumption | refine' List.Mem.tail _ ?_ | (refine' List.mem_append_left _ ?_; (repeat (first | exact List.Mem.head _ | with_reducible assumption | refine' List.Mem.tail _ ?_ | assumption)); done) | refine' List.mem_append_right _ ?_ | assumption)); done)))
local macro_rules | `(tactic| k_all) => `(tactic| first | exact List.forall_mem_nil _ | (refine' List.forall_mem_cons.mpr ⟨?a, ?b⟩; (case a => k_ne); (case b => k_all)) | with_reducible assumption | exact all_ne (by with_reducible assumption) | exact all_neL (by with_reducible assumption) | (refine all_app ?_ ?_ <;> k_all))
local macro_rules | `(tactic| walk_at "pyIter ref") => `(tactic| (k_here; refine Stop.mk ?_))
local macro_rules | `(tactic| walk_at "exec While") => `(tactic| (k_here; refine Stop.mk ?_))
local macro_rules | `(tactic| walk_at "subscriptTail Name Slice ref ref") => `(tactic| (k_here; (with_reducible show wpAny _ _ (subscriptTail _ (PySem.Expr.Slice (some _) none none _) (Value.ref _) (Value.ref _)) _ _ _); k_dflt (refine' kmk_slice_ints ?F ?N ?l ?p ?q ?i ?m ?c ?_ ?s ?t ?z; (case F => with_reducible assumption); (case N => with_reducible assumption); (case l => (exact News.isList (by with_reducible assumption) (by news_mem))); (case p => exact IsPart.int _ _); (case q => exact IsPart.none); (case i => with_reducible assumption); (case m => exact kmk_from (by with_reducible assumption) (by omega)); (case c => exact rfl); (case s => with_unfolding_all rfl); (case t => kmk_pure); (case z => ((refine kmk_sz (by with_reducible assumption) ?_; (try simp only [List.length_append, List.length_drop, List.length_take, List.length_reverse, List.length_cons, List.length_nil]); rw [sizeLine_eq]; omega)))); intro D' ws' h' F' N' l1 hI' hC' hL'; (try k_lt l1); (try k_sweep)))
local macro_rules | `(tactic| walk_at "subscriptTail Name Slice ref ref") => `(tactic| (k_here; (with_reducible show wpAny _ _ (subscriptTail _ (PySem.Expr.Slice none (some _) none _) (Value.ref _) (Value.ref _)) _ _ _); k_dflt (refine' kmk_slice_ints ?F ?N ?l ?p ?q ?i ?m ?c ?_ ?s ?t ?z; (case F => with_reducible assumption); (case N => with_reducible assumption); (case l => (exact News.isList (by with_reducible assumption) (by news_mem))); (case p => exact IsPart.none); (case q => exact IsPart.int _ _); (case i => with_reducible assumption); (case m => exact kmk_upto (by with_reducible assumption) (by omega)); (case c => exact rfl); (case s => with_unfolding_all rfl); (case t => kmk_pure); (case z => ((refine kmk_sz (by with_reducible assumption) ?_; (try simp only [List.length_append, List.length_drop, List.length_take, List.length_reverse, List.length_cons, List.length_nil]); rw [sizeLine_eq]; omega)))); intro D' ws' h' F' N' l1 hI' hC' hL'; (try k_lt l1); (try k_sweep)))
local macro_rules | `(tactic| walk_at "subscriptTail Subscript") => `(tactic| (k_here; (with_reducible show wpAny _ _ (subscriptTail _ (PySem.Expr.Slice none none (some _) _) (Value.ref _) (Value.ref _)) _ _ _); k_dflt (refine' m_rev ?F ?N ?l ?k ?i ?_ ?s ?z; (case F => with_reducible assumption); (case N => with_reducible assumption); (case l => (exact News.isList (by with_reducible assumption) (by news_mem))); (case k => exact IsPart.int _ _); (case i => with_reducible assumption); (case s => with_unfolding_all rfl); (case z => ((refine kmk_sz (by with_reducible assumption) ?_; (try simp only [List.length_append, List.length_drop, List.length_take, List.length_reverse, List.length_cons, List.length_nil]); rw [sizeLine_eq]; omega)))); intro D' ws' h' F' N' l1 hI' hC'; (try k_lt l1); (try k_sweep)))
local macro_rules | `(tactic| walk_at "subscriptTail Name Slice ref ref") => `(tactic| (k_here; (with_reducible show wpAny _ _ (subscriptTail _ (PySem.Expr.Slice none none (some _) _) (Value.ref _) (Value.ref _)) _ _ _); k_dflt (refine' m_rev ?F ?N ?l ?k ?i ?_ ?s ?z; (case F => with_reducible assumption); (case N => with_reducible assumption); (case l => (exact News.isList (by with_reducible assumption) (by news_mem))); (case k => exact IsPart.int _ _); (case i => with_reducible assumption); (case s => with_unfolding_all rfl); (case z => ((refine kmk_sz (by with_reducible assumption) ?_; (try simp only [List.length_append, List.length_drop, List.length_take, List.length_reverse, List.length_cons, List.length_nil]); rw [sizeLine_eq]; omega)))); intro D' ws' h' F' N' l1 hI' hC'; (try k_lt l1); (try k_sweep)))
local macro_rules | `(tactic| walk_at "compareOp NotEq ref ref") => `(tactic| (k_here; (with_reducible show wpAny _ _ (compareOp CmpOp.NotEq (Value.ref _) (Value.ref _)) _ _ _); k_dflt (refine' ne_intsK ?k1 ?k2 ?k3 ?k4 ?k5 ?_; (case k1 => (exact News.isList (by with_reducible assumption) (by news_mem))); (case k2 => with_reducible assumption); (case k3 => (exact News.isList (by with_reducible assumption) (by news_mem))); (case k4 => with_reducible assumption); (case k5 => (((simp only [units_deeper, units_in1, Around.mark_units, cLine_is] at *); omega))); k_whole)))
abbrev Claim2 (k : Nat) (prog : Program) (w : World) (K : Frag) (f : Addr) (args : List Value) (kw : List (Str × Value)) (Pre : List (Addr × Obj) → Prop) (Post : List (Addr × Obj) → Value → List (Addr × Obj) → Prop) : Prop :=
  ∀ (p : Program) (loose : List Str) (mean : ExcName → Option Value) (mg mb : Str → Option Value)
    (dp un : Nat) (gd : Option (List Code)) (cn : Str) (cs : Scope) (a : Addr) (ccd : Value) (cl : List (Str × Addr)) (outer : List Env) (A₀ : Around) (base h₀ : Heap) (L : Addr) (m : Str → Option Value) (s : Shared) (news : List (Addr × Obj)) (Q E : Value → Shared → Prop),
    Below A₀ base outer h₀ → Fr h₀ L s.heap m → K.In h₀ → News h₀ L s.heap news → Top p loose mean mg mb h₀ → cs.kind = .function →
    Pre news → dp + k < recursionLimit → un + 100 * k < cLine →
    (∀ (v : Value) (news' : List (Addr × Obj)) (h' : Heap) (tk' : Nat), Fr h₀ L h' m → News h₀ L h' news' → Post news v news' → Q v { s with heap := h', toks := tk' }) →
      wpAny (model prog w) (ktrTop dp un gd cn cs L a ccd cl outer) (call (.ref f) args kw) Q E s
abbrev Claim1 (prog : Program) (w : World) (K : Frag) (f : Addr) (args : List Value) (Pre : List (Addr × Obj) → Prop) (Post : List (Addr × Obj) → Value → List (Addr × Obj) → Prop) : Prop := Claim2 20 prog w K f args [] Pre Post
/-- calling f with a place gives that letter, in every state that bears the ledger -/
def KeyOk (prog : Program) (w : World) (K : Frag) (f : Addr) (lets : List Int) (news : List (Addr × Obj)) : Prop :=
  ∀ (p : Program) (loose : List Str) (mean : ExcName → Option Value) (mg mb : Str → Option Value)
    (dp un : Nat) (gd : Option (List Code)) (cn : Str) (cs : Scope) (a : Addr) (ccd : Value) (cl : List (Str × Addr)) (outer : List Env) (A₀ : Around) (base h₀ : Heap) (L : Addr) (m : Str → Option Value) (s : Shared) (news' : List (Addr × Obj)) (Q E : Value → Shared → Prop) (i : Int) (ti : Tok),
    Below A₀ base outer h₀ → Fr h₀ L s.heap m → K.In h₀ → News h₀ L s.heap news' → Top p loose mean mg mb h₀ → cs.kind = .function →
    (∀ q ∈ news, q ∈ news') → 0 ≤ i → i < lets.length → dp + 10 < recursionLimit → un + 400 < cLine →
    (∀ (t : Tok) (h' : Heap) (tk' : Nat), Fr h₀ L h' m → News h₀ L h' news' → Q (.int (lets.getD i.toNat 0) t) { s with heap := h', toks := tk' }) →
      wpAny (model prog w) (ktrTop dp un gd cn cs L a ccd cl outer) (call (.ref f) [.int i ti]) Q E s
theorem KeyOk.use {prog : Program} {w : World} {K : Frag} {f : Addr} {lets : List Int} {news : List (Addr × Obj)} {p : Program} {loose : List Str} {mean : ExcName → Option Value} {mg mb : Str → Option Value}
    {dp un : Nat} {gd : Option (List Code)} {cn : Str} {cs : Scope} {a : Addr} {ccd : Value} {cl : List (Str × Addr)} {outer : List Env} {A₀ : Around} {base h₀ : Heap} {L : Addr} {m : Str → Option Value} {s : Shared} {news' : List (Addr × Obj)} {Q E : Value → Shared → Prop} {i : Int} {ti : Tok}
    (k : KeyOk prog w K f lets news) (B : Below A₀ base outer h₀) (F : Fr h₀ L s.heap m) (X : K.In h₀) (N : News h₀ L s.heap news') (T : Top p loose mean mg mb h₀) (hk : cs.kind = .function)
    (hs : ∀ q ∈ news, q ∈ news') (h0 : 0 ≤ i) (h1 : i < lets.length) (hd : dp + 10 < recursionLimit) (hu : un + 400 < cLine)
    (h : ∀ (t : Tok) (h' : Heap) (tk' : Nat), Fr h₀ L h' m → News h₀ L h' news' → Q (.int (lets.getD i.toNat 0) t) { s with heap := h', toks := tk' }) :
      wpAny (model prog w) (ktrTop dp un gd cn cs L a ccd cl outer) (call (.ref f) [.int i ti]) Q E s :=
  k p loose mean mg mb dp un gd cn cs a ccd cl outer A₀ base h₀ L m s news' Q E i ti B F X N T hk hs h0 h1 hd hu h
theorem KeyOk.mono {prog : Program} {w : World} {K : Frag} {f : Addr} {lets : List Int} {kn news : List (Addr × Obj)} (k : KeyOk prog w K f lets kn) (hs : ∀ q ∈ kn, q ∈ news) : KeyOk prog w K f lets news :=
  fun p loose mean mg mb dp un gd cn cs a ccd cl outer A₀ base h₀ L m s news' Q E i ti B F X N T hk hs' h0 h1 hd hu h =>
    k p loose mean mg mb dp un gd cn cs a ccd cl outer A₀ base h₀ L m s news' Q E i ti B F X N T hk (fun q hq => hs' q (hs q hq)) h0 h1 hd hu h
theorem Claim2.use {k : Nat} {prog : Program} {w : World} {K : Frag} {f : Addr} {args : List Value} {kw : List (Str × Value)} {Pre : List (Addr × Obj) → Prop} {Post : List (Addr × Obj) → Value → List (Addr × Obj) → Prop} {p : Program} {loose : List Str} {mean : ExcName → Option Value} {mg mb : Str → Option Value}
    {dp un : Nat} {gd : Option (List Code)} {cn : Str} {cs : Scope} {a : Addr} {ccd : Value} {cl : List (Str × Addr)} {outer : List Env} {A₀ : Around} {base h₀ : Heap} {L : Addr} {m : Str → Option Value} {s : Shared} {news : List (Addr × Obj)} {Q E : Value → Shared → Prop}
    (C : Claim2 k prog w K f args kw Pre Post) (B : Below A₀ base outer h₀) (F : Fr h₀ L s.heap m) (X : K.In h₀) (N : News h₀ L s.heap news) (T : Top p loose mean mg mb h₀) (hk : cs.kind = .function)
    (hp : Pre news) (hd : dp + k < recursionLimit) (hu : un + 100 * k < cLine)
    (h : ∀ (v : Value) (news' : List (Addr × Obj)) (h' : Heap) (tk' : Nat), Fr h₀ L h' m → News h₀ L h' news' → Post news v news' → Q v { s with heap := h', toks := tk' }) :
      wpAny (model prog w) (ktrTop dp un gd cn cs L a ccd cl outer) (call (.ref f) args kw) Q E s :=
  C p loose mean mg mb dp un gd cn cs a ccd cl outer A₀ base h₀ L m s news Q E B F X N T hk hp hd hu h
local macro_rules | `(tactic| walk_at "call ref") => `(tactic| (k_here; (with_reducible show wpAny _ _ (call (Value.ref _) [Value.int _ _]) _ _ _); k_dflt (refine' KeyOk.use ?kO ?k1 ?k2 ?k3 ?k4 ?k5 ?kK ?kS ?kL ?kH ?kD ?kU ?_; (case kO => with_reducible assumption); (case k1 => k_asm); (case k2 => k_asm); (case k3 => k_asm); (case k4 => k_asm); (case k5 => k_asm); (case kK => first | exact rfl | assumption); (case kS => first | exact fun _ h => h | assumption); (case kL => first | assumption | omega); (case kH => first | assumption | omega); (case kD => ktr_room); (case kU => (((simp only [units_deeper, units_in1, Around.mark_units, cLine_is] at *); omega))); k_whole); intro t9 h9 tk9 F9 N9; (try dsimp only); (try k_fold)))
local macro_rules | `(tactic| walk_at "callWith ref") => `(tactic| (k_here; k_dflt (refine' callWith_F ?k1 ?_; (case k1 => exact FnAt.of (by k_asm) (by news_mem)); k_whole)))
local macro_rules | `(tactic| walk_at "eval ListComp") => `(tactic| (k_here; refine Stop.mk ?_))
local macro_rules | `(tactic| walk_at "CompSrcT") => `(tactic| (k_here; refine Stop.mk ?_))
local macro_rules | `(tactic| walk_at "CompSrc") => `(tactic| (k_here; refine Stop.mk ?_))
local macro_rules | `(tactic| walk_at "call type:range") => `(tactic| (k_here; (rename Fr _ _ _ _ => F'); (rename News _ _ _ _ => N'); first | (with_unfolding_all refine range1_rows F' N' ?_; intro _ _ _ _ _ _ _ _ _) | (with_unfolding_all refine range2_rows F' N' ?_; intro _ _ _ _ _ _ _ _ _)))
set_option maxHeartbeats 8000000 in
theorem table_call (w : World) (l : Addr) (vs : List Value) (ns : List Int) (n : Nat) (hi : IntsAre vs ns) (hz : ns.length < 2 ^ 20) :
    Claim1 PySem.Challenge.rw_sc0031_01.row.prog w (hd.heap_39 w.params) 21 [.ref l] (fun news => (l, listOf vs.toArray n) ∈ news) 
     (fun news v news' => ∃ r vs' n', v = .ref r ∧ news' = (r, listOf vs'.toArray n') :: news ∧ (∀ p ∈ news, p.1 < r) ∧ IntsAre vs' (table ns)) := by
  k_fill
  w_top off
  intro p loose mean mg mb dp un gd cn cs a ccd cl outer A₀ base h₀ L m s news Q E B F X N T hk hpre hdp hun hret
  refine wpAny_call ?_
  k_dflt cell_enter
  refine wpAny_noRaise ?_
  k_steps
  unfold Stop
  rename_i l1 _ _ l2 D _ I1 n1 s1 e1 e2 e3 l3 _ F0 N0 _ tk3 t1 u1 v1 R1 F1 N1 K1
  have e4 : (List.replicate ((ns.length : Int)).toNat [(0 : Int)]).flatten = List.replicate ns.length 0 := by
    rw [Int.toNat_natCast, show [(0:Int)] = List.replicate 1 0 from rfl, List.flatten_replicate_replicate, Nat.mul_one]
  rw [e4] at I1
  have hD : ∀ p ∈ news, p.1 ≠ D := all_neL l3.2
  have Dl : D ≠ l := fun e => hD _ hpre e.symm
  refine loop_range (n := ns.length - 1) (fun i m news' => ∃ T vT nT, m (Str.ofString "table") = some (.ref D) ∧ m (Str.ofString "prefix") = some (.ref l) ∧ news' = (D, listOf vT.toArray nT) :: news ∧ IntsAre vT T ∧ T.length = ns.length ∧ ∀ j < i+1, T.getD j 0 = (table ns).getD j 0) rfl R1 ?small ?size F1 (news_drop2 N1) ?init ?turn ?done
  case small => exact small_one (by omega) (by omega) (by omega) (by omega)
  case size => rw [rangeSize_nat]; omega
  case init =>
    exact ⟨_, _, _, rfl, rfl, rfl, I1, by simp, table_first⟩
  case turn =>
    rintro i t m₁ news₁ h tk own I hi1 ⟨T, vT, nT, hm1, hm2, rfl, IT, hlT, hT⟩ hnI ⟨oI, hIo⟩ hown hLI F2 N2
    replace F2 := fr_know (fr_know F2 (x := Str.ofString "table") hm1) (x := Str.ofString "prefix") hm2
    clear F1 N1 F0 N0
    have hDI : D ≠ I := hnI _ (.head _)
    have hDo : ∀ p ∈ own, p.1 ≠ D := fun p hp e => hnI _ (.head _) (e.symm.trans (hown p hp))
    k_steps
    unfold Stop
    rename_i tI _ F3 N3
    rw [show (1 + (i : Int) - 1).toNat = i by omega, hT i (by omega), table_getD (by omega)] at F3
    simp only [List.cons_append] at N3
    refine while_gen (n₀ := bord (ns.take (i + 1))) (fun idx m₂ news₂ => KI ns (i + 1) idx ∧ (∃ tI, m₂ (Str.ofString "idx") = some (.int (idx : Int) tI)) ∧ m₂ (Str.ofString "i") = some (.int (1 + (i : Int)) t) ∧ m₂ (Str.ofString "prefix") = some (.ref l) ∧ m₂ (Str.ofString "table") = some (.ref D) ∧ news₂ = (D, listOf vT.toArray nT) :: (news ++ own)) F3 N3 ⟨ki_start (by omega) (by omega), ⟨_, rfl⟩, rfl, rfl, rfl, rfl⟩ ?_ PassesOwn.never
    rintro idx m₂ news₂ h₂ tk₂ F4 N4 ⟨hK, ⟨tI2, hm3⟩, hm4, hm5, hm6, rfl⟩
    replace F4 := fr_know (fr_know (fr_know (fr_know F4 hm3) (x := Str.ofString "i") hm4) (x := Str.ofString "prefix") hm5) (x := Str.ofString "table") hm6
    clear F3 N3
    have hKl := hK.ilt
    have hKp := hK.ils
    k_steps
    rw [show (1 + (i : Int)).toNat = i + 1 by omega, show ((idx : Int)).toNat = idx by omega]
    unfold TestIf
    split
    · rename_i hne
      have hne' : ns.getD (i + 1) 0 ≠ ns.getD idx 0 := by simpa using hne
      clear hne
      k_steps
      · rename_i h0 _ _ F5 N5 I5 l5 _
        dsimp only [WhilePost]
        k_steps
        dsimp only [TurnPost]
        rw [show (1 + (i : Int)).toNat = i + 1 by omega] at N5 I5 l5
        exact ⟨_, _, _, _, rfl, F5, N5, fun p hp => .tail _ (List.mem_append_right _ hp), _, fun p hp => (List.mem_cons.mp hp).elim (fun e => e ▸ .head _) (fun h => .tail _ (List.mem_append_left _ h)), fun p hp => (List.mem_cons.mp hp).elim (fun e => e ▸ hDI) (fun h => hnI _ (.tail _ h)), _, _, _, rfl, rfl, rfl, I5, by rw [l5, hlT], set_ok0 hlT (by omega) hT hK (by omega) hne'⟩
      · rename_i h0 _ _ _ F5 N5
        dsimp only [WhilePost]
        rw [show ((idx : Int) - 1).toNat = idx - 1 by omega, hT (idx - 1) (by omega), table_getD (by omega), show idx - 1 + 1 = idx by omega] at F5
        have hx := ki_next hK (by omega) hne'
        exact ⟨_, _, _, _, _, rfl, F5, N5, hx.2, hx.1, ⟨_, rfl⟩, rfl, rfl, rfl, rfl⟩
    · rename_i heq
      have heq' : ns.getD (i + 1) 0 = ns.getD idx 0 := by simpa using heq
      clear heq
      k_steps
      rename_i _ F5 N5 I5 l5 _
      dsimp only [TurnPost]
      rw [show (1 + (i : Int)).toNat = i + 1 by omega] at N5 I5 l5
      exact ⟨_, _, _, _, rfl, F5, N5, fun p hp => .tail _ (List.mem_append_right _ hp), _, fun p hp => (List.mem_cons.mp hp).elim (fun e => e ▸ .head _) (fun h => .tail _ (List.mem_append_left _ h)), fun p hp => (List.mem_cons.mp hp).elim (fun e => e ▸ hDI) (fun h => hnI _ (.tail _ h)), _, _, _, rfl, rfl, rfl, I5, by rw [l5, hlT], set_ok1 hlT (by omega) hT hK heq'⟩
  case done =>
    rintro m₁ news₁ h tk ⟨T, vT, nT, hm1, hm2, rfl, IT, hlT, hT⟩ F2 N2
    replace F2 := fr_know F2 (x := Str.ofString "table") hm1
    clear F1 N1 F0 N0
    k_steps
    rename_i kF kN _ _
    have e9 := table_eq hlT hT
    subst e9
    exact hret _ _ _ _ kF kN ⟨_, _, _, rfl, rfl, lt_of_allLt l3.2, IT⟩
set_option maxHeartbeats 8000000 in
theorem mirror_call (w : World) (l : Addr) (vs : List Value) (ns : List Int) (n : Nat) (hi : IntsAre vs ns) (hz : ns.length < 2 ^ 20) :
    Claim1 PySem.Challenge.rw_sc0031_01.row.prog w (hd.heap_39 w.params) 55 [.ref l] (fun news => (l, listOf vs.toArray n) ∈ news) 
     (fun news v news' => ∃ r vs' n', v = .ref r ∧ news' = (r, listOf vs'.toArray n') :: news ∧ (∀ p ∈ news, p.1 < r) ∧ IntsAre vs' (mirror ns)) := by
  k_fill
  w_top off
  intro p loose mean mg mb dp un gd cn cs a ccd cl outer A₀ base h₀ L m s news Q E B F X N T hk hpre hdp hun hret
  refine wpAny_call ?_
  k_dflt cell_enter
  refine wpAny_noRaise ?_
  k_steps
  unfold Stop
  rename_i _ F1 N1
  refine while_gen (n₀ := mcut ns) (fun k m₂ news₂ => (∃ c tI, m₂ (Str.ofString "cut") = some (.int ((c : Nat) : Int) tI) ∧ c ≤ ns.length ∧ mcut ns = c + k ∧ k = mcut (ns.drop c)) ∧ m₂ (Str.ofString "word") = some (.ref l) ∧ news₂ = news) F1 N1 ⟨⟨0, _, rfl, by omega, by omega, rfl⟩, rfl, rfl⟩ ?_ PassesOwn.never
  rintro k m₂ news₂ h₂ tk₂ F2 N2 ⟨⟨c, tI, hm1, hc, hc2, hk2⟩, hm2, rfl⟩
  replace F2 := fr_know (fr_know F2 hm1) (x := Str.ofString "word") hm2
  clear F1 N1
  iterate 8 walk1
  k_steps
  rename_i F3 N3 _ _ _
  replace N3 := news_drop1 (news_drop1 (news_drop1 N3))
  rw [show ((c : Int)).toNat = c by omega]
  unfold TestIf
  split
  · rename_i hne
    have hne' : ns.drop c ≠ (ns.drop c).reverse := by simpa using hne
    have hx := mcut_ne hne'
    k_steps
    rename_i F4 N4
    exact ⟨_, _, _, _, mcut (ns.drop (c + 1)), rfl, F4, N4, by omega, ⟨c + 1, _, rfl, hx.1, by omega, rfl⟩, rfl, rfl⟩
  · rename_i hne
    have hne' : ns.drop c = (ns.drop c).reverse := by simpa using hne
    have hx := mcut_pal hne'
    have hc9 : mcut ns = c := by omega
    k_steps
    rename_i I9 l9 kF kN _ _
    refine hret _ _ _ _ kF (news_drop2 (news_drop2 kN)) ⟨_, _, _, rfl, rfl, lt_of_allLt l9.2.2, ?_⟩
    unfold mirror
    rw [hc9]
    simpa using I9
set_option maxHeartbeats 8000000 in
theorem bisR_call (w : World) (l : Addr) (vs : List Value) (ns : List Int) (n : Nat) (x : Int) (tx : Tok) (hi : IntsAre vs ns) (hz : ns.length < 2 ^ 20) (hs : Sorted ns) :
    Claim1 PySem.Challenge.rw_sc0031_01.row.prog w (hd.heap_39 w.params) 39 [.ref l, .int x tx] (fun news => (l, listOf vs.toArray n) ∈ news) 
     (fun news v news' => ∃ t, v = .int ((cntLe ns x : Nat) : Int) t ∧ news' = news) := by
  k_fill
  w_top off
  intro p loose mean mg mb dp un gd cn cs a ccd cl outer A₀ base h₀ L m s news Q E B F X N T hk hpre hdp hun hret
  refine wpAny_call ?_
  (k_dflt (refine' code_def ?k1 ?k2 ?k3 ?k4 ?k5 ?kA ?kF ?kK ?k6 ?k7 ?k8 ?k9 ?kB ?_ ?c2 ?c3 ?c4 ?c5; (case kA => exact rfl); (case kF => exact rfl); (case kK => assumption); (case k1 => k_asm); (case k2 => k_asm); (case k3 => k_asm); (case k4 => k_asm); (case k5 => k_asm); (case k6 => k_is); (case k7 => k_is); (case k8 => ktr_room); (case k9 => first | exact BindsTo.of_eq rfl | exact binds_K (by k_in) rfl (by k_is) rfl rfl rfl | (refine' kp_binds ?kx ?ke; (case kx => k_in); (case ke => exact fun _ => rfl))); (case c5 => decide); (case kB => exact locs rfl); (case c2 => exact rfl); (case c3 => exact rfl); (case c4 => exact rfl); k_whole; intro g' L' h' FG' F' N' B' X' T'; (try dsimp only); (try k_lift B'); (try k_fold)))
  refine wpAny_noRaise ?_
  k_steps
  unfold Stop
  rename Fr _ _ _ _ => F1
  rename News _ _ _ _ => N1
  have hM := mono_le hs x
  refine while_gen (n₀ := ns.length) (fun k m₂ news₂ => ∃ (lo hi : Nat) (tl th : Tok), m₂ (Str.ofString "lo") = some (.int (lo : Int) tl) ∧ m₂ (Str.ofString "hi") = some (.int (hi : Int) th) ∧ m₂ (Str.ofString "a") = some (.ref l) ∧ m₂ (Str.ofString "x") = some (.int x tx) ∧ news₂ = news ∧ k = hi - lo ∧ BI (fun a => decide (a ≤ x)) ns lo hi) F1 N1 ⟨0, ns.length, _, _, rfl, rfl, rfl, rfl, rfl, rfl, bi_start _ _⟩ ?_ PassesOwn.never
  rintro k m₂ news₂ h₂ tk₂ F2 N2 ⟨lo, hi1, tl, th, hm1, hm2, hm3, hm4, rfl, rfl, hB⟩
  replace F2 := fr_know (fr_know (fr_know (fr_know F2 hm1) (x := Str.ofString "hi") hm2) (x := Str.ofString "a") hm3) (x := Str.ofString "x") hm4
  clear F1 N1
  have hB1 := hB.le
  have hB2 := hB.hl
  k_steps
  unfold TestIf
  split
  · rename_i hlt
    have hlt' : lo < hi1 := by simpa using hlt
    have hf : Int.fdiv ((lo : Int) + (hi1 : Int)) 2 = (((lo + hi1) / 2 : Nat) : Int) := by
      rw [Int.fdiv_eq_ediv_of_nonneg _ (by omega)]; omega
    k_steps
    · rename (_ : Int) < _ => hx
      rename Fr _ _ _ _ => F4
      rename News _ _ _ _ => N4
      rw [hf] at hx F4
      rw [show (((lo + hi1) / 2 : Nat) : Int).toNat = (lo + hi1) / 2 by omega] at hx
      exact ⟨_, _, _, _, (lo + hi1) / 2 - lo, rfl, F4, N4, by omega, lo, (lo + hi1) / 2, _, _, rfl, rfl, rfl, rfl, rfl, rfl, bi_high hM hB (by omega) (by omega) (by simpa using hx)⟩
    · rename ¬ ((_ : Int) < _) => hx
      rename Fr _ _ _ _ => F4
      rename News _ _ _ _ => N4
      rw [hf] at hx F4
      rw [show (((lo + hi1) / 2 : Nat) : Int).toNat = (lo + hi1) / 2 by omega] at hx
      exact ⟨_, _, _, _, hi1 - ((lo + hi1) / 2 + 1), rfl, F4, N4, by omega, (lo + hi1) / 2 + 1, hi1, _, _, rfl, rfl, rfl, rfl, rfl, rfl, bi_low hM hB (by omega) (by omega) (by simpa using hx)⟩
  · rename_i hlt
    have hlt' : hi1 = lo := by simp at hlt; omega
    subst hlt'
    have hE : cntLe ns x = hi1 := bi_end hB
    k_steps
    rename Fr _ _ _ _ => kF
    rename News _ _ _ _ => kN
    exact hret _ _ _ _ kF kN ⟨tl, by rw [hE], rfl⟩
set_option maxHeartbeats 8000000 in
theorem bisL_call (w : World) (l : Addr) (vs : List Value) (ns : List Int) (n : Nat) (x : Int) (tx : Tok) (hi : IntsAre vs ns) (hz : ns.length < 2 ^ 20) (hs : Sorted ns) :
    Claim1 PySem.Challenge.rw_sc0031_01.row.prog w (hd.heap_39 w.params) 48 [.ref l, .int x tx] (fun news => (l, listOf vs.toArray n) ∈ news) 
     (fun news v news' => ∃ t, v = .int ((cntLt ns x : Nat) : Int) t ∧ news' = news) := by
  k_fill
  w_top off
  intro p loose mean mg mb dp un gd cn cs a ccd cl outer A₀ base h₀ L m s news Q E B F X N T hk hpre hdp hun hret
  refine wpAny_call ?_
  (k_dflt (refine' code_def ?k1 ?k2 ?k3 ?k4 ?k5 ?kA ?kF ?kK ?k6 ?k7 ?k8 ?k9 ?kB ?_ ?c2 ?c3 ?c4 ?c5; (case kA => exact rfl); (case kF => exact rfl); (case kK => assumption); (case k1 => k_asm); (case k2 => k_asm); (case k3 => k_asm); (case k4 => k_asm); (case k5 => k_asm); (case k6 => k_is); (case k7 => k_is); (case k8 => ktr_room); (case k9 => first | exact BindsTo.of_eq rfl | exact binds_K (by k_in) rfl (by k_is) rfl rfl rfl | (refine' kp_binds ?kx ?ke; (case kx => k_in); (case ke => exact fun _ => rfl))); (case c5 => decide); (case kB => exact locs rfl); (case c2 => exact rfl); (case c3 => exact rfl); (case c4 => exact rfl); k_whole; intro g' L' h' FG' F' N' B' X' T'; (try dsimp only); (try k_lift B'); (try k_fold)))
  refine wpAny_noRaise ?_
  k_steps
  unfold Stop
  rename Fr _ _ _ _ => F1
  rename News _ _ _ _ => N1
  have hM := mono_lt hs x
  refine while_gen (n₀ := ns.length) (fun k m₂ news₂ => ∃ (lo hi : Nat) (tl th : Tok), m₂ (Str.ofString "lo") = some (.int (lo : Int) tl) ∧ m₂ (Str.ofString "hi") = some (.int (hi : Int) th) ∧ m₂ (Str.ofString "a") = some (.ref l) ∧ m₂ (Str.ofString "x") = some (.int x tx) ∧ news₂ = news ∧ k = hi - lo ∧ BI (fun a => decide (a < x)) ns lo hi) F1 N1 ⟨0, ns.length, _, _, rfl, rfl, rfl, rfl, rfl, rfl, bi_start _ _⟩ ?_ PassesOwn.never
  rintro k m₂ news₂ h₂ tk₂ F2 N2 ⟨lo, hi1, tl, th, hm1, hm2, hm3, hm4, rfl, rfl, hB⟩
  replace F2 := fr_know (fr_know (fr_know (fr_know F2 hm1) (x := Str.ofString "hi") hm2) (x := Str.ofString "a") hm3) (x := Str.ofString "x") hm4
  clear F1 N1
  have hB1 := hB.le
  have hB2 := hB.hl
  k_steps
  unfold TestIf
  split
  · rename_i hlt
    have hlt' : lo < hi1 := by simpa using hlt
    have hf : Int.fdiv ((lo : Int) + (hi1 : Int)) 2 = (((lo + hi1) / 2 : Nat) : Int) := by
      rw [Int.fdiv_eq_ediv_of_nonneg _ (by omega)]; omega
    k_steps
    · rename (_ : Int) < _ => hx
      rename Fr _ _ _ _ => F4
      rename News _ _ _ _ => N4
      rw [hf] at hx F4
      rw [show (((lo + hi1) / 2 : Nat) : Int).toNat = (lo + hi1) / 2 by omega] at hx
      exact ⟨_, _, _, _, hi1 - ((lo + hi1) / 2 + 1), rfl, F4, N4, by omega, (lo + hi1) / 2 + 1, hi1, _, _, rfl, rfl, rfl, rfl, rfl, rfl, bi_low hM hB (by omega) (by omega) (by simpa using hx)⟩
    · rename ¬ ((_ : Int) < _) => hx
      rename Fr _ _ _ _ => F4
      rename News _ _ _ _ => N4
      rw [hf] at hx F4
      rw [show (((lo + hi1) / 2 : Nat) : Int).toNat = (lo + hi1) / 2 by omega] at hx
      exact ⟨_, _, _, _, (lo + hi1) / 2 - lo, rfl, F4, N4, by omega, lo, (lo + hi1) / 2, _, _, rfl, rfl, rfl, rfl, rfl, rfl, bi_high hM hB (by omega) (by omega) (by simpa using hx)⟩
  · rename_i hlt
    have hlt' : hi1 = lo := by simp at hlt; omega
    subst hlt'
    have hE : cntLt ns x = hi1 := bi_end hB
    k_steps
    rename Fr _ _ _ _ => kF
    rename News _ _ _ _ => kN
    exact hret _ _ _ _ kF kN ⟨tl, by rw [hE], rfl⟩
set_option maxHeartbeats 8000000 in
theorem bisLk_call (w : World) (l f : Addr) (vs : List Value) (ns lets : List Int) (n : Nat) (x : Int) (tx : Tok) (oc : Value) (od : Option Addr) (fd : FuncData) (sl : Array (Option Value)) (hi : IntsAre vs ns) (hz : ns.length < 2 ^ 20) (hr : ∀ i ∈ ns, 0 ≤ i ∧ i < lets.length) (hs : Sorted (ns.map fun i => lets.getD i.toNat 0)) :
    Claim2 20 PySem.Challenge.rw_sc0031_01.row.prog w (hd.heap_39 w.params) 48 [.ref l, .int x tx] [(Str.ofString "key", .ref f)]
     (fun news => (l, listOf vs.toArray n) ∈ news ∧ (f, (⟨oc, od, .func fd, sl⟩ : Obj)) ∈ news ∧ KeyOk PySem.Challenge.rw_sc0031_01.row.prog w (hd.heap_39 w.params) f lets news) 
     (fun news v news' => ∃ t, v = .int ((cntLt (ns.map fun i => lets.getD i.toNat 0) x : Nat) : Int) t ∧ news' = news) := by
  k_fill
  w_top off
  intro p loose mean mg mb dp un gd cn cs a ccd cl outer A₀ base h₀ L m s news Q E B F X N T hk ⟨hpre, hfm, hkey⟩ hdp hun hret
  refine wpAny_call ?_
  (k_dflt (refine' code_def ?k1 ?k2 ?k3 ?k4 ?k5 ?kA ?kF ?kK ?k6 ?k7 ?k8 ?k9 ?kB ?_ ?c2 ?c3 ?c4 ?c5; (case kA => exact rfl); (case kF => exact rfl); (case kK => assumption); (case k1 => k_asm); (case k2 => k_asm); (case k3 => k_asm); (case k4 => k_asm); (case k5 => k_asm); (case k6 => k_is); (case k7 => k_is); (case k8 => ktr_room); (case k9 => first | exact BindsTo.of_eq rfl | exact binds_K (by k_in) rfl (by k_is) rfl rfl rfl | (refine' kp_binds ?kx ?ke; (case kx => k_in); (case ke => exact fun _ => rfl))); (case c5 => decide); (case kB => exact locs rfl); (case c2 => exact rfl); (case c3 => exact rfl); (case c4 => exact rfl); k_whole; intro g' L' h' FG' F' N' B' X' T'; (try dsimp only); (try k_lift B'); (try k_fold)))
  refine wpAny_noRaise ?_
  k_steps
  unfold Stop
  rename Fr _ _ _ _ => F1
  rename News _ _ _ _ => N1
  have hM := mono_lt hs x
  have hml : (ns.map fun i => lets.getD i.toNat 0).length = ns.length := List.length_map ..
  refine while_gen (n₀ := ns.length) (fun k m₂ news₂ => ∃ (lo hi : Nat) (tl th : Tok), m₂ (Str.ofString "lo") = some (.int (lo : Int) tl) ∧ m₂ (Str.ofString "hi") = some (.int (hi : Int) th) ∧ m₂ (Str.ofString "a") = some (.ref l) ∧ m₂ (Str.ofString "x") = some (.int x tx) ∧ m₂ (Str.ofString "key") = some (.ref f) ∧ news₂ = news ∧ k = hi - lo ∧ BI (fun a => decide (a < x)) (ns.map fun i => lets.getD i.toNat 0) lo hi) F1 N1 ⟨0, ns.length, _, _, rfl, rfl, rfl, rfl, rfl, rfl, rfl, hml ▸ bi_start _ _⟩ ?_ PassesOwn.never
  rintro k m₂ news₂ h₂ tk₂ F2 N2 ⟨lo, hi1, tl, th, hm1, hm2, hm3, hm4, hm5, rfl, rfl, hB⟩
  replace F2 := fr_know (fr_know (fr_know (fr_know (fr_know F2 hm1) (x := Str.ofString "hi") hm2) (x := Str.ofString "a") hm3) (x := Str.ofString "x") hm4) (x := Str.ofString "key") hm5
  clear F1 N1
  have hB1 := hB.le
  have hB2 := hB.hl
  rw [hml] at hB2
  k_steps
  unfold TestIf
  split
  · rename_i hlt
    have hlt' : lo < hi1 := by simpa using hlt
    have hf : Int.fdiv ((lo : Int) + (hi1 : Int)) 2 = (((lo + hi1) / 2 : Nat) : Int) := by
      rw [Int.fdiv_eq_ediv_of_nonneg _ (by omega)]; omega
    have hg := getD_ok hr (j := (lo + hi1) / 2) (by omega)
    have hg0 : 0 ≤ ns.getD (Int.fdiv ((lo : Int) + (hi1 : Int)) 2).toNat 0 := by rw [hf, Int.toNat_natCast]; exact hg.1
    have hg1 : ns.getD (Int.fdiv ((lo : Int) + (hi1 : Int)) 2).toNat 0 < lets.length := by rw [hf, Int.toNat_natCast]; exact hg.2
    have hmg := map_getD (f := fun i => lets.getD i.toNat 0) (ns := ns) (j := (lo + hi1) / 2) (by omega)
    k_steps
    · rename (_ : Int) < _ => hx
      rename Fr _ _ _ _ => F4
      rename News _ _ _ _ => N4
      rw [hf] at hx F4
      rw [show (((lo + hi1) / 2 : Nat) : Int).toNat = (lo + hi1) / 2 by omega] at hx
      exact ⟨_, _, _, _, hi1 - ((lo + hi1) / 2 + 1), rfl, F4, N4, by omega, (lo + hi1) / 2 + 1, hi1, _, _, rfl, rfl, rfl, rfl, rfl, rfl, rfl, bi_low hM hB (by omega) (by omega) (by rw [hmg]; simpa using hx)⟩
    · rename ¬ ((_ : Int) < _) => hx
      rename Fr _ _ _ _ => F4
      rename News _ _ _ _ => N4
      rw [hf] at hx F4
      rw [show (((lo + hi1) / 2 : Nat) : Int).toNat = (lo + hi1) / 2 by omega] at hx
      exact ⟨_, _, _, _, (lo + hi1) / 2 - lo, rfl, F4, N4, by omega, lo, (lo + hi1) / 2, _, _, rfl, rfl, rfl, rfl, rfl, rfl, rfl, bi_high hM hB (by omega) (by omega) (by rw [hmg]; simpa using hx)⟩
  · rename_i hlt
    have hlt' : hi1 = lo := by simp at hlt; omega
    subst hlt'
    have hE : cntLt (ns.map fun i => lets.getD i.toNat 0) x = hi1 := bi_end hB
    k_steps
    rename Fr _ _ _ _ => kF
    rename News _ _ _ _ => kN
    exact hret _ _ _ _ kF kN ⟨tl, by rw [hE], rfl⟩
set_option maxHeartbeats 8000000 in
theorem bisRk_call (w : World) (l f : Addr) (vs : List Value) (ns lets : List Int) (n : Nat) (x : Int) (tx : Tok) (oc : Value) (od : Option Addr) (fd : FuncData) (sl : Array (Option Value)) (hi : IntsAre vs ns) (hz : ns.length < 2 ^ 20) (hr : ∀ i ∈ ns, 0 ≤ i ∧ i < lets.length) (hs : Sorted (ns.map fun i => lets.getD i.toNat 0)) :
    Claim2 20 PySem.Challenge.rw_sc0031_01.row.prog w (hd.heap_39 w.params) 39 [.ref l, .int x tx] [(Str.ofString "key", .ref f)]
     (fun news => (l, listOf vs.toArray n) ∈ news ∧ (f, (⟨oc, od, .func fd, sl⟩ : Obj)) ∈ news ∧ KeyOk PySem.Challenge.rw_sc0031_01.row.prog w (hd.heap_39 w.params) f lets news) 
     (fun news v news' => ∃ t, v = .int ((cntLe (ns.map fun i => lets.getD i.toNat 0) x : Nat) : Int) t ∧ news' = news) := by
  k_fill
  w_top off
  intro p loose mean mg mb dp un gd cn cs a ccd cl outer A₀ base h₀ L m s news Q E B F X N T hk ⟨hpre, hfm, hkey⟩ hdp hun hret
  refine wpAny_call ?_
  (k_dflt (refine' code_def ?k1 ?k2 ?k3 ?k4 ?k5 ?kA ?kF ?kK ?k6 ?k7 ?k8 ?k9 ?kB ?_ ?c2 ?c3 ?c4 ?c5; (case kA => exact rfl); (case kF => exact rfl); (case kK => assumption); (case k1 => k_asm); (case k2 => k_asm); (case k3 => k_asm); (case k4 => k_asm); (case k5 => k_asm); (case k6 => k_is); (case k7 => k_is); (case k8 => ktr_room); (case k9 => first | exact BindsTo.of_eq rfl | exact binds_K (by k_in) rfl (by k_is) rfl rfl rfl | (refine' kp_binds ?kx ?ke; (case kx => k_in); (case ke => exact fun _ => rfl))); (case c5 => decide); (case kB => exact locs rfl); (case c2 => exact rfl); (case c3 => exact rfl); (case c4 => exact rfl); k_whole; intro g' L' h' FG' F' N' B' X' T'; (try dsimp only); (try k_lift B'); (try k_fold)))
  refine wpAny_noRaise ?_
  k_steps
  unfold Stop
  rename Fr _ _ _ _ => F1
  rename News _ _ _ _ => N1
  have hM := mono_le hs x
  have hml : (ns.map fun i => lets.getD i.toNat 0).length = ns.length := List.length_map ..
  refine while_gen (n₀ := ns.length) (fun k m₂ news₂ => ∃ (lo hi : Nat) (tl th : Tok), m₂ (Str.ofString "lo") = some (.int (lo : Int) tl) ∧ m₂ (Str.ofString "hi") = some (.int (hi : Int) th) ∧ m₂ (Str.ofString "a") = some (.ref l) ∧ m₂ (Str.ofString "x") = some (.int x tx) ∧ m₂ (Str.ofString "key") = some (.ref f) ∧ news₂ = news ∧ k = hi - lo ∧ BI (fun a => decide (a ≤ x)) (ns.map fun i => lets.getD i.toNat 0) lo hi) F1 N1 ⟨0, ns.length, _, _, rfl, rfl, rfl, rfl, rfl, rfl, rfl, hml ▸ bi_start _ _⟩ ?_ PassesOwn.never
  rintro k m₂ news₂ h₂ tk₂ F2 N2 ⟨lo, hi1, tl, th, hm1, hm2, hm3, hm4, hm5, rfl, rfl, hB⟩
  replace F2 := fr_know (fr_know (fr_know (fr_know (fr_know F2 hm1) (x := Str.ofString "hi") hm2) (x := Str.ofString "a") hm3) (x := Str.ofString "x") hm4) (x := Str.ofString "key") hm5
  clear F1 N1
  have hB1 := hB.le
  have hB2 := hB.hl
  rw [hml] at hB2
  k_steps
  unfold TestIf
  split
  · rename_i hlt
    have hlt' : lo < hi1 := by simpa using hlt
    have hf : Int.fdiv ((lo : Int) + (hi1 : Int)) 2 = (((lo + hi1) / 2 : Nat) : Int) := by
      rw [Int.fdiv_eq_ediv_of_nonneg _ (by omega)]; omega
    have hg := getD_ok hr (j := (lo + hi1) / 2) (by omega)
    have hg0 : 0 ≤ ns.getD (Int.fdiv ((lo : Int) + (hi1 : Int)) 2).toNat 0 := by rw [hf, Int.toNat_natCast]; exact hg.1
    have hg1 : ns.getD (Int.fdiv ((lo : Int) + (hi1 : Int)) 2).toNat 0 < lets.length := by rw [hf, Int.toNat_natCast]; exact hg.2
    have hmg := map_getD (f := fun i => lets.getD i.toNat 0) (ns := ns) (j := (lo + hi1) / 2) (by omega)
    k_steps
    · rename (_ : Int) < _ => hx
      rename Fr _ _ _ _ => F4
      rename News _ _ _ _ => N4
      rw [hf] at hx F4
      rw [show (((lo + hi1) / 2 : Nat) : Int).toNat = (lo + hi1) / 2 by omega] at hx
      exact ⟨_, _, _, _, (lo + hi1) / 2 - lo, rfl, F4, N4, by omega, lo, (lo + hi1) / 2, _, _, rfl, rfl, rfl, rfl, rfl, rfl, rfl, bi_high hM hB (by omega) (by omega) (by rw [hmg]; simpa using hx)⟩
    · rename ¬ ((_ : Int) < _) => hx
      rename Fr _ _ _ _ => F4
      rename News _ _ _ _ => N4
      rw [hf] at hx F4
      rw [show (((lo + hi1) / 2 : Nat) : Int).toNat = (lo + hi1) / 2 by omega] at hx
      exact ⟨_, _, _, _, hi1 - ((lo + hi1) / 2 + 1), rfl, F4, N4, by omega, (lo + hi1) / 2 + 1, hi1, _, _, rfl, rfl, rfl, rfl, rfl, rfl, rfl, bi_low hM hB (by omega) (by omega) (by rw [hmg]; simpa using hx)⟩
  · rename_i hlt
    have hlt' : hi1 = lo := by simp at hlt; omega
    subst hlt'
    have hE : cntLe (ns.map fun i => lets.getD i.toNat 0) x = hi1 := bi_end hB
    k_steps
    rename Fr _ _ _ _ => kF
    rename News _ _ _ _ => kN
    exact hret _ _ _ _ kF kN ⟨tl, by rw [hE], rfl⟩
set_option maxHeartbeats 8000000 in
theorem bisRk4_call (w : World) (l f : Addr) (vs : List Value) (ns lets : List Int) (n : Nat) (x : Int) (tx t0 : Tok) (oc : Value) (od : Option Addr) (fd : FuncData) (sl : Array (Option Value)) (hi : IntsAre vs ns) (hz : ns.length < 2 ^ 20) (hr : ∀ i ∈ ns, 0 ≤ i ∧ i < lets.length) (hs : Sorted (ns.map fun i => lets.getD i.toNat 0)) :
    Claim2 20 PySem.Challenge.rw_sc0031_01.row.prog w (hd.heap_39 w.params) 39 [.ref l, .int x tx, .int 0 t0, .none] [(Str.ofString "key", .ref f)]
     (fun news => (l, listOf vs.toArray n) ∈ news ∧ (f, (⟨oc, od, .func fd, sl⟩ : Obj)) ∈ news ∧ KeyOk PySem.Challenge.rw_sc0031_01.row.prog w (hd.heap_39 w.params) f lets news) 
     (fun news v news' => ∃ t, v = .int ((cntLe (ns.map fun i => lets.getD i.toNat 0) x : Nat) : Int) t ∧ news' = news) := by
  k_fill
  w_top off
  intro p loose mean mg mb dp un gd cn cs a ccd cl outer A₀ base h₀ L m s news Q E B F X N T hk ⟨hpre, hfm, hkey⟩ hdp hun hret
  refine wpAny_call ?_
  (k_dflt (refine' code_def ?k1 ?k2 ?k3 ?k4 ?k5 ?kA ?kF ?kK ?k6 ?k7 ?k8 ?k9 ?kB ?_ ?c2 ?c3 ?c4 ?c5; (case kA => exact rfl); (case kF => exact rfl); (case kK => assumption); (case k1 => k_asm); (case k2 => k_asm); (case k3 => k_asm); (case k4 => k_asm); (case k5 => k_asm); (case k6 => k_is); (case k7 => k_is); (case k8 => ktr_room); (case k9 => first | exact BindsTo.of_eq rfl | exact binds_K (by k_in) rfl (by k_is) rfl rfl rfl | (refine' kp_binds ?kx ?ke; (case kx => k_in); (case ke => exact fun _ => rfl))); (case c5 => decide); (case kB => exact locs rfl); (case c2 => exact rfl); (case c3 => exact rfl); (case c4 => exact rfl); k_whole; intro g' L' h' FG' F' N' B' X' T'; (try dsimp only); (try k_lift B'); (try k_fold)))
  refine wpAny_noRaise ?_
  k_steps
  unfold Stop
  rename Fr _ _ _ _ => F1
  rename News _ _ _ _ => N1
  have hM := mono_le hs x
  have hml : (ns.map fun i => lets.getD i.toNat 0).length = ns.length := List.length_map ..
  refine while_gen (n₀ := ns.length) (fun k m₂ news₂ => ∃ (lo hi : Nat) (tl th : Tok), m₂ (Str.ofString "lo") = some (.int (lo : Int) tl) ∧ m₂ (Str.ofString "hi") = some (.int (hi : Int) th) ∧ m₂ (Str.ofString "a") = some (.ref l) ∧ m₂ (Str.ofString "x") = some (.int x tx) ∧ m₂ (Str.ofString "key") = some (.ref f) ∧ news₂ = news ∧ k = hi - lo ∧ BI (fun a => decide (a ≤ x)) (ns.map fun i => lets.getD i.toNat 0) lo hi) F1 N1 ⟨0, ns.length, _, _, rfl, rfl, rfl, rfl, rfl, rfl, rfl, hml ▸ bi_start _ _⟩ ?_ PassesOwn.never
  rintro k m₂ news₂ h₂ tk₂ F2 N2 ⟨lo, hi1, tl, th, hm1, hm2, hm3, hm4, hm5, rfl, rfl, hB⟩
  replace F2 := fr_know (fr_know (fr_know (fr_know (fr_know F2 hm1) (x := Str.ofString "hi") hm2) (x := Str.ofString "a") hm3) (x := Str.ofString "x") hm4) (x := Str.ofString "key") hm5
  clear F1 N1
  have hB1 := hB.le
  have hB2 := hB.hl
  rw [hml] at hB2
  k_steps
  unfold TestIf
  split
  · rename_i hlt
    have hlt' : lo < hi1 := by simpa using hlt
    have hf : Int.fdiv ((lo : Int) + (hi1 : Int)) 2 = (((lo + hi1) / 2 : Nat) : Int) := by
      rw [Int.fdiv_eq_ediv_of_nonneg _ (by omega)]; omega
    have hg := getD_ok hr (j := (lo + hi1) / 2) (by omega)
    have hg0 : 0 ≤ ns.getD (Int.fdiv ((lo : Int) + (hi1 : Int)) 2).toNat 0 := by rw [hf, Int.toNat_natCast]; exact hg.1
    have hg1 : ns.getD (Int.fdiv ((lo : Int) + (hi1 : Int)) 2).toNat 0 < lets.length := by rw [hf, Int.toNat_natCast]; exact hg.2
    have hmg := map_getD (f := fun i => lets.getD i.toNat 0) (ns := ns) (j := (lo + hi1) / 2) (by omega)
    k_steps
    · rename (_ : Int) < _ => hx
      rename Fr _ _ _ _ => F4
      rename News _ _ _ _ => N4
      rw [hf] at hx F4
      rw [show (((lo + hi1) / 2 : Nat) : Int).toNat = (lo + hi1) / 2 by omega] at hx
      exact ⟨_, _, _, _, (lo + hi1) / 2 - lo, rfl, F4, N4, by omega, lo, (lo + hi1) / 2, _, _, rfl, rfl, rfl, rfl, rfl, rfl, rfl, bi_high hM hB (by omega) (by omega) (by rw [hmg]; simpa using hx)⟩
    · rename ¬ ((_ : Int) < _) => hx
      rename Fr _ _ _ _ => F4
      rename News _ _ _ _ => N4
      rw [hf] at hx F4
      rw [show (((lo + hi1) / 2 : Nat) : Int).toNat = (lo + hi1) / 2 by omega] at hx
      exact ⟨_, _, _, _, hi1 - ((lo + hi1) / 2 + 1), rfl, F4, N4, by omega, (lo + hi1) / 2 + 1, hi1, _, _, rfl, rfl, rfl, rfl, rfl, rfl, rfl, bi_low hM hB (by omega) (by omega) (by rw [hmg]; simpa using hx)⟩
  · rename_i hlt
    have hlt' : hi1 = lo := by simp at hlt; omega
    subst hlt'
    have hE : cntLe (ns.map fun i => lets.getD i.toNat 0) x = hi1 := bi_end hB
    k_steps
    rename Fr _ _ _ _ => kF
    rename News _ _ _ _ => kN
    exact hret _ _ _ _ kF kN ⟨tl, by rw [hE], rfl⟩
local macro_rules | `(tactic| walk_at "call builtin:list.insert") => `(tactic| (k_here; refine Stop.mk ?_))
set_option maxHeartbeats 8000000 in
theorem insort_call (w : World) (l f : Addr) (vs : List Value) (ns lets : List Int) (n : Nat) (x : Int) (tx : Tok) (oc : Value) (od : Option Addr) (fd : FuncData) (sl : Array (Option Value)) (pre post kn : List (Addr × Obj)) (hi : IntsAre vs ns) (hz : ns.length < 2 ^ 20) (hr : ∀ i ∈ ns, 0 ≤ i ∧ i < lets.length) (hs : Sorted (ns.map fun i => lets.getD i.toNat 0)) (hx0 : 0 ≤ x) (hx1 : x < lets.length) :
    Claim2 30 PySem.Challenge.rw_sc0031_01.row.prog w (hd.heap_39 w.params) 30 [.ref l, .int x tx] [(Str.ofString "key", .ref f)]
     (fun news => (f, (⟨oc, od, .func fd, sl⟩ : Obj)) ∈ news ∧ KeyOk PySem.Challenge.rw_sc0031_01.row.prog w (hd.heap_39 w.params) f lets kn ∧ (∀ q ∈ kn, q ∈ news) ∧ news = pre ++ (l, listOf vs.toArray n) :: post ∧ (∀ p ∈ pre, p.1 ≠ l) ∧ (∀ p ∈ post, p.1 ≠ l)) 
     (fun news v news' => ∃ vs', news' = pre ++ (l, listOf vs'.toArray (n + 1)) :: post ∧ IntsAre vs' (insAt ns (cntLe (ns.map fun i => lets.getD i.toNat 0) (lets.getD x.toNat 0)) x)) := by
  k_fill
  w_top off
  intro p loose mean mg mb dp un gd cn cs a ccd cl outer A₀ base h₀ L m s news Q E B F X N T hk ⟨hfm, hkey0, hkn, hnews, hpre, hpost⟩ hdp hun hret
  have hkey := hkey0.mono hkn
  have hlm : (l, listOf vs.toArray n) ∈ news := by rw [hnews]; exact List.mem_append_right _ (.head _)
  refine wpAny_call ?_
  (k_dflt (refine' code_def ?k1 ?k2 ?k3 ?k4 ?k5 ?kA ?kF ?kK ?k6 ?k7 ?k8 ?k9 ?kB ?_ ?c2 ?c3 ?c4 ?c5; (case kA => exact rfl); (case kF => exact rfl); (case kK => assumption); (case k1 => k_asm); (case k2 => k_asm); (case k3 => k_asm); (case k4 => k_asm); (case k5 => k_asm); (case k6 => k_is); (case k7 => k_is); (case k8 => ktr_room); (case k9 => first | exact BindsTo.of_eq rfl | exact binds_K (by k_in) rfl (by k_is) rfl rfl rfl | (refine' kp_binds ?kx ?ke; (case kx => k_in); (case ke => exact fun _ => rfl))); (case c5 => decide); (case kB => exact locs rfl); (case c2 => exact rfl); (case c3 => exact rfl); (case c4 => exact rfl); k_whole; intro g' L' h' FG' F' N' B' X' T'; (try dsimp only); (try k_lift B'); (try k_fold)))
  refine wpAny_noRaise ?_
  k_steps
  rename Fr _ _ _ _ => F9
  rename News _ _ _ _ => N9
  refine Claim2.use (bisRk4_call w l f vs ns lets n _ _ _ oc od fd sl hi hz hr hs) B' F9 X' N9 T' rfl ⟨hlm, hfm, hkey⟩ (by ktr_room) (by (((simp only [units_deeper, units_in1, Around.mark_units, cLine_is] at *); omega))) ?_
  rintro v news2 h2 tk2 F2 N2 ⟨t2, rfl, rfl⟩
  dsimp only
  clear F9 N9
  k_steps
  unfold Stop
  rename Fr _ _ _ _ => F3
  rename News _ _ _ _ => N3
  have hcn : cntLe (ns.map fun i => lets.getD i.toNat 0) (lets.getD x.toNat 0) ≤ ns.length := by
    have h9 := cntLe_le (ns.map fun i => lets.getD i.toNat 0) (lets.getD x.toNat 0)
    rwa [List.length_map] at h9
  subst hnews
  refine kl_insert F3 N3 (fits_small (by omega) (by omega)) rfl (upd_split hpost hpre) ?_ ?_
  · rw [List.toList_toArray, hi.length, sizeLine_eq]; omega
  rintro h5 F5 N5
  k_steps
  rename Fr _ _ _ _ => kF
  rename News _ _ _ _ => kN
  exact hret _ _ _ _ kF kN ⟨_, rfl, ins_ints hi hcn⟩
abbrev lamParams (p1 : Pos) : Arguments := { posonlyargs := [], args := [{ arg := Str.ofString "place", annotation := none, pos := p1 }], vararg := none, kwonlyargs := [], kw_defaults := [], kwarg := none, defaults := [] }
abbrev lamBody (p2 p3 p4 : Pos) : PySem.Expr := .Subscript (.Name (Str.ofString "letters") p2) (.Name (Str.ofString "place") p3) p4
abbrev lamScope : Scope := { kind := ScopeKind.function, names := [(Str.ofString "place", NameKind.local), (Str.ofString "letters", NameKind.free)], isGenerator := false, isCoroutine := false }
set_option maxHeartbeats 8000000 in
theorem lam_key (w : World) (f c' c lt : Addr) (qual : Str) (p1 p2 p3 p4 : Pos) (pm ctv : Value) (oc o : Obj) (vs : Array Value) (tq : Tok) (lvs : List Value) (lets : List Int) (ln : Nat)
    (hd1 : oc.data = .fields vs) (hd2 : vs[1]? = some (.str qual tq)) (ho : o.data = .cell (some (.ref lt))) (hi : IntsAre lvs lets) (hz : lets.length < 2 ^ 16) :
    KeyOk PySem.Challenge.rw_sc0031_01.row.prog w (hd.heap_39 w.params) f lets
      [(f, kla_obj (Str.ofString "<lambda>") qual (lamParams p1) (lamBody p2 p3 p4) lamScope [(Str.ofString "letters", c)] pm c' ctv), (c', oc), (c, o), (lt, listOf lvs.toArray ln)] := by
  k_fill
  w_top off
  intro p loose mean mg mb dp un gd cn cs a ccd cl outer A₀ base h₀ L m s news Q E i ti B F X N T hk hsub h0 h1 hdp hun hret
  have hmf := hsub _ (.head _)
  have hmc := hsub _ (.tail _ (.head _))
  have hmo := hsub _ (.tail _ (.tail _ (.head _)))
  have hml := hsub _ (.tail _ (.tail _ (.tail _ (.head _))))
  clear hsub
  refine wpAny_call ?_
  (k_dflt (refine' kla_code ?k1 ?k2 ?k3 ?k4 ?k5 ?kA ?kF ?kK ?k6 ?k7 ?k8 ?k9 ?kB ?_ ?c2 ?c3 ?c4 ?c5; (case kA => exact rfl); (case kF => exact rfl); (case kK => assumption); (case k1 => k_asm); (case k2 => k_asm); (case k3 => k_asm); (case k4 => k_asm); (case k5 => k_asm); (case k6 => k_mem); (case k7 => exact codeRec_news (by k_asm) (by k_mem) (by assumption) (by assumption)); (case k8 => ktr_room); (case k9 => exact rfl); (case c5 => decide); (case kB => exact locs rfl); (case c2 => exact rfl); (case c3 => exact rfl); (case c4 => exact rfl); k_whole; intro g' L' h' FG' F' N' B' X' T'; (try dsimp only); (try k_lift B'); (try k_fold)))
  refine wpAny_noRaise ?_
  refine Subscript_ (nameX_F N' rfl hmo ho ?_)
  refine nameX_L F' rfl ?_
  refine ksa_sub N' hml hi h0 h1 (by omega) ?_
  intro t9
  exact leaveK_ F' N' fun kF kN => hret _ _ _ kF kN
abbrev CodeOk (oc : Obj) (q : Str) : Prop := ∃ vs t, oc.data = .fields vs ∧ vs[1]? = some (.str q t)
abbrev LamQ : Str := (envOf (Str.ofString "_law_growth") lamScope 0 0 .none).qual ++ Str.ofString "<lambda>"
set_option maxHeartbeats 8000000 in
theorem growth_call0 (w : World) (l1 l2 l3 : Addr) (vs1 vs2 vs3 : List Value) (lets lens row : List Int) (n1 n2 n3 : Nat) (x : Int) (tx : Tok) (rest : List (Addr × Obj)) (hi1 : IntsAre vs1 lets) (hi2 : IntsAre vs2 lens) (hi3 : IntsAre vs3 row) (hz1 : lets.length < 2 ^ 16) (hz2 : lens.length < 2 ^ 16) (hz3 : row.length < lens.length) (hz4 : row.length ≤ lets.length)
    (hr : ∀ i ∈ row, 0 ≤ i ∧ i < row.length) (hs : Sorted (row.map fun i => lets.getD i.toNat 0)) (hp : (row.map fun i => lets.getD i.toNat 0).Perm (lets.take row.length)) (h57 : ∀ p ∈ rest, p.1 ≠ 57)
    (hm1 : (l1, listOf vs1.toArray n1) ∈ rest) (hm2 : (l2, listOf vs2.toArray n2) ∈ rest) (hm3 : (l3, listOf vs3.toArray n3) ∈ rest) :
    Claim2 40 PySem.Challenge.rw_sc0031_01.row.prog w (hd.heap_39 w.params) 60 [.ref l1, .ref l2, .ref l3, .int x tx] []
     (fun news => news = (57, tabObj #[]) :: rest) 
     (fun news v news' => ∃ t c1 oc1 c2 oc2, v = .int (growthOf lets lens row x) t ∧ news' = (c2, oc2) :: (c1, oc1) :: (57, tabObj #[rawInt 69, rawInt 41, .ref c1, rawInt 70, rawInt 42, .ref c2]) :: rest ∧ CodeOk oc1 LamQ ∧ CodeOk oc2 LamQ ∧ (∀ p ∈ rest, p.1 < c1) ∧ c1 < c2 ∧ 57 < c1) := by
  k_fill
  w_top off
  intro p loose mean mg mb dp un gd cn cs a ccd cl outer A₀ base h₀ L m s news Q E B F X N T hk hnews hdp hun hret
  subst hnews
  refine wpAny_call ?_
  (k_dflt (refine' code_defC ?k1 ?k2 ?k3 ?k4 ?k5 ?kA ?kF ?kK ?k6 ?k7 ?k8 ?k9 ?kB ?kD ?_ ?c2 ?c3 ?c4; (case kA => exact rfl); (case kF => exact rfl); (case kK => assumption); (case k1 => k_asm); (case k2 => k_asm); (case k3 => k_asm); (case k4 => k_asm); (case k5 => k_asm); (case k6 => k_is); (case k7 => k_is); (case k8 => ktr_room); (case k9 => first | exact BindsTo.of_eq rfl | exact binds_K (by k_in) rfl (by k_is) rfl rfl rfl | (refine' kp_binds ?kx ?ke; (case kx => k_in); (case ke => exact fun _ => rfl))); (case kB => exact rfl); (case kD => decide +kernel); (case c2 => exact rfl); (case c3 => exact rfl); (case c4 => exact rfl); k_whole; intro g' L' h' tk' cells' FG' F' N' Y' B' X' T' lLt; (try k_lt lLt); k_cells Y'; (try simp only [List.cons_append, List.nil_append] at N'); (try dsimp only); (try k_lift B'); (try k_fold)))
  rename_i oL1 oL2 dO1 dO2
  have hC := codeHd_of_K (c := 59) (P := 57) X' (by kernel_rfl)
  have hr' : ∀ i ∈ row, 0 ≤ i ∧ i < lets.length := fun i hi => ⟨(hr i hi).1, by have := (hr i hi).2; omega⟩
  refine wpAny_noRaise ?_
  k_steps
  rename_i fL cL ocL vqL tqL ctL hL tkL FL NL dL1 dL2 lL1 lL2
  refine Claim2.use (bisLk_call w l3 fL vs3 row lets n3 x tx _ _ _ _ hi3 (by omega) hr' hs) B' FL X' NL T' rfl ⟨by news_mem, by news_mem, (lam_key w fL cL (L' + 1) l1 _ _ _ _ _ _ ctL ocL oL2 vqL tqL vs1 lets n1 dL1 dL2 dO2 hi1 hz1).mono (sub4 (by news_mem) (by news_mem) (by news_mem) (by news_mem))⟩ (by ktr_room) (by (((simp only [units_deeper, units_in1, Around.mark_units, cLine_is] at *); omega))) ?_
  rintro v news2 h2 tk2 F2 N2 ⟨t2, rfl, rfl⟩
  dsimp only
  clear FL NL
  k_steps
  rename_i fM cM ocM vqM tqM ctM hM tkM FM NM dM1 dM2 lM1 lM2
  refine Claim2.use (bisRk_call w l3 fM vs3 row lets n3 x tx _ _ _ _ hi3 (by omega) hr' hs) B' FM X' NM T' rfl ⟨by news_mem, by news_mem, (lam_key w fM cM (L' + 1) l1 _ _ _ _ _ _ ctM ocM oL2 vqM tqM vs1 lets n1 dM1 dM2 dO2 hi1 hz1).mono (sub4 (by news_mem) (by news_mem) (by news_mem) (by news_mem))⟩ (by ktr_room) (by (((simp only [units_deeper, units_in1, Around.mark_units, cLine_is] at *); omega))) ?_
  rintro v news2 h2 tk2 F2 N2 ⟨t2, rfl, rfl⟩
  dsimp only
  clear FM NM
  k_steps
  rename IntsAre _ _ => hPut
  rw [show ((row.length : Int)).toNat = row.length from Int.toNat_natCast _] at hPut
  have ePs := kmk_size_eq hPut
  ((unfold Stop; k_dflt (refine LCt.ListComp_T (F₀ := by k_asm) (by with_unfolding_all rfl) (by decide) (by rfl) (by decide) (by rfl) ?_)))
  k_steps
  unfold Stop
  rename Fr _ _ _ _ => FP
  rename News _ _ _ _ => NP
  refine LCt.CompSrcT.ledger rfl FP NP (by news_mem) (kmk_sz hPut (by rw [List.length_take, sizeLine_eq]; omega)) ?_
  intro gc
  rw [ePs]
  refine rest_T (fun i => decide ((lets.take row.length).getD i 0 < x)) (fun i => (lets.take row.length).getD i 0) (.inr ⟨_, by news_mem, rfl, _, rfl⟩) ?_ ?_
  rotate_left
  · intro i v I oI C oC D ys m₂ h tk hin hP hC hx FT NT off
    obtain ⟨t, rfl⟩ := item_ints hPut hP
    clear FP NP
    k_steps
    all_goals exact ⟨_, _, rfl, FT, NT⟩
  · intro ys hys
    have hys2 : IntsAre ys ((lets.take row.length).filter fun a => decide (a < x)) := by
      rw [filter_range_getD (fun a => decide (a < x)) (fun a => a)] at hys
      simpa using hys
    have hfl : ((lets.take row.length).filter fun a => decide (a < x)).length ≤ (lets.take row.length).length := List.length_filter_le ..
    rw [List.length_take] at hfl
    clear hys
    unfold LCg.FinE
    intro DQ hQ tkQ FQ NQ offQ
    clear FP NP
    rw [cntLt_perm hp] at FQ
    k_steps
    · rename (_ : Int) ≠ _ => hx
      exact absurd (by rw [cntLt_perm hp]) hx
    ((unfold Stop; k_dflt (refine LCt.ListComp_T (F₀ := by k_asm) (by with_unfolding_all rfl) (by decide) (by rfl) (by decide) (by rfl) ?_)))
    k_steps
    unfold Stop
    rename Fr _ _ _ _ => FP
    rename News _ _ _ _ => NP
    refine LCt.CompSrcT.ledger rfl FP NP (by news_mem) (kmk_sz hPut (by rw [List.length_take, sizeLine_eq]; omega)) ?_
    intro gc2
    rw [ePs]
    refine rest_T (fun i => decide ((lets.take row.length).getD i 0 ≤ x)) (fun i => (lets.take row.length).getD i 0) (.inr ⟨_, by news_mem, rfl, _, rfl⟩) ?_ ?_
    rotate_left
    · intro i v I oI C oC D ys2 m₂ h tk hin hP hC hx FT NT off
      obtain ⟨t, rfl⟩ := item_ints hPut hP
      clear FP NP
      k_steps
      all_goals exact ⟨_, _, rfl, FT, NT⟩
    · intro ys2 hys
      have hys3 : IntsAre ys2 ((lets.take row.length).filter fun a => decide (a ≤ x)) := by
        rw [filter_range_getD (fun a => decide (a ≤ x)) (fun a => a)] at hys
        simpa using hys
      have hfl2 : ((lets.take row.length).filter fun a => decide (a ≤ x)).length ≤ (lets.take row.length).length := List.length_filter_le ..
      rw [List.length_take] at hfl2
      clear hys
      unfold LCg.FinE
      intro DR hR tkR FR NR offR
      clear FP NP
      have hle := filt_le (lets.take row.length) x
      have e1 := cntLt_perm hp x
      have e2 := cntLe_perm hp x
      rw [e2] at FR
      by_cases hfa : ((lets.take row.length).filter fun a => decide (a < x)).length = ((lets.take row.length).filter fun a => decide (a ≤ x)).length
      · k_steps
        · rename (_ : Int) ≠ _ => hx
          exact absurd (by rw [e2]) hx
        · rename (_ : Int) = _ => hx
          rename Fr _ _ _ _ => kF
          rename News _ _ _ _ => kN
          have hgr : lens.getD ((row.length : Int)).toNat 0 + 1 = growthOf lets lens row x := by
            unfold growthOf
            rw [Int.toNat_natCast, if_pos (by omega)]
          rw [hgr]
          exact hret _ _ _ _ kF (news_sub kN (List.forall_mem_cons.mpr ⟨by news_mem, List.forall_mem_cons.mpr ⟨by news_mem, List.forall_mem_cons.mpr ⟨by news_mem, fun p hp => by news_mem⟩⟩⟩)) ⟨_, cL, ocL, cM, ocM, rfl, rfl, ⟨_, _, dL1, dL2⟩, ⟨_, _, dM1, dM2⟩, lt_of_allLt lL1.2.2.2.2, lM1.2.1, lL1.2.2.2.1⟩
        · rename (_ : Int) ≠ _ => hx
          rename Fr _ _ _ _ => kF
          rename News _ _ _ _ => kN
          have hgr : lens.getD ((row.length : Int)).toNat 0 - lens.getD (row.getD ((((lets.take row.length).filter fun a => decide (a ≤ x)).length : Int) - 1).toNat 0).toNat 0 = growthOf lets lens row x := by
            unfold growthOf
            rw [Int.toNat_natCast, if_neg (by omega), e2, show ((((lets.take row.length).filter fun a => decide (a ≤ x)).length : Int) - 1).toNat = ((lets.take row.length).filter fun a => decide (a ≤ x)).length - 1 by omega]
          rw [hgr]
          exact hret _ _ _ _ kF (news_sub kN (List.forall_mem_cons.mpr ⟨by news_mem, List.forall_mem_cons.mpr ⟨by news_mem, List.forall_mem_cons.mpr ⟨by news_mem, fun p hp => by news_mem⟩⟩⟩)) ⟨_, cL, ocL, cM, ocM, rfl, rfl, ⟨_, _, dL1, dL2⟩, ⟨_, _, dM1, dM2⟩, lt_of_allLt lL1.2.2.2.2, lM1.2.1, lL1.2.2.2.1⟩
      · have hq := getD_ok hr (j := ((((lets.take row.length).filter fun a => decide (a ≤ x)).length : Int) - 1).toNat) (by omega)
        k_steps
        · rename (_ : Int) ≠ _ => hx
          exact absurd (by rw [e2]) hx
        · rename (_ : Int) = _ => hx
          rename Fr _ _ _ _ => kF
          rename News _ _ _ _ => kN
          have hgr : lens.getD ((row.length : Int)).toNat 0 + 1 = growthOf lets lens row x := by
            unfold growthOf
            rw [Int.toNat_natCast, if_pos (by omega)]
          rw [hgr]
          exact hret _ _ _ _ kF (news_sub kN (List.forall_mem_cons.mpr ⟨by news_mem, List.forall_mem_cons.mpr ⟨by news_mem, List.forall_mem_cons.mpr ⟨by news_mem, fun p hp => by news_mem⟩⟩⟩)) ⟨_, cL, ocL, cM, ocM, rfl, rfl, ⟨_, _, dL1, dL2⟩, ⟨_, _, dM1, dM2⟩, lt_of_allLt lL1.2.2.2.2, lM1.2.1, lL1.2.2.2.1⟩
        · rename (_ : Int) ≠ _ => hx
          rename Fr _ _ _ _ => kF
          rename News _ _ _ _ => kN
          have hgr : lens.getD ((row.length : Int)).toNat 0 - lens.getD (row.getD ((((lets.take row.length).filter fun a => decide (a ≤ x)).length : Int) - 1).toNat 0).toNat 0 = growthOf lets lens row x := by
            unfold growthOf
            rw [Int.toNat_natCast, if_neg (by omega), e2, show ((((lets.take row.length).filter fun a => decide (a ≤ x)).length : Int) - 1).toNat = ((lets.take row.length).filter fun a => decide (a ≤ x)).length - 1 by omega]
          rw [hgr]
          exact hret _ _ _ _ kF (news_sub kN (List.forall_mem_cons.mpr ⟨by news_mem, List.forall_mem_cons.mpr ⟨by news_mem, List.forall_mem_cons.mpr ⟨by news_mem, fun p hp => by news_mem⟩⟩⟩)) ⟨_, cL, ocL, cM, ocM, rfl, rfl, ⟨_, _, dL1, dL2⟩, ⟨_, _, dM1, dM2⟩, lt_of_allLt lL1.2.2.2.2, lM1.2.1, lL1.2.2.2.1⟩
set_option maxHeartbeats 8000000 in
theorem growth_call1 (w : World) (l1 l2 l3 : Addr) (vs1 vs2 vs3 : List Value) (lets lens row : List Int) (n1 n2 n3 : Nat) (x : Int) (tx : Tok) (rest : List (Addr × Obj)) (c1 c2 : Addr) (oc1 oc2 : Obj) (hc1 : CodeOk oc1 LamQ) (hc2 : CodeOk oc2 LamQ) (hmc1 : (c1, oc1) ∈ rest) (hmc2 : (c2, oc2) ∈ rest) (hi1 : IntsAre vs1 lets) (hi2 : IntsAre vs2 lens) (hi3 : IntsAre vs3 row) (hz1 : lets.length < 2 ^ 16) (hz2 : lens.length < 2 ^ 16) (hz3 : row.length < lens.length) (hz4 : row.length ≤ lets.length)
    (hr : ∀ i ∈ row, 0 ≤ i ∧ i < row.length) (hs : Sorted (row.map fun i => lets.getD i.toNat 0)) (hp : (row.map fun i => lets.getD i.toNat 0).Perm (lets.take row.length)) (h57 : ∀ p ∈ rest, p.1 ≠ 57)
    (hm1 : (l1, listOf vs1.toArray n1) ∈ rest) (hm2 : (l2, listOf vs2.toArray n2) ∈ rest) (hm3 : (l3, listOf vs3.toArray n3) ∈ rest) :
    Claim2 40 PySem.Challenge.rw_sc0031_01.row.prog w (hd.heap_39 w.params) 60 [.ref l1, .ref l2, .ref l3, .int x tx] []
     (fun news => news = (57, tabObj #[rawInt 69, rawInt 41, .ref c1, rawInt 70, rawInt 42, .ref c2]) :: rest) 
     (fun news v news' => ∃ t, v = .int (growthOf lets lens row x) t ∧ news' = news) := by
  k_fill
  w_top off
  intro p loose mean mg mb dp un gd cn cs a ccd cl outer A₀ base h₀ L m s news Q E B F X N T hk hnews hdp hun hret
  subst hnews
  refine wpAny_call ?_
  (k_dflt (refine' code_defC ?k1 ?k2 ?k3 ?k4 ?k5 ?kA ?kF ?kK ?k6 ?k7 ?k8 ?k9 ?kB ?kD ?_ ?c2 ?c3 ?c4; (case kA => exact rfl); (case kF => exact rfl); (case kK => assumption); (case k1 => k_asm); (case k2 => k_asm); (case k3 => k_asm); (case k4 => k_asm); (case k5 => k_asm); (case k6 => k_is); (case k7 => k_is); (case k8 => ktr_room); (case k9 => first | exact BindsTo.of_eq rfl | exact binds_K (by k_in) rfl (by k_is) rfl rfl rfl | (refine' kp_binds ?kx ?ke; (case kx => k_in); (case ke => exact fun _ => rfl))); (case kB => exact rfl); (case kD => decide +kernel); (case c2 => exact rfl); (case c3 => exact rfl); (case c4 => exact rfl); k_whole; intro g' L' h' tk' cells' FG' F' N' Y' B' X' T' lLt; (try k_lt lLt); k_cells Y'; (try simp only [List.cons_append, List.nil_append] at N'); (try dsimp only); (try k_lift B'); (try k_fold)))
  rename_i oL1 oL2 dO1 dO2
  have hC := codeHd_of_K (c := 59) (P := 57) X' (by kernel_rfl)
  obtain ⟨vqL, tqL, dL1, dL2⟩ := hc1
  obtain ⟨vqM, tqM, dM1, dM2⟩ := hc2
  have hr' : ∀ i ∈ row, 0 ≤ i ∧ i < lets.length := fun i hi => ⟨(hr i hi).1, by have := (hr i hi).2; omega⟩
  refine wpAny_noRaise ?_
  k_steps
  rename_i fL ctL hL tkL FL NL lL1
  refine Claim2.use (bisLk_call w l3 fL vs3 row lets n3 x tx _ _ _ _ hi3 (by omega) hr' hs) B' FL X' NL T' rfl ⟨by news_mem, by news_mem, (lam_key w fL c1 (L' + 1) l1 _ _ _ _ _ _ ctL oc1 oL2 vqL tqL vs1 lets n1 dL1 dL2 dO2 hi1 hz1).mono (sub4 (by news_mem) (by news_mem) (by news_mem) (by news_mem))⟩ (by ktr_room) (by (((simp only [units_deeper, units_in1, Around.mark_units, cLine_is] at *); omega))) ?_
  rintro v news2 h2 tk2 F2 N2 ⟨t2, rfl, rfl⟩
  dsimp only
  clear FL NL
  k_steps
  rename_i fM ctM hM tkM FM NM lM1
  refine Claim2.use (bisRk_call w l3 fM vs3 row lets n3 x tx _ _ _ _ hi3 (by omega) hr' hs) B' FM X' NM T' rfl ⟨by news_mem, by news_mem, (lam_key w fM c2 (L' + 1) l1 _ _ _ _ _ _ ctM oc2 oL2 vqM tqM vs1 lets n1 dM1 dM2 dO2 hi1 hz1).mono (sub4 (by news_mem) (by news_mem) (by news_mem) (by news_mem))⟩ (by ktr_room) (by (((simp only [units_deeper, units_in1, Around.mark_units, cLine_is] at *); omega))) ?_
  rintro v news2 h2 tk2 F2 N2 ⟨t2, rfl, rfl⟩
  dsimp only
  clear FM NM
  k_steps
  rename IntsAre _ _ => hPut
  rw [show ((row.length : Int)).toNat = row.length from Int.toNat_natCast _] at hPut
  have ePs := kmk_size_eq hPut
  ((unfold Stop; k_dflt (refine LCt.ListComp_T (F₀ := by k_asm) (by with_unfolding_all rfl) (by decide) (by rfl) (by decide) (by rfl) ?_)))
  k_steps
  unfold Stop
  rename Fr _ _ _ _ => FP
  rename News _ _ _ _ => NP
  refine LCt.CompSrcT.ledger rfl FP NP (by news_mem) (kmk_sz hPut (by rw [List.length_take, sizeLine_eq]; omega)) ?_
  intro gc
  rw [ePs]
  refine rest_T (fun i => decide ((lets.take row.length).getD i 0 < x)) (fun i => (lets.take row.length).getD i 0) (.inr ⟨_, by news_mem, rfl, _, rfl⟩) ?_ ?_
  rotate_left
  · intro i v I oI C oC D ys m₂ h tk hin hP hC hx FT NT off
    obtain ⟨t, rfl⟩ := item_ints hPut hP
    clear FP NP
    k_steps
    all_goals exact ⟨_, _, rfl, FT, NT⟩
  · intro ys hys
    have hys2 : IntsAre ys ((lets.take row.length).filter fun a => decide (a < x)) := by
      rw [filter_range_getD (fun a => decide (a < x)) (fun a => a)] at hys
      simpa using hys
    have hfl : ((lets.take row.length).filter fun a => decide (a < x)).length ≤ (lets.take row.length).length := List.length_filter_le ..
    rw [List.length_take] at hfl
    clear hys
    unfold LCg.FinE
    intro DQ hQ tkQ FQ NQ offQ
    clear FP NP
    rw [cntLt_perm hp] at FQ
    k_steps
    · rename (_ : Int) ≠ _ => hx
      exact absurd (by rw [cntLt_perm hp]) hx
    ((unfold Stop; k_dflt (refine LCt.ListComp_T (F₀ := by k_asm) (by with_unfolding_all rfl) (by decide) (by rfl) (by decide) (by rfl) ?_)))
    k_steps
    unfold Stop
    rename Fr _ _ _ _ => FP
    rename News _ _ _ _ => NP
    refine LCt.CompSrcT.ledger rfl FP NP (by news_mem) (kmk_sz hPut (by rw [List.length_take, sizeLine_eq]; omega)) ?_
    intro gc2
    rw [ePs]
    refine rest_T (fun i => decide ((lets.take row.length).getD i 0 ≤ x)) (fun i => (lets.take row.length).getD i 0) (.inr ⟨_, by news_mem, rfl, _, rfl⟩) ?_ ?_
    rotate_left
    · intro i v I oI C oC D ys2 m₂ h tk hin hP hC hx FT NT off
      obtain ⟨t, rfl⟩ := item_ints hPut hP
      clear FP NP
      k_steps
      all_goals exact ⟨_, _, rfl, FT, NT⟩
    · intro ys2 hys
      have hys3 : IntsAre ys2 ((lets.take row.length).filter fun a => decide (a ≤ x)) := by
        rw [filter_range_getD (fun a => decide (a ≤ x)) (fun a => a)] at hys
        simpa using hys
      have hfl2 : ((lets.take row.length).filter fun a => decide (a ≤ x)).length ≤ (lets.take row.length).length := List.length_filter_le ..
      rw [List.length_take] at hfl2
      clear hys
      unfold LCg.FinE
      intro DR hR tkR FR NR offR
      clear FP NP
      have hle := filt_le (lets.take row.length) x
      have e1 := cntLt_perm hp x
      have e2 := cntLe_perm hp x
      rw [e2] at FR
      by_cases hfa : ((lets.take row.length).filter fun a => decide (a < x)).length = ((lets.take row.length).filter fun a => decide (a ≤ x)).length
      · k_steps
        · rename (_ : Int) ≠ _ => hx
          exact absurd (by rw [e2]) hx
        · rename (_ : Int) = _ => hx
          rename Fr _ _ _ _ => kF
          rename News _ _ _ _ => kN
          have hgr : lens.getD ((row.length : Int)).toNat 0 + 1 = growthOf lets lens row x := by
            unfold growthOf
            rw [Int.toNat_natCast, if_pos (by omega)]
          rw [hgr]
          exact hret _ _ _ _ kF (news_sub kN (List.forall_mem_cons.mpr ⟨by news_mem, fun p hp => by news_mem⟩)) ⟨_, rfl, rfl⟩
        · rename (_ : Int) ≠ _ => hx
          rename Fr _ _ _ _ => kF
          rename News _ _ _ _ => kN
          have hgr : lens.getD ((row.length : Int)).toNat 0 - lens.getD (row.getD ((((lets.take row.length).filter fun a => decide (a ≤ x)).length : Int) - 1).toNat 0).toNat 0 = growthOf lets lens row x := by
            unfold growthOf
            rw [Int.toNat_natCast, if_neg (by omega), e2, show ((((lets.take row.length).filter fun a => decide (a ≤ x)).length : Int) - 1).toNat = ((lets.take row.length).filter fun a => decide (a ≤ x)).length - 1 by omega]
          rw [hgr]
          exact hret _ _ _ _ kF (news_sub kN (List.forall_mem_cons.mpr ⟨by news_mem, fun p hp => by news_mem⟩)) ⟨_, rfl, rfl⟩
      · have hq := getD_ok hr (j := ((((lets.take row.length).filter fun a => decide (a ≤ x)).length : Int) - 1).toNat) (by omega)
        k_steps
        · rename (_ : Int) ≠ _ => hx
          exact absurd (by rw [e2]) hx
        · rename (_ : Int) = _ => hx
          rename Fr _ _ _ _ => kF
          rename News _ _ _ _ => kN
          have hgr : lens.getD ((row.length : Int)).toNat 0 + 1 = growthOf lets lens row x := by
            unfold growthOf
            rw [Int.toNat_natCast, if_pos (by omega)]
          rw [hgr]
          exact hret _ _ _ _ kF (news_sub kN (List.forall_mem_cons.mpr ⟨by news_mem, fun p hp => by news_mem⟩)) ⟨_, rfl, rfl⟩
        · rename (_ : Int) ≠ _ => hx
          rename Fr _ _ _ _ => kF
          rename News _ _ _ _ => kN
          have hgr : lens.getD ((row.length : Int)).toNat 0 - lens.getD (row.getD ((((lets.take row.length).filter fun a => decide (a ≤ x)).length : Int) - 1).toNat 0).toNat 0 = growthOf lets lens row x := by
            unfold growthOf
            rw [Int.toNat_natCast, if_neg (by omega), e2, show ((((lets.take row.length).filter fun a => decide (a ≤ x)).length : Int) - 1).toNat = ((lets.take row.length).filter fun a => decide (a ≤ x)).length - 1 by omega]
          rw [hgr]
          exact hret _ _ _ _ kF (news_sub kN (List.forall_mem_cons.mpr ⟨by news_mem, fun p hp => by news_mem⟩)) ⟨_, rfl, rfl⟩
abbrev gTab (c1 c2 : Addr) : Obj := tabObj #[rawInt 69, rawInt 41, .ref c1, rawInt 70, rawInt 42, .ref c2]
/-- the code table of _law_growth: empty, or with its two lambdas -/
inductive GSt : List (Addr × Obj) → Prop
  | zero : GSt [(57, tabObj #[])]
  | full (c1 c2 : Addr) (oc1 oc2 : Obj) : CodeOk oc1 LamQ → CodeOk oc2 LamQ → c1 ≠ 57 → c2 ≠ 57 → GSt [(57, gTab c1 c2), (c1, oc1), (c2, oc2)]
theorem growth_call (w : World) (l1 l2 l3 : Addr) (vs1 vs2 vs3 : List Value) (lets lens row : List Int) (n1 n2 n3 : Nat) (x : Int) (tx : Tok) (gl rest : List (Addr × Obj)) (hg : GSt gl) (hi1 : IntsAre vs1 lets) (hi2 : IntsAre vs2 lens) (hi3 : IntsAre vs3 row) (hz1 : lets.length < 2 ^ 16) (hz2 : lens.length < 2 ^ 16) (hz3 : row.length < lens.length) (hz4 : row.length ≤ lets.length)
    (hr : ∀ i ∈ row, 0 ≤ i ∧ i < row.length) (hs : Sorted (row.map fun i => lets.getD i.toNat 0)) (hp : (row.map fun i => lets.getD i.toNat 0).Perm (lets.take row.length)) (h57 : ∀ p ∈ rest, p.1 ≠ 57) (ds : List Addr) (hds : ∀ d ∈ ds, ∃ o, (d, o) ∈ rest) (hgr : ∀ p ∈ gl, ∀ d ∈ ds, p.1 ≠ d)
    (hm1 : (l1, listOf vs1.toArray n1) ∈ rest) (hm2 : (l2, listOf vs2.toArray n2) ∈ rest) (hm3 : (l3, listOf vs3.toArray n3) ∈ rest) :
    Claim2 40 PySem.Challenge.rw_sc0031_01.row.prog w (hd.heap_39 w.params) 60 [.ref l1, .ref l2, .ref l3, .int x tx] []
     (fun news => news = gl ++ rest) 
     (fun news v news' => ∃ t gl', v = .int (growthOf lets lens row x) t ∧ news' = gl' ++ rest ∧ GSt gl' ∧ (∀ p ∈ gl', ∀ d ∈ ds, p.1 ≠ d)) := by
  intro p loose mean mg mb dp un gd cn cs a ccd cl outer A₀ base h₀ L m s news Q E B F X N T hk hnews hdp hun hret
  subst hnews
  cases hg with
  | zero =>
    refine growth_call0 w l1 l2 l3 vs1 vs2 vs3 lets lens row n1 n2 n3 x tx rest hi1 hi2 hi3 hz1 hz2 hz3 hz4 hr hs hp h57 hm1 hm2 hm3 p loose mean mg mb dp un gd cn cs a ccd cl outer A₀ base h₀ L m s _ Q E B F X N T hk rfl hdp hun ?_
    rintro v news' h' tk' F' N' ⟨t, c1, oc1, c2, oc2, rfl, rfl, hc1, hc2, l1, l2, l3⟩
    refine hret _ ([(57, gTab c1 c2), (c1, oc1), (c2, oc2)] ++ rest) h' tk' F' (news_sub N' ?_) ⟨t, _, rfl, rfl, .full c1 c2 oc1 oc2 hc1 hc2 (Nat.ne_of_gt l3) (Nat.ne_of_gt (Nat.lt_trans l3 l2)), ?_⟩
    · intro q hq
      simp only [List.cons_append, List.nil_append, List.mem_cons] at hq ⊢
      rcases hq with h | h | h | h
      · exact .inr (.inr (.inl h))
      · exact .inr (.inl h)
      · exact .inl h
      · exact .inr (.inr (.inr h))
    · intro q hq d hd'
      obtain ⟨od, hr'⟩ := hds d hd'
      simp only [List.mem_cons, List.not_mem_nil, or_false] at hq
      rcases hq with rfl | rfl | rfl
      · exact Ne.symm (h57 _ hr')
      · exact Nat.ne_of_gt (l1 _ hr')
      · exact Nat.ne_of_gt (Nat.lt_trans (l1 _ hr') l2)
  | full c1 c2 oc1 oc2 hc1 hc2 e1 e2 =>
    refine growth_call1 w l1 l2 l3 vs1 vs2 vs3 lets lens row n1 n2 n3 x tx ((c1, oc1) :: (c2, oc2) :: rest) c1 c2 oc1 oc2 hc1 hc2 (.head _) (.tail _ (.head _)) hi1 hi2 hi3 hz1 hz2 hz3 hz4 hr hs hp ?_ (.tail _ (.tail _ hm1)) (.tail _ (.tail _ hm2)) (.tail _ (.tail _ hm3)) p loose mean mg mb dp un gd cn cs a ccd cl outer A₀ base h₀ L m s _ Q E B F X N T hk rfl hdp hun ?_
    · intro q hq
      simp only [List.mem_cons] at hq
      rcases hq with rfl | rfl | hq
      · exact e1
      · exact e2
      · exact h57 q hq
    rintro v news' h' tk' F' N' ⟨t, rfl, rfl⟩
    exact hret _ _ h' tk' F' N' ⟨t, _, rfl, rfl, .full c1 c2 oc1 oc2 hc1 hc2 e1 e2, hgr⟩
theorem GSt.mem57 {gl : List (Addr × Obj)} (h : GSt gl) : ∃ o, (57, o) ∈ gl := by cases h <;> exact ⟨_, .head _⟩
/-- the code table of law: empty, or with its one lambda -/
inductive LSt (q : Str) : List (Addr × Obj) → Prop
  | zero : LSt q [(62, tabObj #[])]
  | full (c : Addr) (oc : Obj) : CodeOk oc q → c ≠ 62 → LSt q [(62, tabObj #[rawInt 86, rawInt 33, .ref c]), (c, oc)]
theorem LSt.mem62 {q : Str} {ll : List (Addr × Obj)} (h : LSt q ll) : ∃ o, (62, o) ∈ ll := by cases h <;> exact ⟨_, .head _⟩
theorem lam_make {M : Model} {A : Around} {E : Value → Shared → Prop} {s : Shared} {h₀ : Heap} {L a : Addr} {m mg mb : Str → Option Value} {cn : Str} {cs : Scope} {cl : List (Str × Addr)} {p : Program} {loose : List Str} {mean : ExcName → Option Value}
    {params : Arguments} {body : PySem.Expr} {scope : Scope} {pos : Pos} {clos : List (Str × Addr)} {ll rest : List (Addr × Obj)} {Q : Value → Shared → Prop}
    (F : Fr h₀ L s.heap m) (N : News h₀ L s.heap (ll ++ rest)) (T : Top p loose mean mg mb h₀) (C : CodeHd h₀ 64 62) (hl : LSt ((envX cn cs L a (.ref 64) cl).qual ++ "<lambda>") ll) (hr : ∀ p ∈ rest, p.1 ≠ 62) (ds : List Addr) (hds : ∀ d ∈ ds, ∃ o, (d, o) ∈ rest) (hlr : ∀ p ∈ ll, ∀ d ∈ ds, p.1 ≠ d)
    (hcl : closureFor scope (envX cn cs L a (.ref 64) cl) = pure clos) (hdef : defaultsOf params (envX cn cs L a (.ref 64) cl) = ([], [])) (hp1 : pos.line = 86) (hp2 : pos.col = 33)
    (h : ∀ f c' oc pm ctv ll' h' tk, Fr h₀ L h' m → News h₀ L h' ((f, kla_obj "<lambda>" ((envX cn cs L a (.ref 64) cl).qual ++ "<lambda>") params body scope clos pm c' ctv) :: (ll' ++ rest)) → LSt ((envX cn cs L a (.ref 64) cl).qual ++ "<lambda>") ll' → (c', oc) ∈ ll' →
      CodeOk oc ((envX cn cs L a (.ref 64) cl).qual ++ "<lambda>") → (∀ p ∈ ll', ∀ d ∈ ds, p.1 ≠ d) → (∀ p ∈ ll' ++ rest, p.1 < f) → Q (.ref f) { s with heap := h', toks := tk }) :
    wpAny M A (eval (.Lambda params body scope pos) (envX cn cs L a (.ref 64) cl)) Q E s := by
  refine kla_eval hdef ?_
  cases hl with
  | zero =>
    refine kla_nest F N T C rfl (UpdF.head hr) trivial rfl hcl ?_
    intro f c' oc vs t ctv h' tk F' N' d1 d2 l1 l2
    have l62 : 62 < c' := l1 _ (.head _)
    have e0 : (#[] ++ #[rawInt pos.line, rawInt pos.col, .ref c'] : Array Value) = #[rawInt 86, rawInt 33, .ref c'] := by rw [hp1, hp2]; rfl
    rw [e0] at N'
    refine h f c' oc ((mg "__name__").getD .none) ctv [(62, tabObj #[rawInt 86, rawInt 33, .ref c']), (c', oc)] h' tk F' (news_sub N' ?_) (.full c' oc ⟨_, _, d1, d2⟩ (Nat.ne_of_gt l62)) (.tail _ (.head _)) ⟨_, _, d1, d2⟩ ?_ ?_
    · intro q hq
      simp only [List.cons_append, List.nil_append, List.mem_cons] at hq ⊢
      rcases hq with h | h | h | h
      · exact .inl h
      · exact .inr (.inr (.inl h))
      · exact .inr (.inl h)
      · exact .inr (.inr (.inr h))
    · intro q hq d hd'
      obtain ⟨od, hr'⟩ := hds d hd'
      simp only [List.mem_cons, List.not_mem_nil, or_false] at hq
      rcases hq with rfl | rfl
      · exact Ne.symm (hr _ hr')
      · exact Nat.ne_of_gt (l1 _ (.tail _ hr'))
    · intro q hq
      simp only [List.cons_append, List.nil_append, List.mem_cons] at hq
      rcases hq with rfl | rfl | hq
      · exact Nat.lt_trans l62 l2
      · exact l2
      · exact Nat.lt_trans (l1 q (.tail _ hq)) l2
  | full c oc hc e =>
    have hf : codeAmong pos (#[rawInt 86, rawInt 33, .ref c] : Array Value).toList = some (.ref c) := by simp [codeAmong, rawInt, hp1, hp2]
    refine kla_hit F N T C rfl (.head _) (by simp [TriplesOk, rawInt]) hf hcl ?_
    intro f ctv h' tk F' N' l1
    exact h f c oc ((mg "__name__").getD .none) ctv _ h' tk F' N' (.full c oc hc e) (.tail _ (.head _)) hc hlr l1
section
variable {prog : Program} {w : World} {A : Around} {E : Value → Shared → Prop} {s : Shared} {env : Env} {h₀ : Heap} {Q : Flow → Shared → Prop}
/-- what a for over a list of the ledger asks, once the list stands -/
def ForAt (prog : Program) (w : World) (A : Around) (h₀ : Heap) (env : Env) (target : Expr) (body : List Stmt) (Q : Flow → Shared → Prop) (E : Value → Shared → Prop) (xv : Value) (s₁ : Shared) : Prop :=
  ∃ (l : Addr) (vs : List Value) (nl : Nat) (m : Str → Option Value) (news : List (Addr × Obj)) (J : Nat → (Str → Option Value) → List (Addr × Obj) → Prop),
    xv = .ref l ∧ A.handled = none ∧ Fr h₀ env.locals s₁.heap m ∧ News h₀ env.locals s₁.heap news ∧ J 0 m news ∧ (∀ i m' nx, J i m' nx → (l, listOf vs.toArray nl) ∈ nx) ∧
    (∀ i v m₁ news₁ h tk (I : Addr) oI, i < vs.length → vs[i]? = some v → J i m₁ news₁ → (∀ p ∈ news₁, p.1 ≠ I) → @LT.lt Nat _ env.locals I → Fr h₀ env.locals h m₁ → News h₀ env.locals h ((I, oI) :: news₁) →
      wpAny (model prog w) A (assign target env v) (fun _ s₂ => wpAny (model prog w) A (execs body env) (TurnPost h₀ env.locals I [(I, oI)] (J (i + 1)) { s₁ with heap := h, toks := tk } Q) E s₂) E { s₁ with heap := h, toks := tk }) ∧
    (∀ m₁ news₁ h tk, J vs.length m₁ news₁ → Fr h₀ env.locals h m₁ → News h₀ env.locals h news₁ → Q .next { s₁ with heap := h, toks := tk })
theorem for_list {x : Str} {px : Pos} {iter : Expr} {body : List Stmt} {pos : Pos} {m₀ : Str → Option Value} (_F₀ : Fr h₀ env.locals s.heap m₀)
    (h : wpAny (model prog w) A (eval iter env) (fun xv s₁ => ForAt prog w A h₀ env (.Name x px) body Q E xv s₁) E s)
    (hs : ∀ x, foldedSetIterable iter env x = pure x := by intro _; rfl)
    (hE : PassesOwn (model prog w) A env E := by passes_own) :
    wpAny (model prog w) A (exec (.For (.Name x px) iter body [] pos) env) Q E s := by
  refine wpAny_For (wpAny_mono h (fun xv s₁ h₁ => ?_) fun _ _ e => e) hs
  obtain ⟨l, vs, nl, m, news, J, rfl, hh, F, N, hJ, hl, turn, done⟩ := h₁
  have isl : ∀ h m' nx i, News h₀ env.locals h nx → J i m' nx → h.IsList l vs.toArray := fun h m' nx i N hJ => ⟨_, (N _ (hl _ _ _ hJ)).1, rfl, _, rfl⟩
  refine wpAny_pyIter_list (isl _ _ _ _ N hJ) ?_
  have hIL : env.locals ≠ s₁.heap.objs.size := Nat.ne_of_lt F.ns.lt
  have hI0 : h₀.get? s₁.heap.objs.size = none := next_is_new F
  have hne : l ≠ s₁.heap.objs.size := Nat.ne_of_lt (Heap.lt_size (N _ (hl _ _ _ hJ)).1)
  have up : ∀ b o, s₁.heap.get? b = some o → (s₁.heap.push { cls := .type "list_iterator", data := .fields #[.ref l, .int 0 0] }).get? b = some o := fun b o e => Heap.get?_push_of_some _ e
  have W := Walks.list (prog := prog) (w := w) (A := A) hh s₁.heap.objs.size l hne vs.toArray
  refine codeAny_forLoop (R := fun r s' => match r with | .ok f => Q f s' | .error e => cameBackBy (model prog w) A env E e s')
    (fun k s' => ∃ h' tk m' news' i, s' = { s₁ with heap := h', toks := tk } ∧ h'.IsListIter s₁.heap.objs.size l i ∧ Fr h₀ env.locals h' m' ∧ News h₀ env.locals h' news' ∧ (∀ p ∈ news', p.1 ≠ s₁.heap.objs.size) ∧ J i m' news' ∧ i ≤ vs.length ∧ k = vs.length + 1 - i) ?_ (vs.length + 1)
    ⟨_, s₁.toks, m, news, 0, rfl, ⟨_, Heap.get?_push_size _ rfl, rfl, rfl⟩, F.push _, N.grown up, fun p hp => Nat.ne_of_lt (Heap.lt_size (N p hp).1), hJ, Nat.zero_le _, rfl⟩
  rintro k s' ⟨h', tk, m', news', i, rfl, hit, F', N', off, hJ', hi, rfl⟩
  have hl' := isl _ _ _ _ N' hJ'
  by_cases hlt : i < vs.length
  · refine W.item i _ _ _ (by simpa using hlt) ⟨hit, hl'⟩ fun v h₁ tk₁ hP hst hk => ?_
    have hit1 := hst.1
    obtain ⟨oI, heI, hoI⟩ := hit1
    have F₁ := LCg.fr_but F' hk hIL hI0
    have N₁ := LCg.news_but N' hk off
    have N₂ : News h₀ env.locals h₁ ((s₁.heap.objs.size, oI) :: news') := fun p hp => (List.mem_cons.mp hp).elim (fun e => e ▸ ⟨heI, Ne.symm hIL, hI0⟩) (N₁ p)
    refine wpAny_mono (wpAny_passesOwn hE (turn i v m' news' h₁ tk₁ _ oI hlt (by simpa using hP) hJ' off F.ns.lt F₁ N₂)) (fun _ s₂ h₂ => ?_) fun _ _ e => e
    refine wpAny_mono (wpAny_passesOwn hE h₂) (fun f s₃ h₃ => ?_) fun _ _ e => e
    have fin : TurnEnd h₀ env.locals s₁.heap.objs.size [(s₁.heap.objs.size, oI)] (J (i + 1)) { s₁ with heap := h₁, toks := tk₁ } s₃ → ∃ m, m < vs.length + 1 - i ∧ ∃ h' tk m' news' i, s₃ = { s₁ with heap := h', toks := tk } ∧ h'.IsListIter s₁.heap.objs.size l i ∧ Fr h₀ env.locals h' m' ∧ News h₀ env.locals h' news' ∧ (∀ p ∈ news', p.1 ≠ s₁.heap.objs.size) ∧ J i m' news' ∧ i ≤ vs.length ∧ m = vs.length + 1 - i := by
      rintro ⟨h3, tk3, m3, news3, rfl, F3, N3, hown, nx, hsub, hoff, hJ3⟩
      exact ⟨vs.length + 1 - (i + 1), by omega, h3, tk3, m3, nx, i + 1, rfl, ⟨oI, (N3 _ (hown _ (.head _))).1, hoI⟩, F3, fun p hp => N3 p (hsub p hp), hoff, hJ3, hlt, rfl⟩
    cases f with
    | next => exact fin h₃
    | cont => exact fin h₃
    | brk => exact h₃
    | ret v => exact h₃
  · have hin : i = vs.length := by omega
    subst hin
    refine W.done _ _ _ ⟨by simpa using hit, hl'⟩ fun h₁ tk₁ hk => wpAny_execs_nil ?_
    exact done _ _ _ _ hJ' (LCg.fr_but F' hk hIL hI0) (LCg.news_but N' hk off)
end
section
open LCg LCt
variable {h₀ : Heap} {L : Addr} {m : Str → Option Value}
theorem EltEnd.of {led : List (Addr × Obj)} {s₁ : Shared} {h' : Heap} {tk' : Nat} (F : Fr h₀ L h' m) (N : News h₀ L h' led) : EltEnd h₀ L m led s₁ { s₁ with heap := h', toks := tk' } := ⟨h', tk', rfl, F, N⟩
end
theorem mem_sh5 {α : Type} {a : α} {fx gl : List α} : ∀ p ∈ gl ++ a :: fx, p ∈ a :: (fx ++ gl) := by
  intro p hp
  simp only [List.mem_append, List.mem_cons] at hp ⊢
  rcases hp with h | h | h
  · exact .inr (.inr h)
  · exact .inl h
  · exact .inr (.inl h)
theorem mem_sh6 {α : Type} {a : α} {fx gl : List α} : ∀ p ∈ a :: (fx ++ gl), p ∈ gl ++ a :: fx := by
  intro p hp
  simp only [List.mem_append, List.mem_cons] at hp ⊢
  rcases hp with h | h | h
  · exact .inr (.inl h)
  · exact .inr (.inr h)
  · exact .inl h
theorem GSt.tab {gl : List (Addr × Obj)} (h : GSt gl) : ∃ ps, (57, tabObj ps) ∈ gl := by cases h <;> exact ⟨_, .head _⟩
theorem LSt.tab {q : Str} {ll : List (Addr × Obj)} (h : LSt q ll) : ∃ ps, (62, tabObj ps) ∈ ll := by cases h <;> exact ⟨_, .head _⟩
local macro_rules | `(tactic| walk_at "call ref") => `(tactic| (k_here; (with_reducible show wpAny _ _ (call (Value.ref _) _ _) _ _ _); refine Stop.mk ?_))
local macro_rules | `(tactic| walk_at "eval Lambda") => `(tactic| (k_here; refine Stop.mk ?_))
local macro_rules | `(tactic| walk_at "call builtin:list.append") => `(tactic| (k_here; (with_reducible show wpAny _ _ (call (Value.builtin _) [Value.ref _, _]) _ _ _); k_dflt (refine' append_K ?k1 ?k2 ?k3 ?_ ?z; (case k1 => k_asm); (case k2 => k_asm); (case k3 => k_upd); (case z => (refine kmk_sz (by with_reducible assumption) ?_; (simp only [grK_length, lensK_length]); rw [sizeLine_eq]; omega)); k_whole); intro h' F' N'; (try k_sweep)))
local macro_rules | `(tactic| walk_at "binaryOp Add ref ref") => `(tactic| (k_here; (with_reducible show wpAny _ _ (binaryOp _ (Value.ref _) (Value.ref _)) _ _ _); k_dflt (refine' kmk_add_ints ?F ?N ?a ?b ?i ?j ?_ ?z; (case F => with_reducible assumption); (case N => with_reducible assumption); (case a => first | (exact News.isList (by with_reducible assumption) (by news_mem)) | kmk_list); (case b => (exact News.isList (by with_reducible assumption) (by news_mem))); (case i => l_ints); (case j => l_ints); (case z => ((simp only [List.length_append, List.length_cons, List.length_nil, List.length_map, List.length_take, grK_length, lensK_length, sizeLine_eq]); omega))); intro D' ws' h' F' N' l1 hI'; (try k_lt l1); (try k_sweep)))
local macro_rules | `(tactic| walk_at "callWith ref") => `(tactic| (k_here; k_dflt (refine' callWith_K ?k1 ?k2 ?_; (case k1 => k_asm); (case k2 => k_is); k_whole)))
local macro_rules | `(tactic| walk_at "exec For") => `(tactic| (k_here; (with_reducible show wpAny _ _ (exec (Stmt.For _ (Expr.BinOp _ _ _ _) _ _ _) _) _ _ _); refine Stop.mk ?_))
local macro_rules | `(tactic| walk_at "subscriptTail Name Call ref int") => `(tactic| ((with_reducible show wpAny _ _ (subscriptTail _ _ (Value.ref _) (Value.int _ _)) _ _ _); (with_unfolding_all refine' item_list_ints ?k1 ?k2 ?k3 ?k4 ?k5 ?_; (case k1 => is_list); (case k2 => l_ints); (case k3 => l_idx); (case k4 => l_idx); (case k5 => l_idx); k_whole); intro _))
abbrev LawQ : Str := (envOf (Str.ofString "law") lamScope 0 0 .none).qual ++ "<lambda>"
set_option maxHeartbeats 16000000 in
theorem law_holds : PySem.Challenge.rw_sc0031_01.Holds := hd (by
  k_go0
  refine wpAny_noRaise ?_
  k_fold
  rename_i w s0 s1 mg mb hGr hY fa oo pm doc ho hg hX hV hT hB hTE hTW hcd script hs0 hlay0 hLay hrr hl2 w9 w8 aS vS w5 hLS hra hw1 hr0 iS hrw hlen hcond hDf h1 tk1 oLet0 oNum0 oTab0 oGr0 oLen0 dc1 dc2 dc3 dc4 dc5 X0 X' T' B' F00 cH1 N00 l0
  clear X0 hcd hTW hTE hB hX hV hrw hw1
  k_steps
  rename_i dS _ _ _ _ _ _ _ _ _ aLet vLet _ iLet ltLet _ oLet dLet _ aWord _ ltWord _ tk0 aLen _ ltLen _ oLen dLen _ aGr _ ltGr _ oGr dGr _ aRow _ ltRow _ F0 N0 _ tk3 t1 u1 v1 R1 F1 N1 K1
  unfold Stop
  have hl6 : (script.take 4 ++ [0, 1]).length ≤ 6 := by rw [List.length_append, List.length_take]; simp; omega
  have hl2 : 2 ≤ (script.take 4 ++ [0, 1]).length := by rw [List.length_append]; simp
  have hRn : ((script.take 4).length + (1 + 1)) = (script.take 4 ++ [0, 1]).length := by rw [List.length_append]; rfl
  rw [hRn] at R1
  generalize hlets : script.take 4 ++ [0, 1] = lets at iLet hl6 hl2 R1 hRn
  have hz1 : lets.length < 2 ^ 16 := by omega
  clear F0 N0
  refine loop_range (n := lets.length) (news := (aRow, listOf #[] 0) :: (aGr, listOf #[] 0) :: (aLen, listOf #[Value.int 0 tk0] 0) :: (aWord, listOf #[] 0) :: (aLet, listOf vLet.toArray 0) :: (s1.heap.objs.size + 1 + 1 + 1 + 1 + 1, oLet) :: (s1.heap.objs.size + 1 + 1 + 1 + 1, oNum0) :: (s1.heap.objs.size + 1 + 1 + 1, oTab0) :: (s1.heap.objs.size + 1 + 1, oGr) :: (s1.heap.objs.size + 1, oLen) :: ([(57, tabObj #[])] ++ [(62, tabObj #[])])) (fun i m news' => ∃ gl ll aW vW nW vR nR vG nG vL nL, GSt gl ∧ LSt LawQ ll ∧ m (Str.ofString "word") = some (.ref aW) ∧ m (Str.ofString "row") = some (.ref aRow) ∧
      IntsAre vW (palW lets i) ∧ IntsAre vR (rowK lets i) ∧ IntsAre vG (grK lets i) ∧ IntsAre vL (lensK lets i) ∧
      (∀ p ∈ gl ++ ll, p.1 ≠ aRow ∧ p.1 ≠ aGr ∧ p.1 ≠ aLen ∧ p.1 ≠ s1.heap.objs.size + 1 + 1 + 1 ∧ p.1 ≠ s1.heap.objs.size + 1 + 1 + 1 + 1) ∧ (∀ p ∈ gl, ∀ q ∈ ll, p.1 ≠ q.1) ∧ s1.heap.objs.size + 1 + 1 + 1 + 1 + 1 < aW ∧ @Ne Nat aW aRow ∧ @Ne Nat aW aGr ∧ @Ne Nat aW aLen ∧
      news' = (aRow, listOf vR.toArray nR) :: (aGr, listOf vG.toArray nG) :: (aLen, listOf vL.toArray nL) :: (aW, listOf vW.toArray nW) :: (aLet, listOf vLet.toArray 0) :: (s1.heap.objs.size + 1 + 1 + 1 + 1 + 1, oLet) :: (s1.heap.objs.size + 1 + 1 + 1 + 1, oNum0) :: (s1.heap.objs.size + 1 + 1 + 1, oTab0) :: (s1.heap.objs.size + 1 + 1, oGr) :: (s1.heap.objs.size + 1, oLen) :: (gl ++ ll))
      rfl R1 ?small ?size F1 (news_sub N1 ?sub) ?init ?turn ?done
  case small => exact small_one (by omega) (by omega) (by omega) (by omega)
  case size => rw [rangeSize_nat]; omega
  case sub =>
    intro q hq
    simp only [List.cons_append, List.nil_append, List.mem_cons, List.not_mem_nil, or_false] at hq ⊢
    rcases hq with h | h | h | h | h | h | h | h | h | h | h | h <;> simp [h]
  case init =>
    refine ⟨[(57, tabObj #[])], [(62, tabObj #[])], aWord, [], 0, [], 0, [], 0, [.int 0 tk0], 0, .zero, .zero, rfl, rfl, .nil, .nil, .nil, .cons 0 tk0 .nil, ?_, ?_, ?_, ?_, ?_, ?_, rfl⟩
    · intro q hq
      simp only [List.cons_append, List.nil_append, List.mem_cons, List.not_mem_nil, or_false] at hq
      rcases hq with rfl | rfl <;> refine ⟨neN ?_, neN ?_, neN ?_, neN ?_, neN ?_⟩ <;> dsimp only <;> omega
    · intro q hq r hr; simp only [List.mem_cons, List.not_mem_nil, or_false] at hq hr; subst hq; subst hr; exact neN (by decide)
    · omega
    · exact neN (by omega)
    · exact neN (by omega)
    · exact neN (by omega)
  case turn =>
    rintro i t m₁ news₁ h tk own I hi1 ⟨gl, ll, aW, vW, nW, vR, nR, vG, nG, vL, nL, hgl, hll, hmW, hmR, iW, iR, iG, iL, dA, dD, e1, e2, e3, e4, rfl⟩ hnI ⟨oI, hIo⟩ hown hLI F2 N2
    replace F2 := fr_know (fr_know F2 (x := Str.ofString "word") hmW) (x := Str.ofString "row") hmR
    simp only [List.cons_append, List.append_assoc] at N2
    clear F1 N1
    have hIR : aRow ≠ I := hnI _ (.head _)
    have hIG : aGr ≠ I := hnI _ (.tail _ (.head _))
    have hIL : aLen ≠ I := hnI _ (.tail _ (.tail _ (.head _)))
    have gR : ∀ p ∈ gl, p.1 ≠ aRow := fun p hp => (dA p (List.mem_append_left _ hp)).1
    have gG : ∀ p ∈ gl, p.1 ≠ aGr := fun p hp => (dA p (List.mem_append_left _ hp)).2.1
    have gL : ∀ p ∈ gl, p.1 ≠ aLen := fun p hp => (dA p (List.mem_append_left _ hp)).2.2.1
    have g3 := fun p hp => (dA p (List.mem_append_left ll hp)).2.2.2.1
    have g4 := fun p hp => (dA p (List.mem_append_left ll hp)).2.2.2.2
    have lR : ∀ p ∈ ll, p.1 ≠ aRow := fun p hp => (dA p (List.mem_append_right _ hp)).1
    have lG : ∀ p ∈ ll, p.1 ≠ aGr := fun p hp => (dA p (List.mem_append_right _ hp)).2.1
    have lL : ∀ p ∈ ll, p.1 ≠ aLen := fun p hp => (dA p (List.mem_append_right _ hp)).2.2.1
    have l3 := fun p hp => (dA p (List.mem_append_right gl hp)).2.2.2.1
    have l4 := fun p hp => (dA p (List.mem_append_right gl hp)).2.2.2.2
    have oR : ∀ p ∈ own, p.1 ≠ aRow := fun p hp e => hIR (e.symm.trans (hown p hp))
    have oG : ∀ p ∈ own, p.1 ≠ aGr := fun p hp e => hIG (e.symm.trans (hown p hp))
    have oL : ∀ p ∈ own, p.1 ≠ aLen := fun p hp e => hIL (e.symm.trans (hown p hp))
    have hRk := rowK_ok (lets := lets) (k := i) (by omega)
    have hPl := palW_len63 lets (k := i) (by omega)
    k_steps
    unfold Stop
    rename Fr _ _ _ _ => F3
    rename News _ _ _ _ => N3
    have hLI' : s1.heap.objs.size < I := hLI
    have o57 : ∀ p ∈ own, p.1 ≠ 57 := fun p hp => neN (by have h9 : @Eq Nat p.1 I := hown p hp; omega)
    have o62 : ∀ p ∈ own, p.1 ≠ 62 := fun p hp => neN (by have h9 : @Eq Nat p.1 I := hown p hp; omega)
    obtain ⟨o57g, m57⟩ := hgl.mem57
    have l57 : ∀ p ∈ ll, p.1 ≠ 57 := fun p hp => Ne.symm (dD _ m57 p hp)
    have hnIg : ∀ p ∈ gl, p.1 ≠ I := fun p hp => hnI p (by news_mem)
    have hnIl : ∀ p ∈ ll, p.1 ≠ I := fun p hp => hnI p (by news_mem)
    refine Claim2.use (growth_call w aLet aLen aRow vLet vL vR lets (lensK lets i) (rowK lets i) 0 nL nR _ _ gl (([(aRow, listOf vR.toArray nR), (aGr, listOf vG.toArray nG), (aLen, listOf vL.toArray nL), (aW, listOf vW.toArray nW), (aLet, listOf vLet.toArray 0), (s1.heap.objs.size + 1 + 1 + 1 + 1 + 1, oLet), (s1.heap.objs.size + 1 + 1 + 1 + 1, oNum0), (s1.heap.objs.size + 1 + 1 + 1, oTab0), (s1.heap.objs.size + 1 + 1, oGr), (s1.heap.objs.size + 1, oLen)]) ++ (ll ++ own)) hgl iLet iL iR hz1 (by rw [lensK_length]; omega) (by rw [lensK_length, hRk.1]; omega) (by rw [hRk.1]; omega) (by rw [hRk.1]; exact hRk.2.1) hRk.2.2.1 (by rw [hRk.1]; exact hRk.2.2.2) ?h57 (aRow :: aGr :: aLen :: I :: (s1.heap.objs.size + 1 + 1 + 1) :: (s1.heap.objs.size + 1 + 1 + 1 + 1) :: ll.map Prod.fst) ?hds ?hgr (by news_mem) (by news_mem) (by news_mem)) B' F3 X' (news_sub N3 (mem_sh (fx := ([(aRow, listOf vR.toArray nR), (aGr, listOf vG.toArray nG), (aLen, listOf vL.toArray nL), (aW, listOf vW.toArray nW), (aLet, listOf vLet.toArray 0), (s1.heap.objs.size + 1 + 1 + 1 + 1 + 1, oLet), (s1.heap.objs.size + 1 + 1 + 1 + 1, oNum0), (s1.heap.objs.size + 1 + 1 + 1, oTab0), (s1.heap.objs.size + 1 + 1, oGr), (s1.heap.objs.size + 1, oLen)])))) T' rfl rfl (by decide) (by decide) ?ret
    case h57 =>
      intro q hq
      simp only [List.cons_append, List.nil_append, List.mem_cons, List.mem_append] at hq
      rcases hq with rfl | rfl | rfl | rfl | rfl | rfl | rfl | rfl | rfl | rfl | hq | hq
      all_goals first | exact l57 _ hq | exact o57 _ hq | exact neN (by dsimp only; omega)
    case hds =>
      intro d hd
      simp only [List.mem_cons, List.mem_map] at hd
      rcases hd with rfl | rfl | rfl | rfl | rfl | rfl | ⟨q, hq, rfl⟩
      · exact ⟨_, by news_mem⟩
      · exact ⟨_, by news_mem⟩
      · exact ⟨_, by news_mem⟩
      · exact ⟨oI, by news_mem⟩
      · exact ⟨oTab0, by news_mem⟩
      · exact ⟨oNum0, by news_mem⟩
      · exact ⟨q.2, List.mem_append_right _ (List.mem_append_left _ hq)⟩
    case hgr =>
      intro p hp d hd
      simp only [List.mem_cons, List.mem_map] at hd
      rcases hd with rfl | rfl | rfl | rfl | rfl | rfl | ⟨q, hq, rfl⟩
      · exact gR p hp
      · exact gG p hp
      · exact gL p hp
      · exact hnIg p hp
      · exact g3 p hp
      · exact g4 p hp
      · exact dD p hp q hq
    rintro v news2 h2 tk2 F4 N4 ⟨t2, gl2, rfl, rfl, hgl2, hgd⟩
    replace N4 := news_sub N4 (mem_sh2 (fx := ([(aRow, listOf vR.toArray nR), (aGr, listOf vG.toArray nG), (aLen, listOf vL.toArray nL), (aW, listOf vW.toArray nW), (aLet, listOf vLet.toArray 0), (s1.heap.objs.size + 1 + 1 + 1 + 1 + 1, oLet), (s1.heap.objs.size + 1 + 1 + 1 + 1, oNum0), (s1.heap.objs.size + 1 + 1 + 1, oTab0), (s1.heap.objs.size + 1 + 1, oGr), (s1.heap.objs.size + 1, oLen)])))
    simp only [List.cons_append, List.nil_append] at N4
    clear F3 N3
    have gR2 : ∀ p ∈ gl2, p.1 ≠ aRow := fun p hp => hgd p hp _ (.head _)
    have gG2 : ∀ p ∈ gl2, p.1 ≠ aGr := fun p hp => hgd p hp _ (.tail _ (.head _))
    have gL2 : ∀ p ∈ gl2, p.1 ≠ aLen := fun p hp => hgd p hp _ (.tail _ (.tail _ (.head _)))
    have gI2 : ∀ p ∈ gl2, p.1 ≠ I := fun p hp => hgd p hp _ (.tail _ (.tail _ (.tail _ (.head _))))
    have gD2 : ∀ p ∈ gl2, ∀ q ∈ ll, p.1 ≠ q.1 := fun p hp q hq => hgd p hp _ (.tail _ (.tail _ (.tail _ (.tail _ (.tail _ (.tail _ (List.mem_map_of_mem hq)))))))
    have g32 := fun p hp => hgd p hp _ (.tail _ (.tail _ (.tail _ (.tail _ (.head _)))))
    have g42 := fun p hp => hgd p hp _ (.tail _ (.tail _ (.tail _ (.tail _ (.tail _ (.head _))))))
    dsimp only
    k_steps
    unfold Stop
    rename Fr _ _ _ _ => F5
    rename News _ _ _ _ => N5
    rw [show ((0 : Int) + (i : Int)).toNat = i by omega, List.push_toArray] at N5
    have iG2 : IntsAre (vG ++ [Value.int (growthOf lets (lensK lets i) (rowK lets i) (lets.getD i 0)) t2]) (grK lets (i + 1)) := by rw [grK_succ]; exact ints_snoc iG
    refine lam_make (ll := ll) (rest := [(aRow, listOf vR.toArray nR), (aGr, listOf (vG ++ [Value.int (growthOf lets (lensK lets i) (rowK lets i) (lets.getD i 0)) t2]).toArray (nG + 1)), (aLen, listOf vL.toArray nL), (aW, listOf vW.toArray nW), (aLet, listOf vLet.toArray 0), (s1.heap.objs.size + 1 + 1 + 1 + 1 + 1, oLet), (s1.heap.objs.size + 1 + 1 + 1 + 1, oNum0), (s1.heap.objs.size + 1 + 1 + 1, oTab0), (s1.heap.objs.size + 1 + 1, oGr), (s1.heap.objs.size + 1, oLen)] ++ (gl2 ++ own)) F5 (news_sub N5 mem_sh3) T' codeHd hll ?h62 (aRow :: aGr :: aLen :: I :: (s1.heap.objs.size + 1 + 1 + 1) :: (s1.heap.objs.size + 1 + 1 + 1 + 1) :: gl2.map Prod.fst) ?hds2 ?hlr2 rfl rfl rfl rfl ?cont
    case h62 =>
      obtain ⟨o62l, m62⟩ := hll.mem62
      intro q hq
      simp only [List.cons_append, List.nil_append, List.mem_cons, List.mem_append] at hq
      rcases hq with rfl | rfl | rfl | rfl | rfl | rfl | rfl | rfl | rfl | rfl | hq | hq
      all_goals first | exact gD2 _ hq _ m62 | exact o62 _ hq | exact neN (by dsimp only; omega)
    case hds2 =>
      intro d hd
      simp only [List.mem_cons, List.mem_map] at hd
      rcases hd with rfl | rfl | rfl | rfl | rfl | rfl | ⟨q, hq, rfl⟩
      · exact ⟨_, by news_mem⟩
      · exact ⟨_, by news_mem⟩
      · exact ⟨_, by news_mem⟩
      · exact ⟨oI, by news_mem⟩
      · exact ⟨oTab0, by news_mem⟩
      · exact ⟨oNum0, by news_mem⟩
      · exact ⟨q.2, List.mem_append_right _ (List.mem_append_left _ hq)⟩
    case hlr2 =>
      intro p hp d hd
      simp only [List.mem_cons, List.mem_map] at hd
      rcases hd with rfl | rfl | rfl | rfl | rfl | rfl | ⟨q, hq, rfl⟩
      · exact lR p hp
      · exact lG p hp
      · exact lL p hp
      · exact hnIl p hp
      · exact l3 p hp
      · exact l4 p hp
      · exact Ne.symm (gD2 q hq p hp)
    intro f cc occ pmc ctvc ll2 h5 tk5 F6 N6 hll2 hcm hco hld hlf
    clear F5 N5
    replace N6 := news_sub N6 mem_sh4
    obtain ⟨vqc, tqc, dq1, dq2⟩ := hco
    have lR2 : ∀ p ∈ ll2, p.1 ≠ aRow := fun p hp => hld p hp _ (.head _)
    have lG2 : ∀ p ∈ ll2, p.1 ≠ aGr := fun p hp => hld p hp _ (.tail _ (.head _))
    have lL2 : ∀ p ∈ ll2, p.1 ≠ aLen := fun p hp => hld p hp _ (.tail _ (.tail _ (.head _)))
    have lI2 : ∀ p ∈ ll2, p.1 ≠ I := fun p hp => hld p hp _ (.tail _ (.tail _ (.tail _ (.head _))))
    have lD2 : ∀ p ∈ gl2, ∀ q ∈ ll2, p.1 ≠ q.1 := fun p hp q hq => Ne.symm (hld q hq _ (.tail _ (.tail _ (.tail _ (.tail _ (.tail _ (.tail _ (List.mem_map_of_mem hp))))))))
    have l32 := fun p hp => hld p hp _ (.tail _ (.tail _ (.tail _ (.tail _ (.head _)))))
    have l42 := fun p hp => hld p hp _ (.tail _ (.tail _ (.tail _ (.tail _ (.tail _ (.head _))))))
    have hfR : @LT.lt Nat _ aRow f := hlf _ (List.mem_append_right _ (.head _))
    simp only [List.cons_append, List.nil_append] at N6
    k_steps
    unfold Stop
    refine Claim2.use (insort_call w aRow f vR (rowK lets i) lets nR _ _ _ _ _ _ [] _ _ iR (by rw [hRk.1]; omega) (fun x hx => ⟨(hRk.2.1 x hx).1, by have := (hRk.2.1 x hx).2; omega⟩) hRk.2.2.1 (by omega) (by omega)) B' F6 X' N6 T' rfl
      ⟨.tail _ (.head _), lam_key w f cc (s1.heap.objs.size + 1 + 1 + 1 + 1 + 1) aLet _ _ _ _ _ pmc ctvc occ oLet vqc tqc vLet lets 0 dq1 dq2 dLet iLet hz1, sub4 (.tail _ (.head _)) (by news_mem) (by news_mem) (by news_mem), rfl, (fun _ h => nomatch h), ?hpost⟩ (by decide) (by decide) ?hcont
    case hpost =>
      intro q hq
      simp only [List.mem_cons, List.mem_append] at hq
      rcases hq with rfl | rfl | rfl | rfl | rfl | rfl | rfl | rfl | rfl | rfl | hq | hq | hq
      all_goals first | exact lR2 _ hq | exact gR2 _ hq | exact oR _ hq | exact neN (by dsimp only; omega)
    rintro v6 news6 h6 tk6 F7 N7 ⟨vR2, rfl, iR2⟩
    replace N7 := news_drop2 N7
    have iR3 : IntsAre vR2 (rowK lets (i + 1)) := by
      rw [show ((0 : Int) + (i : Int)) = (i : Int) by omega, Int.toNat_natCast] at iR2
      exact iR2
    clear F6 N6
    dsimp only
    k_steps
    unfold Stop
    rename Fr _ _ _ _ => F8
    rename News _ _ _ _ => N8
    rename IntsAre _ _ => iWx
    refine Claim2.use (mirror_call w _ _ _ _ iWx (by rw [List.length_append]; simp only [List.length_cons, List.length_nil]; omega)) B' F8 X' N8 T' rfl (by news_mem) (by decide) (by decide) ?_
    rintro v8 news8 h8 tk8 F9 N9 ⟨aW2, vW2, nW2, rfl, rfl, hlt8, iW2⟩
    have hI8 : @LT.lt Nat _ I aW2 := hlt8 (I, oI) (by news_mem)
    have hL8 : s1.heap.objs.size + 1 + 1 + 1 + 1 + 1 < aW2 := hlt8 (_, oLet) (by news_mem)
    have hR8 : @LT.lt Nat _ aRow aW2 := hlt8 _ (.tail _ (.tail _ (.head _)))
    replace N9 := news_drop2 (news_drop2 N9)
    have iW3 : IntsAre vW2 (palW lets (i + 1)) := by
      rw [show ((0 : Int) + (i : Int)) = (i : Int) by omega, Int.toNat_natCast] at iW2
      exact iW2
    have hPl2 := palW_len63 lets (k := i + 1) (by omega)
    clear F8 N8 hlt8 iW2
    dsimp only
    k_steps
    dsimp only [TurnPost]
    rename_i hE0 tkE hE FE NE
    rw [List.push_toArray] at NE
    refine ⟨_, _, _, _, rfl, FE, NE, (fun q hq => by news_mem), (aRow, listOf vR2.toArray (nR + 1)) :: (aGr, listOf (vG ++ [Value.int (growthOf lets (lensK lets i) (rowK lets i) (lets.getD i 0)) t2]).toArray (nG + 1)) :: (aLen, listOf (vL ++ [Value.int ((palW lets (i + 1)).length : Int) (tkE + 1)]).toArray (nL + 1)) :: (aW2, listOf vW2.toArray nW2) :: (aLet, listOf vLet.toArray 0) :: (s1.heap.objs.size + 1 + 1 + 1 + 1 + 1, oLet) :: (s1.heap.objs.size + 1 + 1 + 1 + 1, oNum0) :: (s1.heap.objs.size + 1 + 1 + 1, oTab0) :: (s1.heap.objs.size + 1 + 1, oGr) :: (s1.heap.objs.size + 1, oLen) :: (gl2 ++ ll2), ?sub, ?nI,
      gl2, ll2, aW2, vW2, nW2, vR2, nR + 1, _, nG + 1, _, nL + 1, hgl2, hll2, rfl, rfl, iW3, iR3, iG2, (by rw [lensK_succ]; exact ints_snoc iL), ?dA, lD2, ?e1, ?e2, ?e3, ?e4, rfl⟩
    case sub =>
      intro q hq
      simp only [List.mem_cons, List.mem_append] at hq
      rcases hq with rfl | rfl | rfl | rfl | rfl | rfl | rfl | rfl | rfl | rfl | hq | hq <;> news_mem
    case nI =>
      intro q hq
      simp only [List.mem_cons, List.mem_append] at hq
      rcases hq with rfl | rfl | rfl | rfl | rfl | rfl | rfl | rfl | rfl | rfl | hq | hq
      · exact hIR
      · exact hIG
      · exact hIL
      · exact neN (by dsimp only; omega)
      · exact hnI (aLet, _) (by news_mem)
      · exact hnI (_, oLet) (by news_mem)
      · exact hnI (_, oNum0) (by news_mem)
      · exact hnI (_, oTab0) (by news_mem)
      · exact hnI (_, oGr) (by news_mem)
      · exact hnI (_, oLen) (by news_mem)
      · exact gI2 _ hq
      · exact lI2 _ hq
    case dA =>
      intro q hq
      rcases List.mem_append.mp hq with hq | hq
      · exact ⟨gR2 q hq, gG2 q hq, gL2 q hq, g32 q hq, g42 q hq⟩
      · exact ⟨lR2 q hq, lG2 q hq, lL2 q hq, l32 q hq, l42 q hq⟩
    case e1 => omega
    case e2 => omega
    case e3 => omega
    case e4 => omega
  case done =>
    rintro m₁ news₁ h tk ⟨gl, ll, aW, vW, nW, vR, nR, vG, nG, vL, nL, hgl, hll, hmW, hmR, iW, iR, iG, iL, dA, dD, e1, e2, e3, e4, rfl⟩ F2 N2
    replace F2 := fr_know (fr_know F2 (x := Str.ofString "word") hmW) (x := Str.ofString "row") hmR
    clear F1 N1
    have p3 := fun p hp => (dA p hp).2.2.2.1
    have p4 := fun p hp => (dA p hp).2.2.2.2
    have p3a := fun p hp => p3 p (List.mem_append_left ll hp)
    have p3b := fun p hp => p3 p (List.mem_append_right gl hp)
    have hRk := rowK_ok (lets := lets) (k := lets.length) (by omega)
    have hPl := palW_len63 lets (k := lets.length) hl6
    have hLl := lensK_length lets lets.length
    have hGl := grK_length lets lets.length
    k_steps
    ((unfold Stop; k_dflt (refine LCg.ListComp_U (F₀ := by k_asm) (by with_unfolding_all rfl) (by decide) (by rfl) (by decide) (by rfl) ?_)))
    k_steps
    unfold Stop
    rename Fr _ _ _ _ => F3
    rename News _ _ _ _ => N3
    rename IsRange _ _ _ _ _ _ _ _ => R3
    refine LCg.CompSrc.range (n := lets.length) rfl F3 N3 R3 (small_one (by omega) (by omega) (by omega) (by omega)) (by rw [rangeSize_nat]; omega) (by rw [sizeLine_eq]; omega) ?_
    intro g3
    refine rest_U (fun k => (lensK lets lets.length).getD (k + 1) 0 - (lensK lets lets.length).getD k 0) trivial ?_ ?_
    rotate_left
    · intro k v I oI C oC D ys m₂ h tk hk hP hC hx FT NT off
      obtain ⟨t, rfl⟩ := hP
      clear F3 N3
      k_steps
      all_goals first
        | exact ⟨_, _, rfl, FT, NT⟩
        | rw [show ((0 : Int) + (k : Int) + 1).toNat = k + 1 by omega, show ((0 : Int) + (k : Int)).toNat = k by omega]
    · intro ys hys
      rw [← growths_ok lets lets.length (Nat.le_refl _)] at hys
      unfold LCg.FinE
      intro D3 h3 tk3 F4 N4 off4
      clear F3 N3
      iterate 3 walk1
      rename Fr _ _ _ _ => F5
      rename News _ _ _ _ => N5
      replace N5 := news_drop1 N5
      k_steps
      unfold Stop
      refine Claim2.use (table_call w _ _ _ _ iW (by omega)) B' F5 X' N5 T' rfl (by news_mem) (by decide) (by decide) ?_
      rintro v6 news6 h6 tk6 F6 N6 ⟨aT, vT, nT, rfl, rfl, hltT, iT⟩
      have hT3 : s1.heap.objs.size + 1 + 1 + 1 + 1 + 1 < aT := hltT (_, oLet) (by news_mem)
      have hT4 : @LT.lt Nat _ aW aT := hltT _ (.tail _ (.tail _ (.tail _ (.head _))))
      clear F5 N5 hltT
      dsimp only
      k_steps
      ((unfold Stop; k_dflt (refine LCg.ListComp_U (F₀ := by k_asm) (by with_unfolding_all rfl) (by decide) (by rfl) (by decide) (by rfl) ?_)))
      k_steps
      unfold Stop
      rename Fr _ _ _ _ => F7
      rename News _ _ _ _ => N7
      rename IsRange _ _ _ _ _ _ _ _ => R7
      refine LCg.CompSrc.range (n := (palW lets lets.length).length) rfl F7 N7 R7 (small_one (by omega) (by omega) (by omega) (by omega)) (by rw [rangeSize_nat]; omega) (by rw [sizeLine_eq]; omega) ?_
      intro g7
      refine rest_U (fun p => (p : Int) + 1 - (grK lets lets.length).getD (cntLe (lensK lets lets.length) (p : Int) - 1) 0) trivial ?_ ?_
      rotate_left
      · intro k v I oI C oC D ys8 m₂ h tk hk hP hC hx FT NT off
        obtain ⟨t, rfl⟩ := hP
        clear F7 N7
        have hcn := lens_cnt lets lets.length k hk
        k_steps
        unfold Stop
        refine Claim2.use (bisR_call w aLen vL (lensK lets lets.length) nL _ _ iL (by omega) (lens_sorted lets lets.length)) B' FT X' NT T' rfl (by news_mem) (by decide) (by decide) ?_
        rintro v9 news9 h9 tk9 F9 N9 ⟨t9, rfl, rfl⟩
        clear FT NT
        dsimp only
        rw [show (0 : Int) + (k : Int) = (k : Int) by omega] at *
        generalize hcc : cntLe (lensK lets lets.length) (k : Int) = c at *
        k_steps
        all_goals first
          | refine EltEnd.of F9 N9
          | rw [hcc, show ((c : Int) - 1).toNat = c - 1 by omega]
      · intro ys8 hys8
        rw [← table_ok lets lets.length (Nat.le_refl _)] at hys8
        unfold LCg.FinE
        intro D8 h8 tk8 F8 N8 off8
        clear F7 N7
        k_steps
        ((unfold Stop; k_dflt (refine LCt.ListComp_T (F₀ := by k_asm) (by with_unfolding_all rfl) (by decide) (by rfl) (by decide) (by rfl) ?_)))
        k_steps
        unfold Stop
        rename Fr _ _ _ _ => F8
        rename News _ _ _ _ => N8
        refine LCt.CompSrcT.ledger rfl F8 N8 (by news_mem) (kmk_sz iT (by rw [table_length, sizeLine_eq]; omega)) ?_
        intro g8
        rw [kmk_size_eq iT]
        refine rest_T (fun i => false) (fun i => 0) (.inr ⟨_, by news_mem, rfl, _, rfl⟩) ?_ ?_
        rotate_left
        · intro i v I oI C oC D ys m₂ h tk hin hP hC hx FT NT off
          obtain ⟨t, rfl⟩ := item_ints iT hP
          clear F8 N8
          k_steps
          all_goals exact EltEnd.of FT NT
        · intro ys hys
          have hys0 : IntsAre ys [] := by
            rw [show List.filter (fun _ : Nat => false) (List.range (table (palW lets lets.length)).length) = [] from List.filter_eq_nil_iff.mpr (by simp)] at hys
            exact hys
          clear hys
          unfold LCg.FinE
          intro D9 h9 tk9 F9 N9 off9
          clear F8 N8
          k_steps
          unfold Stop
          clear hys8 off8 hys0 off9
          have q1 : @LT.lt Nat _ (s1.heap.objs.size + 1 + 1 + 1 + 1 + 1) aLet := by omega
          have q2 : @LT.lt Nat _ (s1.heap.objs.size + 1 + 1 + 1 + 1 + 1) aLen := by omega
          have q3 : @LT.lt Nat _ (s1.heap.objs.size + 1 + 1 + 1 + 1 + 1) aGr := by omega
          have q4 : @LT.lt Nat _ (s1.heap.objs.size + 1 + 1 + 1 + 1 + 1) aRow := by omega
          clear ltLet ltWord ltLen ltGr ltRow
          rename Fr _ _ _ _ => F9
          refine for_list F9 ?_
          k_steps
          rename Obj => oTab1
          rename_i D10 V10 h10 F10 N10 I10 L10
          obtain ⟨pl, hpl⟩ := hll.tab
          refine ⟨D10, V10, 0, _, ([(D10, listOf V10.toArray 0), (aT, listOf vT.toArray nT), (aRow, listOf vR.toArray nR), (aGr, listOf vG.toArray nG), (aLen, listOf vL.toArray nL), (aW, listOf vW.toArray nW), (aLet, listOf vLet.toArray 0), (s1.heap.objs.size + 1 + 1 + 1 + 1 + 1, oLet), (s1.heap.objs.size + 1 + 1 + 1 + 1, oNum0), (s1.heap.objs.size + 1 + 1 + 1, oTab1), (s1.heap.objs.size + 1 + 1, oGr), (s1.heap.objs.size + 1, oLen), (62, tabObj pl)]) ++ gl, fun i m nx => ∃ gl, GSt gl ∧ m (Str.ofString "word") = some (.ref aW) ∧ m (Str.ofString "row") = some (.ref aRow) ∧ nx = ([(D10, listOf V10.toArray 0), (aT, listOf vT.toArray nT), (aRow, listOf vR.toArray nR), (aGr, listOf vG.toArray nG), (aLen, listOf vL.toArray nL), (aW, listOf vW.toArray nW), (aLet, listOf vLet.toArray 0), (s1.heap.objs.size + 1 + 1 + 1 + 1 + 1, oLet), (s1.heap.objs.size + 1 + 1 + 1 + 1, oNum0), (s1.heap.objs.size + 1 + 1 + 1, oTab1), (s1.heap.objs.size + 1 + 1, oGr), (s1.heap.objs.size + 1, oLen), (62, tabObj pl)]) ++ gl, rfl, rfl, F10, news_sub N10 ?subS4, ⟨gl, hgl, rfl, rfl, rfl⟩, (fun i m' nx hJ => by obtain ⟨gl, _, _, _, rfl⟩ := hJ; exact .head _), ?turnS4, ?doneS4⟩
          case subS4 =>
            intro q hq
            simp only [List.cons_append, List.nil_append, List.mem_cons] at hq
            rcases hq with rfl | rfl | rfl | rfl | rfl | rfl | rfl | rfl | rfl | rfl | rfl | rfl | rfl | hq <;> news_mem
          case turnS4 =>
            rintro i v m₁ news₁ h tk I oI hi hv ⟨gl, hgl, hmW, hmR, rfl⟩ off hLI F2 N2
            replace F2 := fr_know (fr_know F2 (x := Str.ofString "word") hmW) (x := Str.ofString "row") hmR
            obtain ⟨t, rfl⟩ := item_ints I10 (by simpa using hv)
            generalize (lets ++ _).getD i 0 = x at *
            clear F10 N10
            simp only [List.cons_append, List.nil_append] at N2
            k_steps
            unfold Stop
            rename Fr _ _ _ _ => F3
            rename News _ _ _ _ => N3
            have hLI' : s1.heap.objs.size < I := hLI
            refine Claim2.use (growth_call w aLet aLen aRow vLet vL vR lets (lensK lets lets.length) (rowK lets lets.length) 0 nL nR x _ gl ((I, oI) :: ([(D10, listOf V10.toArray 0), (aT, listOf vT.toArray nT), (aRow, listOf vR.toArray nR), (aGr, listOf vG.toArray nG), (aLen, listOf vL.toArray nL), (aW, listOf vW.toArray nW), (aLet, listOf vLet.toArray 0), (s1.heap.objs.size + 1 + 1 + 1 + 1 + 1, oLet), (s1.heap.objs.size + 1 + 1 + 1 + 1, oNum0), (s1.heap.objs.size + 1 + 1 + 1, oTab1), (s1.heap.objs.size + 1 + 1, oGr), (s1.heap.objs.size + 1, oLen), (62, tabObj pl)])) hgl iLet iL iR hz1 (by rw [lensK_length]; omega) (by rw [lensK_length, hRk.1]; omega) (by rw [hRk.1]; omega) (by rw [hRk.1]; exact hRk.2.1) hRk.2.2.1 (by rw [hRk.1]; exact hRk.2.2.2) ?h57S5 [I] ?hdsS5 ?hgrS5 (by news_mem) (by news_mem) (by news_mem)) B' F3 X' (news_sub N3 (mem_sh5 (fx := ([(D10, listOf V10.toArray 0), (aT, listOf vT.toArray nT), (aRow, listOf vR.toArray nR), (aGr, listOf vG.toArray nG), (aLen, listOf vL.toArray nL), (aW, listOf vW.toArray nW), (aLet, listOf vLet.toArray 0), (s1.heap.objs.size + 1 + 1 + 1 + 1 + 1, oLet), (s1.heap.objs.size + 1 + 1 + 1 + 1, oNum0), (s1.heap.objs.size + 1 + 1 + 1, oTab1), (s1.heap.objs.size + 1 + 1, oGr), (s1.heap.objs.size + 1, oLen), (62, tabObj pl)])))) T' rfl rfl (by decide) (by decide) ?retS5
            case h57S5 =>
              intro q hq
              simp only [List.mem_cons, List.not_mem_nil, or_false] at hq
              rcases hq with rfl | rfl | rfl | rfl | rfl | rfl | rfl | rfl | rfl | rfl | rfl | rfl | rfl | rfl
              all_goals exact neN (by dsimp only; omega)
            case hdsS5 =>
              intro d hd
              rw [List.mem_singleton] at hd
              subst hd
              exact ⟨oI, .head _⟩
            case hgrS5 =>
              intro p hp d hd
              rw [List.mem_singleton] at hd
              subst hd
              exact off p (List.mem_append_right _ hp)
            rintro v news2 h2 tk2 F4 N4 ⟨t2, gl2, rfl, rfl, hgl2, hgd⟩
            replace N4 := news_sub N4 (mem_sh6 (fx := ([(D10, listOf V10.toArray 0), (aT, listOf vT.toArray nT), (aRow, listOf vR.toArray nR), (aGr, listOf vG.toArray nG), (aLen, listOf vL.toArray nL), (aW, listOf vW.toArray nW), (aLet, listOf vLet.toArray 0), (s1.heap.objs.size + 1 + 1 + 1 + 1 + 1, oLet), (s1.heap.objs.size + 1 + 1 + 1 + 1, oNum0), (s1.heap.objs.size + 1 + 1 + 1, oTab1), (s1.heap.objs.size + 1 + 1, oGr), (s1.heap.objs.size + 1, oLen), (62, tabObj pl)])))
            simp only [List.cons_append, List.nil_append] at N4
            clear F3 N3
            have gI2 : ∀ p ∈ gl2, p.1 ≠ I := fun p hp => hgd p hp _ (.head _)
            dsimp only
            have htl := table_letter lets lets.length (Nat.le_refl _) x
            generalize growthOf lets (lensK lets lets.length) (rowK lets lets.length) x = gv at *
            k_steps
            unfold Stop
            rename Fr _ _ _ _ => F5
            rename News _ _ _ _ => N5
            rename IntsAre _ _ => iX
            refine Claim2.use (table_call w _ _ _ _ iX (by rw [List.length_append, List.length_singleton]; omega)) B' F5 X' N5 T' rfl (by news_mem) (by decide) (by decide) ?_
            rintro v6 news6 h6 tk6 F6 N6 ⟨aX, vX, nX, rfl, rfl, hltX, iX2⟩
            rw [htl] at iX2
            have hTl : (table (palW lets lets.length)).length ≤ 63 := by rw [table_length]; exact hPl
            clear F5 N5 hltX
            dsimp only
            k_steps
            dsimp only [TurnPost]
            rename Fr _ _ _ _ => FE
            rename News _ _ _ _ => NE
            refine ⟨_, _, _, _, rfl, FE, NE, ?ownS5, ([(D10, listOf V10.toArray 0), (aT, listOf vT.toArray nT), (aRow, listOf vR.toArray nR), (aGr, listOf vG.toArray nG), (aLen, listOf vL.toArray nL), (aW, listOf vW.toArray nW), (aLet, listOf vLet.toArray 0), (s1.heap.objs.size + 1 + 1 + 1 + 1 + 1, oLet), (s1.heap.objs.size + 1 + 1 + 1 + 1, oNum0), (s1.heap.objs.size + 1 + 1 + 1, oTab1), (s1.heap.objs.size + 1 + 1, oGr), (s1.heap.objs.size + 1, oLen), (62, tabObj pl)]) ++ gl2, ?subS5, ?nIS5, gl2, hgl2, rfl, rfl, rfl⟩
            case ownS5 =>
              intro q hq
              rw [List.mem_singleton] at hq
              subst hq
              news_mem
            case subS5 =>
              intro q hq
              simp only [List.cons_append, List.nil_append, List.mem_cons] at hq
              rcases hq with rfl | rfl | rfl | rfl | rfl | rfl | rfl | rfl | rfl | rfl | rfl | rfl | rfl | hq <;> news_mem
            case nIS5 =>
              intro q hq
              rcases List.mem_append.mp hq with hq | hq
              · exact off q (List.mem_append_left _ hq)
              · exact gI2 q hq
          case doneS4 =>
            rintro m₁ news₁ h tk ⟨gl, hgl, hmW, hmR, rfl⟩ F2 N2
            clear F10 N10
            obtain ⟨pg, hpg⟩ := hgl.tab
            replace N2 := news_sub (news' := (57, tabObj pg) :: ([(D10, listOf V10.toArray 0), (aT, listOf vT.toArray nT), (aRow, listOf vR.toArray nR), (aGr, listOf vG.toArray nG), (aLen, listOf vL.toArray nL), (aW, listOf vW.toArray nW), (aLet, listOf vLet.toArray 0), (s1.heap.objs.size + 1 + 1 + 1 + 1 + 1, oLet), (s1.heap.objs.size + 1 + 1 + 1 + 1, oNum0), (s1.heap.objs.size + 1 + 1 + 1, oTab1), (s1.heap.objs.size + 1 + 1, oGr), (s1.heap.objs.size + 1, oLen), (62, tabObj pl)])) N2 (by
              intro q hq
              rcases List.mem_cons.mp hq with rfl | hq
              · exact List.mem_append_right _ hpg
              · exact List.mem_append_left _ hq)
            replace F2 := fr_know (fr_know F2 (x := Str.ofString "word") hmW) (x := Str.ofString "row") hmR
            k_steps
            unfold Stop
            rename Fr _ _ _ _ => F3
            rename News _ _ _ _ => N3
            rename IsRange _ _ _ _ _ _ _ _ => RS
            refine LCg.CompSrc.range (n := (palW lets lets.length).length) rfl F3 N3 RS (small_one (by omega) (by omega) (by omega) (by omega)) (by rw [rangeSize_nat]; omega) (by rw [sizeLine_eq]; omega) ?_
            intro gS
            refine rest_U (fun p : Nat => (p : Int) + 1 - (table (palW lets lets.length)).getD p 0) trivial ?_ ?_
            rotate_left
            · intro k v I oI C oC D ys m₂ h tk hk hP hC hx FT NT off
              obtain ⟨t, rfl⟩ := hP
              clear F3 N3
              have hTl := table_length (palW lets lets.length)
              k_steps
              all_goals first
                | refine EltEnd.of FT NT
                | rw [show (0 : Int) + (k : Int) = (k : Int) by omega, Int.toNat_natCast]
            · intro ysS hysS
              change IntsAre ysS (stepsK lets lets.length) at hysS
              unfold LCg.FinA
              intro aS5 hS5 tkS5 FS5 NS5 offS5
              have hS54 : @Ne Nat (s1.heap.objs.size + 1 + 1 + 1 + 1) aS5 := by
                simp only [LCg.Off1] at offS5
                omega
              clear F3 N3
              k_steps
              unfold Stop
              rename Fr _ _ _ _ => F9
              refine for_list F9 ?_
              k_steps
              ((unfold Stop; k_dflt (refine LCg.ListComp_U (F₀ := by k_asm) (by with_unfolding_all rfl) (by decide) (by rfl) (by decide) (by rfl) ?_)))
              k_steps
              unfold Stop
              rename Fr _ _ _ _ => F3
              rename News _ _ _ _ => N3
              have eG := kmk_size_eq iG
              refine LCg.CompSrc.ledger rfl F3 N3 (by news_mem) (kmk_sz iG (by rw [grK_length, sizeLine_eq]; omega)) ?_
              intro gG
              rw [eG]
              refine rest_U (fun i => (grK lets lets.length).getD i 0 + 1) (.inr ⟨_, by news_mem, rfl, _, rfl⟩) ?_ ?_
              rotate_left
              · intro i v I oI C oC D ys m₂ h tk hin hP hC hx FT NT off
                obtain ⟨t, rfl⟩ := item_ints iG hP
                clear F3 N3
                k_steps
                all_goals first
                  | refine EltEnd.of FT NT
              · intro ysG hysG
                have hysG2 : IntsAre ysG ((grK lets lets.length).map fun a => a + 1) := by
                  rw [map_range_getD (fun a => a + 1)] at hysG
                  exact hysG
                clear hysG
                unfold LCg.FinE
                intro D7 h7 tk7 F7 N7 off7
                clear F3 N3
                k_steps
                clear off7 offS5
                rename_i D11 V11 h11 F11 N11 I11 L11
                refine ⟨D11, V11, 0, _, _, fun i m nx => ∃ oN vb, oN.data = Data.cell vb ∧ m (Str.ofString "steps") = some (.ref aS5) ∧ nx = ([(D11, listOf V11.toArray 0), (aS5, LCg.lst ysS), (aT, listOf vT.toArray nT), (aRow, listOf vR.toArray nR), (aGr, listOf vG.toArray nG), (aLen, listOf vL.toArray nL), (aLet, listOf vLet.toArray 0), (s1.heap.objs.size + 1 + 1 + 1 + 1 + 1, oLet), (s1.heap.objs.size + 1 + 1 + 1 + 1, oN), (s1.heap.objs.size + 1 + 1 + 1, oTab1), (s1.heap.objs.size + 1 + 1, oGr), (s1.heap.objs.size + 1, oLen), (62, tabObj pl), (57, tabObj pg)]), rfl, rfl, F11, news_sub N11 ?subS8, ⟨oNum0, _, dc2, rfl, rfl⟩, (fun i m' nx hJ => by obtain ⟨oN, vb, _, _, rfl⟩ := hJ; exact .head _), ?turnS8, ?doneS8⟩
                case subS8 =>
                  intro q hq
                  simp only [List.mem_cons, List.not_mem_nil, or_false] at hq
                  rcases hq with rfl | rfl | rfl | rfl | rfl | rfl | rfl | rfl | rfl | rfl | rfl | rfl | rfl | rfl <;> news_mem
                case turnS8 =>
                  rintro i v m₁ news₁ h tk I oI hi hv ⟨oN, vb, dN, hmS, rfl⟩ off hLI F2 N2
                  replace F2 := fr_know F2 (x := Str.ofString "steps") hmS
                  obtain ⟨t, rfl⟩ := item_ints I11 (by simpa using hv)
                  generalize ([0] ++ grK lets lets.length ++ List.map (fun a => a + 1) (grK lets lets.length)).getD i 0 = x at *
                  have hI4 : @Ne Nat (s1.heap.objs.size + 1 + 1 + 1 + 1) I := off (_, oN) (by news_mem)
                  clear F11 N11
                  k_steps
                  unfold Stop
                  rename Fr _ _ _ _ => F3
                  rename News _ _ _ _ => N3
                  refine Claim2.use (bisL_call w aS5 ysS (stepsK lets lets.length) ysS.length _ _ hysS (by rw [steps_len]; omega) (steps_sorted lets lets.length)) B' F3 X' N3 T' rfl (by news_mem) (by decide) (by decide) ?_
                  rintro v9 news9 h9 tk9' F9' N9' ⟨t9, rfl, rfl⟩
                  clear F3 N3
                  dsimp only
                  have hst := steps_lt lets lets.length (Nat.le_refl _) x
                  have hcl : cntLt (grK lets lets.length) x ≤ lets.length := by
                    have := cntLt_le (grK lets lets.length) x
                    omega
                  generalize cntLt (stepsK lets lets.length) x = cS at *
                  k_steps
                  ((unfold Stop; k_dflt (refine LCt.ListComp_T (F₀ := by k_asm) (by with_unfolding_all rfl) (by decide) (by rfl) (by decide) (by rfl) ?_)))
                  k_steps
                  unfold Stop
                  rename Fr _ _ _ _ => FP
                  rename News _ _ _ _ => NP
                  refine LCt.CompSrcT.ledger rfl FP NP (by news_mem) (kmk_sz iG (by rw [grK_length, sizeLine_eq]; omega)) ?_
                  intro gc
                  rw [eG]
                  refine rest_T (fun i => decide ((grK lets lets.length).getD i 0 < x)) (fun i => (grK lets lets.length).getD i 0) (.inr ⟨_, by news_mem, rfl, _, rfl⟩) ?_ ?_
                  rotate_left
                  · intro i v I oI C oC D ys m₂ h tk hin hP hC hx FT NT off
                    obtain ⟨t, rfl⟩ := item_ints iG hP
                    clear FP NP
                    k_steps
                    all_goals exact EltEnd.of FT NT
                  · intro ys hys
                    have hys2 : IntsAre ys ((grK lets lets.length).filter fun a => decide (a < x)) := by
                      rw [filter_range_getD (fun a => decide (a < x)) (fun a => a)] at hys
                      simpa using hys
                    have hfl : ((grK lets lets.length).filter fun a => decide (a < x)).length = cntLt (grK lets lets.length) x := rfl
                    clear hys
                    generalize List.filter (fun a => decide (a < x)) (grK lets lets.length) = fl at *
                    generalize cntLt (grK lets lets.length) x = c at *
                    unfold LCg.FinE
                    intro DQ hQ tkQ FQ NQ offQ
                    clear FP NP
                    k_steps
                    · rename (_ : Int) ≠ _ => hx
                      exact absurd (by rw [hst, Int.toNat_natCast, hfl]) hx
                    unfold Stop
                    clear hst hcl hfl hys2 offQ
                    rename Fr _ _ _ _ => F3
                    rename News _ _ _ _ => N3
                    refine Claim2.use (bisR_call w aS5 ysS (stepsK lets lets.length) ysS.length _ _ hysS (by rw [steps_len]; omega) (steps_sorted lets lets.length)) B' F3 X' N3 T' rfl (by news_mem) (by decide) (by decide) ?_
                    rintro v9 news9 h9 tk9' F9' N9' ⟨t9, rfl, rfl⟩
                    clear F3 N3
                    dsimp only
                    have hst := steps_le lets lets.length (Nat.le_refl _) x
                    have hcl : cntLe (grK lets lets.length) x ≤ lets.length := by
                      have := cntLe_le (grK lets lets.length) x
                      omega
                    generalize cntLe (stepsK lets lets.length) x = cS at *
                    k_steps
                    ((unfold Stop; k_dflt (refine LCt.ListComp_T (F₀ := by k_asm) (by with_unfolding_all rfl) (by decide) (by rfl) (by decide) (by rfl) ?_)))
                    k_steps
                    unfold Stop
                    rename Fr _ _ _ _ => FP
                    rename News _ _ _ _ => NP
                    refine LCt.CompSrcT.ledger rfl FP NP (by news_mem) (kmk_sz iG (by rw [grK_length, sizeLine_eq]; omega)) ?_
                    intro gc
                    rw [eG]
                    refine rest_T (fun i => decide ((grK lets lets.length).getD i 0 ≤ x)) (fun i => (grK lets lets.length).getD i 0) (.inr ⟨_, by news_mem, rfl, _, rfl⟩) ?_ ?_
                    rotate_left
                    · intro i v I oI C oC D ys m₂ h tk hin hP hC hx FT NT off
                      obtain ⟨t, rfl⟩ := item_ints iG hP
                      clear FP NP
                      k_steps
                      all_goals exact EltEnd.of FT NT
                    · intro ys hys
                      have hys2 : IntsAre ys ((grK lets lets.length).filter fun a => decide (a ≤ x)) := by
                        rw [filter_range_getD (fun a => decide (a ≤ x)) (fun a => a)] at hys
                        simpa using hys
                      have hfl : ((grK lets lets.length).filter fun a => decide (a ≤ x)).length = cntLe (grK lets lets.length) x := rfl
                      clear hys
                      generalize List.filter (fun a => decide (a ≤ x)) (grK lets lets.length) = fl at *
                      generalize cntLe (grK lets lets.length) x = c at *
                      unfold LCg.FinE
                      intro DQ hQ tkQ FQ NQ offQ
                      clear FP NP
                      k_steps
                      · rename (_ : Int) ≠ _ => hx
                        exact absurd (by rw [hst, Int.toNat_natCast, hfl]) hx
                      dsimp only [TurnPost]
                      rename Fr _ _ _ _ => FE
                      rename News _ _ _ _ => NE
                      rename Obj => oN2
                      refine ⟨_, _, _, _, rfl, FE, NE, ?ownS10, ([(D11, listOf V11.toArray 0), (aS5, LCg.lst ysS), (aT, listOf vT.toArray nT), (aRow, listOf vR.toArray nR), (aGr, listOf vG.toArray nG), (aLen, listOf vL.toArray nL), (aLet, listOf vLet.toArray 0), (s1.heap.objs.size + 1 + 1 + 1 + 1 + 1, oLet), (s1.heap.objs.size + 1 + 1 + 1 + 1, oN2), (s1.heap.objs.size + 1 + 1 + 1, oTab1), (s1.heap.objs.size + 1 + 1, oGr), (s1.heap.objs.size + 1, oLen), (62, tabObj pl), (57, tabObj pg)]), ?subS10, ?nIS10, oN2, _, (by assumption), rfl, rfl⟩
                      case ownS10 =>
                        intro q hq
                        rw [List.mem_singleton] at hq
                        subst hq
                        news_mem
                      case subS10 =>
                        intro q hq
                        simp only [List.mem_cons, List.not_mem_nil, or_false] at hq
                        rcases hq with rfl | rfl | rfl | rfl | rfl | rfl | rfl | rfl | rfl | rfl | rfl | rfl | rfl | rfl <;> news_mem
                      case nIS10 =>
                        intro q hq
                        simp only [List.mem_cons, List.not_mem_nil, or_false] at hq
                        rcases hq with rfl | rfl | rfl | rfl | rfl | rfl | rfl | rfl | rfl | rfl | rfl | rfl | rfl | rfl
                        all_goals first
                          | exact hI4
                          | exact off (_, _) (by news_mem)
                case doneS8 =>
                  rintro m₁ news₁ h tk ⟨oN, vb, dN, hmS, rfl⟩ F2 N2
                  clear F11 N11
                  k_steps)
end Mine
theorem PySem.Challenge.cw_sc0031_01_holds : PySem.Challenge.rw_sc0031_01.Holds :=
  Mine.law_holds
