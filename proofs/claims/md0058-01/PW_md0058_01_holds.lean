import PyProof.Rows.All
import Wide.All
import OpenK.AllK
import Wide.FinOn
import PyProof.SetKind
import PyProof.TupleKey
import PyProof.SetRoads
import PyProof.Laws
import PySem.Challenge.RW_md0058_01
open PySem PySem.W PyProof.Rows
set_option Elab.async false
set_option maxRecDepth 100000
set_option linter.unusedSimpArgs false
set_option linter.unusedVariables false
set_option maxHeartbeats 8000000
set_option genInjectivity false
set_option genSizeOfSpec false
set_option genSizeOf false
set_option compiler.extract_closed false
set_option bootstrap.genMatcherCode false
namespace AM
set_option autoImplicit false
set_option maxHeartbeats 8000000
section
open PySem
namespace Tab

theorem below_go (xs : Array Nat) (j : Nat) (hs : xs.toList.Pairwise (· < ·)) : ∀ (fuel lo hi : Nat), hi ≤ xs.size → lo ≤ hi → hi - lo ≤ fuel →
    (∀ i (h : i < xs.size), i < lo → xs[i] < j) → (∀ i (h : i < xs.size), hi ≤ i → j ≤ xs[i]) →
    let p := SetTable.below.go xs j fuel lo hi
    p ≤ xs.size ∧ (∀ i (h : i < xs.size), i < p → xs[i] < j) ∧ (∀ i (h : i < xs.size), p ≤ i → j ≤ xs[i])
  | 0, lo, hi, h1, h2, h3, h4, h5 => by
    have : lo = hi := by omega
    subst this
    exact ⟨h1, h4, h5⟩
  | fuel + 1, lo, hi, h1, h2, h3, h4, h5 => by
    unfold SetTable.below.go
    by_cases hl : lo < hi
    · simp only [hl, if_true]
      have hm : (lo + hi) / 2 < xs.size := by omega
      have hg : xs.getD ((lo + hi) / 2) j = xs[(lo + hi) / 2] := by simp [Array.getD, hm]
      have mono : ∀ a b (ha : a < xs.size) (hb : b < xs.size), a < b → xs[a] < xs[b] := by
        intro a b ha hb hab
        have := List.pairwise_iff_getElem.mp hs a b (by simpa using ha) (by simpa using hb) hab
        simpa using this
      by_cases hc : xs.getD ((lo + hi) / 2) j < j
      · simp only [hc, if_true]
        refine below_go xs j hs fuel _ _ h1 (by omega) (by omega) ?_ h5
        intro i h hi'
        rw [hg] at hc
        rcases Nat.lt_or_ge i ((lo + hi) / 2) with q | q
        · exact Nat.lt_trans (mono i _ h hm q) hc
        · have : i = (lo + hi) / 2 := by omega
          subst this; exact hc
      · simp only [hc, if_false]
        refine below_go xs j hs fuel _ _ (by omega) (by omega) (by omega) h4 ?_
        intro i h hi'
        rw [hg] at hc
        rcases Nat.lt_or_ge ((lo + hi) / 2) i with q | q
        · exact Nat.le_trans (Nat.le_of_not_lt hc) (Nat.le_of_lt (mono _ i hm h q))
        · have : i = (lo + hi) / 2 := by omega
          subst this; exact Nat.le_of_not_lt hc
    · simp only [hl, if_false]
      have : lo = hi := by omega
      subst this
      exact ⟨h1, h4, h5⟩

theorem below_spec {xs : Array Nat} (hs : xs.toList.Pairwise (· < ·)) (j : Nat) :
    SetTable.below xs j ≤ xs.size ∧ (∀ i (h : i < xs.size), i < SetTable.below xs j → xs[i] < j) ∧ (∀ i (h : i < xs.size), SetTable.below xs j ≤ i → j ≤ xs[i]) :=
  below_go xs j hs xs.size 0 xs.size (Nat.le_refl _) (Nat.zero_le _) (by omega) (fun i h hi => by omega) (fun i h hi => by omega)

theorem below_at {xs : Array Nat} (hs : xs.toList.Pairwise (· < ·)) {i j : Nat} (h : xs[i]? = some j) : SetTable.below xs j = i := by
  obtain ⟨hi, e⟩ := Array.getElem?_eq_some_iff.mp h
  obtain ⟨h1, h2, h3⟩ := below_spec hs j
  have mono : ∀ a b (ha : a < xs.size) (hb : b < xs.size), a < b → xs[a] < xs[b] := by
    intro a b ha hb hab
    have := List.pairwise_iff_getElem.mp hs a b (by simpa using ha) (by simpa using hb) hab
    simpa using this
  rcases Nat.lt_trichotomy (SetTable.below xs j) i with q | q | q
  · have hb : SetTable.below xs j < xs.size := by omega
    have := h3 _ hb (Nat.le_refl _)
    have := mono _ _ hb hi q
    omega
  · exact q
  · have := h2 i hi q
    omega

theorem has_iff {xs : Array Nat} (hs : xs.toList.Pairwise (· < ·)) (j : Nat) : SetTable.has xs j = true ↔ j ∈ xs.toList := by
  unfold SetTable.has
  constructor
  · intro h
    have h' := eq_of_beq h
    exact Array.mem_toList_iff.mpr (Array.mem_of_getElem? h')
  · intro h
    obtain ⟨i, hi⟩ := Array.getElem?_of_mem (Array.mem_toList_iff.mp h)
    rw [below_at hs hi, hi]
    simp

theorem toList_insertAt_sorted {xs : Array Nat} (hs : xs.toList.Pairwise (· < ·)) {j : Nat} (hj : j ∉ xs.toList) :
    (SetTable.insertAt xs (SetTable.below xs j) j).toList.Pairwise (· < ·) := by
  rw [SetTable.toList_insertAt]
  obtain ⟨h1, h2, h3⟩ := below_spec hs j
  rw [List.pairwise_append]
  refine ⟨hs.sublist (List.take_sublist _ _), ?_, ?_⟩
  · rw [List.pairwise_cons]
    refine ⟨fun y hy => ?_, hs.sublist (List.drop_sublist _ _)⟩
    obtain ⟨i, hi, e⟩ := List.mem_iff_getElem.mp hy
    rw [List.getElem_drop] at e
    have hlt : SetTable.below xs j + i < xs.size := by simp at hi; omega
    have := h3 _ hlt (by omega)
    have e' : xs[SetTable.below xs j + i] = y := by simpa using e
    rw [e'] at this
    have hne : j ≠ y := by
      intro q; subst q
      exact hj (List.mem_of_mem_drop hy)
    omega
  · intro a ha b hb
    obtain ⟨i, hi, e⟩ := List.mem_iff_getElem.mp ha
    rw [List.getElem_take] at e
    have hi' : i < SetTable.below xs j := by simp at hi; omega
    have hlt : i < xs.size := by omega
    have haj : a < j := by
      have := h2 i hlt hi'
      have e' : xs[i] = a := by simpa using e
      omega
    rcases List.mem_cons.mp hb with q | q
    · omega
    · obtain ⟨k, hk, e2⟩ := List.mem_iff_getElem.mp q
      rw [List.getElem_drop] at e2
      have hlt2 : SetTable.below xs j + k < xs.size := by simp at hk; omega
      have := h3 _ hlt2 (by omega)
      have e' : xs[SetTable.below xs j + k] = b := by simpa using e2
      omega

theorem toList_eraseAt {α : Type} (xs : Array α) (p : Nat) : (SetTable.eraseAt xs p).toList = xs.toList.eraseIdx p := by
  unfold SetTable.eraseAt
  rw [Array.toList_append, Array.toList_extract, Array.toList_extract, List.eraseIdx_eq_take_drop_succ]
  simp only [List.extract, List.drop_zero, Nat.sub_zero]
  rw [List.take_of_length_le (l := List.drop (p + 1) xs.toList) (by simp)]

structure Ok (t : SetTable) : Prop where
  sp : t.place.toList.Pairwise (· < ·)
  sd : t.dummies.toList.Pairwise (· < ·)
  bp : ∀ j ∈ t.place.toList, j ≤ t.mask
  bd : ∀ j ∈ t.dummies.toList, j ≤ t.mask
  dj : ∀ j ∈ t.place.toList, j ∉ t.dummies.toList

theorem slot_live {t : SetTable} (o : Ok t) {i j : Nat} : t.slot j = .live i ↔ t.place[i]? = some j := by
  unfold SetTable.slot
  dsimp only
  constructor
  · intro h
    split at h
    · rename_i e; cases h; exact eq_of_beq e
    · split at h <;> cases h
  · intro h
    rw [below_at o.sp h, h]
    simp
theorem slot_dummy {t : SetTable} (o : Ok t) {j : Nat} : t.slot j = .dummy ↔ j ∈ t.dummies.toList := by
  unfold SetTable.slot
  dsimp only
  constructor
  · intro h
    split at h
    · cases h
    · split at h
      · rename_i e; exact (has_iff o.sd j).mp e
      · cases h
  · intro h
    rw [if_neg, if_pos ((has_iff o.sd j).mpr h)]
    intro e
    exact o.dj j (Array.mem_toList_iff.mpr (Array.mem_of_getElem? (eq_of_beq e))) h
theorem slot_empty {t : SetTable} (o : Ok t) {j : Nat} : t.slot j = .empty ↔ j ∉ t.place.toList ∧ j ∉ t.dummies.toList := by
  constructor
  · intro h
    refine ⟨fun hm => ?_, fun hm => ?_⟩
    · obtain ⟨i, hi⟩ := Array.getElem?_of_mem (Array.mem_toList_iff.mp hm)
      rw [(slot_live o).mpr hi] at h; cases h
    · rw [(slot_dummy o).mpr hm] at h; cases h
  · intro ⟨h1, h2⟩
    cases h : t.slot j with
    | empty => rfl
    | dummy => exact absurd ((slot_dummy o).mp h) h2
    | live i => exact absurd (Array.mem_toList_iff.mpr (Array.mem_of_getElem? ((slot_live o).mp h))) h1

end Tab
end
section
open PySem
namespace Tab

noncomputable def GoodMask (m : Nat) : Prop := m = 7 ∨ m = 15 ∨ m = 31 ∨ m = 63 ∨ m = 127

noncomputable def lcg (m i : Nat) : Nat := (i * 5 + 1) % (m + 1)
noncomputable def lcgN (m : Nat) : Nat → Nat → Nat
  | 0, i => i
  | n + 1, i => lcg m (lcgN m n i)
theorem lcgN_add (m : Nat) : ∀ a b i, lcgN m (a + b) i = lcgN m a (lcgN m b i)
  | 0, b, i => by simp [lcgN]
  | a + 1, b, i => by rw [Nat.succ_add]; simp only [lcgN]; rw [lcgN_add m a b i]

noncomputable def orbit (m : Nat) : Nat → Nat → List Nat
  | 0, _ => []
  | n + 1, i => i :: orbit m n (lcg m i)
theorem lcgN_lcg (m : Nat) : ∀ n i, lcgN m n (lcg m i) = lcg m (lcgN m n i)
  | 0, _ => rfl
  | n + 1, i => by simp only [lcgN]; rw [lcgN_lcg m n i]
theorem mem_orbit (m : Nat) : ∀ n i j, j ∈ orbit m n i → ∃ k, k < n ∧ lcgN m k i = j
  | 0, _, _, h => by cases h
  | n + 1, i, j, h => by
    rcases List.mem_cons.mp h with e | h
    · exact ⟨0, by omega, e.symm⟩
    · obtain ⟨k, hk, e⟩ := mem_orbit m n _ j h
      exact ⟨k + 1, by omega, by rw [lcgN_lcg] at e; exact e⟩
noncomputable def coversAll (m : Nat) : Bool := let l := orbit m (m + 1) 0; ((List.range (m + 1)).all fun j => l.contains j) && lcgN m (m + 1) 0 == 0
theorem covers7 : coversAll 7 = true := by decide +kernel
theorem covers15 : coversAll 15 = true := by decide +kernel
theorem covers31 : coversAll 31 = true := by decide +kernel
theorem covers63 : coversAll 63 = true := by decide +kernel
theorem covers127 : coversAll 127 = true := by decide +kernel
theorem covers {m : Nat} (g : GoodMask m) {i j : Nat} (hi : i ≤ m) (hj : j ≤ m) : ∃ k, k ≤ m ∧ lcgN m k i = j := by
  have h : coversAll m = true := by
    rcases g with rfl | rfl | rfl | rfl | rfl
    · exact covers7
    · exact covers15
    · exact covers31
    · exact covers63
    · exact covers127
  unfold coversAll at h
  obtain ⟨h, hp⟩ := Bool.and_eq_true_iff.mp h
  have hp : lcgN m (m + 1) 0 = 0 := eq_of_beq hp
  have hc : ∀ x, x ≤ m → ∃ k, k < m + 1 ∧ lcgN m k 0 = x := fun x hx => by
    have h2 := List.all_eq_true.mp h x (List.mem_range.mpr (by omega))
    exact mem_orbit m _ _ _ (List.contains_iff_mem.mp h2)
  obtain ⟨a, ha, ea⟩ := hc i hi
  obtain ⟨b, hb, eb⟩ := hc j hj
  by_cases q : a ≤ b
  · refine ⟨b - a, by omega, ?_⟩
    rw [← ea, ← lcgN_add, Nat.sub_add_cancel q]
    exact eb
  · refine ⟨b + (m + 1) - a, by omega, ?_⟩
    rw [← ea, ← lcgN_add, Nat.sub_add_cancel (by omega), lcgN_add, hp]
    exact eb

noncomputable def blk (m : Nat) (h : Int) : Nat → Nat × Nat
  | 0 => (SetTable.bits h % (m + 1), SetTable.bits h)
  | n + 1 => SetTable.leap m (blk m h n).1 (blk m h n).2
noncomputable def len (m i : Nat) : Nat := SetTable.runEnd m i - i

theorem blk_le (m : Nat) (h : Int) (n : Nat) : (blk m h n).1 ≤ m := by
  cases n with
  | zero => exact Nat.le_of_lt_succ (Nat.mod_lt _ (Nat.succ_pos _))
  | succ n => exact Nat.le_of_lt_succ (Nat.mod_lt _ (Nat.succ_pos _))
theorem len_le (m i : Nat) : len m i ≤ 9 := by
  unfold len SetTable.runEnd
  split <;> omega
theorem at_le {m i k : Nat} (hi : i ≤ m) (hk : k ≤ len m i) : i + k ≤ m := by
  unfold len SetTable.runEnd at hk
  split at hk <;> omega

theorem blk_perturb (m : Nat) (h : Int) : ∀ n, (blk m h n).2 = SetTable.bits h / 32 ^ n
  | 0 => by simp [blk]
  | n + 1 => by
    simp only [blk, SetTable.leap]
    rw [blk_perturb m h n, Nat.div_div_eq_div_mul, Nat.pow_succ]
theorem bits_lt (h : Int) : SetTable.bits h < 2 ^ 64 := by
  unfold SetTable.bits
  have h1 := Int.emod_nonneg h (b := (2 ^ 64 : Int)) (by decide)
  have h2 := Int.emod_lt_of_pos h (b := (2 ^ 64 : Int)) (by decide)
  omega
theorem blk_late (m : Nat) (h : Int) (n : Nat) : (blk m h (12 + n)).1 = lcgN m n (blk m h 12).1 := by
  induction n with
  | zero => rfl
  | succ n ih =>
    have e : blk m h (12 + (n + 1)) = SetTable.leap m (blk m h (12 + n)).1 (blk m h (12 + n)).2 := rfl
    have hz : (blk m h (12 + n)).2 / 32 = 0 := by
      rw [blk_perturb, Nat.div_div_eq_div_mul]
      have := bits_lt h
      refine Nat.div_eq_of_lt (Nat.lt_of_lt_of_le this ?_)
      have : (32 : Nat) ^ (12 + n) * 32 = 32 ^ 13 * 32 ^ n := by
        rw [← Nat.pow_succ, ← Nat.pow_add]; congr 1; omega
      rw [this]
      have h1 : (2 : Nat) ^ 64 ≤ 32 ^ 13 := by decide
      exact Nat.le_trans h1 (Nat.le_mul_of_pos_right _ (Nat.pos_of_ne_zero (by simp)))
    rw [e]
    show ((blk m h (12 + n)).1 * 5 + 1 + (blk m h (12 + n)).2 / 32) % (m + 1) = lcg m (lcgN m n (blk m h 12).1)
    rw [hz, ← ih]
    rfl
theorem blk_covers {m : Nat} (g : GoodMask m) (h : Int) {j : Nat} (hj : j ≤ m) : ∃ n, n ≤ m + 12 ∧ (blk m h n).1 = j := by
  obtain ⟨k, hk, e⟩ := covers g (blk_le m h 12) hj
  exact ⟨12 + k, by omega, by rw [blk_late]; exact e⟩

noncomputable def P (m : Nat) (h : Int) (n k : Nat) (d : Option Nat) : SetTable.Probe :=
  { j := (blk m h n).1 + k, more := len m (blk m h n).1 - k, i := (blk m h n).1, perturb := (blk m h n).2, dummy := d }

theorem probeStart_P (t : SetTable) (h : Int) : t.probeStart h = P t.mask h 0 0 none := by
  simp [SetTable.probeStart, P, blk, len]
theorem advance_in {t : SetTable} {h : Int} {n k : Nat} {d : Option Nat} (hk : k < len t.mask (blk t.mask h n).1) : t.advance (P t.mask h n k d) = P t.mask h n (k + 1) d := by
  unfold SetTable.advance P
  rw [if_pos (by show _ > 0; simp only; omega)]
  simp only [SetTable.Probe.mk.injEq, and_true, true_and]
  omega
theorem advance_out {t : SetTable} {h : Int} {n k : Nat} {d : Option Nat} (hk : ¬ k < len t.mask (blk t.mask h n).1) : t.advance (P t.mask h n k d) = P t.mask h (n + 1) 0 d := by
  unfold SetTable.advance P
  rw [if_neg (by show ¬ _ > 0; simp only; omega)]
  simp only [SetTable.Probe.mk.injEq, and_true, true_and, Nat.add_zero, Nat.sub_zero, blk, len]

noncomputable def Ahead (n k n' k' : Nat) : Prop := n < n' ∨ (n = n' ∧ k < k')
noncomputable def On (m : Nat) (h : Int) (n k : Nat) : Prop := k ≤ len m (blk m h n).1
noncomputable def at' (m : Nat) (h : Int) (n k : Nat) : Nat := (blk m h n).1 + k

inductive Meets (t : SetTable) (hashAt : Nat → Int) (h : Int) (n k : Nat) (d : Option Nat) : SetTable.Met → Prop
  | empty (n' k' : Nat) (d' : Option Nat) (on : On t.mask h n' k') (e : t.slot (at' t.mask h n' k') = .empty) (ge : ¬ Ahead n' k' n k)
      (bef : ∀ a b, On t.mask h a b → ¬ Ahead a b n k → Ahead a b n' k' → t.slot (at' t.mask h a b) ≠ .empty ∧ ∀ i, t.slot (at' t.mask h a b) = .live i → hashAt i ≠ h)
      (dum : d' = d ∨ ∃ a b, On t.mask h a b ∧ ¬ Ahead a b n k ∧ Ahead a b n' k' ∧ d' = some (at' t.mask h a b) ∧ t.slot (at' t.mask h a b) = .dummy) :
      Meets t hashAt h n k d (.empty (at' t.mask h n' k') d')
  | cand (n' k' i : Nat) (next : SetTable.Probe) (on : On t.mask h n' k') (e : t.slot (at' t.mask h n' k') = .live i) (hh : hashAt i = h) (ge : ¬ Ahead n' k' n k)
      (bef : ∀ a b, On t.mask h a b → ¬ Ahead a b n k → Ahead a b n' k' → t.slot (at' t.mask h a b) ≠ .empty ∧ ∀ i, t.slot (at' t.mask h a b) = .live i → hashAt i ≠ h) :
      Meets t hashAt h n k d (.candidate (at' t.mask h n' k') i next)

theorem Ahead.trans {a b c d e f : Nat} (h : Ahead a b c d) (h' : Ahead c d e f) : Ahead a b e f := by
  rcases h with h | ⟨rfl, h⟩
  · rcases h' with h' | ⟨rfl, h'⟩
    · exact .inl (Nat.lt_trans h h')
    · exact .inl h
  · rcases h' with h' | ⟨rfl, h'⟩
    · exact .inl h'
    · exact .inr ⟨rfl, Nat.lt_trans h h'⟩
theorem Ahead.irrefl {a b : Nat} (h : Ahead a b a b) : False := by
  rcases h with h | ⟨_, h⟩
  · exact Nat.lt_irrefl _ h
  · exact Nat.lt_irrefl _ h
theorem Ahead.total {a b c d : Nat} (h : ¬ Ahead c d a b) : Ahead a b c d ∨ (a = c ∧ b = d) := by
  rcases Nat.lt_trichotomy a c with q | q | q
  · exact .inl (.inl q)
  · subst q
    rcases Nat.lt_trichotomy b d with q | q | q
    · exact .inl (.inr ⟨rfl, q⟩)
    · exact .inr ⟨rfl, q⟩
    · exact absurd (.inr ⟨rfl, q⟩) h
  · exact absurd (.inl q) h
theorem Ahead.next {a b c d e f : Nat} (h : Ahead a b c d) (h' : ¬ Ahead e f c d) : Ahead a b e f := by
  rcases Ahead.total h' with q | ⟨rfl, rfl⟩
  · exact h.trans q
  · exact h
theorem Meets.before {t : SetTable} {hashAt : Nat → Int} {h : Int} {n k n1 k1 : Nat} {d d1 : Option Nat} {met : SetTable.Met} (on : On t.mask h n k)
    (nx : ∀ a b, On t.mask h a b → ¬ Ahead a b n k → (a = n ∧ b = k) ∨ ¬ Ahead a b n1 k1) (ad : Ahead n k n1 k1)
    (ne : t.slot (at' t.mask h n k) ≠ .empty ∧ ∀ i, t.slot (at' t.mask h n k) = .live i → hashAt i ≠ h)
    (hd : d1 = d ∨ (d1 = some (at' t.mask h n k) ∧ t.slot (at' t.mask h n k) = .dummy)) (m : Meets t hashAt h n1 k1 d1 met) : Meets t hashAt h n k d met := by
  cases m with
  | empty n' k' d' on' e ge bef dum =>
    refine .empty n' k' d' on' e (fun q => ge (q.trans ad)) (fun a b ho hn ha => ?_) ?_
    · rcases nx a b ho hn with ⟨rfl, rfl⟩ | q
      · exact ne
      · exact bef a b ho q ha
    · rcases dum with rfl | ⟨a, b, x1, x2, x3, x4, x5⟩
      · rcases hd with rfl | ⟨rfl, y⟩
        · exact .inl rfl
        · exact .inr ⟨n, k, on, Ahead.irrefl, ad.next ge, rfl, y⟩
      · exact .inr ⟨a, b, x1, fun q => x2 (q.trans ad), x3, x4, x5⟩
  | cand n' k' i next on' e hh ge bef =>
    refine .cand n' k' i next on' e hh (fun q => ge (q.trans ad)) (fun a b ho hn ha => ?_)
    · rcases nx a b ho hn with ⟨rfl, rfl⟩ | q
      · exact ne
      · exact bef a b ho q ha

theorem go_meets {t : SetTable} {hashAt : Nat → Int} {h : Int} {N : Nat} (hN : t.slot (blk t.mask h N).1 = .empty) :
    ∀ (f n k : Nat) (d : Option Nat), On t.mask h n k → (n < N ∨ (n = N ∧ k = 0)) → 10 * (N - n) + 1 ≤ f + k →
      ∃ met, SetTable.probe.go t hashAt h f (P t.mask h n k d) = some met ∧ Meets t hashAt h n k d met
  | 0, n, k, d, on, hn, hf => by
    exfalso
    have := len_le t.mask (blk t.mask h n).1
    unfold On at on
    omega
  | f + 1, n, k, d, on, hn, hf => by
    have l9 := len_le t.mask (blk t.mask h n).1
    unfold SetTable.probe.go
    have ej : (P t.mask h n k d).j = at' t.mask h n k := rfl
    rw [ej]
    -- the step on
    have step : ∀ d1, (t.slot (at' t.mask h n k) ≠ .empty ∧ ∀ i, t.slot (at' t.mask h n k) = .live i → hashAt i ≠ h) → (d1 = d ∨ (d1 = some (at' t.mask h n k) ∧ t.slot (at' t.mask h n k) = .dummy)) →
        ∃ met, SetTable.probe.go t hashAt h f (t.advance (P t.mask h n k d1)) = some met ∧ Meets t hashAt h n k d met := by
      intro d1 ne hd
      have hlt : n < N := by
        rcases hn with q | ⟨rfl, rfl⟩
        · exact q
        · exact absurd hN (by simpa [at'] using ne.1)
      by_cases hk : k < len t.mask (blk t.mask h n).1
      · rw [advance_in hk]
        obtain ⟨met, e, m⟩ := go_meets hN f n (k + 1) d1 (by unfold On; omega) (.inl hlt) (by omega)
        refine ⟨met, e, m.before on (fun a b ho hna => ?_) (by unfold Ahead; omega) ne hd⟩
        unfold Ahead at *; omega
      · rw [advance_out hk]
        obtain ⟨met, e, m⟩ := go_meets hN f (n + 1) 0 d1 (Nat.zero_le _) (by omega) (by unfold On at on; omega)
        refine ⟨met, e, m.before on (fun a b ho hna => ?_) (by unfold Ahead; omega) ne hd⟩
        unfold On at on ho
        by_cases ha : a = n
        · subst ha; unfold Ahead at *; omega
        · unfold Ahead at *; omega
    cases hs : t.slot (at' t.mask h n k) with
    | empty =>
      dsimp only
      exact ⟨_, rfl, .empty n k d on hs (by unfold Ahead; omega) (fun a b _ h1 h2 => absurd h2 h1) (.inl rfl)⟩
    | dummy =>
      dsimp only
      exact step (some (at' t.mask h n k)) ⟨by rw [hs]; simp, fun i e => by rw [hs] at e; cases e⟩ (.inr ⟨rfl, hs⟩)
    | live i =>
      dsimp only
      by_cases hh : hashAt i = h
      · rw [if_pos (by rw [hh]; exact beq_self_eq_true _)]
        exact ⟨_, rfl, .cand n k i _ on hs hh (by unfold Ahead; omega) (fun a b _ h1 h2 => absurd h2 h1)⟩
      · rw [if_neg (by intro q; exact hh (eq_of_beq q))]
        exact step d ⟨by rw [hs]; simp, fun i' e => by rw [hs] at e; cases e; exact hh⟩ (.inl rfl)

theorem probe_meets {t : SetTable} {hashAt : Nat → Int} {h : Int} (g : GoodMask t.mask) {e : Nat} (he : e ≤ t.mask) (hs : t.slot e = .empty) :
    ∃ met, t.probe hashAt h (t.probeStart h) = some met ∧ Meets t hashAt h 0 0 none met := by
  obtain ⟨N, hN, eN⟩ := blk_covers g h he
  rw [probeStart_P]
  unfold SetTable.probe SetTable.turns
  refine go_meets (N := N) (by rw [eN]; exact hs) _ 0 0 none (Nat.zero_le _) (by omega) (by omega)

end Tab
end
section
open PySem
namespace Tab

theorem nodup_le {α : Type} [DecidableEq α] : ∀ (l l' : List α), l.Nodup → (∀ a ∈ l, a ∈ l') → l.length ≤ l'.length := by
  intro l
  induction l with
  | nil => intro _ _ _; exact Nat.zero_le _
  | cons a l ih =>
    intro l' hn hs
    have ha : a ∈ l' := hs a (List.mem_cons.mpr (Or.inl rfl))
    have hn' := List.nodup_cons.mp hn
    have h1 := ih (l'.erase a) hn'.2 fun b hb => by
      have hne : b ≠ a := fun e => hn'.1 (e ▸ hb)
      exact (List.mem_erase_of_ne hne).mpr (hs b (List.mem_cons.mpr (Or.inr hb)))
    have h2 := List.length_erase_of_mem ha
    have h3 : 0 < l'.length := List.length_pos_of_mem ha
    rw [List.length_cons]; omega

theorem pigeon (l : List Nat) (m : Nat) (h : l.length ≤ m) : ∃ e, e ≤ m ∧ e ∉ l := by
  cases hq : (List.range (m + 1)).find? (fun e => decide (e ∉ l)) with
  | some e =>
    have h1 := List.mem_range.mp (List.mem_of_find?_eq_some hq)
    have h2 := List.find?_some hq
    exact ⟨e, by omega, by simpa using h2⟩
  | none =>
    exfalso
    have := List.find?_eq_none.mp hq
    have h2 := nodup_le (List.range (m + 1)) l List.nodup_range fun a ha => by
      have := this a ha
      simpa using this
    rw [List.length_range] at h2
    omega

noncomputable def Reached (t : SetTable) (h : Int) (j : Nat) : Prop :=
  ∃ n k, On t.mask h n k ∧ at' t.mask h n k = j ∧ ∀ a b, On t.mask h a b → Ahead a b n k → t.slot (at' t.mask h a b) ≠ .empty

structure Inv0 (t : SetTable) (hs : List Int) : Prop extends Ok t where
  size : t.place.size = hs.length
  mask : GoodMask t.mask
  nodup : hs.Nodup
  reach : ∀ (i j : Nat) (h : Int), t.place[i]? = some j → hs[i]? = some h → Reached t h j
structure Inv (t : SetTable) (hs : List Int) : Prop extends Inv0 t hs where
  room : t.fill * 5 < t.mask * 3

theorem Inv0.free {t : SetTable} {hs : List Int} (_ : Inv0 t hs) (hf : t.fill ≤ t.mask) : ∃ e, e ≤ t.mask ∧ e ∉ t.place.toList ∧ e ∉ t.dummies.toList := by
  obtain ⟨e, he, hn⟩ := pigeon (t.place.toList ++ t.dummies.toList) t.mask (by
    rw [List.length_append, Array.length_toList, Array.length_toList]; exact hf)
  rw [List.mem_append, not_or] at hn
  exact ⟨e, he, hn⟩

noncomputable def hashIn (hs : List Int) (i : Nat) : Int := (hs[i]?).getD 0

theorem Inv.fillLe {t : SetTable} {hs : List Int} (I : Inv t hs) : t.fill ≤ t.mask := by
  have := I.room; omega

theorem search_there {t : SetTable} {hs : List Int} (I : Inv t hs) {i : Nat} {h : Int} (hi : hs[i]? = some h) :
    ∃ j next, t.probe (hashIn hs) h (t.probeStart h) = some (.candidate j i next) ∧ t.place[i]? = some j := by
  obtain ⟨e, he, hn⟩ := I.toInv0.free I.fillLe
  obtain ⟨met, hm, M⟩ := probe_meets (hashAt := hashIn hs) (h := h) I.mask he ((slot_empty I.toOk).mpr hn)
  have hlt : i < t.place.size := by rw [I.size]; exact (List.getElem?_eq_some_iff.mp hi).1
  obtain ⟨n0, k0, on0, a0, b0⟩ := I.reach i t.place[i] h (Array.getElem?_eq_getElem hlt) hi
  have hl0 : t.slot (at' t.mask h n0 k0) = .live i := by rw [a0]; exact (slot_live I.toOk).mpr (Array.getElem?_eq_getElem hlt)
  cases M with
  | empty n' k' d' on e' ge bef dum =>
    exfalso
    rcases Nat.lt_trichotomy n' n0 with q | q | q
    · exact b0 n' k' on (.inl q) e'
    · subst q
      rcases Nat.lt_trichotomy k' k0 with q | q | q
      · exact b0 n' k' on (.inr ⟨rfl, q⟩) e'
      · subst q; rw [hl0] at e'; cases e'
      · exact (bef n' k0 on0 (by unfold Ahead; omega) (.inr ⟨rfl, q⟩)).2 i hl0 (by simp [hashIn, hi])
    · exact (bef n0 k0 on0 (by unfold Ahead; omega) (.inl q)).2 i hl0 (by simp [hashIn, hi])
  | cand n' k' i' next on e' hh ge bef =>
    have hp := (slot_live I.toOk).mp e'
    have hlt' : i' < hs.length := by rw [← I.size]; exact (Array.getElem?_eq_some_iff.mp hp).1
    have : i' = i := by
      have h1 : hs[i']? = some h := by
        have := hh
        unfold hashIn at this
        rw [List.getElem?_eq_getElem hlt'] at this ⊢
        exact congrArg some this
      exact (List.getElem?_inj hlt' I.nodup).mp (h1.trans hi.symm)
    subst this
    exact ⟨_, next, hm, hp⟩

structure FreeAt (t : SetTable) (h : Int) (s : Nat) (wd : Bool) : Prop where
  slot : t.slot s = if wd then .dummy else .empty
  le : s ≤ t.mask
  reach : Reached t h s

theorem search_absent {t : SetTable} {hs : List Int} (I : Inv t hs) {h : Int} (hn : h ∉ hs) :
    ∃ j d, t.probe (hashIn hs) h (t.probeStart h) = some (.empty j d) ∧ FreeAt t h (d.getD j) d.isSome := by
  obtain ⟨e, he, hn'⟩ := I.toInv0.free I.fillLe
  obtain ⟨met, hm, M⟩ := probe_meets (hashAt := hashIn hs) (h := h) I.mask he ((slot_empty I.toOk).mpr hn')
  cases M with
  | empty n' k' d' on e' ge bef dum =>
    refine ⟨_, d', hm, ?_⟩
    rcases dum with rfl | ⟨a, b, x1, x2, x3, rfl, x5⟩
    · exact ⟨e', at_le (blk_le _ _ _) on, n', k', on, rfl, fun a b ho ha => (bef a b ho (by unfold Ahead; omega) ha).1⟩
    · exact ⟨x5, at_le (blk_le _ _ _) x1, a, b, x1, rfl, fun a' b' ho ha => (bef a' b' ho (by unfold Ahead; omega) (by unfold Ahead at *; omega)).1⟩
  | cand n' k' i' next on e' hh ge bef =>
    exfalso
    have hp := (slot_live I.toOk).mp e'
    have hlt' : i' < hs.length := by rw [← I.size]; exact (Array.getElem?_eq_some_iff.mp hp).1
    unfold hashIn at hh
    rw [List.getElem?_eq_getElem hlt'] at hh
    exact hn (hh ▸ List.getElem_mem hlt')

theorem Reached.mono {t t' : SetTable} {h : Int} {j : Nat} (hm : t'.mask = t.mask) (k : ∀ x, t.slot x ≠ .empty → t'.slot x ≠ .empty) (r : Reached t h j) : Reached t' h j := by
  obtain ⟨n, kk, on, e, b⟩ := r
  unfold Reached
  rw [hm]
  exact ⟨n, kk, on, e, fun a c ho ha => k _ (b a c ho ha)⟩

theorem getElem?_insert {α : Type} (l : List α) (p : Nat) (x : α) (hp : p ≤ l.length) (i : Nat) :
    (l.take p ++ x :: l.drop p)[i]? = if i < p then l[i]? else if i = p then some x else l[i - 1]? := by
  have hlen : (l.take p).length = p := by rw [List.length_take]; omega
  rw [List.getElem?_append, hlen]
  by_cases h : i < p
  · simp only [h, if_true]; rw [List.getElem?_take]; simp [h]
  · simp only [h, if_false]
    by_cases h2 : i = p
    · subst h2; simp
    · simp only [h2, if_false]
      rw [List.getElem?_cons]
      rw [if_neg (by omega), List.getElem?_drop]
      congr 1; omega

theorem put_eq (t : SetTable) (s : Nat) : t.put s = ({ t with place := SetTable.insertAt t.place (SetTable.below t.place s) s, dummies := if SetTable.has t.dummies s then SetTable.eraseAt t.dummies (SetTable.below t.dummies s) else t.dummies }, SetTable.below t.place s) := rfl

theorem mem_eraseAt {xs : Array Nat} (hs : xs.toList.Pairwise (· < ·)) {j : Nat} (hj : j ∈ xs.toList) (y : Nat) :
    y ∈ (SetTable.eraseAt xs (SetTable.below xs j)).toList ↔ y ∈ xs.toList ∧ y ≠ j := by
  rw [toList_eraseAt]
  obtain ⟨i, hi⟩ := Array.getElem?_of_mem (Array.mem_toList_iff.mp hj)
  rw [below_at hs hi]
  have hnd : xs.toList.Nodup := hs.imp (fun h => Nat.ne_of_lt h)
  have hi' : xs.toList[i]? = some j := by simpa using hi
  constructor
  · intro h
    refine ⟨List.mem_of_mem_eraseIdx h, fun e => ?_⟩
    subst e
    rw [List.mem_eraseIdx_iff_getElem?] at h
    obtain ⟨k, hk, e⟩ := h
    exact hk ((List.getElem?_inj (List.getElem?_eq_some_iff.mp e).1 hnd).mp (e.trans hi'.symm))
  · intro ⟨h1, h2⟩
    rw [List.mem_eraseIdx_iff_getElem?]
    obtain ⟨k, hk⟩ := List.mem_iff_getElem?.mp h1
    refine ⟨k, fun e => h2 ?_, hk⟩
    subst e
    rw [hi'] at hk; exact (Option.some.inj hk).symm

theorem mem_insertAt {xs : Array Nat} (p j y : Nat) : y ∈ (SetTable.insertAt xs p j).toList ↔ y = j ∨ y ∈ xs.toList := by
  have := (SetTable.insertAt_perm xs p j).mem_iff (a := y)
  rw [this]
  simp [or_comm]

theorem put_inv {t : SetTable} {hs : List Int} (I : Inv t hs) {h : Int} (hn : h ∉ hs) {s : Nat} {wd : Bool} (F : FreeAt t h s wd) :
    Inv0 (t.put s).1 (hs.take (t.put s).2 ++ h :: hs.drop (t.put s).2) ∧ (t.put s).1.fill = (if wd then t.fill else t.fill + 1) ∧ (t.put s).2 ≤ hs.length ∧ (t.put s).1.mask = t.mask ∧
      (t.put s).1.led = t.led ∧ (t.put s).1.plain = t.plain := by
  have hsp : s ∉ t.place.toList := by
    intro hm
    obtain ⟨i, hi⟩ := Array.getElem?_of_mem (Array.mem_toList_iff.mp hm)
    have := F.slot
    rw [(slot_live I.toOk).mpr hi] at this
    cases wd <;> cases this
  have hbl := (below_spec I.sp s).1
  have hple : SetTable.below t.place s ≤ hs.length := by rw [← I.size]; exact hbl
  have hdm : ∀ y, y ∈ (t.put s).1.dummies.toList ↔ y ∈ t.dummies.toList ∧ y ≠ s := by
    intro y
    rw [put_eq]
    dsimp only
    by_cases q : SetTable.has t.dummies s = true
    · rw [if_pos q]; exact mem_eraseAt I.sd ((has_iff I.sd s).mp q) y
    · rw [if_neg q]
      refine ⟨fun h => ⟨h, fun e => q ((has_iff I.sd s).mpr (e ▸ h))⟩, fun h => h.1⟩
  have hpm : ∀ y, y ∈ (t.put s).1.place.toList ↔ y = s ∨ y ∈ t.place.toList := fun y => by rw [put_eq]; exact mem_insertAt _ _ _
  have ok' : Ok (t.put s).1 := by
    refine ⟨?_, ?_, ?_, ?_, ?_⟩
    · rw [put_eq]; exact toList_insertAt_sorted I.sp hsp
    · rw [put_eq]; dsimp only
      split
      · rw [toList_eraseAt]; exact I.sd.sublist (List.eraseIdx_sublist _ _)
      · exact I.sd
    · intro j hj
      rcases (hpm j).mp hj with rfl | q
      · exact F.le
      · exact I.bp j q
    · intro j hj; exact I.bd j ((hdm j).mp hj).1
    · intro j hj hd
      obtain ⟨d1, d2⟩ := (hdm j).mp hd
      rcases (hpm j).mp hj with q | q
      · exact d2 q
      · exact I.dj j q d1
  have ne' : ∀ x, t.slot x ≠ .empty → (t.put s).1.slot x ≠ .empty := by
    intro x hx he
    obtain ⟨e1, e2⟩ := (slot_empty ok').mp he
    refine hx ((slot_empty I.toOk).mpr ⟨fun q => e1 ((hpm x).mpr (.inr q)), fun q => ?_⟩)
    by_cases hxs : x = s
    · exact e1 ((hpm x).mpr (.inl hxs))
    · exact e2 ((hdm x).mpr ⟨q, hxs⟩)
  have hgp : ∀ i, (t.put s).1.place[i]? = if i < (t.put s).2 then t.place[i]? else if i = (t.put s).2 then some s else t.place[i - 1]? := by
    intro i
    have h1 : (t.put s).1.place[i]? = (t.place.toList.take (t.put s).2 ++ s :: t.place.toList.drop (t.put s).2)[i]? := by
      have : (t.put s).1.place.toList = t.place.toList.take (t.put s).2 ++ s :: t.place.toList.drop (t.put s).2 := by
        rw [put_eq]; exact SetTable.toList_insertAt _ _ _
      rw [← this]; simp
    rw [h1, getElem?_insert _ _ _ (by rw [Array.length_toList]; exact hbl)]
    simp
  refine ⟨⟨ok', ?_, I.mask, ?_, ?_⟩, ?_, hple, rfl, rfl, rfl⟩
  · have h1 : (t.put s).1.place.size = t.place.size + 1 := by
      have := (SetTable.insertAt_perm t.place (SetTable.below t.place s) s).length_eq
      rw [put_eq]; simpa using this
    rw [h1, I.size]
    have : (t.put s).2 ≤ hs.length := hple
    simp only [List.length_append, List.length_take, List.length_cons, List.length_drop]
    omega
  · have hp : (hs.take (t.put s).2 ++ h :: hs.drop (t.put s).2).Perm (h :: hs) := by
      refine List.perm_middle.trans ?_
      rw [List.take_append_drop]
    exact hp.nodup_iff.mpr (List.nodup_cons.mpr ⟨hn, I.nodup⟩)
  · intro i j h' hj hh
    rw [hgp] at hj
    rw [getElem?_insert _ _ _ (show (t.put s).2 ≤ hs.length from hple)] at hh
    by_cases q : i < (t.put s).2
    · rw [if_pos q] at hj hh
      exact Reached.mono (t := t) (t' := (t.put s).1) rfl ne' (I.reach i j h' hj hh)
    · rw [if_neg q] at hj hh
      by_cases q2 : i = (t.put s).2
      · rw [if_pos q2] at hj hh
        cases hj; cases hh
        exact Reached.mono (t := t) (t' := (t.put s).1) rfl ne' F.reach
      · rw [if_neg q2] at hj hh
        exact Reached.mono (t := t) (t' := (t.put s).1) rfl ne' (I.reach _ j h' hj hh)
  · have h1 : (t.put s).1.place.size = t.place.size + 1 := by
      have := (SetTable.insertAt_perm t.place (SetTable.below t.place s) s).length_eq
      rw [put_eq]; simpa using this
    unfold SetTable.fill
    rw [h1]
    cases wd with
    | true =>
      have hsd : s ∈ t.dummies.toList := (slot_dummy I.toOk).mp F.slot
      have : (t.put s).1.dummies.size = t.dummies.size - 1 := by
        rw [put_eq]; dsimp only
        rw [if_pos ((has_iff I.sd s).mpr hsd), ← Array.length_toList, toList_eraseAt, List.length_eraseIdx]
        obtain ⟨i, hi⟩ := Array.getElem?_of_mem (Array.mem_toList_iff.mp hsd)
        rw [below_at I.sd hi, if_pos (by simpa using (Array.getElem?_eq_some_iff.mp hi).1)]
        simp
      have hpos : 0 < t.dummies.size := by
        rw [← Array.length_toList]; exact List.length_pos_of_mem hsd
      simp only [if_true]
      rw [this]; omega
    | false =>
      have hsd : s ∉ t.dummies.toList := ((slot_empty I.toOk).mp F.slot).2
      have : (t.put s).1.dummies = t.dummies := by
        rw [put_eq]; dsimp only
        rw [if_neg (fun q => hsd ((has_iff I.sd s).mp q))]
      rw [this]
      simp only [Bool.false_eq_true, if_false]; omega

theorem drop_inv {t : SetTable} {hs : List Int} (I : Inv t hs) {i : Nat} (hi : i < hs.length) :
    Inv (t.drop i) (hs.eraseIdx i) ∧ (t.drop i).mask = t.mask ∧ (t.drop i).fill = t.fill ∧ (t.drop i).led = t.led ∧ (t.drop i).plain = t.plain := by
  have hlt : i < t.place.size := by rw [I.size]; exact hi
  have hpj : t.place[i]? = some t.place[i] := Array.getElem?_eq_getElem hlt
  have hde : t.drop i = { t with place := SetTable.eraseAt t.place i, dummies := SetTable.insertAt t.dummies (SetTable.below t.dummies t.place[i]) t.place[i] } := by
    unfold SetTable.drop
    rw [hpj]
  have hjd : t.place[i] ∉ t.dummies.toList := I.dj _ (by simp)
  have hdm : ∀ y, y ∈ (t.drop i).dummies.toList ↔ y = t.place[i] ∨ y ∈ t.dummies.toList := fun y => by rw [hde]; exact mem_insertAt _ _ _
  have hpm : ∀ y, y ∈ (t.drop i).place.toList ↔ y ∈ t.place.toList ∧ y ≠ t.place[i] := fun y => by
    have := mem_eraseAt I.sp (j := t.place[i]) (by simp) y
    rw [below_at I.sp hpj] at this
    rw [hde]; exact this
  have ok' : Ok (t.drop i) := by
    refine ⟨?_, ?_, ?_, ?_, ?_⟩
    · rw [hde]; dsimp only; rw [toList_eraseAt]; exact I.sp.sublist (List.eraseIdx_sublist _ _)
    · rw [hde]; exact toList_insertAt_sorted I.sd hjd
    · intro j hj; rw [hde]; exact I.bp j ((hpm j).mp hj).1
    · intro j hj
      rw [hde]
      rcases (hdm j).mp hj with rfl | q
      · exact I.bp _ (by simp)
      · exact I.bd j q
    · intro j hj hd
      obtain ⟨p1, p2⟩ := (hpm j).mp hj
      rcases (hdm j).mp hd with q | q
      · exact p2 q
      · exact I.dj j p1 q
  have ne' : ∀ x, t.slot x ≠ .empty → (t.drop i).slot x ≠ .empty := by
    intro x hx he
    obtain ⟨e1, e2⟩ := (slot_empty ok').mp he
    refine hx ((slot_empty I.toOk).mpr ⟨fun q => ?_, fun q => e2 ((hdm x).mpr (.inr q))⟩)
    by_cases hxs : x = t.place[i]
    · exact e2 ((hdm x).mpr (.inl hxs))
    · exact e1 ((hpm x).mpr ⟨q, hxs⟩)
  have hmk : (t.drop i).mask = t.mask := by rw [hde]
  have hfl : (t.drop i).fill = t.fill := by
    unfold SetTable.fill
    have h1 : (t.drop i).place.size = t.place.size - 1 := by
      rw [hde]; dsimp only; rw [← Array.length_toList, toList_eraseAt, List.length_eraseIdx, if_pos (by simpa using hlt)]; simp
    have h2 : (t.drop i).dummies.size = t.dummies.size + 1 := by
      have := (SetTable.insertAt_perm t.dummies (SetTable.below t.dummies t.place[i]) t.place[i]).length_eq
      rw [hde]; simpa using this
    omega
  refine ⟨⟨⟨ok', ?_, by rw [hmk]; exact I.mask, ?_, ?_⟩, by rw [hmk, hfl]; exact I.room⟩, hmk, hfl, by rw [hde], by rw [hde]⟩
  · rw [hde]; dsimp only
    rw [← Array.length_toList, toList_eraseAt, List.length_eraseIdx, List.length_eraseIdx, if_pos (by simpa using hlt), if_pos hi, Array.length_toList, I.size]
  · exact I.nodup.sublist (List.eraseIdx_sublist _ _)
  · intro q j h' hj hh
    have hj' : (t.place.toList.eraseIdx i)[q]? = some j := by
      rw [← toList_eraseAt]
      rw [hde] at hj
      simpa using hj
    rw [List.getElem?_eraseIdx] at hj' hh
    have hq : ∀ z : Nat, t.place.toList[z]? = t.place[z]? := fun z => Array.getElem?_toList
    split at hj'
    · rename_i c
      rw [if_pos c] at hh
      rw [hq] at hj'
      exact (I.reach q j h' hj' hh).mono hmk ne'
    · rename_i c
      rw [if_neg c] at hh
      rw [hq] at hj'
      exact (I.reach _ j h' hj' hh).mono hmk ne'

end Tab
end
section
open PySem
namespace Tab

noncomputable abbrev Owner := Array (Option Nat)
noncomputable def occ (ow : Owner) (j : Nat) : Prop := ∃ k, ow[j]? = some (some k)

structure Lays (m : Nat) (hs : List Int) (ow : Owner) (k : Nat) : Prop where
  size : ow.size = m + 1
  lt : ∀ (j i : Nat), ow[j]? = some (some i) → i < k
  inj : ∀ (j j' i : Nat), ow[j]? = some (some i) → ow[j']? = some (some i) → j = j'
  all : ∀ i : Nat, i < k → ∃ j : Nat, ow[j]? = some (some i)
  reach : ∀ (j i : Nat) (h : Int), ow[j]? = some (some i) → hs[i]? = some h → ∃ n b, On m h n b ∧ at' m h n b = j ∧ ∀ a c, On m h a c → Ahead a c n b → occ ow (at' m h a c)

theorem free_spec {m : Nat} {h : Int} {ow : Owner} (hsz : ow.size = m + 1) {N : Nat} (hN : ¬ occ ow (blk m h N).1) :
    ∀ (f n : Nat), n ≤ N → N - n < f → (∀ a c, On m h a c → a < n → occ ow (at' m h a c)) →
      ∃ j, SetTable.layClean.free m ow f (blk m h n).1 (blk m h n).2 = some j ∧ j ≤ m ∧ ow[j]? = some none ∧
        ∃ n' b, On m h n' b ∧ at' m h n' b = j ∧ ∀ a c, On m h a c → Ahead a c n' b → occ ow (at' m h a c)
  | 0, n, _, hf, _ => by omega
  | f + 1, n, hn, hf, hb => by
    unfold SetTable.layClean.free
    have hi := blk_le m h n
    have hrun : SetTable.runEnd m (blk m h n).1 + 1 - (blk m h n).1 = len m (blk m h n).1 + 1 := by
      unfold len SetTable.runEnd; split <;> omega
    rw [hrun]
    have key : ∀ c, c ≤ len m (blk m h n).1 → (ow.getD ((blk m h n).1 + c) (some 0)).isNone = true ∨ occ ow (at' m h n c) := by
      intro c hc
      have hle := at_le hi hc
      have hlt : (blk m h n).1 + c < ow.size := by omega
      cases q : ow[(blk m h n).1 + c] with
      | none => left; simp [Array.getD, hlt, q]
      | some k => right; exact ⟨k, by unfold at'; rw [Array.getElem?_eq_getElem hlt, q]⟩
    cases hfd : (List.range (len m (blk m h n).1 + 1)).find? (fun k => (ow.getD ((blk m h n).1 + k) (some 0)).isNone) with
    | some c =>
      dsimp only
      have h1 := List.mem_range.mp (List.mem_of_find?_eq_some hfd)
      have h2 := List.find?_some hfd
      have hle := at_le hi (show c ≤ len m (blk m h n).1 by omega)
      have hlt : (blk m h n).1 + c < ow.size := by omega
      refine ⟨_, rfl, hle, ?_, n, c, by unfold On; omega, rfl, fun a c' ho ha => ?_⟩
      · simp [Array.getD, hlt] at h2
        rw [Array.getElem?_eq_getElem hlt, h2]
      · rcases ha with ha | ⟨rfl, ha⟩
        · exact hb a c' ho ha
        · rcases key c' (by omega) with q | q
          · exfalso
            have := List.find?_eq_some_iff_getElem.mp hfd
            obtain ⟨_, i, hi', e, hbef⟩ := this
            have e' : i = c := by simpa using e
            subst e'
            have := hbef c' ha
            rw [List.getElem_range] at this
            rw [q] at this
            cases this
          · exact q
    | none =>
      dsimp only
      have hno := List.find?_eq_none.mp hfd
      have hall : ∀ c, c ≤ len m (blk m h n).1 → occ ow (at' m h n c) := fun c hc => by
        rcases key c hc with q | q
        · exact absurd q (hno c (List.mem_range.mpr (by omega)))
        · exact q
      have hlt : n < N := by
        rcases Nat.lt_or_eq_of_le hn with q | rfl
        · exact q
        · exact absurd (hall 0 (Nat.zero_le _)) (by simpa [at'] using hN)
      exact free_spec hsz hN f (n + 1) (by omega) (by omega) (fun a c ho ha => by
        rcases Nat.lt_or_eq_of_le (Nat.le_of_lt_succ ha) with q | rfl
        · exact hb a c ho q
        · exact hall c ho)

noncomputable def layStep (m : Nat) (acc : Option (Owner × Nat)) (h : Int) : Option (Owner × Nat) := do
  let (owner, k) ← acc
  let j ← SetTable.layClean.free m owner (SetTable.turns m) (SetTable.bits h % (m + 1)) (SetTable.bits h)
  pure (owner.setIfInBounds j (some k), k + 1)

theorem layClean_eq (m : Nat) (hashes : Array Int) : SetTable.layClean m hashes = (hashes.toList.foldl (layStep m) (some (Array.replicate (m + 1) none, 0))).map (·.1) := by
  unfold SetTable.layClean
  rw [← Array.foldl_toList]
  rfl

theorem Lays.free_slot {m : Nat} {hs : List Int} {ow : Owner} {k : Nat} (L : Lays m hs ow k) (hk : k ≤ m) : ∃ e, e ≤ m ∧ ¬ occ ow e := by
  -- the occupied slots are at most k
  cases hq : (List.range (m + 1)).find? (fun e => match ow[e]? with | some (some _) => false | _ => true) with
  | some e =>
    have h1 := List.mem_range.mp (List.mem_of_find?_eq_some hq)
    have h2 := List.find?_some hq
    refine ⟨e, by omega, fun ⟨i, hi⟩ => ?_⟩
    rw [hi] at h2; simp at h2
  | none =>
    exfalso
    have hno := List.find?_eq_none.mp hq
    have hsome : ∀ e, e < m + 1 → ∃ i, ow[e]? = some (some i) := fun e he => by
      have := hno e (List.mem_range.mpr he)
      cases h : ow[e]? with
      | none => rw [h] at this; simp at this
      | some x => cases x with
        | none => rw [h] at this; simp at this
        | some i => exact ⟨i, rfl⟩
    -- an injection of m + 1 slots into k numbers
    let g : Nat → Nat := fun e => match ow[e]? with | some (some i) => i | _ => 0
    have hg : ∀ e, e < m + 1 → ow[e]? = some (some (g e)) := fun e he => by
      obtain ⟨i, hi⟩ := hsome e he
      show _ = some (some (match ow[e]? with | some (some i) => i | _ => 0))
      rw [hi]
    have hnd : ((List.range (m + 1)).map g).Nodup := by
      unfold List.Nodup
      rw [List.pairwise_map]
      refine List.Pairwise.imp_of_mem ?_ (List.nodup_range (n := m + 1))
      intro a b ha hb hab e
      have h1 := hg a (List.mem_range.mp ha)
      have h2 := hg b (List.mem_range.mp hb)
      rw [← e] at h2
      exact hab (L.inj _ _ _ h1 h2)
    have := nodup_le _ (List.range k) hnd fun x hx => by
      obtain ⟨e, he, rfl⟩ := List.mem_map.mp hx
      exact List.mem_range.mpr (L.lt _ _ (hg e (List.mem_range.mp he)))
    simp at this
    omega

theorem Lays.step {m : Nat} (g : GoodMask m) {hs : List Int} {ow : Owner} {k : Nat} (L : Lays m hs ow k) (hk : k ≤ m) {h : Int} (hh : hs[k]? = some h) :
    ∃ ow', layStep m (some (ow, k)) h = some (ow', k + 1) ∧ Lays m hs ow' (k + 1) := by
  obtain ⟨e, he, hne⟩ := L.free_slot hk
  obtain ⟨N, hN, eN⟩ := blk_covers g h he
  obtain ⟨j, hj, hjm, hjn, hr⟩ := free_spec (h := h) L.size (N := N) (by rw [eN]; exact hne) (SetTable.turns m) 0 (Nat.zero_le _) (by unfold SetTable.turns; omega) (fun a c _ ha => by omega)
  refine ⟨ow.setIfInBounds j (some k), ?_, ?_⟩
  · unfold layStep
    have : SetTable.layClean.free m ow (SetTable.turns m) (SetTable.bits h % (m + 1)) (SetTable.bits h) = some j := hj
    simp only [Option.bind_eq_bind, Option.bind_some, this, Option.pure_def]
  · have hjs : j < ow.size := by rw [L.size]; omega
    have hget : ∀ x : Nat, (ow.setIfInBounds j (some k))[x]? = if j = x then some (some k) else ow[x]? := by
      intro x
      rw [Array.getElem?_setIfInBounds]
      split
      · first | rfl | rw [if_pos hjs]
      · rfl
    have hocc : ∀ x, occ ow x → occ (ow.setIfInBounds j (some k)) x := fun x ⟨i, hi⟩ => by
      by_cases q : j = x
      · exact ⟨k, by rw [hget, if_pos q]⟩
      · exact ⟨i, by rw [hget, if_neg q]; exact hi⟩
    refine ⟨by rw [Array.size_setIfInBounds]; exact L.size, ?_, ?_, ?_, ?_⟩
    · intro x i hx
      rw [hget] at hx
      split at hx
      · cases hx; omega
      · have := L.lt x i hx; omega
    · intro x y i hx hy
      rw [hget] at hx hy
      split at hx <;> split at hy
      · rename_i a b; omega
      · cases hx; have := L.lt y _ hy; omega
      · cases hy; have := L.lt x _ hx; omega
      · exact L.inj x y i hx hy
    · intro i hi
      rcases Nat.lt_or_eq_of_le (Nat.le_of_lt_succ hi) with q | rfl
      · obtain ⟨x, hx⟩ := L.all i q
        refine ⟨x, ?_⟩
        rw [hget, if_neg]
        · exact hx
        · intro e'; subst e'; rw [hjn] at hx; cases hx
      · exact ⟨j, by rw [hget, if_pos rfl]⟩
    · intro x i h' hx hi
      rw [hget] at hx
      split at hx
      · rename_i e'
        cases hx
        subst e'
        rw [hh] at hi; cases hi
        obtain ⟨n, b, o1, o2, o3⟩ := hr
        exact ⟨n, b, o1, o2, fun a c ho ha => hocc _ (o3 a c ho ha)⟩
      · obtain ⟨n, b, o1, o2, o3⟩ := L.reach x i h' hx hi
        exact ⟨n, b, o1, o2, fun a c ho ha => hocc _ (o3 a c ho ha)⟩

theorem Lays.run {m : Nat} (g : GoodMask m) (hs : List Int) : ∀ (rest : List Int) (k : Nat) (ow : Owner), Lays m hs ow k → hs.drop k = rest → k + rest.length ≤ m → 
    ∃ ow', rest.foldl (layStep m) (some (ow, k)) = some (ow', k + rest.length) ∧ Lays m hs ow' (k + rest.length)
  | [], k, ow, L, _, _ => ⟨ow, rfl, L⟩
  | h :: rest, k, ow, L, hd, hl => by
    have hh : hs[k]? = some h := by
      have : (hs.drop k)[0]? = some h := by rw [hd]; rfl
      rw [List.getElem?_drop] at this
      simpa using this
    obtain ⟨ow1, e1, L1⟩ := L.step g (by simp at hl; omega) hh
    obtain ⟨ow2, e2, L2⟩ := Lays.run g hs rest (k + 1) ow1 L1 (by rw [← List.drop_drop, hd]; rfl) (by simp at hl; omega)
    refine ⟨ow2, ?_, ?_⟩
    · rw [List.foldl_cons, e1, e2]; simp; omega
    · have : k + (h :: rest).length = k + 1 + rest.length := by simp; omega
      rw [this]; exact L2

theorem Lays.start (m : Nat) (hs : List Int) : Lays m hs (Array.replicate (m + 1) none) 0 := by
  have hno : ∀ (j i : Nat), (Array.replicate (m + 1) (none : Option Nat))[j]? ≠ some (some i) := by
    intro j i e
    rw [Array.getElem?_replicate] at e
    split at e <;> simp at e
  refine ⟨by simp, ?_, ?_, ?_, ?_⟩
  · intro j i h; exact absurd h (hno j i)
  · intro j j' i h; exact absurd h (hno j i)
  · intro i h; omega
  · intro j i h e; exact absurd e (hno j i)

end Tab
end
section
open PySem
namespace Tab

theorem filterMap_all_some {α β : Type} (f : α → Option β) : ∀ (l : List α), (∀ a ∈ l, (f a).isSome = true) → ∀ q : Nat, (l.filterMap f)[q]? = (l[q]?).bind f
  | [], _, q => by simp
  | a :: l, h, q => by
    have ha := h a (List.mem_cons.mpr (.inl rfl))
    obtain ⟨b, hb⟩ := Option.isSome_iff_exists.mp ha
    rw [List.filterMap_cons, hb]
    cases q with
    | zero => simp [hb]
    | succ q => simpa using filterMap_all_some f l (fun x hx => h x (List.mem_cons.mpr (.inr hx))) q

theorem laid_ok {m : Nat} (finger moves : Nat) (led plain : Bool) {hashes : Array Int} (g : GoodMask m) (hn : hashes.toList.Nodup) (hroom : hashes.size ≤ m) :
    ∃ t order, SetTable.laid m finger moves led plain hashes = some (t, order) ∧ order.toList.Perm (List.range hashes.size) ∧ t.mask = m ∧ t.led = led ∧ t.plain = plain ∧ t.dummies = #[] ∧
      t.fill = hashes.size ∧ Inv0 t (order.toList.filterMap fun i => hashes.toList[i]?) := by
  obtain ⟨ow, e, L⟩ := Lays.run g hashes.toList hashes.toList 0 _ (Lays.start m hashes.toList) rfl (by simpa using hroom)
  have L : Lays m hashes.toList ow hashes.size := by simpa using L
  have hlc : SetTable.layClean m hashes = some ow := by rw [layClean_eq, e]; rfl
  let live := (List.range (m + 1)).filterMap fun j => (ow.getD j none).map (j, ·)
  have hmem : ∀ j i, (j, i) ∈ live ↔ ow[j]? = some (some i) := by
    intro j i
    show (j, i) ∈ (List.range (m + 1)).filterMap _ ↔ _
    rw [List.mem_filterMap]
    constructor
    · rintro ⟨x, hx, hy⟩
      have hlt : x < ow.size := by rw [L.size]; exact List.mem_range.mp hx
      cases q : ow[x] with
      | none => simp [Array.getD, hlt, q] at hy
      | some k =>
        simp [Array.getD, hlt, q] at hy
        obtain ⟨rfl, rfl⟩ := hy
        rw [Array.getElem?_eq_getElem hlt, q]
    · intro h
      have hlt := (Array.getElem?_eq_some_iff.mp h).1
      refine ⟨j, List.mem_range.mpr (by rw [L.size] at hlt; exact hlt), ?_⟩
      simp [Array.getD, hlt]
      exact (Array.getElem?_eq_some_iff.mp h).2
  have hsorted : (live.map (·.1)).Pairwise (· < ·) := by
    rw [List.pairwise_map]
    show ((List.range (m + 1)).filterMap _).Pairwise _
    rw [List.pairwise_filterMap]
    refine List.Pairwise.imp ?_ (List.pairwise_lt_range (n := m + 1))
    intro a b hab x hx y hy
    obtain ⟨i, _, rfl⟩ := Option.map_eq_some_iff.mp hx
    obtain ⟨i', _, rfl⟩ := Option.map_eq_some_iff.mp hy
    exact hab
  have hordnd : (live.map (·.2)).Nodup := by
    unfold List.Nodup
    rw [List.pairwise_map]
    rw [List.pairwise_map] at hsorted
    refine List.Pairwise.imp_of_mem ?_ hsorted
    intro a b ha hb hab e'
    obtain ⟨a1, a2⟩ := a; obtain ⟨b1, b2⟩ := b
    have e' : a2 = b2 := e'
    subst e'
    exact Nat.ne_of_lt hab (L.inj _ _ _ ((hmem _ _).mp ha) ((hmem _ _).mp hb))
  have hperm : (live.map (·.2)).Perm (List.range hashes.size) := by
    refine (List.perm_ext_iff_of_nodup hordnd List.nodup_range).mpr fun i => ?_
    rw [List.mem_map, List.mem_range]
    constructor
    · rintro ⟨⟨j, i'⟩, h, rfl⟩
      exact L.lt _ _ ((hmem _ _).mp h)
    · intro h
      obtain ⟨j, hj⟩ := L.all i h
      exact ⟨(j, i), (hmem _ _).mpr hj, rfl⟩
  have hlen : live.length = hashes.size := by
    have := hperm.length_eq
    simpa using this
  refine ⟨{ mask := m, place := (live.map (·.1)).toArray, dummies := #[], finger, led, moves, plain }, (live.map (·.2)).toArray, ?_, by simpa using hperm, rfl, rfl, rfl, rfl, ?_, ?_⟩
  · unfold SetTable.laid
    rw [hlc]
    rfl
  · show (live.map (·.1)).toArray.size + 0 = _
    simpa using hlen
  · have hok : Ok { mask := m, place := (live.map (·.1)).toArray, dummies := #[], finger := finger, led := led, moves := moves, plain := plain } := by
      refine ⟨hsorted, by simp, ?_, by simp, by simp⟩
      intro j hj
      obtain ⟨⟨j', i⟩, h, rfl⟩ := List.mem_map.mp hj
      have := (Array.getElem?_eq_some_iff.mp ((hmem _ _).mp h)).1
      rw [L.size] at this
      exact Nat.le_of_lt_succ this
    have hall : ∀ i ∈ live.map (·.2), (hashes.toList[i]?).isSome = true := by
      intro i hi
      have := List.mem_range.mp (hperm.mem_iff.mp hi)
      rw [List.getElem?_eq_getElem (by simpa using this)]; rfl
    refine ⟨hok, ?_, g, ?_, ?_⟩
    · have h1 : ((live.map (·.2)).filterMap fun i => hashes.toList[i]?).Perm ((List.range hashes.size).filterMap fun i => hashes.toList[i]?) := hperm.filterMap _
      have h2 := List.filterMap_getElem?_range_length hashes.toList
      rw [Array.length_toList] at h2
      rw [h2] at h1
      have := h1.length_eq
      simp only [List.size_toArray, List.length_map, Array.length_toList] at this ⊢
      rw [hlen]; exact this.symm
    · have h1 : ((live.map (·.2)).filterMap fun i => hashes.toList[i]?).Perm ((List.range hashes.size).filterMap fun i => hashes.toList[i]?) := hperm.filterMap _
      have h2 := List.filterMap_getElem?_range_length hashes.toList
      rw [Array.length_toList] at h2
      rw [h2] at h1
      exact h1.nodup_iff.mpr hn
    · intro q j h hj hh
      have hj' : (live.map (·.1))[q]? = some j := by simpa using hj
      have hh' : ((live.map (·.2)).filterMap fun i => hashes.toList[i]?)[q]? = some h := hh
      rw [filterMap_all_some _ _ hall] at hh'
      rw [List.getElem?_map] at hj' hh'
      obtain ⟨⟨j', i⟩, hx, rfl⟩ := Option.map_eq_some_iff.mp hj'
      rw [hx] at hh'
      have hh2 : hashes.toList[i]? = some h := by simpa using hh'
      obtain ⟨n, b, o1, o2, o3⟩ := L.reach _ i h ((hmem _ _).mp (List.mem_of_getElem? hx)) hh2
      refine ⟨n, b, o1, o2, fun a c ho ha he => ?_⟩
      obtain ⟨i', hi'⟩ := o3 a c ho ha
      have := ((slot_empty hok).mp he).1
      exact this (List.mem_map.mpr ⟨_, (hmem _ _).mpr hi', rfl⟩)

theorem sizeAbove_ok : ∀ n, n < 128 → GoodMask (SetTable.sizeAbove n - 1) ∧ n < SetTable.sizeAbove n := by
  have h : (List.range 128).all (fun n => (SetTable.sizeAbove n - 1 == 7 || SetTable.sizeAbove n - 1 == 15 || SetTable.sizeAbove n - 1 == 31 || SetTable.sizeAbove n - 1 == 63 || SetTable.sizeAbove n - 1 == 127) && decide (n < SetTable.sizeAbove n)) = true := by decide +kernel
  intro n hn
  have := List.all_eq_true.mp h n (List.mem_range.mpr hn)
  obtain ⟨h1, h2⟩ := Bool.and_eq_true_iff.mp this
  refine ⟨?_, of_decide_eq_true h2⟩
  generalize SetTable.sizeAbove n - 1 = m at h1
  rcases (Bool.or_eq_true _ _).mp h1 with h1 | h1
  · rcases (Bool.or_eq_true _ _).mp h1 with h1 | h1
    · rcases (Bool.or_eq_true _ _).mp h1 with h1 | h1
      · rcases (Bool.or_eq_true _ _).mp h1 with h1 | h1
        · exact .inl (eq_of_beq h1)
        · exact .inr (.inl (eq_of_beq h1))
      · exact .inr (.inr (.inl (eq_of_beq h1)))
    · exact .inr (.inr (.inr (.inl (eq_of_beq h1))))
  · exact .inr (.inr (.inr (.inr (eq_of_beq h1))))

theorem sizeAbove_line : ∀ n, n < 128 → ¬ SetTable.sizeAbove n > sizeLine := by
  have h : (List.range 128).all (fun n => decide (SetTable.sizeAbove n ≤ 128)) = true := by decide +kernel
  intro n hn
  have := List.all_eq_true.mp h n (List.mem_range.mpr hn)
  have h1 : SetTable.sizeAbove n ≤ 128 := of_decide_eq_true this
  have h2 : sizeLine = 2 ^ 24 := rfl
  have h3 : (2 : Nat) ^ 24 = 16777216 := by decide
  omega

end Tab
end
section
open PySem
noncomputable abbrev Pt := Int × Int
noncomputable def InBox (p : Pt) : Prop := 0 ≤ p.1 ∧ p.1 < 5 ∧ 0 ≤ p.2 ∧ p.2 < 5

noncomputable def ptHash (p : Pt) : Int := reduceHash (Builtin.Tuple.tupleHashOf [hashInt p.1, hashInt p.2])

noncomputable def boxPts : List Pt := [0, 1, 2, 3, 4].flatMap fun r => [0, 1, 2, 3, 4].map fun c => ((r : Int), (c : Int))
theorem mem_boxPts {p : Pt} (h : InBox p) : p ∈ boxPts := by
  obtain ⟨r, c⟩ := p
  obtain ⟨h1, h2, h3, h4⟩ := h
  simp only at h1 h2 h3 h4
  obtain ⟨i, rfl⟩ := Int.eq_ofNat_of_zero_le h1
  obtain ⟨j, rfl⟩ := Int.eq_ofNat_of_zero_le h3
  have k : ∀ i < 5, ((i : Nat) : Int) ∈ ([0, 1, 2, 3, 4] : List Int) := by decide +kernel
  exact List.mem_flatMap.mpr ⟨_, k i (Int.ofNat_lt.mp h2), List.mem_map.mpr ⟨_, k j (Int.ofNat_lt.mp h4), rfl⟩⟩
theorem boxHash_inj : (boxPts.map ptHash).Nodup := by decide +kernel
theorem ptHash_inj {p q : Pt} (hp : InBox p) (hq : InBox q) (h : ptHash p = ptHash q) : p = q := by
  obtain ⟨i, hi⟩ := List.mem_iff_getElem?.mp (mem_boxPts hp)
  obtain ⟨j, hj⟩ := List.mem_iff_getElem?.mp (mem_boxPts hq)
  have h1 : (boxPts.map ptHash)[i]? = some (ptHash p) := by rw [List.getElem?_map, hi]; rfl
  have h2 : (boxPts.map ptHash)[j]? = some (ptHash p) := by rw [List.getElem?_map, hj, h]; rfl
  have := (List.getElem?_inj (List.getElem?_eq_some_iff.mp h1).1 boxHash_inj).mp (h1.trans h2.symm)
  subst this
  rw [hi] at hj; exact Option.some.inj hj

noncomputable def IsPt (h : Heap) (p : Pt) (v : Value) : Prop :=
  ∃ a o n t u, v = .ref a ∧ h.get? a = some o ∧ o.cls = .type "tuple" ∧ o.dict = none ∧ o.data = .seq #[.int p.1 t, .int p.2 u] n
theorem IsPt.key {prog : Program} {w : World} {h : Heap} {p : Pt} {v : Value} (x : IsPt h p v) : ∃ a, v = .ref a ∧ IsTupleKey (intKind prog w) h [p.1, p.2] a := by
  obtain ⟨a, o, n, t, u, rfl, ho, hc, _, hd⟩ := x
  refine ⟨a, rfl, o, _, n, ho, hc, hd, ?_⟩
  exact .cons (by simp [intKind, Value.isInt]) (.cons (by simp [intKind, Value.isInt]) .nil)
theorem IsPt.keep {h h' : Heap} {p : Pt} {v : Value} (x : IsPt h p v) (k : ∀ b o, h.get? b = some o → o.cls = .type "tuple" → (∃ vs n, o.data = .seq vs n) → ∃ sl, h'.get? b = some { o with slots := sl }) : IsPt h' p v := by
  obtain ⟨a, o, n, t, u, rfl, ho, hc, hd, hs⟩ := x
  obtain ⟨sl, e⟩ := k a o ho hc ⟨_, _, hs⟩
  exact ⟨a, _, n, t, u, rfl, e, hc, hd, hs⟩

structure Els (h : Heap) (l : List Pt) (es : List (Int × Value)) : Prop where
  hash : es.map (·.1) = l.map ptHash
  pts : ∀ (i : Nat) (p : Pt) (e : Int × Value), l[i]? = some p → es[i]? = some e → IsPt h p e.2

theorem Els.length {h : Heap} {l : List Pt} {es : List (Int × Value)} (x : Els h l es) : es.length = l.length := by
  have := congrArg List.length x.hash
  simpa using this
theorem Els.at {h : Heap} {l : List Pt} {es : List (Int × Value)} (x : Els h l es) {i : Nat} {p : Pt} (hi : l[i]? = some p) : ∃ v, es[i]? = some (ptHash p, v) ∧ IsPt h p v := by
  have hlt := (List.getElem?_eq_some_iff.mp hi).1
  have hlt' : i < es.length := by rw [x.length]; exact hlt
  have h1 : (es.map (·.1))[i]? = some (ptHash p) := by rw [x.hash, List.getElem?_map, hi]; rfl
  rw [List.getElem?_map, List.getElem?_eq_getElem hlt'] at h1
  have h2 : es[i].1 = ptHash p := by simpa using h1
  refine ⟨es[i].2, ?_, x.pts i p es[i] hi (List.getElem?_eq_getElem hlt')⟩
  rw [List.getElem?_eq_getElem hlt', ← h2]
theorem Els.keep {h h' : Heap} {l : List Pt} {es : List (Int × Value)} (x : Els h l es) (k : ∀ b o, h.get? b = some o → o.cls = .type "tuple" → (∃ vs n, o.data = .seq vs n) → ∃ sl, h'.get? b = some { o with slots := sl }) : Els h' l es :=
  ⟨x.hash, fun i p e h1 h2 => (x.pts i p e h1 h2).keep k⟩

structure PSet (w : World) (h : Heap) (a : Addr) (l : List Pt) : Prop where
  obj : ∃ o es ep t, h.get? a = some o ∧ o.ExactSet ∧ o.data = .set es ep t ∧ Tab.Inv t (es.toList.map (·.1)) ∧ (w.params.followText "set-order" = false → t.led = true ∧ t.plain = true) ∧ Els h l es.toList
  box : ∀ p ∈ l, InBox p

theorem PSet.nodup {w : World} {h : Heap} {a : Addr} {l : List Pt} (S : PSet w h a l) : l.Nodup := by
  obtain ⟨o, es, ep, t, ho, hx, hd, I, hb, E⟩ := S.obj
  have := I.nodup
  rw [E.hash] at this
  unfold List.Nodup at this
  rw [List.pairwise_map] at this
  exact this.imp (fun hne e => hne (congrArg ptHash e))
theorem PSet.keep {w : World} {h h' : Heap} {a : Addr} {l : List Pt} (S : PSet w h a l) (ha : h'.get? a = h.get? a) (k : ∀ b o, h.get? b = some o → o.cls = .type "tuple" → (∃ vs n, o.data = .seq vs n) → ∃ sl, h'.get? b = some { o with slots := sl }) : PSet w h' a l := by
  obtain ⟨o, es, ep, t, ho, hx, hd, I, hb, E⟩ := S.obj
  exact ⟨⟨o, es, ep, t, ha.trans ho, hx, hd, I, hb, E.keep k⟩, S.box⟩
theorem PSet.typeIs {w : World} {s : Shared} {a : Addr} {l : List Pt} (S : PSet w s.heap a l) : s.TypeIs (.ref a) "set" :=
  let ⟨o, _, _, _, ho, hx, _⟩ := S.obj; ⟨o, ho, hx.1⟩
theorem PSet.noDict {w : World} {h : Heap} {a : Addr} {l : List Pt} (S : PSet w h a l) : ∀ b, Value.ref a = .ref b → ∃ ob, h.get? b = some ob ∧ ob.dict = none :=
  fun b e => by injection e with e; subst e; exact let ⟨o, _, _, _, ho, hx, _⟩ := S.obj; ⟨o, ho, hx.2.1⟩

theorem inv_fits {t : SetTable} {es : Array (Int × Value)} (I : Tab.Inv t (es.toList.map (·.1))) : t.fits es.size = true := by
  unfold SetTable.fits
  have h1 := I.size
  have h2 := I.fillLe
  simp at h1
  simp [h1, h2]
theorem inv_noGave {t : SetTable} {hs : List Int} (I : Tab.Inv t hs) : t.gaveWay = false := by
  unfold SetTable.gaveWay
  rcases I.mask with h | h | h | h | h <;> rw [h] <;> rfl

section
variable {prog : Program} {w : World} {A : Around} {E : Value → Shared → Prop} {s : Shared} {a : Addr} {l : List Pt} {p : Pt} {x : Value}

theorem wp_eqBool_pt {q : Pt} {y : Value} {Q : Bool → Shared → Prop} (hu : A.units < cLine) (hx : IsPt s.heap p x) (hy : IsPt s.heap q y) (h : Q (decide (p = q)) s) :
    wpAny (model prog w) A (eqBool x y) Q E s := by
  obtain ⟨b, rfl, k1⟩ := hx.key (prog := prog) (w := w)
  obtain ⟨c, rfl, k2⟩ := hy.key (prog := prog) (w := w)
  refine wpAny_eqBool_tuple hu k1 k2 ?_
  have : decide ([p.1, p.2] = [q.1, q.2]) = decide (p = q) := by
    apply decide_eq_decide.mpr
    simp [Prod.ext_iff]
  rw [this]; exact h
theorem wp_pyHash_pt {Q : Int → Shared → Prop} (hu : A.units < cLine) (hx : IsPt s.heap p x) (h : Q (ptHash p) { s with toks := s.toks + 3 }) :
    wpAny (model prog w) A (pyHash x) Q E s := by
  obtain ⟨b, rfl, k1⟩ := hx.key (prog := prog) (w := w)
  exact wpAny_pyHash_tuple hu k1 h

theorem wp_eqIsQuiet_pt {Q : Bool → Shared → Prop} (hx : IsPt s.heap p x) (h : Q true s) : wpAny (model prog w) A (eqIsQuiet 8 x) Q E s := by
  obtain ⟨b, rfl, k1⟩ := hx.key (prog := prog) (w := w)
  exact wpAny_eqIsQuiet_tuple k1 h

theorem wp_ofAClass_pt {Q : Bool → Shared → Prop} (hx : IsPt s.heap p x) (h : Q false s) : wpAny (model prog w) A (ofAClassStatement 8 x) Q E s := by
  obtain ⟨b, o, n, t, u, rfl, ho, hc, _, hd⟩ := hx
  have hT : s.TypeIs (.ref b) "tuple" := ⟨o, ho, hc⟩
  unfold ofAClassStatement
  refine wpAny_bind (wpAny_typeOf hT ?_)
  dsimp only
  refine wpAny_bind ?_
  refine wpAny_pure ?_
  rw [if_neg (by decide)]
  refine wpAny_bind (wpAny_seqItems ho hd ?_)
  dsimp only
  refine wpAny_bind ?_
  have : ∀ (i : Int) (t : Tok), ofAClassStatement 7 (.int i t) = pure false := fun i t => rfl
  refine wpAny_of_eq (a := ((none, ()) : Option Bool × Unit)) ?_ (wpAny_pure h)
  simp [this]

theorem wp_searchSeen_pt {ys : List Value} {Q : Bool → Shared → Prop} (hx : IsPt s.heap p x) (hys : ∀ y ∈ ys, ∃ q, IsPt s.heap q y) (h : Q false s) : wpAny (model prog w) A (searchCouldBeSeen x ys) Q E s := by
  unfold searchCouldBeSeen
  refine wpAny_bind ?_
  refine wpAny_forIn_list (s := s) _ (fun rest b s' => s' = s ∧ b = ((none, ()) : Option Bool × Unit) ∧ ∀ y ∈ rest, ∃ q, IsPt s.heap q y) _ ?_ ?_ ys _ ⟨rfl, rfl, hys⟩
  · intro y rest b s' ⟨e1, e2, hr⟩
    subst e1
    obtain ⟨q, hq⟩ := hr y (List.mem_cons.mpr (.inl rfl))
    have hrest : ∀ y ∈ rest, ∃ q, IsPt s'.heap q y := fun z hz => hr z (List.mem_cons.mpr (.inr hz))
    dsimp only
    refine wpAny_ite ?_
    generalize (_ || (carriedByValue x && carriedByValue y)) = cnd
    cases cnd with
    | true => rw [if_pos rfl]; exact wpAny_pure ⟨rfl, rfl, hrest⟩
    | false =>
      rw [if_neg (by decide)]
      refine wpAny_bind (wp_eqIsQuiet_pt hx ?_)
      rw [if_neg (by decide)]
      refine wpAny_bind (wp_eqIsQuiet_pt hq ?_)
      rw [if_neg (by decide)]
      refine wpAny_bind (wp_ofAClass_pt hx ?_)
      rw [if_neg (by decide)]
      refine wpAny_bind (wp_ofAClass_pt hq ?_)
      rw [if_neg (by decide)]
      exact wpAny_pure ⟨rfl, rfl, hrest⟩
  · intro b s' ⟨e1, e2, _⟩
    subst e1 e2
    exact wpAny_pure h

end
end
section
open PySem
section
variable {prog : Program} {w : World} {A : Around} {E : Value → Shared → Prop} {s : Shared} {a : Addr} {l : List Pt} {p : Pt} {x : Value}
variable {o : Obj} {es : Array (Int × Value)} {ep : Nat} {t : SetTable}

theorem probe_congr {f g : Nat → Int} (h : ∀ i, f i = g i) (t : SetTable) (k : Int) (q : SetTable.Probe) : t.probe f k q = t.probe g k q := by
  have : f = g := funext h
  rw [this]

theorem hashIn_es (es : Array (Int × Value)) (i : Nat) : (es[i]?.map (·.1)).getD 0 = Tab.hashIn (es.toList.map (·.1)) i := by
  unfold Tab.hashIn
  rw [List.getElem?_map, Array.getElem?_toList]

theorem wp_setSearch {adding : Bool} {Q : SetFound → Shared → Prop} (hu : A.units < cLine) (ho : s.heap.get? a = some o) (hd : o.data = .set es ep t)
    (I : Tab.Inv t (es.toList.map (·.1))) (El : Els s.heap l es.toList) (hbox : ∀ q ∈ l, InBox q) (hx : IsPt s.heap p x) (hb : InBox p)
    (h1 : ∀ i : Nat, l[i]? = some p → Q (.there (if adding then none else some i)) s)
    (h2 : p ∉ l → ∀ slot wd, Tab.FreeAt t (ptHash p) slot wd → Q (.free slot wd) s) :
    wpAny (model prog w) A (setSearch a x (ptHash p) adding) Q E s := by
  have hf := inv_fits I
  refine wpAny_bind (m := setState a) (wpAny_setState_of ho hd hf ?_)
  dsimp only
  rw [if_neg (by rw [inv_noGave I]; decide)]
  have hpc : t.probe (fun i => (es[i]?.map (·.1)).getD 0) (ptHash p) ((none : Option SetTable.Probe).getD (t.probeStart (ptHash p))) = t.probe (Tab.hashIn (es.toList.map (·.1))) (ptHash p) (t.probeStart (ptHash p)) :=
    probe_congr (hashIn_es es) _ _ _
  by_cases hm : p ∈ l
  · obtain ⟨i, hi⟩ := List.mem_iff_getElem?.mp hm
    obtain ⟨v, hv, hpt⟩ := El.at hi
    obtain ⟨j, next, hp, hj⟩ := Tab.search_there I (i := i) (h := ptHash p) (by rw [List.getElem?_map, hv]; rfl)
    have hpr := hpc.trans hp
    have hv' : es[i]? = some (ptHash p, v) := by rw [← Array.getElem?_toList]; exact hv
    split
    · rename_i met hmet
      have hmet' : some met = some (SetTable.Met.candidate j i next) := by rw [← hpr, ← hmet]; rfl
      cases hmet'
      dsimp only
      have hslot : t.slot j = .live i := (Tab.slot_live I.toOk).mpr hj
      have hyy : ∀ y ∈ ((es.filter (·.1 == ptHash p)).toList.map (·.2)), ∃ q, IsPt s.heap q y := by
        intro y hy
        obtain ⟨e, he, rfl⟩ := List.mem_map.mp hy
        have he' : e ∈ es.toList := Array.mem_toList_iff.mpr (Array.mem_filter.mp (Array.mem_toList_iff.mp he)).1
        obtain ⟨k, hk⟩ := List.mem_iff_getElem?.mp he'
        have hkl : k < l.length := by rw [← El.length]; exact (List.getElem?_eq_some_iff.mp hk).1
        exact ⟨_, El.pts k _ e (List.getElem?_eq_getElem hkl) hk⟩
      simp only [hv']
      have same : isSame v v = pure true := by
        obtain ⟨b, _, _, _, _, rfl, _⟩ := hpt
        unfold isSame
        simp
      have hmem : t.sameMemory t.moves t.mask = some true := by simp [SetTable.sameMemory]
      refine wpAny_ite ?_
      cases hled : t.led with
      | true =>
        rw [if_neg (by decide)]
        refine wpAny_bind (wpAny_holding (wp_eqBool_pt hu hpt hx ?_))
        refine wpAny_bind (wpAny_setState_of ho hd hf ?_)
        have := h1 i hi
        cases adding with
        | true => simp only [Bool.true_and, decide_true, if_true]; exact wpAny_pure this
        | false =>
          simp only [Bool.false_and, Bool.false_eq_true, if_false, hmem, if_true, hslot, hv', same, pure_bind, decide_true]
          exact wpAny_pure this
      | false =>
        rw [if_pos (by decide)]
        refine wpAny_bind (wp_searchSeen_pt hx hyy ?_)
        rw [if_neg (by decide)]
        refine wpAny_bind (wpAny_holding (wp_eqBool_pt hu hpt hx ?_))
        refine wpAny_bind (wpAny_setState_of ho hd hf ?_)
        have := h1 i hi
        cases adding with
        | true => simp only [Bool.true_and, decide_true, if_true]; exact wpAny_pure this
        | false =>
          simp only [Bool.false_and, Bool.false_eq_true, if_false, hmem, if_true, hslot, hv', same, pure_bind, decide_true]
          exact wpAny_pure this
    · rename_i hno
      exact absurd hpr (fun e => hno _ e)
  · obtain ⟨j, d, hp, hF⟩ := Tab.search_absent I (h := ptHash p) (by
      rw [El.hash]
      intro hmem
      obtain ⟨q, hq, e⟩ := List.mem_map.mp hmem
      exact hm (ptHash_inj (hbox q hq) hb e ▸ hq))
    have hpr := hpc.trans hp
    split
    · rename_i met hmet
      have hmet' : some met = some (SetTable.Met.empty j d) := by rw [← hpr, ← hmet]; rfl
      cases hmet'
      dsimp only
      cases d with
      | none => exact wpAny_pure (h2 hm _ _ hF)
      | some d =>
        dsimp only
        have : (adding && t.slot d != .dummy) = false := by
          have := hF.slot
          simp only [Option.getD_some, Option.isSome_some, if_true] at this
          rw [this]; cases adding <;> rfl
        rw [this]
        exact wpAny_pure (h2 hm _ _ hF)
    · rename_i hno
      exact absurd hpr (fun e => hno _ e)

theorem IsPt.notScan {h : Heap} (hx : IsPt h p x) (es : Array (Int × Value)) : byScan x es = false := by
  obtain ⟨b, _, _, _, _, rfl, _⟩ := hx
  rfl

theorem wp_setFind {Q : Option Nat → Shared → Prop} (hu : A.units < cLine) (S : PSet w s.heap a l) (hx : IsPt s.heap p x) (hb : InBox p)
    (h : ∀ r : Option Nat, r.isSome = decide (p ∈ l) → Q r s) : wpAny (model prog w) A (setFind a x (ptHash p)) Q E s := by
  obtain ⟨o, es, ep, t, ho, hxs, hd, I, hbt, El⟩ := S.obj
  refine wpAny_bind (m := setState a) (wpAny_setState_of ho hd (inv_fits I) ?_)
  dsimp only
  rw [hx.notScan]
  rw [if_neg (by decide)]
  refine wpAny_bind (wp_setSearch (adding := false) hu ho hd I El S.box hx hb (fun i hi => ?_) (fun hn slot wd hF => ?_))
  · exact wpAny_pure (h _ (by simp [List.mem_of_getElem? hi]))
  · exact wpAny_pure (h _ (by simp [hn]))

theorem wp_setContains {Q : Bool → Shared → Prop} (hu : A.units < cLine) (S : PSet w s.heap a l) (hx : IsPt s.heap p x) (hb : InBox p)
    (h : ∀ tk, Q (decide (p ∈ l)) { s with toks := tk }) : wpAny (model prog w) A (setContains a x) Q E s := by
  unfold setContains
  refine wpAny_holding ?_
  refine wpAny_bind (wp_pyHash_pt hu hx ?_)
  refine wpAny_bind (wp_setFind (s := { s with toks := s.toks + 3 }) hu S hx hb fun r hr => ?_)
  refine wpAny_pure ?_
  rw [hr]; exact h _

theorem wp_hashByValue {Q : Bool → Shared → Prop} (hx : IsPt s.heap p x) (h : Q true s) : wpAny (model prog w) A (hashByValue 8 x) Q E s := by
  obtain ⟨b, o, n, t, u, rfl, ho, hc, _, hd⟩ := hx
  have hT : s.TypeIs (.ref b) "tuple" := ⟨o, ho, hc⟩
  unfold hashByValue
  refine wpAny_bind (wpAny_specialOf hT F.slot_tuple_hash.lookup ?_)
  dsimp only
  refine wpAny_bind (wpAny_seqItems ho hd ?_)
  refine wpAny_bind ?_
  refine wpAny_of_eq (a := ((none, ()) : Option Bool × Unit)) ?_ (wpAny_pure h)
  have : ∀ (i : Int) (t : Tok), hashByValue 7 (.int i t) = pure true := fun i t => by unfold hashByValue; rfl
  simp [this]
end
end
section
open PySem
section
variable {prog : Program} {w : World} {A : Around} {E : Value → Shared → Prop} {s : Shared} {a : Addr} {l : List Pt} {p : Pt} {x : Value}
variable {o : Obj} {es : Array (Int × Value)} {ep : Nat} {t : SetTable}

theorem sameBut_tuples {h h' : Heap} {a : Addr} {o : Obj} (hs : Heap.SameBut a h h') (ho : h.get? a = some o) (hc : o.cls ≠ .type "tuple") :
    ∀ b ob, h.get? b = some ob → ob.cls = .type "tuple" → (∃ vs n, ob.data = .seq vs n) → ∃ sl, h'.get? b = some { ob with slots := sl } := by
  intro b ob hb hcb _
  have hne : b ≠ a := fun e => by subst e; rw [ho] at hb; cases hb; exact hc hcb
  exact ⟨ob.slots, (hs.2 b hne).trans hb⟩

theorem exact_notTuple (hx : o.ExactSet) : o.cls ≠ .type "tuple" := by rw [hx.1]; decide

theorem store_get (ho : s.heap.get? a = some o) (hd : o.data = .set es ep t) (es' : Array (Int × Value)) (t' : SetTable) :
    (s.heap.update a (Obj.putSet es' t')).get? a = some { o with data := .set es' (ep + 1) t' } := by
  have e := putSet_of es' t' hd
  rw [Heap.get?_update_self (Obj.putSet es' t') ho (by rw [e]; rfl), e]

theorem pset_store {l' : List Pt} {es' : Array (Int × Value)} {t' : SetTable} (ho : s.heap.get? a = some o) (hx : o.ExactSet) (hd : o.data = .set es ep t) (I : Tab.Inv t' (es'.toList.map (·.1)))
    (hbt : w.params.followText "set-order" = false → t'.led = true ∧ t'.plain = true) (El : Els s.heap l' es'.toList) (hbox : ∀ q ∈ l', InBox q) :
    PSet w (s.heap.update a (Obj.putSet es' t')) a l' := by
  refine ⟨⟨_, es', ep + 1, t', store_get ho hd es' t', hx, rfl, I, hbt, El.keep ?_⟩, hbox⟩
  exact sameBut_tuples (Heap.SameBut.update ..) ho (exact_notTuple hx)

theorem els_insert {h : Heap} {esl : List (Int × Value)} (El : Els h l esl) (hx : IsPt h p x) {q : Nat} (hq : q ≤ l.length) :
    Els h (l.take q ++ p :: l.drop q) (esl.take q ++ (ptHash p, x) :: esl.drop q) := by
  refine ⟨?_, ?_⟩
  · rw [List.map_append, List.map_cons, List.map_append, List.map_cons, List.map_take, List.map_drop, List.map_take, List.map_drop, El.hash]
  · intro i r e h1 h2
    rw [Tab.getElem?_insert _ _ _ hq] at h1
    rw [Tab.getElem?_insert _ _ _ (by rw [El.length]; exact hq)] at h2
    by_cases c : i < q
    · rw [if_pos c] at h1 h2; exact El.pts i r e h1 h2
    · rw [if_neg c] at h1 h2
      by_cases c2 : i = q
      · rw [if_pos c2] at h1 h2; cases h1; cases h2; exact hx
      · rw [if_neg c2] at h1 h2; exact El.pts _ r e h1 h2
theorem els_erase {h : Heap} {esl : List (Int × Value)} (El : Els h l esl) (i : Nat) : Els h (l.eraseIdx i) (esl.eraseIdx i) := by
  refine ⟨?_, ?_⟩
  · rw [List.eraseIdx_eq_take_drop_succ, List.eraseIdx_eq_take_drop_succ, List.map_append, List.map_append, List.map_take, List.map_drop, List.map_take, List.map_drop, El.hash]
  · intro k r e h1 h2
    rw [List.getElem?_eraseIdx] at h1 h2
    split at h1
    · rename_i c; rw [if_pos c] at h2; exact El.pts k r e h1 h2
    · rename_i c; rw [if_neg c] at h2; exact El.pts _ r e h1 h2
theorem els_order {h : Heap} {esl : List (Int × Value)} (El : Els h l esl) {order : List Nat} (ho : ∀ i ∈ order, i < l.length) :
    Els h (order.filterMap fun i => l[i]?) (order.filterMap fun i => esl[i]?) := by
  have a1 : ∀ i ∈ order, ((fun i => l[i]?) i).isSome = true := fun i hi => by
    show (l[i]?).isSome = true
    rw [List.getElem?_eq_getElem (ho i hi)]; rfl
  have a2 : ∀ i ∈ order, ((fun i => esl[i]?) i).isSome = true := fun i hi => by
    show (esl[i]?).isSome = true
    rw [List.getElem?_eq_getElem (by rw [El.length]; exact ho i hi)]; rfl
  refine ⟨?_, ?_⟩
  · rw [List.map_filterMap, List.map_filterMap]
    congr 1
    funext i
    rw [← List.getElem?_map, ← List.getElem?_map, El.hash]
  · intro k r e h1 h2
    rw [Tab.filterMap_all_some _ _ a1] at h1
    rw [Tab.filterMap_all_some _ _ a2] at h2
    cases hk : order[k]? with
    | none => rw [hk] at h1; cases h1
    | some i => rw [hk] at h1 h2; exact El.pts i r e h1 h2

theorem perm_order {α : Type} (l : List α) {order : List Nat} (h : order.Perm (List.range l.length)) : (order.filterMap fun i => l[i]?).Perm l := by
  have := h.filterMap fun i => l[i]?
  rw [List.filterMap_getElem?_range_length] at this
  exact this

theorem wp_setRelay {wanted : Nat} {Q : Unit → Shared → Prop} (ho : s.heap.get? a = some o) (hx : o.ExactSet) (hd : o.data = .set es ep t) (hf : t.fits es.size = true)
    (hnd : (es.toList.map (·.1)).Nodup) (El : Els s.heap l es.toList) (hw : wanted < 128) (hroom : es.size * 5 < (SetTable.sizeAbove wanted - 1) * 3)
    (hbt : w.params.followText "set-order" = false → t.led = true ∧ t.plain = true) (hbox : ∀ q ∈ l, InBox q)
    (h : ∀ h' l' es' t', Heap.SameBut a s.heap h' → l'.Perm l → h'.get? a = some { o with data := .set es' (ep + 1) t' } → Tab.Inv t' (es'.toList.map (·.1)) → Els h' l' es'.toList →
      t'.led = t.led → t'.plain = t.plain → t'.mask = SetTable.sizeAbove wanted - 1 → t'.fill = es.size → PSet w h' a l' → Q () { s with heap := h' }) : wpAny (model prog w) A (setRelay a wanted) Q E s := by
  unfold setRelay
  refine wpAny_bind (wpAny_setState_of ho hd hf ?_)
  dsimp only
  rw [if_neg (Tab.sizeAbove_line wanted hw)]
  obtain ⟨g, _⟩ := Tab.sizeAbove_ok wanted hw
  obtain ⟨t', order, e, hp, hm, hl, hpl, hdm, hfl, I0⟩ := Tab.laid_ok t.finger (t.movedTo (SetTable.sizeAbove wanted - 1)) t.led t.plain (hashes := es.map (·.1)) g (by simpa using hnd) (by simp; omega)
  have hsz : (es.map (·.1)).size = es.size := by simp
  rw [hsz] at hp hfl
  have hlen : es.toList.length = l.length := El.length
  have hle : ∀ i ∈ order.toList, i < es.size := fun i hi => List.mem_range.mp (hp.mem_iff.mp hi)
  have e' : t.relaid (es.map (·.1)) wanted = some (t', order) := e
  rw [e']
  have hes' : (order.filterMap (es[·]?)).toList = order.toList.filterMap fun i => es.toList[i]? := by
    rw [Array.toList_filterMap]
    congr 1
    funext i
    exact Array.getElem?_toList.symm
  have hperm : (order.toList.filterMap fun i => es.toList[i]?).Perm es.toList := perm_order es.toList (by simpa using hp)
  have hsize : (order.filterMap (es[·]?)).size = es.size := by
    rw [← Array.length_toList, hes', hperm.length_eq, Array.length_toList]
  refine wpAny_bind ?_
  show wpAny _ _ (if ((order.filterMap (es[·]?)).size != es.size) = true then _ else _) _ _ _
  rw [if_neg (by rw [hsize]; simp)]
  refine wpAny_pure ?_
  refine wpAny_storeSet_of ho hd ?_ (by rw [hsize]; have := I0.size; have h2 : sizeLine = 2 ^ 24 := rfl; have h3 : (2 : Nat) ^ 24 = 16777216 := by decide
                                        have : es.size * 5 < (SetTable.sizeAbove wanted - 1) * 3 := hroom
                                        have := Tab.sizeAbove_line wanted hw
                                        omega)
  have hmap : (order.filterMap (es[·]?)).toList.map (·.1) = order.toList.filterMap fun i => (es.map (·.1)).toList[i]? := by
    rw [hes', List.map_filterMap]
    congr 1
    funext i
    rw [← List.getElem?_map, Array.toList_map]
  have I' : Tab.Inv t' ((order.filterMap (es[·]?)).toList.map (·.1)) := by
    rw [hmap]
    exact ⟨I0, by rw [hfl, hm]; exact hroom⟩
  have El' : Els s.heap (order.toList.filterMap fun i => l[i]?) (order.filterMap (es[·]?)).toList := by
    rw [hes']
    exact els_order El (fun i hi => by rw [← hlen]; simpa using hle i hi)
  have hpl := perm_order l (by rw [← hlen]; simpa using hp : order.toList.Perm (List.range l.length))
  refine h _ (order.toList.filterMap fun i => l[i]?) (order.filterMap (es[·]?)) t' (Heap.SameBut.update ..) hpl (store_get ho hd _ _) I' (El'.keep (sameBut_tuples (Heap.SameBut.update ..) ho (exact_notTuple hx))) hl (by assumption) hm hfl ?_
  refine pset_store ho hx hd I' ?_ El' ?_
  · intro q
    have := hbt q
    refine ⟨hl.trans this.1, ?_⟩
    have h5 : t'.plain = t.plain := by assumption
    exact h5.trans this.2
  · intro q hq
    exact hbox q (hpl.mem_iff.mp hq)

theorem mem_insert_iff {q : Nat} (c : Pt) : c ∈ l.take q ++ p :: l.drop q ↔ c = p ∨ c ∈ l := by
  have h : (l.take q ++ p :: l.drop q).Perm (p :: l) := by
    refine List.perm_middle.trans ?_
    rw [List.take_append_drop]
  rw [h.mem_iff, List.mem_cons]

theorem wp_setAddHashed {Q : Bool → Shared → Prop} (hu : A.units < cLine) (S : PSet w s.heap a l) (hx : IsPt s.heap p x) (hb : InBox p) (hlen : l.length < 31)
    (h1 : p ∈ l → Q false s)
    (h2 : p ∉ l → ∀ h' l', Heap.SameBut a s.heap h' → l'.Perm (p :: l) → PSet w h' a l' → Q true { s with heap := h' }) :
    wpAny (model prog w) A (setAddHashed a x (ptHash p)) Q E s := by
  obtain ⟨o, es, ep, t, ho, hxs, hd, I, hbt, El⟩ := S.obj
  unfold setAddHashed
  refine wpAny_holding ?_
  refine wpAny_bind (m := setState a) (wpAny_setState_of ho hd (inv_fits I) ?_)
  dsimp only
  rw [hx.notScan, if_neg (by decide)]
  refine wpAny_bind (wp_setSearch (adding := true) hu ho hd I El S.box hx hb (fun i hi => wpAny_pure (h1 (List.mem_of_getElem? hi))) (fun hn slot wd hF => ?_))
  dsimp only
  refine wpAny_bind (wpAny_setState_of ho hd (inv_fits I) ?_)
  dsimp only
  have hes : es.size = l.length := by rw [← Array.length_toList]; exact El.length
  have hnh : ptHash p ∉ es.toList.map (·.1) := by
    rw [El.hash]
    intro hmem
    obtain ⟨q, hq, e⟩ := List.mem_map.mp hmem
    exact hn (ptHash_inj (S.box q hq) hb e ▸ hq)
  obtain ⟨I0, hfill, hple, hmk, hled, hpl⟩ := Tab.put_inv I hnh hF
  have hpl' : (t.put slot).2 ≤ l.length := by
    have := hple
    rw [List.length_map, El.length] at this
    exact this
  -- the table behind the look at the hash
  have key : ∀ t2 : SetTable, t2 = (t.put slot).1 → wpAny (model prog w) A (do
      storeSet a (SetTable.insertAt es (t.put slot).2 (ptHash p, x)) t2
      if (!wd && t2.tooFull) = true then do setRelay a (SetTable.grown (es.size + 1)); pure true else pure true) Q E s := by
    intro t2 e2
    subst e2
    have hins : (SetTable.insertAt es (t.put slot).2 (ptHash p, x)).toList = es.toList.take (t.put slot).2 ++ (ptHash p, x) :: es.toList.drop (t.put slot).2 := SetTable.toList_insertAt _ _ _
    have hinsz : (SetTable.insertAt es (t.put slot).2 (ptHash p, x)).size = es.size + 1 := by
      have := (SetTable.insertAt_perm es (t.put slot).2 (ptHash p, x)).length_eq
      simpa using this
    have hE' : Els s.heap (l.take (t.put slot).2 ++ p :: l.drop (t.put slot).2) (SetTable.insertAt es (t.put slot).2 (ptHash p, x)).toList := by
      rw [hins]; exact els_insert El hx hpl'
    have hmap : (SetTable.insertAt es (t.put slot).2 (ptHash p, x)).toList.map (·.1) = (es.toList.map (·.1)).take (t.put slot).2 ++ ptHash p :: (es.toList.map (·.1)).drop (t.put slot).2 := by
      rw [hins, List.map_append, List.map_cons, List.map_take, List.map_drop]
    have hbox' : ∀ q ∈ l.take (t.put slot).2 ++ p :: l.drop (t.put slot).2, InBox q := fun q hq => by
      rcases (mem_insert_iff q).mp hq with rfl | q'
      · exact hb
      · exact S.box q q'
    have hperm : (l.take (t.put slot).2 ++ p :: l.drop (t.put slot).2).Perm (p :: l) := by
      refine List.perm_middle.trans ?_
      rw [List.take_append_drop]
    have hsl : (SetTable.insertAt es (t.put slot).2 (ptHash p, x)).size ≤ sizeLine := by
      rw [hinsz]; have h2 : sizeLine = 2 ^ 24 := rfl; have h3 : (2 : Nat) ^ 24 = 16777216 := by decide
      omega
    refine wpAny_bind (wpAny_storeSet_of ho hd ?_ hsl)
    by_cases hfull : (!wd && (t.put slot).1.tooFull) = true
    · rw [if_pos hfull]
      have hget := store_get ho hd (SetTable.insertAt es (t.put slot).2 (ptHash p, x)) (t.put slot).1
      have hgr : SetTable.grown (es.size + 1) = (es.size + 1) * 4 := by unfold SetTable.grown; rw [if_neg (by omega)]
      refine wpAny_bind (wp_setRelay (l := l.take (t.put slot).2 ++ p :: l.drop (t.put slot).2) hget hxs rfl ?_ ?_ ?_ (by rw [hgr, hes]; omega) ?_ (by rw [hled, hpl]; exact hbt) hbox' ?_)
      · unfold SetTable.fits
        have hz := I0.size
        have : (t.put slot).1.place.size = (SetTable.insertAt es (t.put slot).2 (ptHash p, x)).size := by
          rw [hz, hinsz]
          have := congrArg List.length hmap
          simp only [List.length_map] at this
          rw [← this, Array.length_toList, hinsz]
        have hr := I.room
        have hfl2 : (t.put slot).1.fill ≤ (t.put slot).1.mask := by
          rw [hfill, hmk]
          rcases I.mask with q | q | q | q | q <;> rw [q] at hr ⊢ <;> split <;> omega
        rw [this]
        simp [hfl2]
      · rw [hmap]; exact I0.nodup
      · exact hE'.keep (sameBut_tuples (Heap.SameBut.update ..) ho (exact_notTuple hxs))
      · have := (Tab.sizeAbove_ok ((es.size + 1) * 4) (by rw [hes]; omega)).2
        rw [hgr, hinsz]; omega
      · intro h' l' es' t' hsb hp' _ _ _ _ _ _ _ P'
        refine wpAny_pure (h2 hn h' l' ?_ (hp'.trans hperm) P')
        exact (Heap.SameBut.update ..).trans hsb
    · rw [if_neg hfull]
      refine wpAny_pure (h2 hn _ _ (Heap.SameBut.update ..) hperm ?_)
      refine pset_store ho hxs hd ?_ (by rw [hled, hpl]; exact hbt) hE' hbox'
      rw [hmap]
      refine ⟨I0, ?_⟩
      rw [hmk]
      cases wd with
      | true => rw [hfill]; exact I.room
      | false =>
        have : (t.put slot).1.tooFull = false := by simpa using hfull
        unfold SetTable.tooFull at this
        have := of_decide_eq_false this
        rw [hmk] at this
        omega
  by_cases hplain : (t.put slot).1.plain = true
  · rw [if_pos hplain]
    refine wpAny_bind (wp_hashByValue hx ?_)
    simp only [if_true]
    exact key _ rfl
  · rw [if_neg hplain]
    refine wpAny_bind (wpAny_pure ?_)
    simp only [if_true]
    exact key _ rfl

theorem wp_setAdd {Q : Bool → Shared → Prop} (hu : A.units < cLine) (S : PSet w s.heap a l) (hx : IsPt s.heap p x) (hb : InBox p) (hlen : l.length < 31)
    (h1 : p ∈ l → ∀ tk, Q false { s with toks := tk })
    (h2 : p ∉ l → ∀ h' l' tk, Heap.SameBut a s.heap h' → l'.Perm (p :: l) → PSet w h' a l' → Q true { s with heap := h', toks := tk }) :
    wpAny (model prog w) A (setAdd a x) Q E s := by
  unfold setAdd
  refine wpAny_holding (wpAny_bind (wp_pyHash_pt hu hx ?_))
  exact wp_setAddHashed (s := { s with toks := s.toks + 3 }) hu S hx hb hlen (fun h => h1 h _) (fun h h' l' a b c => h2 h h' l' _ a b c)

end
end
section
open PySem
theorem wpAny_choose {prog : Program} {w : World} {A : Around} {E : Value → Shared → Prop} {s : Shared} {src : Source} {n : Nat} {Q : Nat → Shared → Prop} (hn : n ≠ 0)
    (h : ∀ i d, i < n → Q i { s with drawn := d }) : wpAny (model prog w) A (choose src n) Q E s := fun Γ p _ => by
  show Sem.wp _ _ (Sem.choose src n Sem.pure) _ _ _ _
  rw [Sem.wp_choose]
  refine ⟨hn, ?_⟩
  rw [Sem.wp_pure]
  exact h _ _ (Nat.mod_lt _ (Nat.pos_of_ne_zero hn))

section
variable {prog : Program} {w : World} {A : Around} {E : Value → Shared → Prop} {s : Shared} {a : Addr} {l : List Pt} {p : Pt} {x : Value}
variable {o : Obj} {es : Array (Int × Value)} {ep : Nat} {t : SetTable}

theorem PSet.length_le {h : Heap} (S : PSet w h a l) : l.length ≤ 25 :=
  Tab.nodup_le l boxPts S.nodup fun q hq => mem_boxPts (S.box q hq)

theorem wp_setsByText {Q : Bool → Shared → Prop} (h : Q (w.params.followText "set-order") s) : wpAny (model prog w) A setsByText Q E s := by
  unfold setsByText
  exact wpAny_bind (wpAny_askSetting (wpAny_pure h))

theorem popPlace_ok {hs : List Int} (I : Tab.Inv t hs) (hne : hs ≠ []) : ∃ i, t.popPlace = some i ∧ i < hs.length := by
  have hpos : 0 < hs.length := List.length_pos_iff.mpr hne
  have hsz := I.size
  unfold SetTable.popPlace
  rw [if_neg (by intro q; have := Array.isEmpty_iff_size_eq_zero.mp q; omega)]
  dsimp only
  refine ⟨_, rfl, ?_⟩
  split
  · omega
  · omega

theorem wp_setPop {Q : Option Value → Shared → Prop} (S : PSet w s.heap a l) (hne : l ≠ [])
    (h : ∀ (i : Nat) (p : Pt) (v : Value) (h' : Heap) (d : Drawn), l[i]? = some p → Heap.SameBut a s.heap h' → PSet w h' a (l.eraseIdx i) → IsPt h' p v → Q (some v) { s with heap := h', drawn := d }) :
    wpAny (model prog w) A (setPop a) Q E s := by
  obtain ⟨o, es, ep, t, ho, hxs, hd, I, hbt, El⟩ := S.obj
  have hes : es.size = l.length := by rw [← Array.length_toList]; exact El.length
  have hpos : 0 < l.length := List.length_pos_iff.mpr hne
  obtain ⟨i₀, hpp, hi₀⟩ := popPlace_ok I (by intro e; have := congrArg List.length e; rw [List.length_map, El.length] at this; simp at this; exact hne this)
  have hi₀ : i₀ < l.length := by simpa [El.length] using hi₀
  -- the end, at any place
  have fin : ∀ (i : Nat) (d : Drawn), i < l.length → wpAny (model prog w) A (match es[i]? with
      | some (_, x) => do storeSet a (SetTable.eraseAt es i) (t.popped i); pure (some x)
      | _ => unsupported "internal:set.pop") Q E { s with drawn := d } := by
    intro i d hi
    obtain ⟨v, hv, hpt⟩ := El.at (List.getElem?_eq_getElem hi)
    have hv' : es[i]? = some (ptHash l[i], v) := by rw [← Array.getElem?_toList]; exact hv
    rw [hv']
    dsimp only
    have herz : (SetTable.eraseAt es i).toList = es.toList.eraseIdx i := Tab.toList_eraseAt es i
    have hsz : (SetTable.eraseAt es i).size ≤ sizeLine := by
      rw [← Array.length_toList, herz]
      have h0 := List.length_eraseIdx_le es.toList i
      have h1 := S.length_le
      have h2 : sizeLine = 2 ^ 24 := rfl
      have h3 : (2 : Nat) ^ 24 = 16777216 := by decide
      have h4 := El.length
      omega
    refine wpAny_bind (wpAny_storeSet_of (s := { s with drawn := d }) ho hd ?_ hsz)
    refine wpAny_pure (h i l[i] v _ d (List.getElem?_eq_getElem hi) (Heap.SameBut.update ..) ?_ ?_)
    · obtain ⟨I', hmk, hfl, hl', hpl'⟩ := Tab.drop_inv I (i := i) (by simpa [El.length] using hi)
      refine pset_store ho hxs hd ?_ ?_ ?_ ?_
      · rw [herz]
        have : (es.toList.eraseIdx i).map (·.1) = (es.toList.map (·.1)).eraseIdx i := by
          rw [List.eraseIdx_eq_take_drop_succ, List.eraseIdx_eq_take_drop_succ, List.map_append, List.map_take, List.map_drop]
        rw [this]
        exact ⟨⟨⟨I'.sp, I'.sd, I'.bp, I'.bd, I'.dj⟩, I'.size, I'.mask, I'.nodup, I'.reach⟩, I'.room⟩
      · intro q
        have := hbt q
        exact ⟨hl'.trans this.1, hpl'.trans this.2⟩
      · rw [herz]; exact els_erase El i
      · exact fun q hq => S.box q (List.mem_of_mem_eraseIdx hq)
    · exact hpt.keep (sameBut_tuples (Heap.SameBut.update ..) ho (exact_notTuple hxs))
  unfold setPop
  refine wpAny_bind (wpAny_setState_of ho hd (inv_fits I) ?_)
  dsimp only
  rw [hpp]
  dsimp only
  refine wpAny_bind (wp_setsByText ?_)
  cases hbt' : w.params.followText "set-order" with
  | true =>
    rw [Bool.true_or, if_pos rfl]
    refine wpAny_bind (wpAny_choose (by omega) fun i d hi => ?_)
    exact fin i d (by omega)
  | false =>
    obtain ⟨hl, hp⟩ := hbt hbt'
    have : (!t.plain && decide (es.size > 1)) = false := by rw [hp]; rfl
    show wpAny _ _ (if (false || (!t.plain && decide (es.size > 1))) = true then _ else _) _ _ _
    rw [this, Bool.false_or, if_neg (by decide)]
    refine wpAny_bind ?_
    show wpAny _ _ (if (!t.led && decide (es.size > 1)) = true then _ else _) _ _ _
    rw [hl]
    rw [if_neg (by simp)]
    refine wpAny_pure ?_
    refine wpAny_bind (wpAny_pure ?_)
    exact fin i₀ s.drawn hi₀

end
end
section
open PySem
theorem cons_eraseIdx_perm {α : Type} (l : List α) (i : Nat) (h : i < l.length) : (([l[i]] : List α) ++ l.eraseIdx i).Perm l := by
  have e : l = l.take i ++ l[i] :: l.drop (i + 1) := by
    rw [← List.drop_eq_getElem_cons h, List.take_append_drop]
  rw [List.eraseIdx_eq_take_drop_succ]
  refine List.Perm.trans ?_ (List.Perm.of_eq e.symm)
  show (l[i] :: (l.take i ++ l.drop (i + 1))).Perm _
  exact List.perm_middle.symm

theorem pickOrder_go {α : Type} (next : Nat → Nat) : ∀ (fuel k : Nat) (left : List α) (out : Array α), left.length ≤ fuel → (pickOrder.go next fuel k left out).toList.Perm (out.toList ++ left)
  | 0, k, left, out, h => by
    have : left = [] := List.length_eq_zero_iff.mp (by omega)
    subst this
    unfold pickOrder.go
    simp
  | fuel + 1, k, left, out, h => by
    unfold pickOrder.go
    cases left with
    | nil => simp
    | cons y ys =>
      have hlt : next k % (y :: ys).length < (y :: ys).length := Nat.mod_lt _ (by simp)
      rw [List.getElem?_eq_getElem hlt]
      dsimp only
      refine (pickOrder_go next fuel (k + 1) _ _ (by rw [List.length_eraseIdx, if_pos hlt]; simp at h ⊢; omega)).trans ?_
      rw [Array.toList_push, List.append_assoc]
      refine List.Perm.append_left _ ?_
      exact cons_eraseIdx_perm _ _ hlt
theorem pickOrder_perm {α : Type} (next : Nat → Nat) (xs : Array α) : (pickOrder next xs).toList.Perm xs.toList := by
  have := pickOrder_go next xs.size 0 xs.toList #[] (by simp)
  simpa [pickOrder] using this

section
variable {prog : Program} {w : World} {A : Around} {E : Value → Shared → Prop} {s : Shared} {a b : Addr} {l m : List Pt} {p : Pt} {x : Value}
variable {o : Obj} {es : Array (Int × Value)} {ep : Nat} {t : SetTable}

theorem wp_setWalk {Q : Array (Int × Value) → Shared → Prop} (ho : s.heap.get? a = some o) (hd : o.data = .set es ep t) (I : Tab.Inv t (es.toList.map (·.1)))
    (hbt : w.params.followText "set-order" = false → t.led = true ∧ t.plain = true) (h : ∀ es' : Array (Int × Value), es'.toList.Perm es.toList → Q es' s) : wpAny (model prog w) A (setWalk a) Q E s := by
  unfold setWalk
  refine wpAny_bind (wpAny_setState_of ho hd (inv_fits I) ?_)
  dsimp only
  refine wpAny_bind (wp_setsByText ?_)
  cases hb : w.params.followText "set-order" with
  | true =>
    rw [if_pos rfl]
    refine wpAny_bind (wpAny_askSetting (wpAny_pure (h _ (pickOrder_perm _ _))))
  | false =>
    obtain ⟨hl, hp⟩ := hbt hb
    rw [if_neg (by decide)]
    show wpAny _ _ (if (!t.plain && decide (es.size > 1)) = true then _ else _) _ _ _
    rw [hp]
    rw [if_neg (by simp)]
    refine wpAny_bind ?_
    show wpAny _ _ (if (!t.led && decide (es.size > 1)) = true then _ else _) _ _ _
    rw [hl, if_neg (by simp)]
    exact wpAny_pure (wpAny_pure (h _ (List.Perm.refl _)))

theorem wp_setWalkUnseen {others : List Addr} {filled : Option Addr} {Q : Array (Int × Value) → Shared → Prop} (ho : s.heap.get? a = some o) (hd : o.data = .set es ep t) (I : Tab.Inv t (es.toList.map (·.1)))
    (hbt : w.params.followText "set-order" = false → t.led = true ∧ t.plain = true) (h : ∀ es' : Array (Int × Value), es'.toList.Perm es.toList → Q es' s) : wpAny (model prog w) A (setWalkUnseen a others filled) Q E s := by
  unfold setWalkUnseen
  refine wpAny_bind (wpAny_setState_of ho hd (inv_fits I) ?_)
  dsimp only
  refine wpAny_bind (wp_setsByText ?_)
  have : (w.params.followText "set-order" || t.led && t.plain || decide (es.size ≤ 1)) = true := by
    cases hb : w.params.followText "set-order" with
    | true => rfl
    | false => obtain ⟨hl, hp⟩ := hbt hb; rw [hl, hp]; rfl
  rw [if_pos this]
  exact wp_setWalk ho hd I hbt h

theorem Els.cons {h : Heap} {esl : List (Int × Value)} (hp : IsPt h p x) (El : Els h l esl) : Els h (p :: l) ((ptHash p, x) :: esl) := by
  refine ⟨by simp [El.hash], fun i q e h1 h2 => ?_⟩
  cases i with
  | zero => simp at h1 h2; subst h1 h2; exact hp
  | succ i => simp at h1 h2; exact El.pts i q e h1 h2
theorem Els.cons_inv {h : Heap} {e : Int × Value} {esl : List (Int × Value)} (El : Els h l (e :: esl)) : ∃ p l', l = p :: l' ∧ e = (ptHash p, e.2) ∧ IsPt h p e.2 ∧ Els h l' esl := by
  cases l with
  | nil => have := El.hash; simp at this
  | cons p l' =>
    have h1 := El.hash
    simp at h1
    refine ⟨p, l', rfl, by rw [← h1.1], El.pts 0 p e rfl rfl, h1.2, fun i q e' h2 h3 => El.pts (i + 1) q e' (by simpa using h2) (by simpa using h3)⟩
theorem Els.nil_inv {h : Heap} (El : Els h l []) : l = [] := by
  have := El.hash
  cases l with
  | nil => rfl
  | cons => simp at this

theorem els_perm {h : Heap} {es' esl : List (Int × Value)} (hp : esl.Perm es') : ∀ {l : List Pt}, Els h l esl → ∃ l', l'.Perm l ∧ Els h l' es' := by
  induction hp with
  | nil => intro l El; exact ⟨l, .refl _, El⟩
  | cons e _ ih =>
    intro l El
    obtain ⟨p, l', rfl, he, hpt, El'⟩ := El.cons_inv
    obtain ⟨l2, h1, h2⟩ := ih El'
    exact ⟨p :: l2, h1.cons _, he ▸ Els.cons hpt h2⟩
  | swap e1 e2 r =>
    intro l El
    obtain ⟨p, l', rfl, he, hpt, El'⟩ := El.cons_inv
    obtain ⟨q, l2, rfl, he2, hpt2, El2⟩ := El'.cons_inv
    exact ⟨q :: p :: l2, List.Perm.swap _ _ _, he2 ▸ Els.cons hpt2 (he ▸ Els.cons hpt El2)⟩
  | trans _ _ ih1 ih2 =>
    intro l El
    obtain ⟨l1, h1, E1⟩ := ih1 El
    obtain ⟨l2, h2, E2⟩ := ih2 E1
    exact ⟨l2, h2.trans h1, E2⟩

theorem wp_setRoomFor {more : Nat} {Q : Unit → Shared → Prop} (ho : s.heap.get? a = some o) (hx : o.ExactSet) (hd : o.data = .set es ep t) (I : Tab.Inv t (es.toList.map (·.1)))
    (hbt : w.params.followText "set-order" = false → t.led = true ∧ t.plain = true) (El : Els s.heap l es.toList) (hbox : ∀ q ∈ l, InBox q) (hm : more ≤ 25) (hl : l.length ≤ 25)
    (h : ∀ h' l' es' ep' t', Heap.SameBut a s.heap h' → l'.Perm l → h'.get? a = some { o with data := .set es' ep' t' } → Tab.Inv t' (es'.toList.map (·.1)) → Els h' l' es'.toList →
      (w.params.followText "set-order" = false → t'.led = true ∧ t'.plain = true) → (t'.fill + more) * 5 < t'.mask * 3 → Q () { s with heap := h' }) : wpAny (model prog w) A (setRoomFor a more) Q E s := by
  unfold setRoomFor
  refine wpAny_bind (wpAny_setState_of ho hd (inv_fits I) ?_)
  dsimp only
  have hes : es.size = l.length := by rw [← Array.length_toList]; exact El.length
  have hpl : t.place.size = es.size := by have := I.size; simpa using this
  unfold SetTable.roomFor
  by_cases hc : (t.fill + more) * 5 ≥ t.mask * 3
  · rw [if_pos hc]
    dsimp only
    have hw : (t.place.size + more) * 2 < 128 := by omega
    have hsa := (Tab.sizeAbove_ok ((t.place.size + more) * 2) hw).2
    have hmore : 0 < t.place.size + more := by
      rcases Nat.eq_zero_or_pos (t.place.size + more) with q | q
      · exfalso
        have hr := I.room
        have : more = 0 := by omega
        subst this
        omega
      · exact q
    refine wp_setRelay ho hx hd (inv_fits I) I.nodup El hw (by omega) hbt hbox ?_
    intro h' l' es' t' hsb hp hget I' El' hled hplain hmask hfill P'
    exact h h' l' es' (ep + 1) t' hsb hp hget I' El' (fun q => ⟨hled.trans (hbt q).1, hplain.trans (hbt q).2⟩) (by rw [hmask, hfill]; omega)
  · rw [if_neg hc]
    dsimp only
    refine wpAny_pure ?_
    refine h s.heap l es ep t (Heap.SameBut.refl ..) (.refl _) ?_ I El hbt (by omega)
    rw [ho, ← hd]

end
end
section
open PySem
section
variable {prog : Program} {w : World} {A : Around} {E : Value → Shared → Prop} {s : Shared} {a b : Addr} {l m : List Pt} {p : Pt} {x : Value}
variable {o : Obj} {es : Array (Int × Value)} {ep : Nat} {t : SetTable}

theorem inv_table {t t' : SetTable} {hs : List Int} (I : Tab.Inv t hs) (h1 : t'.place = t.place) (h2 : t'.dummies = t.dummies) (h3 : t'.mask = t.mask) : Tab.Inv t' hs := by
  have hsl : ∀ j, t'.slot j = t.slot j := fun j => by unfold SetTable.slot; rw [h1, h2]
  refine ⟨⟨⟨h1 ▸ I.sp, h2 ▸ I.sd, ?_, ?_, ?_⟩, by rw [h1]; exact I.size, by rw [h3]; exact I.mask, I.nodup, ?_⟩, by unfold SetTable.fill; rw [h1, h2, h3]; exact I.room⟩
  · rw [h1, h3]; exact I.bp
  · rw [h2, h3]; exact I.bd
  · rw [h1, h2]; exact I.dj
  · intro i j h hi hh
    rw [h1] at hi
    exact Tab.Reached.mono h3 (fun x hx => by rw [hsl]; exact hx) (I.reach i j h hi hh)

theorem le_sizeLine {n : Nat} (h : n ≤ 1000) : n ≤ sizeLine := by
  have h2 : sizeLine = 2 ^ 24 := rfl
  have h3 : (2 : Nat) ^ 24 = 16777216 := by decide
  omega

theorem sameBut_get {h h' : Heap} {c : Addr} (hs : Heap.SameBut a h h') (hne : c ≠ a) : h'.get? c = h.get? c := hs.2 c hne

theorem wp_setMerge {each : Sem Unit} {Q : Unit → Shared → Prop} (hu : A.units < cLine) (S : PSet w s.heap a l) (So : PSet w s.heap b m) (hab : a ≠ b)
    (heach : ∀ (s' : Shared) (R : Unit → Shared → Prop), s'.heap.get? b = s.heap.get? b → R () s' → wpAny (model prog w) A each R E s')
    (h : ∀ h' l', Heap.SameBut a s.heap h' → (∀ q, q ∈ l' ↔ q ∈ l ∨ q ∈ m) → PSet w h' a l' → Q () { s with heap := h' }) : wpAny (model prog w) A (setMerge a b each) Q E s := by
  obtain ⟨o, es, ep, t, ho, hxs, hd, I, hbt, El⟩ := S.obj
  obtain ⟨o2, es2, ep2, t2, ho2, hxs2, hd2, I2, hbt2, El2⟩ := So.obj
  have hm25 := So.length_le
  have hl25 := S.length_le
  have hes2 : es2.size = m.length := by rw [← Array.length_toList]; exact El2.length
  unfold setMerge
  rw [if_neg (by simpa using hab)]
  refine wpAny_bind (wpAny_setState_of ho2 hd2 (inv_fits I2) ?_)
  dsimp only
  by_cases hemp : es2.isEmpty = true
  · rw [if_pos hemp]
    have hm0 : m = [] := by
      have := Array.isEmpty_iff_size_eq_zero.mp hemp
      exact List.length_eq_zero_iff.mp (by omega)
    refine wpAny_pure (h s.heap l (Heap.SameBut.refl ..) (fun q => by simp [hm0]) S)
  · rw [if_neg hemp]
    refine wpAny_bind (wp_setRoomFor ho hxs hd I hbt El S.box (by omega) hl25 ?_)
    intro h1 l1 es1 ep1 t1 hsb1 hp1 hget1 I1 El1 hbt1 hroom1
    have hb1 : h1.get? b = some o2 := (sameBut_get hsb1 (Ne.symm hab)).trans ho2
    have hbox1 : ∀ q ∈ l1, InBox q := fun q hq => S.box q (hp1.mem_iff.mp hq)
    refine wpAny_bind (wpAny_setState_of (s := { s with heap := h1 }) hget1 rfl (inv_fits I1) ?_)
    dsimp only
    have hE2 : Els h1 m es2.toList := El2.keep (sameBut_tuples hsb1 ho (exact_notTuple hxs))
    unfold SetTable.road
    by_cases hfill : (t1.fill != 0) = true
    · rw [if_pos hfill]
      dsimp only
      refine wpAny_bind (wp_setWalkUnseen (s := { s with heap := h1 }) hb1 hd2 I2 hbt2 fun es3 hp3 => ?_)
      obtain ⟨m3, hm3, El3⟩ := els_perm hp3.symm hE2
      have P1 : PSet w h1 a l1 := ⟨⟨_, es1, ep1, t1, hget1, hxs, rfl, I1, hbt1, El1⟩, hbox1⟩
      -- the walk
      refine wpAny_bind ?_
      rw [← Array.forIn_toList]
      refine wpAny_forIn_list (s := { s with heap := h1 }) _ (fun rest _ s' => ∃ h' l' m', s' = { s with heap := h' } ∧ Heap.SameBut a s.heap h' ∧ PSet w h' a l' ∧ Els h' m' rest ∧ (∀ q, q ∈ l' ∨ q ∈ m' ↔ q ∈ l ∨ q ∈ m) ∧ (∀ q ∈ m', InBox q)) _ ?_ ?_ es3.toList _
        ⟨h1, l1, m3, rfl, hsb1, P1, El3, fun q => by rw [hp1.mem_iff, hm3.mem_iff], fun q hq => So.box q (hm3.mem_iff.mp hq)⟩
      · rintro ⟨hh, v⟩ rest u s' ⟨h', l', m', rfl, hsb, P', El', hmem, hbx⟩
        obtain ⟨p, m'', rfl, he, hpt, El''⟩ := El'.cons_inv
        simp only [Prod.mk.injEq] at he
        obtain ⟨rfl, _⟩ := he
        have hpb : InBox p := hbx p (List.mem_cons.mpr (.inl rfl))
        have hb' : h'.get? b = some o2 := (sameBut_get hsb (Ne.symm hab)).trans ho2
        dsimp only
        have fin : ∀ (h2 : Heap) (l2 : List Pt), Heap.SameBut a h' h2 → (∀ q, q ∈ l2 ↔ q = p ∨ q ∈ l') → PSet w h2 a l2 → ∀ (R : ForInStep PUnit → Shared → Prop),
            (∀ s3, (∃ h' l' m', s3 = { s with heap := h' } ∧ Heap.SameBut a s.heap h' ∧ PSet w h' a l' ∧ Els h' m' rest ∧ (∀ q, q ∈ l' ∨ q ∈ m' ↔ q ∈ l ∨ q ∈ m) ∧ (∀ q ∈ m', InBox q)) → R (.yield ⟨⟩) s3) →
            wpAny (model prog w) A (do each; let __x ← setState b; if (__x.2.1 != ep2) = true then do unsupported "set.changed-during-merge"; pure (.yield ⟨⟩) else pure (ForInStep.yield PUnit.unit)) R E { s with heap := h2 } := by
          intro h2 l2 hsb2 hl2 P2 R hR
          have hb2 : h2.get? b = some o2 := (sameBut_get hsb2 (Ne.symm hab)).trans hb'
          refine wpAny_bind (heach _ _ (by show h2.get? b = _; rw [hb2, ho2]) ?_)
          refine wpAny_bind (wpAny_setState_of (s := { s with heap := h2 }) hb2 hd2 (inv_fits I2) ?_)
          rw [if_neg (by simp)]
          refine wpAny_pure (hR _ ⟨h2, l2, m'', rfl, hsb.trans hsb2, P2, El''.keep ?_, fun q => ?_, fun q hq => hbx q (List.mem_cons.mpr (.inr hq))⟩)
          · obtain ⟨oo, _, _, _, hoo, hxx, _⟩ := P'.obj
            exact sameBut_tuples hsb2 hoo (exact_notTuple hxx)
          · rw [← hmem q, hl2 q, List.mem_cons]
            constructor
            · rintro ((h | h) | h)
              · exact .inr (.inl h)
              · exact .inl h
              · exact .inr (.inr h)
            · rintro (h | h | h)
              · exact .inl (.inr h)
              · exact .inl (.inl h)
              · exact .inr h
        refine wpAny_bind (wpAny_holding (wp_setAddHashed (s := { s with heap := h' }) hu P' hpt hpb (by have := P'.length_le; omega) (fun hin => ?_) (fun hn h2 l2 hsb2 hp2 P2 => ?_)))
        · refine fin h' l' (Heap.SameBut.refl ..) (fun q => ⟨.inr, fun hq => hq.elim (fun e => e ▸ hin) id⟩) P' _ fun s3 H => H
        · refine fin h2 l2 hsb2 (fun q => by rw [hp2.mem_iff, List.mem_cons]) P2 _ fun s3 H => H
      · rintro u s' ⟨h', l', m', rfl, hsb, P', El', hmem, hbx⟩
        have : m' = [] := El'.nil_inv
        subst this
        exact wpAny_pure (h h' l' hsb (fun q => by rw [← hmem q]; simp) P')
    · rw [if_neg hfill]
      have hf0 : t1.fill = 0 := by simpa using hfill
      have hl1 : l1 = [] := by
        have h1 := I1.size
        have h2 := El1.length
        unfold SetTable.fill at hf0
        rw [List.length_map, h2] at h1
        exact List.length_eq_zero_iff.mp (by omega)
      have hl0 : l = [] := by rw [hl1] at hp1; exact hp1.symm.eq_nil
      have hmem : ∀ q, q ∈ m ↔ q ∈ l ∨ q ∈ m := fun q => by rw [hl0]; simp
      by_cases hmk : (t1.mask == t2.mask && t2.dummies.isEmpty) = true
      · rw [if_pos hmk]
        dsimp only
        refine wpAny_storeSet_of (s := { s with heap := h1 }) hget1 rfl ?_ (le_sizeLine (by omega))
        refine h _ m (hsb1.trans (Heap.SameBut.update ..)) hmem ?_
        refine pset_store (s := { s with heap := h1 }) hget1 hxs rfl (inv_table I2 rfl rfl rfl) ?_ hE2 So.box
        intro q
        obtain ⟨q1, q2⟩ := hbt1 q
        obtain ⟨q3, q4⟩ := hbt2 q
        simp [q1, q2, q3, q4]
      · rw [if_neg hmk]
        dsimp only
        obtain ⟨t', order, e, hp, hm, hl, hpl, hdm, hfl, I0⟩ := Tab.laid_ok t1.finger t1.moves (t1.led && t2.led) (t1.plain && t2.plain) (hashes := es2.map (·.1)) I1.mask (by simpa using I2.nodup) (by simp; omega)
        have hsz : (es2.map (·.1)).size = es2.size := by simp
        rw [hsz] at hp hfl
        have hlen : es2.toList.length = m.length := El2.length
        have hle : ∀ i ∈ order.toList, i < es2.size := fun i hi => List.mem_range.mp (hp.mem_iff.mp hi)
        rw [e]
        have hes' : (order.filterMap (es2[·]?)).toList = order.toList.filterMap fun i => es2.toList[i]? := by
          rw [Array.toList_filterMap]
          congr 1
          funext i
          exact Array.getElem?_toList.symm
        have hperm : (order.toList.filterMap fun i => es2.toList[i]?).Perm es2.toList := perm_order es2.toList (by simpa using hp)
        have hsize : (order.filterMap (es2[·]?)).size = es2.size := by
          rw [← Array.length_toList, hes', hperm.length_eq, Array.length_toList]
        refine wpAny_bind ?_
        show wpAny _ _ (if ((order.filterMap (es2[·]?)).size != es2.size) = true then _ else _) _ _ _
        rw [if_neg (by rw [hsize]; simp)]
        refine wpAny_pure ?_
        refine wpAny_storeSet_of (s := { s with heap := h1 }) hget1 rfl ?_ (le_sizeLine (by rw [hsize]; omega))
        have hmap : (order.filterMap (es2[·]?)).toList.map (·.1) = order.toList.filterMap fun i => (es2.map (·.1)).toList[i]? := by
          rw [hes', List.map_filterMap]
          congr 1
          funext i
          rw [← List.getElem?_map, Array.toList_map]
        have hpm := perm_order m (by rw [← hlen]; simpa using hp : order.toList.Perm (List.range m.length))
        refine h _ (order.toList.filterMap fun i => m[i]?) (hsb1.trans (Heap.SameBut.update ..)) (fun q => by rw [hpm.mem_iff]; exact hmem q) ?_
        refine pset_store (s := { s with heap := h1 }) hget1 hxs rfl ?_ ?_ ?_ ?_
        · rw [hmap]
          exact ⟨I0, by rw [hfl, hm]; omega⟩
        · intro q
          obtain ⟨q1, q2⟩ := hbt1 q
          obtain ⟨q3, q4⟩ := hbt2 q
          rw [hl, hpl]
          simp [q1, q2, q3, q4]
        · rw [hes']
          exact els_order hE2 (fun i hi => by rw [← hlen]; simpa using hle i hi)
        · exact fun q hq => So.box q (hpm.mem_iff.mp hq)
end
end
section
open PySem PySem.Calls
section
variable {prog : Program} {w : World} {A : Around} {E : Value → Shared → Prop} {s : Shared} {a b : Addr} {l m : List Pt} {p : Pt} {x : Value}

noncomputable abbrev emptySet (w : World) : Obj := { cls := .type "set", dict := none, data := .set #[] 0 (.fresh 0 0 (!w.params.followText "set-order")) }

theorem code_newSet {Q₁ : Value → Shared → Prop} (h : Q₁ (.ref s.heap.objs.size) { s with heap := s.heap.push (emptySet w) }) :
    codeAny (model prog w) A (.call (.builtin "set.__new__") ⟨[.type "set"], []⟩) (wants Q₁ E) s := by
  refine codeAny_of_tree ?_
  show wpAny _ A.in1 (do checkBuiltinCall "set.__new__" ⟨[.type "set"], []⟩; again (.builtin "set.__new__" ⟨[.type "set"], []⟩)) _ _ s
  refine wpAny_bind (wpAny_of_eq F.newCall_set_0 (wpAny_pure ⟨plainId_quiet F.plain_set_new _, codeAny_builtin F.entry_set_new ?_⟩))
  rw [Around.under_plainId F.plain_set_new _]
  unfold Builtin.«set.__new__» Builtin.Frozenset.newClass
  have hsub := sub_set_self
  obtain ⟨hp, g, d, tk, os⟩ := s
  dsimp only
  wp_walk
  refine wpAny_askSetting (wpAny_pure ?_)
  dsimp only
  simp only [newObj]
  refine wpAny_bind (wpAny_alloc (wpAny_pure ?_))
  exact wpAny_pure h

set_option maxHeartbeats 1000000 in
theorem call_set_new {Q : Value → Shared → Prop} (h : PSet w (s.heap.push (emptySet w)) s.heap.objs.size [] → Q (.ref s.heap.objs.size) { s with heap := s.heap.push (emptySet w) }) :
    wpAny (model prog w) A (call (.type "set") []) Q E s := by
  have hP : PSet w (s.heap.push (emptySet w)) s.heap.objs.size [] := by
    refine ⟨⟨_, #[], 0, _, Heap.get?_push_size _ rfl, ⟨rfl, rfl, rfl⟩, rfl, ?_, ?_, ⟨rfl, fun i p e h1 => by simp at h1⟩⟩, fun p hp => by simp at hp⟩
    · refine ⟨⟨⟨?_, ?_, ?_, ?_, ?_⟩, ?_, ?_, ?_, ?_⟩, ?_⟩ <;> simp [SetTable.fresh, SetTable.fill]
      · exact .inl rfl
    · intro e; rw [e]; exact ⟨rfl, rfl⟩
  have h := h hP
  clear hP
  obtain ⟨c, tl, hmro⟩ := F.called_set.mro
  have hmade := F.called_set.made
  have hsub := F.called_set.sub
  refine wpAny_call (codeAny_of_tree ?_)
  show wpAny _ _ (callAny (.type "set") _) _ _ _
  refine wpAny_pure ⟨Code.quiet_builtin _ (by decide +kernel), codeAny_builtin F.entry_type_call ?_⟩
  rw [Around.under_plain (weight_type_call_type "set" [] []) rfl]
  have h1 := F.called_set.notType
  have h2 := F.called_set.canCreate
  have hct := F.typeCall_set_0
  repeat (any_goals (first | assumption | wp_step))
  refine codeAny_mono (code_newSet (E := E) (Q₁ := fun obj s₁ => obj = .ref s.heap.objs.size ∧ s₁ = { s with heap := s.heap.push (emptySet w) }) ⟨rfl, rfl⟩) fun r s₁ hr => ?_
  cases r with
  | error e => exact hr
  | ok fl =>
    cases fl with
    | ret obj =>
      obtain ⟨rfl, rfl⟩ := hr
      have hS : (s.heap.push (emptySet w)).get? s.heap.objs.size = some (emptySet w) := Heap.get?_push_size _ rfl
      have hT : Shared.TypeIs { s with heap := s.heap.push (emptySet w) } (.ref s.heap.objs.size) "set" := ⟨_, hS, rfl⟩
      have hli := F.called_set.init.lookup
      have hbi := F.called_set.init.bind (.ref s.heap.objs.size)
      repeat (any_goals (first | assumption | wp_step))
      refine codeAny_mono (codeAny_call_builtin (R := wants (fun r s₂ => r = .none ∧ Q (.ref s.heap.objs.size) s₂) E) F.called_set.init.plain F.entry_set_init (check_set_init hT ?_)) fun r₂ s₂ hr₂ => ?_
      · unfold Builtin.«set.__init__» noKeywords
        wp_walk
        exact ⟨rfl, h⟩
      · cases r₂ with
        | error e => exact hr₂
        | ok fl₂ =>
          cases fl₂ with
          | ret r =>
            obtain ⟨rfl, hq⟩ := hr₂
            repeat (any_goals (first | assumption | wp_step))
          | _ => exact hr₂.elim
    | _ => exact hr.elim

theorem in_set {Q : Value → Shared → Prop} (hu : A.units + 5 < cLine) (S : PSet w s.heap a l) (hx : IsPt s.heap p x) (hb : InBox p)
    (h : ∀ tk, Q (.bool (decide (p ∈ l))) { s with toks := tk }) : wpAny (model prog w) A (compareOp .In x (.ref a)) Q E s := by
  show wpAny _ _ (do return .bool (← contains (.ref a) x)) Q E s
  refine wpAny_bind ?_
  unfold contains
  try with_reducible refine wpAny_holding ?_
  refine wpAny_bind (wpAny_specialOf S.typeIs F.slot_set_contains.lookup ?_)
  show wpAny _ _ (if (some (Value.builtin "set.__contains__") == some Value.none) = true then _ else _) _ E s
  rw [if_neg (by rw [beq_builtin_none]; exact Bool.false_ne_true)]
  refine wpAny_bind (wpAny_callSpecialUnlessNone?_slot (name := Str.ofString "__contains__") S.typeIs F.slot_set_contains
    (wpAny_call_entry F.slot_set_contains S.typeIs entry_set_contains ?_ (F.args_set_contains_2 _ _)))
  delta Builtin.«frozenset.__contains__»
  refine wpAny_bind (wpAny_of_eq (a := (a, x)) rfl ?_)
  refine wpAny_bind (m := Sem.tryCatch _ _) (wpAny_tryCatch ?_)
  refine wp_setContains (A := A.in1) (by show A.units + 1 < cLine; omega) S hx hb fun tk => ?_
  exact wpAny_pure ⟨_, rfl, wpAny_truthy_bool (wpAny_pure (h _))⟩
theorem method_set_add {pl : Sem Bool} {Q : Value × List Value → Shared → Prop} (S : PSet w s.heap a l) (h : Q (.builtin "set.add", [.ref a]) s) :
    wpAny (model prog w) A (getMethod (.ref a) "add" pl) Q E s :=
  getMethod_builtin S.typeIs F.plainAttrs_set F.slot_set_add F.type_set_add S.noDict h

theorem call_set_add' {Q : Value → Shared → Prop} (hu : A.units + 5 < cLine) (S : PSet w s.heap a l) (hx : IsPt s.heap p x) (hb : InBox p)
    (h1 : p ∈ l → ∀ tk, Q .none { s with toks := tk })
    (h2 : p ∉ l → ∀ h' l' tk, Heap.SameBut a s.heap h' → l'.Perm (p :: l) → PSet w h' a l' → Q .none { s with heap := h', toks := tk }) :
    wpAny (model prog w) A (call (.builtin "set.add") [.ref a, x]) Q E s := by
  refine wpAny_call_entry F.slot_set_add S.typeIs F.entry_set_add ?_ (F.args_set_add_2 _ _)
  delta Builtin.«set.add»
  refine wpAny_bind (wpAny_of_eq (a := (a, x)) rfl ?_)
  refine wpAny_bind (m := setAdd a x) ?_
  refine wp_setAdd (A := A.in1) (by show A.units + 1 < cLine; omega) S hx hb (by have := S.length_le; omega) (fun h tk => ?_) (fun h h' l' tk a1 a2 a3 => ?_)
  · exact wpAny_pure ⟨_, rfl, h1 h tk⟩
  · exact wpAny_pure ⟨_, rfl, h2 h h' l' tk a1 a2 a3⟩
end
end
section
open PySem PySem.Calls
section
variable {prog : Program} {w : World} {A : Around} {E : Value → Shared → Prop} {s : Shared} {a b : Addr} {l m : List Pt} {p : Pt} {x : Value}

theorem method_set_pop {pl : Sem Bool} {Q : Value × List Value → Shared → Prop} (S : PSet w s.heap a l) (h : Q (.builtin "set.pop", [.ref a]) s) :
    wpAny (model prog w) A (getMethod (.ref a) "pop" pl) Q E s :=
  getMethod_builtin S.typeIs F.plainAttrs_set F.slot_set_pop F.type_set_pop S.noDict h
theorem method_set_update {pl : Sem Bool} {Q : Value × List Value → Shared → Prop} (S : PSet w s.heap a l) (h : Q (.builtin "set.update", [.ref a]) s) :
    wpAny (model prog w) A (getMethod (.ref a) "update" pl) Q E s :=
  getMethod_builtin S.typeIs F.plainAttrs_set F.slot_set_update F.type_set_update S.noDict h

theorem call_set_pop' {Q : Value → Shared → Prop} (S : PSet w s.heap a l) (hne : l ≠ [])
    (h : ∀ (i : Nat) (p : Pt) (v : Value) (h' : Heap) (d : Drawn), l[i]? = some p → Heap.SameBut a s.heap h' → PSet w h' a (l.eraseIdx i) → IsPt h' p v → Q v { s with heap := h', drawn := d }) :
    wpAny (model prog w) A (call (.builtin "set.pop") [.ref a]) Q E s := by
  refine wpAny_call_entry F.slot_set_pop S.typeIs F.entry_set_pop ?_ (F.args_set_pop_1 _)
  delta Builtin.«set.pop»
  refine wpAny_bind (wpAny_of_eq (a := a) rfl ?_)
  refine wpAny_bind (wp_setPop S hne fun i p v h' d h1 h2 h3 h4 => ?_)
  exact wpAny_pure ⟨_, rfl, h i p v h' d h1 h2 h3 h4⟩

theorem call_set_update' {Q : Value → Shared → Prop} (hu : A.units + 5 < cLine) (S : PSet w s.heap a l) (So : PSet w s.heap b m) (hab : a ≠ b)
    (h : ∀ h' l', Heap.SameBut a s.heap h' → (∀ q, q ∈ l' ↔ q ∈ l ∨ q ∈ m) → PSet w h' a l' → Q .none { s with heap := h' }) :
    wpAny (model prog w) A (call (.builtin "set.update") [.ref a, .ref b]) Q E s := by
  refine wpAny_call_entry F.slot_set_update S.typeIs F.entry_set_update ?_ (F.args_set_update_2 _ _)
  delta Builtin.«set.update»
  refine wpAny_bind (wpAny_of_eq (a := (a, [.ref b])) rfl ?_)
  dsimp only
  refine wpAny_bind ?_
  rw [List.forIn_cons]
  refine wpAny_bind (wpAny_bind ?_)
  unfold Builtin.Frozenset.updateFrom Builtin.Frozenset.isAnySet
  refine wpAny_bind (wpAny_bind (wpAny_isInstance So.typeIs sub_set_self ?_))
  refine wpAny_pure ?_
  simp only [if_true]
  unfold Builtin.Frozenset.addrOf
  refine wpAny_bind (wpAny_pure ?_)
  unfold Builtin.Frozenset.merge
  obtain ⟨o2, es2, ep2, t2, ho2, hxs2, hd2, I2, hbt2, El2⟩ := id So.obj
  have hep : ∀ (s' : Shared) (R : Nat → Shared → Prop), s'.heap.get? b = s.heap.get? b → R ep2 s' → wpAny (model prog w) A.in1 (setEpoch b) R E s' := fun s' R e r => by
    unfold setEpoch
    exact wpAny_bind (wpAny_setState_of (e.trans ho2) hd2 (inv_fits I2) (wpAny_pure r))
  refine wpAny_bind (hep s _ rfl ?_)
  refine wp_setMerge (A := A.in1) (by show A.units + 1 < cLine; omega) S So hab (fun s' R e r => ?_) fun h' l' h1 h2 h3 => ?_
  · unfold Builtin.Frozenset.unchanged
    refine wpAny_bind (hep s' _ e ?_)
    rw [if_neg (by simp)]
    exact wpAny_pure r
  · refine wpAny_pure ?_
    dsimp only
    rw [List.forIn_nil]
    exact wpAny_pure (wpAny_pure ⟨_, rfl, h h' l' h1 h2 h3⟩)
end
end
section
open PySem PySem.Calls
namespace SF
theorem slot_next : Slot "set_iterator" "__next__" "set_iterator.__next__" :=
  .of (owner := "set_iterator") (n := "__next__") (by rw [typeLookup_type, builtinLookup_eq_fast]; kernel_rfl) (by decide +kernel) (by decide +kernel) (by decide +kernel)
    (by first | exact .inl (by decide +kernel) | exact .inr (by decide +kernel)) (by rw [isSubtype_type]; kernel_rfl)
theorem entry_next : entryFor table "set_iterator.__next__" = some Builtin.«set_iterator.__next__» := entryFor_of_tree (by kernel_rfl)
theorem args_next (a : Value) : argsOk "set_iterator.__next__" ⟨[a], []⟩ := by unfold argsOk; kernel_rfl
theorem entry_iter : entryFor table "set.__iter__" = some Builtin.«frozenset.__iter__» :=
  entryFor_alias (id' := "frozenset.__iter__") (by kernel_rfl) rfl (by decide +kernel) (by kernel_rfl)
end SF

noncomputable def walkOf (w : World) (a : Addr) (es : Array (Int × Value)) (ep : Nat) : Array (Int × Value) := if w.params.followText "set-order" then pickOrder (w.params.setOrder a ep) es else es
theorem walkOf_perm (w : World) (a : Addr) (es : Array (Int × Value)) (ep : Nat) : (walkOf w a es ep).toList.Perm es.toList := by
  unfold walkOf
  split
  · exact pickOrder_perm _ _
  · exact List.Perm.refl _
noncomputable def slotAt (w : World) (t : SetTable) (i : Nat) : Nat := if w.params.followText "set-order" then 0 else if i = 0 then 0 else t.place.getD (i - 1) 0 + 1
noncomputable abbrev setIterObj (slot i : Nat) (a : Addr) (n ep : Nat) : Obj := { cls := .type "set_iterator", data := .fields #[rawInt slot, rawInt i, .ref a, rawInt n, rawInt ep] }

section
variable {prog : Program} {w : World} {A : Around} {E : Value → Shared → Prop} {s : Shared} {a it : Addr} {l m : List Pt} {p : Pt} {x : Value}
variable {o : Obj} {es : Array (Int × Value)} {ep : Nat} {t : SetTable}

theorem wp_pyIter_set {Q : Value → Shared → Prop} (ho : s.heap.get? a = some o) (hx : o.ExactSet) (hd : o.data = .set es ep t) (I : Tab.Inv t (es.toList.map (·.1)))
    (hbt : w.params.followText "set-order" = false → t.led = true ∧ t.plain = true)
    (h : Q (.ref s.heap.objs.size) { s with heap := s.heap.push (setIterObj 0 0 a es.size ep) }) : wpAny (model prog w) A (pyIter (.ref a)) Q E s := by
  have hT : s.TypeIs (.ref a) "set" := ⟨o, ho, hx.1⟩
  have hf := inv_fits I
  refine wpAny_pyIter_slot hT F.slot_set_iter (wpAny_call_entry F.slot_set_iter hT SF.entry_iter ?_ (F.args_set_iter_1 _))
  delta Builtin.«frozenset.__iter__»
  refine wpAny_bind (wpAny_of_eq (a := a) rfl ?_)
  unfold Builtin.Frozenset.sizeOf
  refine wpAny_bind (wpAny_bind (wpAny_setEntries_of ho hd hf (wpAny_pure ?_)))
  unfold setDrawn
  refine wpAny_bind (wpAny_bind (wpAny_setState_of ho hd hf ?_))
  refine wpAny_bind (wp_setsByText (wpAny_pure ?_))
  have e0 : (!w.params.followText "set-order" && (!t.plain && decide (es.size > 1))) = false := by
    cases hb : w.params.followText "set-order" with
    | true => rfl
    | false => rw [(hbt hb).2]; rfl
  show wpAny _ _ (if (!w.params.followText "set-order" && (!t.plain && decide (es.size > 1))) = true then _ else _) _ _ _
  rw [e0, if_neg (by decide)]
  refine wpAny_bind ?_
  refine wpAny_pure ?_
  unfold setEpoch
  refine wpAny_bind (wpAny_bind (wpAny_setState_of ho hd hf (wpAny_pure ?_)))
  exact wpAny_bind (wpAny_newObj_type (wpAny_pure ⟨_, rfl, "set_iterator", _, ⟨_, Heap.get?_push_size _ rfl, rfl⟩, SF.slot_next.lookup, h⟩))

theorem below_next (I : Tab.Inv t (es.toList.map (·.1))) {i : Nat} (hi : i ≤ es.size) : SetTable.below t.place (if i = 0 then 0 else t.place.getD (i - 1) 0 + 1) = i := by
  have hsz : t.place.size = es.size := by rw [I.size]; simp
  have hs := I.sp
  obtain ⟨h1, h2, h3⟩ := Tab.below_spec hs (if i = 0 then 0 else t.place.getD (i - 1) 0 + 1)
  have mono : ∀ a b (ha : a < t.place.size) (hb : b < t.place.size), a < b → t.place[a] < t.place[b] := fun a b ha hb hab => by
    have := List.pairwise_iff_getElem.mp hs a b (by simpa using ha) (by simpa using hb) hab
    simpa using this
  by_cases h0 : i = 0
  · subst h0
    simp only [if_true] at h1 h2 ⊢
    cases hb : SetTable.below t.place 0 with
    | zero => rfl
    | succ k =>
      rw [hb] at h1 h2
      have := h2 0 (by omega) (by omega)
      omega
  · simp only [h0, if_false] at h1 h2 h3 ⊢
    have hi1 : i - 1 < t.place.size := by omega
    have hg : t.place.getD (i - 1) 0 = t.place[i - 1] := by simp [Array.getD, hi1]
    rw [hg] at h1 h2 h3 ⊢
    apply Nat.le_antisymm
    · apply Nat.le_of_not_lt; intro hlt
      have := h2 i (by omega) hlt
      have := mono (i - 1) i hi1 (by omega) (by omega)
      omega
    · apply Nat.le_of_not_lt; intro hlt
      have := h3 (i - 1) hi1 (by omega)
      omega

theorem wp_pyNext_set_item {i : Nat} {x : Int × Value} {Q : Option Value → Shared → Prop} (hit : s.heap.get? it = some (setIterObj (slotAt w t i) i a es.size ep)) (ho : s.heap.get? a = some o) (hx : o.ExactSet) (hd : o.data = .set es ep t) (I : Tab.Inv t (es.toList.map (·.1)))
    (hbt : w.params.followText "set-order" = false → t.led = true ∧ t.plain = true) (he : (walkOf w a es ep)[i]? = some x)
    (h : ∀ h', h'.get? it = some (setIterObj (slotAt w t (i + 1)) (i + 1) a es.size ep) → Heap.SameBut it s.heap h' → Q (some x.2) { s with heap := h' }) : wpAny (model prog w) A (pyNext (.ref it)) Q E s := by
  have hT : s.TypeIs (.ref it) "set_iterator" := ⟨_, hit, rfl⟩
  have hf := inv_fits I
  unfold pyNext
  refine wpAny_bind (wpAny_attempt (wpAny_callSpecial?_slot (name := Str.ofString "__next__") hT SF.slot_next
    (wpAny_call_entry SF.slot_next hT SF.entry_next ?_ (SF.args_next _))))
  delta Builtin.«set_iterator.__next__»
  refine wpAny_bind (wpAny_of_eq (a := (.ref it, [])) rfl ?_)
  dsimp only
  refine wpAny_bind (wpAny_fieldsOf hit rfl ?_)
  show wpAny _ _ (setEntries a >>= _) _ _ _
  refine wpAny_bind (wpAny_setEntries_of ho hd hf ?_)
  rw [if_neg (by simp)]
  show wpAny _ _ (setNext a (slotAt w t i : Int).toNat (i : Int).toNat (ep : Int).toNat >>= _) _ _ _
  simp only [Int.toNat_natCast]
  refine wpAny_bind ?_
  have key : wpAny (model prog w) A.in1 (setNext a (slotAt w t i) i ep) (fun r s' => r = some (x.2, slotAt w t (i + 1)) ∧ s' = s) (fun _ _ => False) s := by
    unfold setNext
    refine wpAny_bind (wpAny_setState_of ho hd hf ?_)
    refine wpAny_bind (wp_setsByText ?_)
    cases hb : w.params.followText "set-order" with
    | true =>
      rw [if_pos rfl]
      dsimp only
      rw [if_neg (by simp)]
      unfold setWalk
      refine wpAny_bind (wpAny_bind (wpAny_setState_of ho hd hf ?_))
      refine wpAny_bind (wp_setsByText ?_)
      rw [hb, if_pos rfl]
      refine wpAny_bind (wpAny_askSetting (wpAny_pure (wpAny_pure ?_)))
      have hw : walkOf w a es ep = pickOrder (w.params.setOrder a ep) es := by unfold walkOf; rw [hb]; rfl
      rw [hw] at he
      refine ⟨?_, rfl⟩
      show Option.map _ ((pickOrder (w.params.setOrder a ep) es)[i]?) = _
      rw [he]
      simp [slotAt, hb]
    | false =>
      obtain ⟨hl, hp⟩ := hbt hb
      rw [if_neg (by decide)]
      show wpAny _ _ (if (!t.plain && decide (es.size > 1)) = true then _ else _) _ _ _
      rw [hp, if_neg (by simp)]
      refine wpAny_bind ?_
      show wpAny _ _ (if (!t.led && !es.isEmpty) = true then _ else _) _ _ _
      rw [hl, if_neg (by simp)]
      refine wpAny_pure (wpAny_pure ?_)
      have hw : walkOf w a es ep = es := by unfold walkOf; rw [hb]; rfl
      rw [hw] at he
      have hlt : i < es.size := (Array.getElem?_eq_some_iff.mp he).1
      have hsz : t.place.size = es.size := by rw [I.size]; simp
      have hbel := below_next I (i := i) (by omega)
      have hsl : slotAt w t i = if i = 0 then 0 else t.place.getD (i - 1) 0 + 1 := by unfold slotAt; rw [hb]; rfl
      refine ⟨?_, rfl⟩
      rw [hsl, hbel, he, Array.getElem?_eq_getElem (by omega : i < t.place.size)]
      simp [slotAt, hb, Array.getD, (by omega : i < t.place.size)]
  refine wpAny_mono key (fun r s' hr => ?_) fun _ _ e => e.elim
  obtain ⟨rfl, rfl⟩ := hr
  dsimp only
  refine wpAny_bind (wpAny_setField hit rfl (by simp) ?_)
  refine wpAny_bind (wpAny_setField (Heap.get?_update_self _ hit rfl) rfl (by simp) (wpAny_pure ⟨x.2, rfl, wpAny_pure (h _ ?_ ((Heap.SameBut.update ..).trans (Heap.SameBut.update ..)))⟩))
  refine (Heap.get?_update_self _ (Heap.get?_update_self _ hit rfl) rfl).trans ?_
  rfl

theorem wp_pyNext_set_end {i : Nat} {Q : Option Value → Shared → Prop} (hh : A.handled = none) (hit : s.heap.get? it = some (setIterObj (slotAt w t i) i a es.size ep)) (ho : s.heap.get? a = some o) (hx : o.ExactSet) (hd : o.data = .set es ep t) (I : Tab.Inv t (es.toList.map (·.1)))
    (hbt : w.params.followText "set-order" = false → t.led = true ∧ t.plain = true) (hi : i = es.size)
    (h : ∀ h', Heap.ExtBut it s.heap h' → Q none { s with heap := h' }) : wpAny (model prog w) A (pyNext (.ref it)) Q E s := by
  have hT : s.TypeIs (.ref it) "set_iterator" := ⟨_, hit, rfl⟩
  have hf := inv_fits I
  unfold pyNext
  refine wpAny_bind (wpAny_attempt (wpAny_callSpecial?_slot (name := Str.ofString "__next__") hT SF.slot_next
    (wpAny_call_entry SF.slot_next hT SF.entry_next ?_ (SF.args_next _))))
  delta Builtin.«set_iterator.__next__»
  refine wpAny_bind (wpAny_of_eq (a := (.ref it, [])) rfl ?_)
  dsimp only
  refine wpAny_bind (wpAny_fieldsOf hit rfl ?_)
  show wpAny _ _ (setEntries a >>= _) _ _ _
  refine wpAny_bind (wpAny_setEntries_of ho hd hf ?_)
  rw [if_neg (by simp)]
  show wpAny _ _ (setNext a (slotAt w t i : Int).toNat (i : Int).toNat (ep : Int).toNat >>= _) _ _ _
  simp only [Int.toNat_natCast]
  refine wpAny_bind ?_
  have key : wpAny (model prog w) A.in1 (setNext a (slotAt w t i) i ep) (fun r s' => r = none ∧ s' = s) (fun _ _ => False) s := by
    unfold setNext
    refine wpAny_bind (wpAny_setState_of ho hd hf ?_)
    refine wpAny_bind (wp_setsByText ?_)
    cases hb : w.params.followText "set-order" with
    | true =>
      rw [if_pos rfl]
      dsimp only
      rw [if_neg (by simp)]
      unfold setWalk
      refine wpAny_bind (wpAny_bind (wpAny_setState_of ho hd hf ?_))
      refine wpAny_bind (wp_setsByText ?_)
      rw [hb, if_pos rfl]
      refine wpAny_bind (wpAny_askSetting (wpAny_pure (wpAny_pure ?_)))
      refine ⟨?_, rfl⟩
      have hp := (pickOrder_perm (w.params.setOrder a ep) es).length_eq
      simp only [Array.length_toList] at hp
      show Option.map _ ((pickOrder (w.params.setOrder a ep) es)[i]?) = _
      rw [Array.getElem?_eq_none (by omega)]
      rfl
    | false =>
      obtain ⟨hl, hp⟩ := hbt hb
      rw [if_neg (by decide)]
      show wpAny _ _ (if (!t.plain && decide (es.size > 1)) = true then _ else _) _ _ _
      rw [hp, if_neg (by simp)]
      refine wpAny_bind ?_
      show wpAny _ _ (if (!t.led && !es.isEmpty) = true then _ else _) _ _ _
      rw [hl, if_neg (by simp)]
      refine wpAny_pure (wpAny_pure ?_)
      have hbel := below_next I (i := i) (by omega)
      have hsl : slotAt w t i = if i = 0 then 0 else t.place.getD (i - 1) 0 + 1 := by unfold slotAt; rw [hb]; rfl
      refine ⟨?_, rfl⟩
      rw [hsl, hbel, Array.getElem?_eq_none (by omega : es.size ≤ i)]
  refine wpAny_mono key (fun r s' hr => ?_) fun _ _ e => e.elim
  obtain ⟨rfl, rfl⟩ := hr
  dsimp only
  refine wpAny_bind (wpAny_setField hit rfl (by simp) ?_)
  show wpAny _ _ (newExc (.type "StopIteration") [] >>= _) _ _ _
  refine wpAny_bind ?_
  simp only [newExc, newTuple]
  refine wpAny_bind (wpAny_newObj_type ?_ (by size_fits))
  refine wpAny_bind (m := firstArgMember _ _) (wpAny_of_eq (a := Value.none) (by first | rfl | (simp only [firstArgMember]; rfl)) ?_)
  refine wpAny_newObj_type ?_ (by size_fits)
  simp only [raiseNew]
  refine wpAny_bind (wpAny_handled ?_)
  rw [show A.in1.handled = none from hh]
  refine wpAny_bind (wpAny_pure (wpAny_throw ?_))
  refine wpAny_bind (wpAny_isInstance (T := "StopIteration") (b := true) ⟨_, Heap.get?_push_size _ rfl, rfl⟩ isSubtype_stop ?_)
  exact wpAny_pure (h _ (((Heap.SameBut.update ..).extBut.push _).push _))
end
end
section
open PySem PySem.W PyProof.Rows PySem.Calls
inductive PV where
  | none
  | bool (b : Bool)
  | int (i : Int)
  | str (s : Str)
  | tup (l : List PV)
  | ref (a : Addr)
  | ty (n : String)
  | bi (id : String)

mutual
noncomputable def PR (h : Heap) : PV → Value → Prop
  | .none, v => v = .none
  | .bool b, v => v = .bool b
  | .int i, v => ∃ t, v = .int i t
  | .str x, v => ∃ t, v = .str x t
  | .tup l, v => ∃ a o vs n, v = .ref a ∧ h.get? a = some o ∧ o.cls = .type "tuple" ∧ o.dict = Option.none ∧ o.data = .seq vs n ∧ PRs h l vs.toList
  | .ref a, v => v = .ref a
  | .ty n, v => v = .type n
  | .bi i, v => v = .builtin i
noncomputable def PRs (h : Heap) : List PV → List Value → Prop
  | [], vs => vs = []
  | p :: ps, vs => ∃ v r, vs = v :: r ∧ PR h p v ∧ PRs h ps r
end

theorem PR.int {h : Heap} {i : Int} {t : Tok} : PR h (.int i) (.int i t) := by unfold PR; exact ⟨t, rfl⟩
theorem PR.str {h : Heap} {i : Str} {t : Tok} : PR h (.str i) (.str i t) := by unfold PR; exact ⟨t, rfl⟩
theorem PR.none {h : Heap} : PR h .none .none := by unfold PR; rfl
theorem PR.bool {h : Heap} {b : Bool} : PR h (.bool b) (.bool b) := by unfold PR; rfl
theorem PR.ref {h : Heap} {a : Addr} : PR h (.ref a) (.ref a) := by unfold PR; rfl
theorem PR.ty {h : Heap} {a : String} : PR h (.ty a) (.type a) := by unfold PR; rfl
theorem PR.bi {h : Heap} {a : String} : PR h (.bi a) (.builtin a) := by unfold PR; rfl
theorem PR.ty_inv {h : Heap} {a : String} {v : Value} (x : PR h (.ty a) v) : v = .type a := by unfold PR at x; exact x
theorem PR.bi_inv {h : Heap} {a : String} {v : Value} (x : PR h (.bi a) v) : v = .builtin a := by unfold PR at x; exact x
theorem PRs.nil {h : Heap} : PRs h [] [] := by unfold PRs; rfl
theorem PRs.cons {h : Heap} {p : PV} {v : Value} {ps : List PV} {vs : List Value} (a : PR h p v) (b : PRs h ps vs) : PRs h (p :: ps) (v :: vs) := by
  unfold PRs; exact ⟨v, vs, rfl, a, b⟩
theorem PR.int_inv {h : Heap} {i : Int} {v : Value} (x : PR h (.int i) v) : ∃ t, v = .int i t := by unfold PR at x; exact x
theorem PR.str_inv {h : Heap} {i : Str} {v : Value} (x : PR h (.str i) v) : ∃ t, v = .str i t := by unfold PR at x; exact x
theorem PR.none_inv {h : Heap} {v : Value} (x : PR h .none v) : v = .none := by unfold PR at x; exact x
theorem PR.bool_inv {h : Heap} {b : Bool} {v : Value} (x : PR h (.bool b) v) : v = .bool b := by unfold PR at x; exact x
theorem PR.ref_inv {h : Heap} {a : Addr} {v : Value} (x : PR h (.ref a) v) : v = .ref a := by unfold PR at x; exact x
theorem PR.tup_inv {h : Heap} {l : List PV} {v : Value} (x : PR h (.tup l) v) : ∃ a o vs n, v = .ref a ∧ h.get? a = some o ∧ o.cls = .type "tuple" ∧ o.dict = Option.none ∧ o.data = .seq vs n ∧ PRs h l vs.toList := by
  unfold PR at x; exact x
theorem PRs.nil_inv {h : Heap} {vs : List Value} (x : PRs h [] vs) : vs = [] := by unfold PRs at x; exact x
theorem PRs.cons_inv {h : Heap} {p : PV} {ps : List PV} {vs : List Value} (x : PRs h (p :: ps) vs) : ∃ v r, vs = v :: r ∧ PR h p v ∧ PRs h ps r := by
  unfold PRs at x; exact x
theorem PRs.length {h : Heap} : ∀ {ps : List PV} {vs : List Value}, PRs h ps vs → ps.length = vs.length
  | [], vs, x => by rw [x.nil_inv]; rfl
  | p :: ps, vs, x => by obtain ⟨v, r, rfl, _, y⟩ := x.cons_inv; simp [y.length]

noncomputable def TupKeep (h h' : Heap) : Prop := ∀ b o, h.get? b = some o → o.cls = .type "tuple" → (∃ vs n, o.data = .seq vs n) → h'.get? b = some o
theorem TupKeep.refl (h : Heap) : TupKeep h h := fun _ _ e _ _ => e
theorem TupKeep.trans {h₁ h₂ h₃ : Heap} (x : TupKeep h₁ h₂) (y : TupKeep h₂ h₃) : TupKeep h₁ h₃ := fun b o e c d => y b o (x b o e c d) c d

mutual
theorem PR.keep {h h' : Heap} (k : TupKeep h h') : ∀ (p : PV) {v : Value}, PR h p v → PR h' p v
  | .none, v, x => by rw [x.none_inv]; exact PR.none
  | .bool b, v, x => by rw [x.bool_inv]; exact PR.bool
  | .int i, v, x => by obtain ⟨t, rfl⟩ := x.int_inv; exact PR.int
  | .str i, v, x => by obtain ⟨t, rfl⟩ := x.str_inv; exact PR.str
  | .ref a, v, x => by rw [x.ref_inv]; exact PR.ref
  | .ty a, v, x => by rw [x.ty_inv]; exact PR.ty
  | .bi a, v, x => by rw [x.bi_inv]; exact PR.bi
  | .tup l, v, x => by
    obtain ⟨a, o, vs, n, rfl, ho, hc, hd, hs, hr⟩ := x.tup_inv
    unfold PR
    exact ⟨a, _, vs, n, rfl, k a o ho hc ⟨_, _, hs⟩, hc, hd, hs, PRs.keep k l hr⟩
theorem PRs.keep {h h' : Heap} (k : TupKeep h h') : ∀ (p : List PV) {v : List Value}, PRs h p v → PRs h' p v
  | [], v, x => by rw [x.nil_inv]; exact PRs.nil
  | p :: ps, v, x => by obtain ⟨v, r, rfl, y, z⟩ := x.cons_inv; exact PRs.cons (PR.keep k p y) (PRs.keep k ps z)
end

theorem PRs.get {h : Heap} : ∀ {ps : List PV} {vs : List Value} (i : Nat) {p : PV}, PRs h ps vs → ps[i]? = some p → ∃ v, vs[i]? = some v ∧ PR h p v
  | [], _, _, _, _, e => by simp at e
  | p :: ps, vs, 0, q, x, e => by obtain ⟨v, r, rfl, y, z⟩ := x.cons_inv; simp at e; subst e; exact ⟨v, rfl, y⟩
  | p :: ps, vs, i + 1, q, x, e => by obtain ⟨v, r, rfl, y, z⟩ := x.cons_inv; simp at e; obtain ⟨w, e', q'⟩ := z.get i e; exact ⟨w, by simpa using e', q'⟩
theorem PRs.append {h : Heap} : ∀ {ps : List PV} {vs : List Value} {qs : List PV} {ws : List Value}, PRs h ps vs → PRs h qs ws → PRs h (ps ++ qs) (vs ++ ws)
  | [], _, _, _, x, y => by rw [x.nil_inv]; exact y
  | p :: ps, _, _, _, x, y => by obtain ⟨v, r, rfl, a, b⟩ := x.cons_inv; exact PRs.cons a (b.append y)
theorem PRs.set {h : Heap} : ∀ {ps : List PV} {vs : List Value} (i : Nat) {p : PV} {v : Value}, PRs h ps vs → PR h p v → PRs h (ps.set i p) (vs.set i v)
  | [], _, _, _, _, x, _ => by rw [x.nil_inv]; simpa using PRs.nil
  | q :: ps, _, 0, _, _, x, y => by obtain ⟨w, r, rfl, a, b⟩ := x.cons_inv; simpa using PRs.cons y b
  | q :: ps, _, i + 1, _, _, x, y => by obtain ⟨w, r, rfl, a, b⟩ := x.cons_inv; simpa using PRs.cons a (b.set i y)
theorem PRs.replicate {h : Heap} {p : PV} {v : Value} (x : PR h p v) : ∀ n, PRs h (List.replicate n p) (List.replicate n v)
  | 0 => PRs.nil
  | n + 1 => PRs.cons x (PRs.replicate x n)

noncomputable def pt (p : Pt) : PV := .tup [.int p.1, .int p.2]
theorem isPt_of_PR {h : Heap} {p : Pt} {v : Value} (x : PR h (pt p) v) : IsPt h p v := by
  obtain ⟨a, o, vs, n, rfl, ho, hc, hd, hs, hr⟩ := x.tup_inv
  obtain ⟨v1, r1, e1, a1, b1⟩ := hr.cons_inv
  obtain ⟨v2, r2, e2, a2, b2⟩ := b1.cons_inv
  have := b2.nil_inv
  subst this
  obtain ⟨t, rfl⟩ := a1.int_inv
  obtain ⟨u, rfl⟩ := a2.int_inv
  subst e2
  refine ⟨a, o, n, t, u, rfl, ho, hc, hd, ?_⟩
  rw [hs]; congr 1; apply Array.toList_inj.mp; rw [e1]
theorem PR_of_isPt {h : Heap} {p : Pt} {v : Value} (x : IsPt h p v) : PR h (pt p) v := by
  obtain ⟨a, o, n, t, u, rfl, ho, hc, hd, hs⟩ := x
  unfold pt PR
  exact ⟨a, o, _, n, rfl, ho, hc, hd, hs, PRs.cons PR.int (PRs.cons PR.int PRs.nil)⟩

inductive AO where
  | list (l : List PV)
  | pset (l : List Pt)
  | pdict (l : List (Pt × PV))
  | inst (C d : Addr)
  | attrs (l : List (Str × PV))
  | range (a b : Int)

noncomputable abbrev AHeap := Addr → Option AO
noncomputable def upd (H : AHeap) (a : Addr) (o : AO) : AHeap := fun b => if b = a then some o else H b
theorem upd_same {H : AHeap} {a : Addr} {o : AO} : upd H a o a = some o := by simp [upd]
theorem upd_ne {H : AHeap} {a b : Addr} {o : AO} (h : b ≠ a) : upd H a o b = H b := by simp [upd, h]

structure Cx where
  prog : Program
  w : World
  K : Frag
  h₀ : Heap
  os : OsState
  view : Program
  loose : List Str
  mg : Str → Option Value
  mb : Str → Option Value
  scA : Addr
  scL : List PV
noncomputable abbrev Cx.M (C : Cx) : Model := model C.prog C.w
structure Cx.Ok (C : Cx) : Prop where
  kin : C.K.In C.h₀
  top : TopRead C.view C.loose C.mg C.mb C.h₀
  sc : ∃ vs n, IsL C.h₀ C.scA vs n ∧ PRs C.h₀ C.scL vs.toList

noncomputable def ptK (p : Pt) : List Int := [p.1, p.2]

noncomputable def DRel (h : Heap) : List (Pt × PV) → List (List Int × Addr × Value) → Prop
  | [], xs => xs = []
  | e :: l, xs => ∃ x r, xs = x :: r ∧ x.1 = ptK e.1 ∧ PR h (pt e.1) (.ref x.2.1) ∧ PR h e.2 x.2.2 ∧ DRel h l r
theorem DRel.keep {h h' : Heap} (k : TupKeep h h') : ∀ {l : List (Pt × PV)} {xs : List (List Int × Addr × Value)}, DRel h l xs → DRel h' l xs
  | [], xs, x => x
  | e :: l, xs, ⟨x, r, a, b, c, d, y⟩ => ⟨x, r, a, b, PR.keep k _ c, PR.keep k _ d, DRel.keep k y⟩
noncomputable def Stands (C : Cx) (h : Heap) (a : Addr) : AO → Prop
  | .list l => ∃ vs n, IsL h a vs n ∧ PRs h l vs.toList
  | .pset l => PSet C.w h a l
  | .pdict l => ∃ xs : List (List Int × Addr × Value), h.DictOfH (tupleKind (intKind C.prog C.w)) a xs ∧ DRel h l xs
  | .inst c d => ∃ o, h.get? a = some o ∧ o.cls = .ref c ∧ o.dict = some d ∧ o.data = .plain ∧ d ≠ a
  | .attrs l => ∃ mv, h.Ns1 a mv ∧ (∀ x, l.lookup x = none → mv x = none) ∧ ∀ x p, l.lookup x = some p → ∃ v, mv x = some v ∧ PR h p v
  | .range x y => ∃ t u v, IsRange h a x y 1 t u v

theorem IsTupleKey.keepT {C : Cx} {h h' : Heap} (k : TupKeep h h') {ks : List Int} {a : Addr} (x : IsTupleKey (intKind C.prog C.w) h ks a) : IsTupleKey (intKind C.prog C.w) h' ks a := by
  obtain ⟨o, xs, n, ho, hc, hd, r⟩ := x
  exact ⟨o, xs, n, k a o ho hc ⟨_, _, hd⟩, hc, hd, r⟩

theorem Stands.keep {C : Cx} {h h' : Heap} {a : Addr} (k : TupKeep h h') (ha : ∀ o, h.get? a = some o → h'.get? a = some o) : ∀ (o : AO), Stands C h a o → Stands C h' a o
  | .list l, ⟨vs, n, il, r⟩ => ⟨vs, n, ha _ il, r.keep k⟩
  | .pset l, S => by
    have S : PSet C.w h a l := S
    obtain ⟨o, _, _, _, ho, _⟩ := S.obj
    exact PSet.keep S ((ha o ho).trans ho.symm) fun b o e c d => ⟨o.slots, k b o e c d⟩
  | .pdict l, ⟨xs, ⟨o, es, ep, ho, hx, hd, he, hk, hn⟩, r⟩ => ⟨xs, ⟨o, es, ep, ha o ho, hx, hd, he, fun x hx => IsTupleKey.keepT k (hk x hx), hn⟩, DRel.keep k r⟩
  | .inst c d, ⟨o, ho, r⟩ => ⟨o, ha o ho, r⟩
  | .attrs l, ⟨mv, N, e, r⟩ => ⟨mv, N.at ha, e, fun x p e' => let ⟨v, a, b⟩ := r x p e'; ⟨v, a, b.keep k⟩⟩
  | .range x y, ⟨t, u, v, r⟩ => ⟨t, u, v, ha _ r⟩

noncomputable def NotTup (o : Obj) : Prop := o.cls = .type "tuple" → ¬ ∃ vs n, o.data = .seq vs n
theorem NotTup.cls {o : Obj} (h : o.cls ≠ .type "tuple") : NotTup o := fun e => absurd e h
theorem NotTup.dict {o : Obj} {es ep} (h : o.data = .dict es ep) : NotTup o := fun _ ⟨vs, n, e⟩ => by rw [h] at e; cases e
theorem NotTup.cell {o : Obj} {v} (h : o.data = .cell v) : NotTup o := fun _ ⟨vs, n, e⟩ => by rw [h] at e; cases e
theorem Stands.there {C : Cx} {h : Heap} {a : Addr} : ∀ {o : AO}, Stands C h a o → ∃ ob, h.get? a = some ob ∧ NotTup ob
  | .list l, ⟨vs, n, il, _⟩ => ⟨_, il, .cls (by show Value.type "list" ≠ Value.type "tuple"; decide)⟩
  | .pset l, S => by
    have S : PSet C.w h a l := S
    obtain ⟨o, _, _, _, ho, hx, _⟩ := S.obj
    exact ⟨o, ho, .cls (by rw [hx.1]; decide)⟩
  | .pdict l, ⟨xs, ⟨o, es, ep, ho, hx, _⟩, _⟩ => ⟨o, ho, .cls (by rw [hx.1]; decide)⟩
  | .inst c d, ⟨o, ho, hc, _⟩ => ⟨o, ho, .cls (by rw [hc]; intro e; cases e)⟩
  | .attrs l, ⟨mv, ⟨o, es, ep, ho, hd, _⟩, _⟩ => ⟨o, ho, .dict hd⟩
  | .range x y, ⟨t, u, v, r⟩ => ⟨_, r, .cls (by show Value.type "range" ≠ Value.type "tuple"; decide)⟩
end
section
open PySem PySem.W PyProof.Rows PySem.Calls
inductive FK where
  | fn
  | cp (own : List Addr)
structure FR where
  comp : FK
  env : Env
  ls : List (Str × PV)
inductive AF where
  | fr (f : FR)
  | hid (a : Addr) (o : Obj)
  | gh (h : Heap)

noncomputable def ownsE (c : FK) (env : Env) : List Addr := env.locals :: match c with
  | .fn => (env.cells.filter fun x => env.kindOf x.1 == some NameKind.cell).map (·.2)
  | .cp cs => cs.filter fun a => (env.cells.map (·.2)).contains a
noncomputable def readsE (env : Env) : List Addr := env.locals :: env.cells.map (·.2)
noncomputable def AF.owns : AF → List Addr
  | .fr f => ownsE f.comp f.env
  | .hid a _ => [a]
  | .gh _ => []
noncomputable def AF.reads : AF → List Addr
  | .fr f => readsE f.env
  | .hid a _ => [a]
  | .gh _ => []
noncomputable def AF.hids : AF → List Addr
  | .fr _ => []
  | .hid a _ => [a]
  | .gh _ => []
theorem owns_reads {c : FK} {env : Env} {a : Addr} (h : a ∈ ownsE c env) : a ∈ readsE env := by
  unfold ownsE at h; unfold readsE
  rcases List.mem_cons.mp h with rfl | h
  · exact List.mem_cons_self
  · refine List.mem_cons_of_mem _ ?_
    cases c with
    | fn =>
      obtain ⟨x, hx, rfl⟩ := List.mem_map.mp h
      exact List.mem_map.mpr ⟨x, (List.mem_filter.mp hx).1, rfl⟩
    | cp cs => simpa using (List.mem_filter.mp h).2
theorem AF.owns_reads : ∀ {f : AF} {a : Addr}, a ∈ f.owns → a ∈ f.reads
  | .fr f, a, h => AM.owns_reads h
  | .hid _ _, a, h => h
  | .gh _, a, h => h

structure FrOk (h : Heap) (f : FR) : Prop where
  kind : f.env.scope.kind = .function
  globals : f.env.globals = mainGlobals
  builtins : f.env.builtins = builtinsNs
  ns : ∃ m, h.Ns f.env.locals m ∧ ∀ x p, f.ls.lookup x = some p → f.env.kindOf x = some .local → ∃ v, m x = some v ∧ PR h p v
  cells : ∀ x ∈ f.env.cells, ∃ v, h.IsCell x.2 v
  cellv : ∀ x p, f.ls.lookup x = some p → (f.env.kindOf x = some .cell ∨ f.env.kindOf x = some .free) → ∃ c v, f.env.cells.lookup x = some c ∧ h.IsCell c (some v) ∧ PR h p v
  has : ∀ x, f.env.kindOf x = some .cell ∨ f.env.kindOf x = some .free → ∃ c, f.env.cells.lookup x = some c
  apart : f.env.cells.Pairwise fun x y => x.2 ≠ y.2
  locals : ∀ x ∈ f.env.cells, x.2 ≠ f.env.locals
  frame : f.comp = .fn → f.env.frame = some f.env.locals

noncomputable def AFok (h : Heap) : AF → Prop
  | .fr f => FrOk h f
  | .hid a o => h.get? a = some o ∧ NotTup o
  | .gh g => TupKeep g h

noncomputable def Apart (f g : AF) : Prop := (∀ a ∈ f.owns, a ∉ g.reads) ∧ ∀ a ∈ g.hids, a ∉ f.reads

noncomputable def New0 (C : Cx) (a : Addr) : Prop := C.h₀.get? a = none ∧ sysModules < a
structure Rep (C : Cx) (Fs : List AF) (H : AHeap) (s : Shared) : Prop where
  ok : C.Ok
  keep : ∀ b o, C.h₀.get? b = some o → s.heap.get? b = some o
  gens : s.gens = #[]
  os : s.os = C.os
  frs : ∀ f ∈ Fs, AFok s.heap f ∧ ∀ a ∈ f.reads, C.h₀.get? a = none
  apart : Fs.Pairwise Apart
  objs : ∀ a o, H a = some o → Stands C s.heap a o ∧ New0 C a ∧ ∀ f ∈ Fs, a ∉ f.reads

theorem isCell_at {h h' : Heap} {c : Addr} {v : Option Value} (x : h.IsCell c v) (k : ∀ o, h.get? c = some o → h'.get? c = some o) : h'.IsCell c v :=
  let ⟨o, ho, hd⟩ := x; ⟨o, k o ho, hd⟩
theorem ns_at {h h' : Heap} {a : Addr} {m : Str → Option Value} (x : h.Ns a m) (k : ∀ o, h.get? a = some o → h'.get? a = some o) : h'.Ns a m :=
  let ⟨o, es, ep, ho, r⟩ := x; ⟨o, es, ep, k o ho, r⟩
theorem apart_ne {l : List (Str × Addr)} (hp : l.Pairwise fun x y => x.2 ≠ y.2) {x y : Str} {c d : Addr} (hx : (x, c) ∈ l) (hy : (y, d) ∈ l) (hne : x ≠ y) : c ≠ d := by
  induction l with
  | nil => cases hx
  | cons z l ih =>
    obtain ⟨h1, h2⟩ := List.pairwise_cons.mp hp
    rcases List.mem_cons.mp hx with ex | hx'
    · rcases List.mem_cons.mp hy with ey | hy'
      · rw [← ey] at ex; cases ex; exact absurd rfl hne
      · have := h1 _ hy'; rw [← ex] at this; exact this
    · rcases List.mem_cons.mp hy with ey | hy'
      · have := h1 _ hx'; rw [← ey] at this; exact fun e => this e.symm
      · exact ih h2 hx' hy'

theorem AFok.keep {h h' : Heap} (k : TupKeep h h') : ∀ {f : AF}, (∀ a ∈ f.reads, ∀ o, h.get? a = some o → h'.get? a = some o) → AFok h f → AFok h' f
  | .fr f, ka, x => by
    have kl := ka f.env.locals List.mem_cons_self
    have kc : ∀ y ∈ f.env.cells, ∀ o, h.get? y.2 = some o → h'.get? y.2 = some o := fun y hy => ka y.2 (List.mem_cons_of_mem _ (List.mem_map.mpr ⟨y, hy, rfl⟩))
    obtain ⟨m, hm, hv⟩ := x.ns
    refine ⟨x.kind, x.globals, x.builtins, ⟨m, ns_at hm kl, fun y p a b => let ⟨v, e, r⟩ := hv y p a b; ⟨v, e, r.keep k⟩⟩, fun y e => let ⟨v, r⟩ := x.cells y e; ⟨v, isCell_at r (kc y e)⟩,
      fun y p a b => let ⟨c, v, e, r, q⟩ := x.cellv y p a b; ⟨c, v, e, isCell_at r (kc (y, c) (mem_of_lookup e)), q.keep k⟩, x.has, x.apart, x.locals, x.frame⟩
  | .hid a o, ka, ⟨x, y⟩ => ⟨ka a List.mem_cons_self o x, y⟩
  | .gh g, ka, x => TupKeep.trans x k

theorem AFok.there {h : Heap} : ∀ {f : AF}, AFok h f → ∀ a ∈ f.reads, ∃ o, h.get? a = some o ∧ NotTup o
  | .fr f, x, a, ha => by
    rcases List.mem_cons.mp ha with rfl | ha
    · obtain ⟨m, ⟨o, es, ep, ho, hd, _⟩, _⟩ := x.ns; exact ⟨o, ho, .dict hd⟩
    · obtain ⟨y, hy, rfl⟩ := List.mem_map.mp ha
      obtain ⟨v, o, ho, hd⟩ := x.cells y hy
      exact ⟨o, ho, .cell hd⟩
  | .hid a o, ⟨x, y⟩, b, hb => by rw [List.mem_singleton.mp hb]; exact ⟨o, x, y⟩
  | .gh g, _, b, hb => by cases hb

section
variable {C : Cx} {Fs : List AF} {H H' : AHeap} {s s' : Shared}

theorem Rep.mono (R : Rep C Fs H s) (h : ∀ a o, H' a = some o → H a = some o) : Rep C Fs H' s :=
  ⟨R.ok, R.keep, R.gens, R.os, R.frs, R.apart, fun a o e => R.objs a o (h a o e)⟩
theorem Rep.sub {Gs : List AF} (R : Rep C Fs H s) (h : Gs.Sublist Fs) : Rep C Gs H s :=
  ⟨R.ok, R.keep, R.gens, R.os, fun f hf => R.frs f (h.subset hf), R.apart.sublist h, fun a o e => let ⟨x, y, z⟩ := R.objs a o e; ⟨x, y, fun g hg => z g (h.subset hg)⟩⟩
theorem Rep.pop {f : AF} (R : Rep C (f :: Fs) H s) : Rep C Fs H s := R.sub (List.sublist_cons_self _ _)
theorem Rep.pop2 {f g : AF} (R : Rep C (f :: g :: Fs) H s) : Rep C (f :: Fs) H s := R.sub (.cons_cons _ (List.sublist_cons_self _ _))

theorem Rep.to (R : Rep C Fs H s) (Z : Addr → Prop) (hk : ∀ b o, ¬ Z b → s.heap.get? b = some o → s'.heap.get? b = some o) (tk : TupKeep s.heap s'.heap)
    (hb : ∀ b, Z b → C.h₀.get? b = none) (hf : ∀ f ∈ Fs, ∀ a ∈ f.reads, ¬ Z a)
    (ho : ∀ a o, H' a = some o → (H a = some o ∧ ¬ Z a) ∨ (Stands C s'.heap a o ∧ New0 C a ∧ ∀ f ∈ Fs, a ∉ f.reads))
    (hg : s'.gens = s.gens := by rfl) (hos : s'.os = s.os := by rfl) : Rep C Fs H' s' := by
  refine ⟨R.ok, fun b o e => hk b o (fun z => by rw [hb b z] at e; cases e) (R.keep b o e), hg.trans R.gens, hos.trans R.os, fun f hf' => ⟨AFok.keep tk (fun a ha o e => hk a o (hf f hf' a ha) e) (R.frs f hf').1, (R.frs f hf').2⟩, R.apart, fun a o e => ?_⟩
  rcases ho a o e with ⟨e1, nz⟩ | x
  · obtain ⟨x, y, z⟩ := R.objs a o e1
    exact ⟨Stands.keep tk (fun ob eo => hk a ob nz eo) o x, y, z⟩
  · exact x

theorem Rep.ext (R : Rep C Fs H s) (hk : ∀ b o, s.heap.get? b = some o → s'.heap.get? b = some o) (hg : s'.gens = s.gens := by rfl) (hos : s'.os = s.os := by rfl) : Rep C Fs H s' :=
  R.to (fun _ => False) (fun b o _ e => hk b o e) (fun b o e _ _ => hk b o e) (fun _ h => h.elim) (fun _ _ _ _ h => h) (fun a o e => .inl ⟨e, fun h => h⟩) hg hos
theorem Rep.same (R : Rep C Fs H s) (hh : s'.heap = s.heap := by rfl) (hg : s'.gens = s.gens := by rfl) (hos : s'.os = s.os := by rfl) : Rep C Fs H s' := R.ext (fun b o e => hh ▸ e) hg hos
theorem TupKeep.of_keep {h h' : Heap} (hk : ∀ b o, h.get? b = some o → h'.get? b = some o) : TupKeep h h' := fun b o e _ _ => hk b o e
theorem TupKeep.of_ext {h h' : Heap} {a : Addr} (hk : Heap.ExtBut a h h') (ha : ∀ o, h.get? a = some o → NotTup o) : TupKeep h h' := fun b o e c d => by
  by_cases hb : b = a
  · subst hb; exact absurd d (ha o e c)
  · exact hk b o hb e

theorem Rep.lt (R : Rep C Fs H s) {a : Addr} {o : AO} (e : H a = some o) : a < s.heap.objs.size := let ⟨ob, h, _⟩ := (R.objs a o e).1.there; Heap.lt_size h
theorem Rep.fresh (R : Rep C Fs H s) : H s.heap.objs.size = none := by
  cases e : H s.heap.objs.size with
  | none => rfl
  | some o => exact absurd (R.lt e) (Nat.lt_irrefl _)
theorem Rep.fresh_ge (R : Rep C Fs H s) {n : Nat} (hn : s.heap.objs.size ≤ n) : H n = none ∧ New0 C n ∧ ∀ f ∈ Fs, n ∉ f.reads := by
  refine ⟨?_, ⟨?_, ?_⟩, fun f hf h => ?_⟩
  · cases e : H n with
    | none => rfl
    | some o => exact absurd (R.lt e) (Nat.not_lt.mpr hn)
  · cases e : C.h₀.get? n with
    | none => rfl
    | some o => exact absurd (Heap.lt_size (R.keep _ _ e)) (Nat.not_lt.mpr hn)
  · obtain ⟨o, _, _, e, _⟩ := R.ok.top.g
    exact Nat.lt_of_lt_of_le (Nat.lt_of_le_of_lt (by decide) (Heap.lt_size (R.keep _ _ e))) hn
  · obtain ⟨o, e, _⟩ := (R.frs f hf).1.there _ h
    exact absurd (Heap.lt_size e) (Nat.not_lt.mpr hn)

noncomputable def LAt (C : Cx) (H : AHeap) (a : Addr) (l : List PV) : Prop := H a = some (.list l) ∨ (a = C.scA ∧ l = C.scL)
theorem Rep.lat (R : Rep C Fs H s) {a : Addr} {l : List PV} (e : LAt C H a l) : ∃ vs n, IsL s.heap a vs n ∧ PRs s.heap l vs.toList := by
  rcases e with e | ⟨rfl, rfl⟩
  · exact (R.objs a _ e).1
  · obtain ⟨vs, n, il, r⟩ := R.ok.sc
    exact ⟨vs, n, R.keep _ _ il, PRs.keep (fun b o e _ _ => R.keep b o e) _ r⟩
theorem Rep.new (R : Rep C Fs H s) {a : Addr} {o : AO} (hk : ∀ b o, s.heap.get? b = some o → s'.heap.get? b = some o) (ha : s.heap.objs.size ≤ a) (hs : Stands C s'.heap a o)
    (hg : s'.gens = s.gens := by rfl) (hos : s'.os = s.os := by rfl) : Rep C Fs (upd H a o) s' := by
  obtain ⟨x, y, z⟩ := R.fresh_ge ha
  refine R.to (fun _ => False) (fun b o _ e => hk b o e) (fun b o e _ _ => hk b o e) (fun _ h => h.elim) (fun _ _ _ _ h => h) (fun b ob e => ?_) hg hos
  unfold upd at e
  split at e
  · cases e; rename_i q; subst q; exact .inr ⟨hs, y, z⟩
  · exact .inl ⟨e, fun h => h⟩
theorem Rep.turn (R : Rep C Fs H s) {a : Addr} {o o' : AO} (e : H a = some o) (hk : Heap.ExtBut a s.heap s'.heap) (hs : Stands C s'.heap a o')
    (hg : s'.gens = s.gens := by rfl) (hos : s'.os = s.os := by rfl) : Rep C Fs (upd H a o') s' := by
  obtain ⟨x, y, z⟩ := R.objs a o e
  obtain ⟨ob, hob, hc⟩ := x.there
  refine R.to (fun b => b = a) (fun b o hb e => hk b o hb e) (TupKeep.of_ext hk fun o' e' => by rw [hob] at e'; cases e'; exact hc) (fun b h => h ▸ y.1) (fun f hf b hb h => z f hf (h ▸ hb)) (fun b ob e => ?_) hg hos
  unfold upd at e
  split at e
  · cases e; rename_i q; subst q; exact .inr ⟨hs, y, z⟩
  · rename_i q; exact .inl ⟨e, q⟩
theorem Rep.turnKeep (R : Rep C Fs H s) {a : Addr} {o : AO} (e : H a = some o) (hk : Heap.ExtBut a s.heap s'.heap) : TupKeep s.heap s'.heap := by
  obtain ⟨ob, hob, hc⟩ := (R.objs a o e).1.there
  exact TupKeep.of_ext hk fun o' e' => by rw [hob] at e'; cases e'; exact hc

theorem Rep.frame {f f' : AF} (R : Rep C (f :: Fs) H s) {z : Addr} (hz : z ∈ f.owns) (hk : Heap.ExtBut z s.heap s'.heap) (tk : TupKeep s.heap s'.heap) (hf : AFok s'.heap f') (ho : f'.owns = f.owns) (hr : f'.reads = f.reads) (hh : f'.hids = f.hids)
    (hg : s'.gens = s.gens := by rfl) (hos : s'.os = s.os := by rfl) : Rep C (f' :: Fs) H s' := by
  obtain ⟨a1, a2⟩ := List.pairwise_cons.mp R.apart
  have hzb := (R.frs f (.head _)).2 z (AF.owns_reads hz)
  have R' : Rep C Fs H s' := R.pop.to (fun b => b = z) (fun b o hb e => hk b o hb e) tk (fun b h => h ▸ hzb) (fun g hg a ha h => (a1 g hg).1 z hz (h ▸ ha))
    (fun a o e => .inl ⟨e, fun h => (R.objs a o e).2.2 f (.head _) (h ▸ AF.owns_reads hz)⟩) hg hos
  refine ⟨R.ok, R'.keep, R'.gens, R'.os, fun g hg => ?_, List.pairwise_cons.mpr ⟨fun g hg => ?_, a2⟩, fun a o e => ?_⟩
  · rcases List.mem_cons.mp hg with rfl | hg
    · exact ⟨hf, fun a ha => (R.frs f (.head _)).2 a (hr ▸ ha)⟩
    · exact R'.frs g hg
  · obtain ⟨b1, b2⟩ := a1 g hg
    exact ⟨fun a ha => b1 a (ho ▸ ha), fun a ha => hr ▸ b2 a ha⟩
  · obtain ⟨x, y, z'⟩ := R'.objs a o e
    refine ⟨x, y, fun g hg => ?_⟩
    rcases List.mem_cons.mp hg with rfl | hg
    · rw [hr]; exact (R.objs a o e).2.2 f (.head _)
    · exact z' g hg

theorem Rep.hidden {pre post : List AF} {a : Addr} {o o' : Obj} (R : Rep C (pre ++ .hid a o :: post) H s) (hk : Heap.ExtBut a s.heap s'.heap) (ha : s'.heap.get? a = some o') (hc : NotTup o')
    (hg : s'.gens = s.gens := by rfl) (hos : s'.os = s.os := by rfl) : Rep C (pre ++ .hid a o' :: post) H s' ∧ TupKeep s.heap s'.heap := by
  obtain ⟨p1, p2, p3⟩ := List.pairwise_append.mp R.apart
  obtain ⟨q1, q2⟩ := List.pairwise_cons.mp p2
  obtain ⟨⟨ho, hoc⟩, hb⟩ := R.frs (.hid a o) (by simp)
  have hb := hb a List.mem_cons_self
  have tk : TupKeep s.heap s'.heap := TupKeep.of_ext hk fun o₁ e => by rw [ho] at e; cases e; exact hoc
  have nf : ∀ f ∈ pre ++ post, a ∉ f.reads := fun f hf => by
    rcases List.mem_append.mp hf with hf | hf
    · exact (p3 f hf _ (.head _)).2 a List.mem_cons_self
    · exact (q1 f hf).1 a List.mem_cons_self
  have R' : Rep C (pre ++ post) H s' := (R.sub (List.Sublist.append (List.Sublist.refl _) (List.sublist_cons_self _ _))).to (fun b => b = a) (fun b o hb e => hk b o hb e) tk (fun b h => h ▸ hb) (fun g hg b hb h => nf g hg (h ▸ hb))
    (fun b ob e => .inl ⟨e, fun h => (R.objs b ob e).2.2 (.hid a o) (by simp) (h ▸ List.mem_cons_self)⟩) hg hos
  refine ⟨⟨R.ok, R'.keep, R'.gens, R'.os, fun g hg => ?_, ?_, fun b ob e => ?_⟩, tk⟩
  · rcases List.mem_append.mp hg with hg | hg
    · exact R'.frs g (List.mem_append_left _ hg)
    · rcases List.mem_cons.mp hg with rfl | hg
      · exact ⟨⟨ha, hc⟩, fun b hb' => by rw [List.mem_singleton.mp hb']; exact hb⟩
      · exact R'.frs g (List.mem_append_right _ hg)
  · refine List.pairwise_append.mpr ⟨p1, List.pairwise_cons.mpr ⟨q1, q2⟩, fun f hf g hg => ?_⟩
    rcases List.mem_cons.mp hg with rfl | hg
    · exact p3 f hf (.hid a o) (.head _)
    · exact p3 f hf g (.tail _ hg)
  · obtain ⟨x, y, z⟩ := R'.objs b ob e
    refine ⟨x, y, fun g hg => ?_⟩
    rcases List.mem_append.mp hg with hg | hg
    · exact z g (List.mem_append_left _ hg)
    · rcases List.mem_cons.mp hg with rfl | hg
      · exact (R.objs b ob e).2.2 (.hid a o) (by simp)
      · exact z g (List.mem_append_right _ hg)

theorem Rep.push {f : AF} (R : Rep C Fs H s) (hf : AFok s.heap f) (hb : ∀ a ∈ f.reads, C.h₀.get? a = none) (hH : ∀ a ∈ f.reads, H a = none) (ho : ∀ a ∈ f.owns, ∀ g ∈ Fs, a ∉ g.reads) (hr : ∀ g ∈ Fs, ∀ a ∈ g.hids, a ∉ f.reads) : Rep C (f :: Fs) H s := by
  refine ⟨R.ok, R.keep, R.gens, R.os, fun g hg => ?_, List.pairwise_cons.mpr ⟨fun g hg => ⟨fun a ha => ho a ha g hg, hr g hg⟩, R.apart⟩, fun a o e => ?_⟩
  · rcases List.mem_cons.mp hg with rfl | hg
    · exact ⟨hf, hb⟩
    · exact R.frs g hg
  · obtain ⟨x, y, z⟩ := R.objs a o e
    refine ⟨x, y, fun g hg => ?_⟩
    rcases List.mem_cons.mp hg with rfl | hg
    · intro h; rw [hH a h] at e; cases e
    · exact z g hg
theorem Rep.hide {a : Addr} {o : Obj} (R : Rep C Fs H s) (hk : ∀ b o, s.heap.get? b = some o → s'.heap.get? b = some o) (ha : s.heap.objs.size ≤ a) (ho : s'.heap.get? a = some o) (hc : NotTup o)
    (hg : s'.gens = s.gens := by rfl) (hos : s'.os = s.os := by rfl) : Rep C (.hid a o :: Fs) H s' := by
  obtain ⟨x, y, z⟩ := R.fresh_ge ha
  refine (R.ext hk hg hos).push ⟨ho, hc⟩ (fun b hb => by rw [List.mem_singleton.mp hb]; exact y.1) (fun b hb => by rw [List.mem_singleton.mp hb]; exact x) (fun b hb g hg => by rw [List.mem_singleton.mp hb]; exact z g hg) fun g hg b hb hb' => ?_
  rw [List.mem_singleton.mp hb'] at hb
  have : a ∈ g.reads := by cases g with | fr f => cases hb | hid c o => exact hb | gh _ => cases hb
  exact z g hg this
end
end
section
open PySem PySem.W PyProof.Rows PySem.Calls
structure Tr where
  C : Cx
  n : Nat
  hd : Bool
noncomputable def envsOf : List AF → List Env
  | [] => []
  | .fr ⟨.fn, env, _⟩ :: r => env :: envsOf r
  | .fr ⟨.cp _, _, _⟩ :: r => envsOf r
  | .hid _ _ :: r => envsOf r
  | .gh _ :: r => envsOf r

structure AOk (T : Tr) (Fs : List AF) (A : Around) : Prop where
  frames : A.frames = some (envsOf Fs)
  depth : A.depth + 4 * T.n + 10 ≤ 1000
  units : A.units + 20 * T.n + 100 ≤ 9900
  handled : T.hd = false → A.handled = none

inductive PostV (T : Tr) (Fs : List AF) (s : Shared) (Q : PV → AHeap → Prop) (v : Value) (s' : Shared) : Prop
  | mk (p : PV) (H' : AHeap) (pr : PR s'.heap p v) (R : Rep T.C Fs H' s') (k : TupKeep s.heap s'.heap) (q : Q p H') : PostV T Fs s Q v s'
inductive PostB (T : Tr) (Fs : List AF) (s : Shared) (Q : Bool → AHeap → Prop) (b : Bool) (s' : Shared) : Prop
  | mk (H' : AHeap) (R : Rep T.C Fs H' s') (k : TupKeep s.heap s'.heap) (q : Q b H') : PostB T Fs s Q b s'
inductive PostC (T : Tr) (Fs : List AF) (s : Shared) (Q : Bool → AHeap → Prop) (c : Value) (s' : Shared) : Prop
  | mk (b : Bool) (e : c = .bool b) (q : PostB T Fs s Q b s') : PostC T Fs s Q c s'
inductive PostL (T : Tr) (Fs : List AF) (s : Shared) (Q : List PV → AHeap → Prop) (vs : List Value) (s' : Shared) : Prop
  | mk (ps : List PV) (H' : AHeap) (pr : PRs s'.heap ps vs) (R : Rep T.C Fs H' s') (k : TupKeep s.heap s'.heap) (q : Q ps H') : PostL T Fs s Q vs s'
inductive PostH (T : Tr) (Fs : List AF) (s : Shared) (Q : AHeap → Prop) (s' : Shared) : Prop
  | mk (H' : AHeap) (R : Rep T.C Fs H' s') (k : TupKeep s.heap s'.heap) (q : Q H') : PostH T Fs s Q s'

noncomputable def AE (T : Tr) (f : FR) (Fs : List AF) (H : AHeap) (e : Expr) (Q : PV → AHeap → Prop) (E : Value → Shared → Prop) : Prop :=
  ∀ A s, AOk T (.fr f :: Fs) A → Rep T.C (.fr f :: Fs) H s → wpAny T.C.M A (eval e f.env) (PostV T (.fr f :: Fs) s Q) E s
noncomputable def AT (T : Tr) (f : FR) (Fs : List AF) (H : AHeap) (e : Expr) (Q : Bool → AHeap → Prop) (E : Value → Shared → Prop) : Prop :=
  ∀ A s, AOk T (.fr f :: Fs) A → Rep T.C (.fr f :: Fs) H s → wpAny T.C.M A (isTrue e f.env (eval e f.env)) (PostB T (.fr f :: Fs) s Q) E s
noncomputable def AL (T : Tr) (f : FR) (Fs : List AF) (H : AHeap) (es : List Expr) (Q : List PV → AHeap → Prop) (E : Value → Shared → Prop) : Prop :=
  ∀ A s pos, AOk T (.fr f :: Fs) A → Rep T.C (.fr f :: Fs) H s → wpAny T.C.M A (spliced (backTo pos (starEach es f.env))) (PostL T (.fr f :: Fs) s Q) E s
noncomputable def ABin (T : Tr) (Fs : List AF) (H : AHeap) (op : Value → Value → Sem Value) (p q : PV) (Q : PV → AHeap → Prop) (E : Value → Shared → Prop) : Prop :=
  ∀ A s v w, AOk T Fs A → Rep T.C Fs H s → PR s.heap p v → PR s.heap q w → wpAny T.C.M A (op v w) (PostV T Fs s Q) E s
noncomputable def AUn (T : Tr) (Fs : List AF) (H : AHeap) (op : Value → Sem Value) (p : PV) (Q : PV → AHeap → Prop) (E : Value → Shared → Prop) : Prop :=
  ∀ A s v, AOk T Fs A → Rep T.C Fs H s → PR s.heap p v → wpAny T.C.M A (op v) (PostV T Fs s Q) E s
noncomputable def ACmp (T : Tr) (Fs : List AF) (H : AHeap) (op : CmpOp) (p q : PV) (Q : Bool → AHeap → Prop) (E : Value → Shared → Prop) : Prop :=
  ∀ A s v w, AOk T Fs A → Rep T.C Fs H s → PR s.heap p v → PR s.heap q w → wpAny T.C.M A (compareOp op v w) (PostC T Fs s Q) E s
noncomputable def ATr (T : Tr) (Fs : List AF) (H : AHeap) (p : PV) (Q : Bool → AHeap → Prop) (E : Value → Shared → Prop) : Prop :=
  ∀ A s v, AOk T Fs A → Rep T.C Fs H s → PR s.heap p v → wpAny T.C.M A (truthy v) (PostB T Fs s Q) E s
noncomputable def ACall (T : Tr) (Fs : List AF) (H : AHeap) (g : PV) (ps : List PV) (Q : PV → AHeap → Prop) (E : Value → Shared → Prop) : Prop :=
  ∀ A s v vs, AOk T Fs A → Rep T.C Fs H s → PR s.heap g v → PRs s.heap ps vs → wpAny T.C.M A (call v vs) (PostV T Fs s Q) E s

noncomputable def ACode (T : Tr) (Fs : List AF) (H : AHeap) (g : PV) (ps : List PV) (Q : PV → AHeap → Prop) (E : Value → Shared → Prop) : Prop :=
  ∀ A s v vs, AOk T Fs A → Rep T.C Fs H s → PR s.heap g v → PRs s.heap ps vs → codeAny T.C.M A (.call v ⟨vs, []⟩) (fun r s' => match r with | .ok (.ret u) => PostV T Fs s Q u s' | .ok _ => False | .error e => E e s') s

section
variable {T : Tr} {f : FR} {Fs : List AF} {H : AHeap} {E : Value → Shared → Prop} {s : Shared} {A : Around}

theorem ACode.call {g : PV} {ps : List PV} {Q : PV → AHeap → Prop} (h : ACode T Fs H g ps Q E) : ACall T Fs H g ps Q E := fun A s v vs ok R a b => wpAny_call (h A s v vs ok R a b)
theorem ACode.mono {g : PV} {ps : List PV} {Q Q' : PV → AHeap → Prop} {E' : Value → Shared → Prop} (h : ACode T Fs H g ps Q E) (hq : ∀ p H, Q p H → Q' p H) (hE : ∀ e s, E e s → E' e s) : ACode T Fs H g ps Q' E' :=
  fun A s v vs ok R a b => codeAny_mono (h A s v vs ok R a b) fun r s' x => by
    rcases r with e | (v | _ | _ | _)
    · exact hE _ _ x
    all_goals first | exact x.elim | (obtain ⟨p, H', a, b, c, d⟩ := x; exact ⟨p, H', a, b, c, hq _ _ d⟩)
theorem post_same {Q : PV → AHeap → Prop} {p : PV} {v : Value} {s' : Shared} (R : Rep T.C Fs H s) (hp : PR s.heap p v) (hq : Q p H) (hh : s'.heap = s.heap := by rfl) (hg : s'.gens = s.gens := by rfl) (hos : s'.os = s.os := by rfl) : PostV T Fs s Q v s' :=
  ⟨p, H, hh ▸ hp, R.same hh hg hos, hh ▸ TupKeep.refl _, hq⟩
theorem postB_same {Q : Bool → AHeap → Prop} {b : Bool} {s' : Shared} (R : Rep T.C Fs H s) (hq : Q b H) (hh : s'.heap = s.heap := by rfl) (hg : s'.gens = s.gens := by rfl) (hos : s'.os = s.os := by rfl) : PostB T Fs s Q b s' :=
  ⟨H, R.same hh hg hos, hh ▸ TupKeep.refl _, hq⟩

theorem AE.mono {e : Expr} {Q Q' : PV → AHeap → Prop} (h : AE T f Fs H e Q E) (hq : ∀ p H, Q p H → Q' p H) : AE T f Fs H e Q' E :=
  fun A s ok R => wpAny_mono (h A s ok R) (fun v s' ⟨p, H', a, b, c, d⟩ => ⟨p, H', a, b, c, hq _ _ d⟩) fun _ _ x => x
theorem ACall.noE {g : PV} {ps : List PV} {Q : PV → AHeap → Prop} (h : ACall T Fs H g ps Q fun _ _ => False) : ACall T Fs H g ps Q E :=
  fun A s v vs ok R a b => wpAny_mono (h A s v vs ok R a b) (fun _ _ x => x) fun _ _ x => x.elim
theorem ACall.mono {g : PV} {ps : List PV} {Q Q' : PV → AHeap → Prop} (h : ACall T Fs H g ps Q E) (hq : ∀ p H, Q p H → Q' p H) : ACall T Fs H g ps Q' E :=
  fun A s v vs ok R a b => wpAny_mono (h A s v vs ok R a b) (fun v s' ⟨p, H', a, b, c, d⟩ => ⟨p, H', a, b, c, hq _ _ d⟩) fun _ _ x => x

theorem AE.int {i : Int} {k : Nat} {pos : Pos} {Q : PV → AHeap → Prop} (h : Q (.int i) H) : AE T f Fs H (.Constant (.int i) k pos) Q E :=
  fun A s ok R => wpAny_Constant_int (post_same R PR.int h)
theorem AE.str {x : Str} {k : Nat} {pos : Pos} {Q : PV → AHeap → Prop} (h : Q (.str x) H) : AE T f Fs H (.Constant (.str x) k pos) Q E :=
  fun A s ok R => wpAny_Constant_str (post_same R PR.str h)
theorem AE.none {k : Nat} {pos : Pos} {Q : PV → AHeap → Prop} (h : Q .none H) : AE T f Fs H (.Constant .none k pos) Q E :=
  fun A s ok R => wpAny_Constant_none (post_same R PR.none h)
theorem AE.bool {b : Bool} {k : Nat} {pos : Pos} {Q : PV → AHeap → Prop} (h : Q (.bool b) H) : AE T f Fs H (.Constant (.bool b) k pos) Q E :=
  fun A s ok R => wpAny_Constant_bool (post_same R PR.bool h)

noncomputable def isVar : Option NameKind → Bool
  | some .local => true
  | some .cell => true
  | some .free => true
  | _ => false

theorem load_name {x : Str} {p : PV} {Q : PV → AHeap → Prop} (R : Rep T.C (.fr f :: Fs) H s) (hk : isVar (f.env.kindOf x) = true) (hl : f.ls.lookup x = some p) (h : Q p H) (hc : (x == ("__classdict__" : Str)) = false) :
    wpAny T.C.M A (loadName f.env x) (PostV T (.fr f :: Fs) s Q) E s := by
  have F : FrOk s.heap f := (R.frs _ (.head _)).1
  have hcase : f.env.kindOf x = some .local ∨ f.env.kindOf x = some .cell ∨ f.env.kindOf x = some .free := by
    revert hk; generalize f.env.kindOf x = o; intro hk
    rcases o with _ | k
    · cases hk
    · cases k <;> simp_all [isVar]
  rcases hcase with hk | hk | hk
  · obtain ⟨m, hm, hv⟩ := F.ns
    obtain ⟨v, e, pr⟩ := hv x p hl hk
    exact wpAny_loadName_local F.kind hk hm e (post_same R pr h)
  · obtain ⟨c, v, e, ic, pr⟩ := F.cellv x p hl (.inl hk)
    exact wpAny_loadName_cell F.kind hk e ic (post_same R pr h)
  · obtain ⟨c, v, e, ic, pr⟩ := F.cellv x p hl (.inr hk)
    exact wpAny_loadName_free F.kind hk e ic (post_same R pr h) hc

theorem AE.name {x : Str} {pos : Pos} {p : PV} {nm : List (Str × NameKind)} {Q : PV → AHeap → Prop} (hn : f.env.scope.names = nm) (hk : isVar (nm.lookup x) = true) (hl : f.ls.lookup x = some p) (h : Q p H)
    (hd : (x == ("__debug__" : Str)) = false := by decide) (hc : (x == ("__classdict__" : Str)) = false := by decide) : AE T f Fs H (.Name x pos) Q E :=
  fun A s ok R => wpAny_Name (load_name R (by rw [show f.env.kindOf x = f.env.scope.names.lookup x from rfl, hn]; exact hk) hl h hc) hd

theorem AE.glob {x : Str} {pos : Pos} {a : Addr} {nm : List (Str × NameKind)} {Q : PV → AHeap → Prop} (hn : f.env.scope.names = nm) (hk : nm.lookup x = some .globalImplicit) (he : nsIn T.C.K mainGlobals x = some (some (.ref a))) (h : Q (.ref a) H)
    (hd : (x == ("__debug__" : Str)) = false := by decide) : AE T f Fs H (.Name x pos) Q E := fun A s ok R => by
  have F : FrOk s.heap f := (R.frs _ (.head _)).1
  refine Name_function_global F.kind (by rw [show f.env.kindOf x = f.env.scope.names.lookup x from rfl, hn]; exact hk) (loadGlobal_global (env := f.env) ?_ (mg_of R.ok.kin R.ok.top.g he) (post_same R PR.ref h)) hd
  rw [F.globals]; exact R.ok.top.g.keeps R.keep
theorem load_builtin {x : Str} {pos : Pos} {v : Value} {Q : Value → Shared → Prop} (R : Rep T.C (.fr f :: Fs) H s) (hk : f.env.kindOf x = some .globalImplicit)
    (hv : bootBuiltins x = some v) (hmiss : T.C.mg x = Option.none) (hnn : x ≠ "__name__") (h : Q v s) (hd : (x == ("__debug__" : Str)) = false) : wpAny T.C.M A (eval (.Name x pos) f.env) Q E s := by
  have F : FrOk s.heap f := (R.frs _ (.head _)).1
  refine Name_function_global F.kind hk (loadGlobal_builtin (env := f.env) (mg := T.C.mg) (mb := T.C.mb) ?_ hmiss ?_ ((R.ok.top.builtins x hnn).trans hv) h) hd
  · rw [F.globals]; exact R.ok.top.g.keeps R.keep
  · rw [F.builtins]; exact R.ok.top.b.keeps R.keep
theorem AE.ty {x : Str} {pos : Pos} {n : String} {nm : List (Str × NameKind)} {Q : PV → AHeap → Prop} (hmiss : T.C.mg x = Option.none) (hn : f.env.scope.names = nm) (hk : nm.lookup x = some .globalImplicit) (hv : bootBuiltins x = some (.type n)) (h : Q (.ty n) H)
    (hnn : x ≠ "__name__" := by decide +kernel) (hd : (x == ("__debug__" : Str)) = false := by decide) : AE T f Fs H (.Name x pos) Q E := fun A s ok R =>
  load_builtin R (by rw [show f.env.kindOf x = f.env.scope.names.lookup x from rfl, hn]; exact hk) hv hmiss hnn (post_same R PR.ty h) hd
theorem AE.bi {x : Str} {pos : Pos} {n : String} {nm : List (Str × NameKind)} {Q : PV → AHeap → Prop} (hmiss : T.C.mg x = Option.none) (hn : f.env.scope.names = nm) (hk : nm.lookup x = some .globalImplicit) (hv : bootBuiltins x = some (.builtin n)) (h : Q (.bi n) H)
    (hnn : x ≠ "__name__" := by decide +kernel) (hd : (x == ("__debug__" : Str)) = false := by decide) : AE T f Fs H (.Name x pos) Q E := fun A s ok R =>
  load_builtin R (by rw [show f.env.kindOf x = f.env.scope.names.lookup x from rfl, hn]; exact hk) hv hmiss hnn (post_same R PR.bi h) hd

theorem AE.binop {l r : Expr} {op : Operator} {pos : Pos} {Q : PV → AHeap → Prop} (h : AE T f Fs H l (fun p H₁ => AE T f Fs H₁ r (fun q H₂ => ABin T (.fr f :: Fs) H₂ (binaryOp op) p q Q E) E) E) : AE T f Fs H (.BinOp l op r pos) Q E :=
  fun A s ok R => wpAny_BinOp (wpAny_mono (h A s ok R) (fun v s₁ ⟨p, H₁, pr, R₁, k₁, h₁⟩ => wpAny_mono (h₁ A s₁ ok R₁) (fun w s₂ ⟨q, H₂, qr, R₂, k₂, h₂⟩ =>
    wpAny_mono (h₂ A s₂ v w ok R₂ (pr.keep k₂) qr) (fun u s₃ ⟨p', H', pr', R', k', hq⟩ => ⟨p', H', pr', R', k₁.trans (k₂.trans k'), hq⟩) fun _ _ x => x) fun _ _ x => x) fun _ _ x => x)
theorem AE.unop {l : Expr} {op : UnaryOp} {pos : Pos} {Q : PV → AHeap → Prop} (h : AE T f Fs H l (fun p H₁ => AUn T (.fr f :: Fs) H₁ (unaryOp op) p Q E) E) : AE T f Fs H (.UnaryOp op l pos) Q E :=
  fun A s ok R => wpAny_UnaryOp (wpAny_mono (h A s ok R) (fun v s₁ ⟨p, H₁, pr, R₁, k₁, h₁⟩ =>
    wpAny_mono (h₁ A s₁ v ok R₁ pr) (fun u s₃ ⟨p', H', pr', R', k', hq⟩ => ⟨p', H', pr', R', k₁.trans k', hq⟩) fun _ _ x => x) fun _ _ x => x)

theorem ABin.ofInt {op : Value → Value → Sem Value} {a b : Int} {c : Int} {Q : PV → AHeap → Prop} (h : Q (.int c) H)
    (hop : ∀ A s t u (Q : Value → Shared → Prop), Q (.int c s.toks) { s with toks := s.toks + 1 } → wpAny T.C.M A (op (.int a t) (.int b u)) Q E s) : ABin T Fs H op (.int a) (.int b) Q E := fun A s v w ok R pv pw => by
  obtain ⟨t, rfl⟩ := pv.int_inv
  obtain ⟨u, rfl⟩ := pw.int_inv
  exact hop A s t u _ (post_same R PR.int h)
theorem ABin.add {a b : Int} {Q : PV → AHeap → Prop} (h : Q (.int (a + b)) H) : ABin T Fs H (binaryOp .Add) (.int a) (.int b) Q E := .ofInt h fun _ _ _ _ _ h => P.add_int h
theorem ABin.sub {a b : Int} {Q : PV → AHeap → Prop} (h : Q (.int (a - b)) H) : ABin T Fs H (binaryOp .Sub) (.int a) (.int b) Q E := .ofInt h fun _ _ _ _ _ h => P.sub_int h
theorem ABin.mul {a b : Int} {Q : PV → AHeap → Prop} (hm : IntMulOk a b) (h : Q (.int (a * b)) H) : ABin T Fs H (binaryOp .Mult) (.int a) (.int b) Q E := .ofInt h fun _ _ _ _ _ h => P.mul_int h hm
theorem ABin.mod {a b : Int} {Q : PV → AHeap → Prop} (hb : b ≠ 0) (h : Q (.int (a.fmod b)) H) : ABin T Fs H (binaryOp .Mod) (.int a) (.int b) Q E := .ofInt h fun _ _ _ _ _ h => mod_int' hb h
theorem ABin.div {a b : Int} {Q : PV → AHeap → Prop} (hb : b ≠ 0) (hp : Builtin.divisionGoesByPylong a b = false) (h : Q (.int (a.fdiv b)) H) : ABin T Fs H (binaryOp .FloorDiv) (.int a) (.int b) Q E := .ofInt h fun _ _ _ _ _ h => floordiv_int hb h (.inl hp)
theorem ABin.pow {a b : Int} {Q : PV → AHeap → Prop} (hb : 0 ≤ b) (hp : (Builtin.Int.intBits a : Int) * b ≤ 2 ^ 27) (h : Q (.int (a ^ b.toNat)) H) : ABin T Fs H (binaryOp .Pow) (.int a) (.int b) Q E := .ofInt h fun _ _ _ _ _ h => pow_int hb hp h
theorem AUn.neg {a : Int} {Q : PV → AHeap → Prop} (h : Q (.int (-a)) H) : AUn T Fs H (unaryOp .USub) (.int a) Q E := fun A s v ok R pv => by
  obtain ⟨t, rfl⟩ := pv.int_inv
  exact P.neg_int (post_same R PR.int h)
theorem AUn.not {p : PV} {Q : PV → AHeap → Prop} (h : ATr T Fs H p (fun b H₁ => Q (.bool (!b)) H₁) E) : AUn T Fs H (unaryOp .Not) p Q E := fun A s v ok R pv =>
  not_value (wpAny_mono (h A s v ok R pv) (fun b s' ⟨H', R', k, q⟩ => ⟨_, H', PR.bool, R', k, q⟩) fun _ _ x => x)

theorem ACmp.ofInt {op : CmpOp} {a b : Int} {c : Bool} {Q : Bool → AHeap → Prop} (h : Q c H)
    (hop : ∀ A s t u (Q : Value → Shared → Prop), Q (.bool c) s → wpAny T.C.M A (compareOp op (.int a t) (.int b u)) Q E s) : ACmp T Fs H op (.int a) (.int b) Q E := fun A s v w ok R pv pw => by
  obtain ⟨t, rfl⟩ := pv.int_inv
  obtain ⟨u, rfl⟩ := pw.int_inv
  exact hop A s t u _ ⟨_, rfl, postB_same R h⟩
theorem ACmp.lt {a b : Int} {Q : Bool → AHeap → Prop} (h : Q (decide (a < b)) H) : ACmp T Fs H .Lt (.int a) (.int b) Q E := .ofInt h fun _ _ _ _ _ h => P.lt_int h
theorem ACmp.le {a b : Int} {Q : Bool → AHeap → Prop} (h : Q (decide (a ≤ b)) H) : ACmp T Fs H .LtE (.int a) (.int b) Q E := .ofInt h fun _ _ _ _ _ h => P.le_int h
theorem ACmp.gt {a b : Int} {Q : Bool → AHeap → Prop} (h : Q (decide (b < a)) H) : ACmp T Fs H .Gt (.int a) (.int b) Q E := .ofInt h fun _ _ _ _ _ h => P.gt_int h
theorem ACmp.ge {a b : Int} {Q : Bool → AHeap → Prop} (h : Q (decide (b ≤ a)) H) : ACmp T Fs H .GtE (.int a) (.int b) Q E := .ofInt h fun _ _ _ _ _ h => P.ge_int h
theorem ACmp.eqInt {a b : Int} {Q : Bool → AHeap → Prop} (h : Q (decide (a = b)) H) : ACmp T Fs H .Eq (.int a) (.int b) Q E := .ofInt h fun _ _ _ _ _ h => P.eq_int (by rw [show (a == b) = decide (a = b) from rfl]; exact h)
theorem ACmp.neInt {a b : Int} {Q : Bool → AHeap → Prop} (h : Q (!decide (a = b)) H) : ACmp T Fs H .NotEq (.int a) (.int b) Q E := .ofInt h fun _ _ _ _ _ h => P.ne_int (by rw [show (a != b) = !decide (a = b) from rfl]; exact h)
theorem ACmp.eqStr {a b : Str} {Q : Bool → AHeap → Prop} (h : Q (a == b) H) : ACmp T Fs H .Eq (.str a) (.str b) Q E := fun A s v w ok R pv pw => by
  obtain ⟨t, rfl⟩ := pv.str_inv
  obtain ⟨u, rfl⟩ := pw.str_inv
  exact PyProof.Rows.eq_str ⟨_, rfl, postB_same R h⟩
theorem ACmp.neStr {a b : Str} {Q : Bool → AHeap → Prop} (h : Q (a != b) H) : ACmp T Fs H .NotEq (.str a) (.str b) Q E := fun A s v w ok R pv pw => by
  obtain ⟨t, rfl⟩ := pv.str_inv
  obtain ⟨u, rfl⟩ := pw.str_inv
  exact PyProof.Rows.ne_str ⟨_, rfl, postB_same R h⟩
noncomputable def PV.isNone : PV → Bool
  | .none => true
  | _ => false
theorem PR.isNone {h : Heap} {p : PV} {v : Value} (x : PR h p v) : (v == .none) = p.isNone := by
  cases p with
  | none => rw [x.none_inv]; rfl
  | bool => rw [x.bool_inv]; rfl
  | int => obtain ⟨t, rfl⟩ := x.int_inv; rfl
  | str => obtain ⟨t, rfl⟩ := x.str_inv; rfl
  | tup => obtain ⟨a, o, vs, n, rfl, _⟩ := x.tup_inv; rfl
  | ref => rw [x.ref_inv]; rfl
  | ty => rw [x.ty_inv]; rfl
  | bi => rw [x.bi_inv]; rfl
theorem ACmp.isNone {p : PV} {Q : Bool → AHeap → Prop} (h : Q p.isNone H) : ACmp T Fs H .Is p .none Q E := fun A s v w ok R pv pw => by
  rw [pw.none_inv]; exact is_none ⟨_, rfl, by rw [pv.isNone]; exact postB_same R h⟩
theorem ACmp.isNotNone {p : PV} {Q : Bool → AHeap → Prop} (h : Q (!p.isNone) H) : ACmp T Fs H .IsNot p .none Q E := fun A s v w ok R pv pw => by
  rw [pw.none_inv]; exact isNot_none ⟨_, rfl, by rw [pv.isNone]; exact postB_same R h⟩

theorem wpA_release {M : Model} {vs keep : List Value} {Q : Unit → Shared → Prop} (h : Q () s) : wpAny M A (release vs keep) Q E s := fun Γ p hΓ => by rw [Sem.wp_release]; exact h
theorem wpA_operate {M : Model} {vs : List Value} {m : Sem Value} {Q : Value → Shared → Prop} (h : wpAny M A m Q E s) : wpAny M A (operate vs m) Q E s := fun Γ p hΓ => by rw [Sem.wp_operate]; exact h Γ p hΓ
theorem AE.cmp {l r : Expr} {op : CmpOp} {pos : Pos} {Q : PV → AHeap → Prop} (h : AE T f Fs H l (fun p H₁ => AE T f Fs H₁ r (fun q H₂ => ACmp T (.fr f :: Fs) H₂ op p q (fun b H₃ => Q (.bool b) H₃) E) E) E)
    (hm : behindInMarks op r = false := by with_unfolding_all rfl) : AE T f Fs H (.Compare l [op] [r] pos) Q E :=
  fun A s ok R => wpAny_Compare1 (wpAny_mono (h A s ok R) (fun v s₁ ⟨p, H₁, pr, R₁, k₁, h₁⟩ => wpAny_mono (h₁ A s₁ ok R₁) (fun w s₂ ⟨q, H₂, qr, R₂, k₂, h₂⟩ =>
    wpAny_mono (h₂ A s₂ v w ok R₂ (pr.keep k₂) qr) (fun u s₃ ⟨b, eb, H', R', k', hq⟩ => ⟨.bool b, H', eb ▸ PR.bool, R', k₁.trans (k₂.trans k'), hq⟩) fun _ _ x => x) fun _ _ x => x) fun _ _ x => x) hm
theorem AT.cmp {l r : Expr} {op : CmpOp} {pos : Pos} {Q : Bool → AHeap → Prop} (h : AE T f Fs H l (fun p H₁ => AE T f Fs H₁ r (fun q H₂ => ACmp T (.fr f :: Fs) H₂ op p q Q E) E) E)
    (hm : behindInMarks op r = false := by with_unfolding_all rfl) : AT T f Fs H (.Compare l [op] [r] pos) Q E :=
  fun A s ok R => wpAny_isTrue_Compare1 (wpAny_mono (h A s ok R) (fun v s₁ ⟨p, H₁, pr, R₁, k₁, h₁⟩ => wpAny_mono (h₁ A s₁ ok R₁) (fun w s₂ ⟨q, H₂, qr, R₂, k₂, h₂⟩ =>
    wpAny_mono (h₂ A s₂ v w ok R₂ (pr.keep k₂) qr) (fun u s₃ ⟨b, eb, H', R', k', hq⟩ => eb ▸ wpAny_truthy_bool ⟨H', R', k₁.trans (k₂.trans k'), hq⟩) fun _ _ x => x) fun _ _ x => x) fun _ _ x => x) hm
theorem AT.cmp2 {l r r' : Expr} {op op' : CmpOp} {pos : Pos} {Q : Bool → AHeap → Prop}
    (h : AE T f Fs H l (fun p H₁ => AE T f Fs H₁ r (fun q H₂ => ACmp T (.fr f :: Fs) H₂ op p q (fun b H₃ => if b then AE T f Fs H₃ r' (fun q' H₄ => ACmp T (.fr f :: Fs) H₄ op' q q' Q E) E else Q false H₃) E) E) E)
    (hm : behindInMarks op' r' = false := by with_unfolding_all rfl) : AT T f Fs H (.Compare l [op, op'] [r, r'] pos) Q E := fun A s ok R => by
  show wpAny _ _ (do testChain pos (← eval l f.env) [op, op'] [eval r f.env, markedBehindIn op' r' (eval r' f.env)]) _ _ _
  refine wpAny_bind (wpAny_mono (h A s ok R) (fun v s₁ ⟨p, H₁, pr, R₁, k₁, h₁⟩ => ?_) fun _ _ x => x)
  refine wpAny_bind (m := holding _ _) (wpAny_holding (wpAny_mono (h₁ A s₁ ok R₁) (fun w s₂ ⟨q, H₂, qr, R₂, k₂, h₂⟩ => wpAny_bind (wpAny_standAt ?_)) fun _ _ x => x))
  refine wpAny_bind (wpAny_holding (wpAny_mono (h₂ A s₂ v w ok R₂ (pr.keep k₂) qr) (fun u s₃ ⟨b, eb, H₃, R₃, k₃, h₃⟩ => ?_) fun _ _ x => x))
  subst eb
  refine wpAny_bind (wpA_release (wpAny_bind (wpAny_holding (wpAny_truthy_bool ?_))))
  cases b with
  | false => exact wpAny_pure ⟨H₃, R₃, k₁.trans (k₂.trans k₃), h₃⟩
  | true =>
    simp only [if_true] at h₃ ⊢
    rw [markedBehindIn_of_false hm]
    refine wpAny_bind (m := holding _ _) (wpAny_holding (wpAny_mono (h₃ A s₃ ok R₃) (fun w' s₄ ⟨q', H₄, qr', R₄, k₄, h₄⟩ => wpAny_bind (wpAny_standAt ?_)) fun _ _ x => x))
    refine wpAny_bind (wpA_operate (wpAny_mono (h₄ A s₄ w w' ok R₄ (qr.keep (k₃.trans k₄)) qr') (fun u s₅ ⟨b, eb, H₅, R₅, k₅, h₅⟩ => ?_) (fun _ _ x => x)))
    subst eb
    exact wpAny_holding (wpAny_truthy_bool ⟨H₅, R₅, k₁.trans (k₂.trans (k₃.trans (k₄.trans k₅))), h₅⟩)

theorem AT.not {e : Expr} {pos : Pos} {Q : Bool → AHeap → Prop} (h : AT T f Fs H e (fun b H₁ => Q (!b) H₁) E) : AT T f Fs H (.UnaryOp .Not e pos) Q E :=
  fun A s ok R => wpAny_isTrue_Not (wpAny_mono (h A s ok R) (fun b s₁ ⟨H₁, R₁, k₁, q⟩ => ⟨H₁, R₁, k₁, q⟩) fun _ _ x => x)
noncomputable def AAll (T : Tr) (f : FR) (Fs : List AF) (H : AHeap) (op : BoolOp) (es : List Expr) (Q : Bool → AHeap → Prop) (E : Value → Shared → Prop) : Prop :=
  ∀ A s, AOk T (.fr f :: Fs) A → Rep T.C (.fr f :: Fs) H s → wpAny T.C.M A (allTrue op es f.env) (PostB T (.fr f :: Fs) s Q) E s
theorem AT.boolop {op : BoolOp} {es : List Expr} {pos : Pos} {Q : Bool → AHeap → Prop} (h : AAll T f Fs H op es Q E) : AT T f Fs H (.BoolOp op es pos) Q E := fun A s ok R => wpAny_isTrue_BoolOp (h A s ok R)
theorem AAll.and_nil {Q : Bool → AHeap → Prop} (h : Q true H) : AAll T f Fs H .And [] Q E := fun A s ok R => wpAny_allTrue_And_nil (postB_same R h)
theorem AAll.or_nil {Q : Bool → AHeap → Prop} (h : Q false H) : AAll T f Fs H .Or [] Q E := fun A s ok R => wpAny_allTrue_Or_nil (postB_same R h)
theorem AAll.and {e : Expr} {es : List Expr} {Q : Bool → AHeap → Prop} (h : AT T f Fs H e (fun b H₁ => if b then AAll T f Fs H₁ .And es Q E else Q false H₁) E) : AAll T f Fs H .And (e :: es) Q E := fun A s ok R =>
  wpAny_allTrue_And_cons (wpAny_mono (h A s ok R) (fun b s₁ ⟨H₁, R₁, k₁, h₁⟩ => by
    cases b with
    | false => exact ⟨H₁, R₁, k₁, h₁⟩
    | true => exact wpAny_mono (h₁ A s₁ ok R₁) (fun b s₂ ⟨H₂, R₂, k₂, h₂⟩ => ⟨H₂, R₂, k₁.trans k₂, h₂⟩) fun _ _ x => x) fun _ _ x => x)
theorem AAll.or {e : Expr} {es : List Expr} {Q : Bool → AHeap → Prop} (h : AT T f Fs H e (fun b H₁ => if b then Q true H₁ else AAll T f Fs H₁ .Or es Q E) E) : AAll T f Fs H .Or (e :: es) Q E := fun A s ok R =>
  wpAny_allTrue_Or_cons (wpAny_mono (h A s ok R) (fun b s₁ ⟨H₁, R₁, k₁, h₁⟩ => by
    cases b with
    | true => exact ⟨H₁, R₁, k₁, h₁⟩
    | false => exact wpAny_mono (h₁ A s₁ ok R₁) (fun b s₂ ⟨H₂, R₂, k₂, h₂⟩ => ⟨H₂, R₂, k₁.trans k₂, h₂⟩) fun _ _ x => x) fun _ _ x => x)
theorem AT.value {e : Expr} {Q : Bool → AHeap → Prop} (h : AE T f Fs H e (fun p H₁ => ATr T (.fr f :: Fs) H₁ p Q E) E)
    (he : isTrue e f.env (eval e f.env) = (do let v ← eval e f.env; standAt e.pos; holding [v] (truthy v)) := by rfl) : AT T f Fs H e Q E := fun A s ok R =>
  wpAny_isTrue_value (wpAny_mono (h A s ok R) (fun v s₁ ⟨p, H₁, pr, R₁, k₁, h₁⟩ => wpAny_mono (h₁ A s₁ v ok R₁ pr) (fun b s₂ ⟨H₂, R₂, k₂, h₂⟩ => ⟨H₂, R₂, k₁.trans k₂, h₂⟩) fun _ _ x => x) fun _ _ x => x) he
theorem ATr.bool {b : Bool} {Q : Bool → AHeap → Prop} (h : Q b H) : ATr T Fs H (.bool b) Q E := fun A s v ok R pv => by rw [pv.bool_inv]; exact wpAny_truthy_bool (postB_same R h)
theorem ATr.int {i : Int} {Q : Bool → AHeap → Prop} (h : Q (!decide (i = 0)) H) : ATr T Fs H (.int i) Q E := fun A s v ok R pv => by
  obtain ⟨t, rfl⟩ := pv.int_inv
  exact P.truthy_int (postB_same R (by rw [show (i != 0) = !decide (i = 0) from rfl]; exact h))
theorem AE.ifexp {t a b : Expr} {pos : Pos} {Q : PV → AHeap → Prop} (h : AT T f Fs H t (fun c H₁ => if c then AE T f Fs H₁ a Q E else AE T f Fs H₁ b Q E) E) : AE T f Fs H (.IfExp t a b pos) Q E := fun A s ok R =>
  wpAny_IfExp (wpAny_mono (h A s ok R) (fun c s₁ ⟨H₁, R₁, k₁, h₁⟩ => by
    have tail : ∀ {e : Expr}, AE T f Fs H₁ e Q E → wpAny T.C.M A (eval e f.env) (PostV T (.fr f :: Fs) s Q) E s₁ := fun h => wpAny_mono (h A s₁ ok R₁) (fun v s₂ ⟨p, H₂, pr, R₂, k₂, h₂⟩ => ⟨p, H₂, pr, R₂, k₁.trans k₂, h₂⟩) fun _ _ x => x
    cases c with
    | true => exact tail h₁
    | false => exact tail h₁) fun _ _ x => x)

theorem AL.nil {Q : List PV → AHeap → Prop} (h : Q [] H) : AL T f Fs H [] Q E := fun A s pos ok R => wpAny_items_nil ⟨[], H, PRs.nil, R, TupKeep.refl _, h⟩
theorem AL.cons {e : Expr} {es : List Expr} {Q : List PV → AHeap → Prop} (h : AE T f Fs H e (fun p H₁ => AL T f Fs H₁ es (fun ps H₂ => Q (p :: ps) H₂) E) E)
    (he : starEach (e :: es) f.env = (false, eval e f.env) :: starEach es f.env := by rfl) : AL T f Fs H (e :: es) Q E := fun A s pos ok R =>
  wpAny_items_cons (wpAny_mono (h A s ok R) (fun v s₁ ⟨p, H₁, pr, R₁, k₁, h₁⟩ => wpAny_mono (h₁ A s₁ pos ok R₁) (fun vs s₂ ⟨ps, H₂, prs, R₂, k₂, h₂⟩ =>
    ⟨p :: ps, H₂, PRs.cons (pr.keep k₂) prs, R₂, k₁.trans k₂, h₂⟩) fun _ _ x => x) fun _ _ x => x) he
end
end
section
open PySem PySem.W PyProof.Rows PySem.Calls
noncomputable abbrev Ls := List (Str × PV)
inductive AFl where
  | next | brk | cont
  | ret (p : PV)
noncomputable def FlR (h : Heap) : AFl → Flow → Prop
  | .next, .next => True
  | .brk, .brk => True
  | .cont, .cont => True
  | .ret p, .ret v => PR h p v
  | _, _ => False

inductive PostX (T : Tr) (env : Env) (Fs : List AF) (s : Shared) (Q : AFl → Ls → AHeap → Prop) (fl : Flow) (s' : Shared) : Prop
  | mk (a : AFl) (ls' : Ls) (H' : AHeap) (fr : FlR s'.heap a fl) (R : Rep T.C (.fr ⟨.fn, env, ls'⟩ :: Fs) H' s') (k : TupKeep s.heap s'.heap) (q : Q a ls' H') : PostX T env Fs s Q fl s'
inductive PostA (T : Tr) (f : FR) (Fs : List AF) (s : Shared) (Q : Ls → AHeap → Prop) (s' : Shared) : Prop
  | mk (ls' : Ls) (H' : AHeap) (R : Rep T.C (.fr { f with ls := ls' } :: Fs) H' s') (k : TupKeep s.heap s'.heap) (q : Q ls' H') : PostA T f Fs s Q s'
noncomputable def AX (T : Tr) (env : Env) (Fs : List AF) (ls : Ls) (H : AHeap) (ss : List Stmt) (Q : AFl → Ls → AHeap → Prop) (E : Value → Shared → Prop) : Prop :=
  ∀ A s, AOk T (.fr ⟨.fn, env, ls⟩ :: Fs) A → Rep T.C (.fr ⟨.fn, env, ls⟩ :: Fs) H s → wpAny T.C.M A (execs ss env) (PostX T env Fs s Q) E s
noncomputable def AS (T : Tr) (env : Env) (Fs : List AF) (ls : Ls) (H : AHeap) (st : Stmt) (Q : AFl → Ls → AHeap → Prop) (E : Value → Shared → Prop) : Prop :=
  ∀ A s, AOk T (.fr ⟨.fn, env, ls⟩ :: Fs) A → Rep T.C (.fr ⟨.fn, env, ls⟩ :: Fs) H s → wpAny T.C.M A (exec st env) (PostX T env Fs s Q) E s
noncomputable def AA (T : Tr) (f : FR) (Fs : List AF) (H : AHeap) (t : Expr) (p : PV) (Q : Ls → AHeap → Prop) (E : Value → Shared → Prop) : Prop :=
  ∀ A s v, AOk T (.fr f :: Fs) A → Rep T.C (.fr f :: Fs) H s → PR s.heap p v → wpAny T.C.M A (assign t f.env v) (fun _ s' => PostA T f Fs s Q s') E s

noncomputable def Then (T : Tr) (env : Env) (Fs : List AF) (rest : List Stmt) (Q : AFl → Ls → AHeap → Prop) (E : Value → Shared → Prop) (a : AFl) (ls : Ls) (H : AHeap) : Prop := match a with
  | .next => AX T env Fs ls H rest Q E
  | a => Q a ls H

section
variable {T : Tr} {f : FR} {env : Env} {ls : Ls} {Fs : List AF} {H : AHeap} {E : Value → Shared → Prop} {s : Shared} {A : Around}

theorem AOk.any {c : FK} {ls ls' : Ls} (ok : AOk T (.fr ⟨c, env, ls⟩ :: Fs) A) : AOk T (.fr ⟨c, env, ls'⟩ :: Fs) A := by
  cases c <;> exact ⟨ok.frames, ok.depth, ok.units, ok.handled⟩

theorem AX.cons {st : Stmt} {rest : List Stmt} {Q : AFl → Ls → AHeap → Prop} (h : AS T env Fs ls H st (Then T env Fs rest Q E) E) : AX T env Fs ls H (st :: rest) Q E := fun A s ok R => by
  refine wpAny_execs_cons (wpAny_mono (h A s ok R) (fun fl s₁ ⟨a, ls₁, H₁, fr, R₁, k₁, h₁⟩ => ?_) fun _ _ x => x)
  cases a <;> cases fl <;> first | exact fr.elim | skip
  · exact wpAny_mono (h₁ A s₁ ok.any R₁) (fun fl s₂ ⟨a, ls₂, H₂, fr, R₂, k₂, h₂⟩ => ⟨a, ls₂, H₂, fr, R₂, k₁.trans k₂, h₂⟩) fun _ _ x => x
  · exact ⟨_, ls₁, H₁, fr, R₁, k₁, h₁⟩
  · exact ⟨_, ls₁, H₁, fr, R₁, k₁, h₁⟩
  · exact ⟨_, ls₁, H₁, fr, R₁, k₁, h₁⟩
theorem AX.nil {Q : AFl → Ls → AHeap → Prop} (h : Q .next ls H) : AX T env Fs ls H [] Q E := fun A s ok R => wpAny_execs_nil ⟨.next, ls, H, trivial, R, TupKeep.refl _, h⟩
theorem AX.mono {ss : List Stmt} {Q Q' : AFl → Ls → AHeap → Prop} (h : AX T env Fs ls H ss Q E) (hq : ∀ a ls H, Q a ls H → Q' a ls H) : AX T env Fs ls H ss Q' E :=
  fun A s ok R => wpAny_mono (h A s ok R) (fun v s' ⟨a, ls', H', x, y, z, q⟩ => ⟨a, ls', H', x, y, z, hq _ _ _ q⟩) fun _ _ x => x
theorem frOk_weak {h : Heap} {c : FK} {ls ls' : Ls} (x : FrOk h ⟨c, env, ls⟩) (hl : ∀ y p, ls'.lookup y = some p → ls.lookup y = some p) : FrOk h ⟨c, env, ls'⟩ :=
  ⟨x.kind, x.globals, x.builtins, let ⟨m, a, b⟩ := x.ns; ⟨m, a, fun y p e k => b y p (hl y p e) k⟩, x.cells, fun y p e k => x.cellv y p (hl y p e) k, x.has, x.apart, x.locals, x.frame⟩
theorem Rep.weak {C : Cx} {c : FK} {ls ls' : Ls} {H H' : AHeap} (R : Rep C (.fr ⟨c, env, ls⟩ :: Fs) H s) (hl : ∀ y p, ls'.lookup y = some p → ls.lookup y = some p) (hH : ∀ a o, H' a = some o → H a = some o) : Rep C (.fr ⟨c, env, ls'⟩ :: Fs) H' s := by
  refine ⟨R.ok, R.keep, R.gens, R.os, fun g hg => ?_, ?_, fun a o e => ?_⟩
  · rcases List.mem_cons.mp hg with rfl | hg
    · exact ⟨frOk_weak (R.frs _ (.head _)).1 hl, (R.frs _ (.head _)).2⟩
    · exact R.frs g (.tail _ hg)
  · exact List.pairwise_cons.mpr ⟨(List.pairwise_cons.mp R.apart).1, (List.pairwise_cons.mp R.apart).2⟩
  · obtain ⟨x, y, z⟩ := R.objs a o (hH a o e)
    refine ⟨x, y, fun g hg => ?_⟩
    rcases List.mem_cons.mp hg with rfl | hg
    · exact z (.fr ⟨c, env, ls⟩) (.head _)
    · exact z g (.tail _ hg)
noncomputable def OwnCell (c : FK) (env : Env) (x : Str) : Prop := match c with
  | .fn => True
  | .cp cs => ∃ d, d ∈ cs ∧ env.cells.lookup x = some d
theorem store_name {x : Str} {p : PV} {v : Value} {c : FK} {Q : Unit → Shared → Prop} (R : Rep T.C (.fr ⟨c, env, ls⟩ :: Fs) H s) (hk : env.kindOf x = some .local ∨ (env.kindOf x = some .cell ∧ OwnCell c env x)) (hp : PR s.heap p v)
    (h : ∀ s', Rep T.C (.fr ⟨c, env, (x, p) :: ls⟩ :: Fs) H s' → TupKeep s.heap s'.heap → Q () s') : wpAny T.C.M A (storeName env x v) Q E s := by
  have F : FrOk s.heap ⟨c, env, ls⟩ := (R.frs _ (.head _)).1
  have lk : ∀ y q, ((x, p) :: ls).lookup y = some q → (y = x ∧ q = p) ∨ (y ≠ x ∧ ls.lookup y = some q) := fun y q e => by
    rw [List.lookup_cons] at e
    by_cases hy : y = x
    · subst hy; simp at e; exact .inl ⟨rfl, e.symm⟩
    · have : (y == x) = false := beq_eq_false_iff_ne.mpr hy
      rw [this] at e; exact .inr ⟨hy, e⟩
  obtain ⟨m, hm, hv⟩ := F.ns
  rcases hk with hk | hk
  · have F1 := F.kind
    refine wpAny_storeName_local hk hm (fun h' hn' sb => ?_) (by rw [show env.scope.kind = .function from F1]; rfl)
    have tk : TupKeep s.heap h' := TupKeep.of_ext sb.extBut fun o e => by
      obtain ⟨o', es, ep, ho', hd, _⟩ := hm
      rw [ho'] at e; cases e; exact .dict hd
    refine h _ (R.frame (z := env.locals) (s' := { s with heap := h', toks := s.toks + 1 }) List.mem_cons_self sb.extBut tk ?_ rfl rfl rfl) tk
    have kc : ∀ y ∈ env.cells, ∀ o, s.heap.get? y.2 = some o → h'.get? y.2 = some o := fun y hy o e => (sb.2 y.2 (F.locals y hy)).trans e
    refine ⟨F.kind, F.globals, F.builtins, ⟨_, hn', fun y q e k => ?_⟩, fun y hy => let ⟨v, r⟩ := F.cells y hy; ⟨v, isCell_at r (kc y hy)⟩, fun y q e k => ?_, F.has, F.apart, F.locals, F.frame⟩
    · rcases lk y q e with ⟨rfl, rfl⟩ | ⟨hy, e⟩
      · exact ⟨v, by simp, hp.keep tk⟩
      · obtain ⟨u, e1, r⟩ := hv y q e k
        exact ⟨u, by simp [hy, e1], r.keep tk⟩
    · rcases lk y q e with ⟨rfl, rfl⟩ | ⟨hy, e⟩
      · have k : env.kindOf y = some .cell ∨ env.kindOf y = some .free := k
        rw [hk] at k; rcases k with k | k <;> cases k
      · obtain ⟨d, u, e1, r, pr⟩ := F.cellv y q e k
        exact ⟨d, u, e1, isCell_at r (kc (y, d) (mem_of_lookup e1)), pr.keep tk⟩
  · obtain ⟨hk, hoc⟩ := hk
    obtain ⟨d, hd⟩ := F.has x (.inl hk)
    have hmem := mem_of_lookup hd
    obtain ⟨v₀, ic⟩ := F.cells (x, d) hmem
    refine wpAny_storeName_cell F.kind hk hd ic fun h' ic' sb => ?_
    have tk : TupKeep s.heap h' := TupKeep.of_ext sb.extBut fun o e => by
      obtain ⟨o', ho', hd'⟩ := ic
      rw [ho'] at e; cases e; exact .cell hd'
    have hdo : d ∈ ownsE c env := by
      refine List.mem_cons_of_mem _ ?_
      cases c with
      | fn => exact List.mem_map.mpr ⟨(x, d), List.mem_filter.mpr ⟨hmem, by simp [hk]⟩, rfl⟩
      | cp cs =>
        obtain ⟨d', h1, h2⟩ := hoc
        rw [hd] at h2; cases h2
        exact List.mem_filter.mpr ⟨h1, by simpa using ⟨x, hmem⟩⟩
    refine h _ (R.frame (z := d) (s' := { s with heap := h' }) hdo sb.extBut tk ?_ rfl rfl rfl) tk
    have hLd : env.locals ≠ d := fun e => F.locals (x, d) hmem e.symm
    refine ⟨F.kind, F.globals, F.builtins, ⟨m, ns_at hm (fun o e => (sb.2 _ hLd).trans e), fun y q e k => ?_⟩, fun y hy => ?_, fun y q e k => ?_, F.has, F.apart, F.locals, F.frame⟩
    · rcases lk y q e with ⟨rfl, rfl⟩ | ⟨hy, e⟩
      · have k : env.kindOf y = some .local := k
        rw [hk] at k; cases k
      · obtain ⟨u, e1, r⟩ := hv y q e k
        exact ⟨u, e1, r.keep tk⟩
    · by_cases hyd : y.2 = d
      · exact ⟨_, hyd ▸ ic'⟩
      · obtain ⟨u, r⟩ := F.cells y hy
        exact ⟨u, isCell_at r fun o e => (sb.2 _ hyd).trans e⟩
    · rcases lk y q e with ⟨rfl, rfl⟩ | ⟨hy, e⟩
      · exact ⟨d, v, hd, ic', hp.keep tk⟩
      · obtain ⟨d', u, e1, r, pr⟩ := F.cellv y q e k
        have : d' ≠ d := apart_ne F.apart (mem_of_lookup e1) hmem hy
        exact ⟨d', u, e1, isCell_at r (fun o e => (sb.2 _ this).trans e), pr.keep tk⟩

noncomputable def isOwn : Option NameKind → Bool
  | some .local => true
  | some .cell => true
  | _ => false
theorem isOwn_cases' {x : Str} {nm : List (Str × NameKind)} (hn : env.scope.names = nm) (hk : isOwn (nm.lookup x) = true) : env.kindOf x = some .local ∨ env.kindOf x = some .cell := by
  rw [show env.kindOf x = env.scope.names.lookup x from rfl, hn]
  revert hk; generalize nm.lookup x = o; intro hk
  rcases o with _ | k
  · cases hk
  · cases k <;> simp_all [isOwn]

theorem isOwn_cases {x : Str} {nm : List (Str × NameKind)} (hn : env.scope.names = nm) (hk : isOwn (nm.lookup x) = true) : env.kindOf x = some .local ∨ (env.kindOf x = some .cell ∧ OwnCell .fn env x) := by
  rcases isOwn_cases' hn hk with h | h
  · exact .inl h
  · exact .inr ⟨h, trivial⟩
theorem AA.name {x : Str} {pos : Pos} {p : PV} {nm : List (Str × NameKind)} {Q : Ls → AHeap → Prop} (hn : env.scope.names = nm) (hk : isOwn (nm.lookup x) = true) (h : Q ((x, p) :: ls) H) : AA T ⟨.fn, env, ls⟩ Fs H (.Name x pos) p Q E :=
  fun A s v ok R hp => wpAny_assign_Name (store_name R (isOwn_cases hn hk) hp fun s' R' tk => ⟨_, H, R', tk, h⟩)

theorem AS.assign1 {t value : Expr} {pos : Pos} {Q : AFl → Ls → AHeap → Prop} (hs : swapsWithSole [t] value pos.line env = pure false) (hw : swappedStores [t] value env = pure none) (he : assignEach [t] env = [(false, assign t env)])
    (h : AE T ⟨.fn, env, ls⟩ Fs H value (fun p H₁ => AA T ⟨.fn, env, ls⟩ Fs H₁ t p (fun ls' H₂ => Q .next ls' H₂) E) E) : AS T env Fs ls H (.Assign [t] value pos) Q E := fun A s ok R => by
  show wpAny T.C.M A (do
    standAt pos
    if ← swapsWithSole [t] value pos.line env then do
      evalThenUse value env fun v => assignAll v ((assignEach [t] env).map (·.2))
      pure .next
    else do
      let v ← eval value env
      assignStores env v (← swappedStores [t] value env) ((assignEach [t] env).map (·.2))) _ _ _
  rw [hs, hw, he]
  refine wpAny_bind (wpAny_standAt (wpAny_bind (wpAny_pure ?_)))
  simp only [Bool.false_eq_true, if_false]
  refine wpAny_bind (wpAny_mono (h A s ok R) (fun v s₁ ⟨p, H₁, pr, R₁, k₁, h₁⟩ => ?_) fun _ _ x => x)
  refine wpAny_bind (wpAny_pure ?_)
  unfold assignStores
  refine wpAny_bind ?_
  show wpAny _ _ (assign t env v) _ _ _
  exact wpAny_mono (h₁ A s₁ v ok R₁ pr) (fun _ s₂ ⟨ls', H₂, R₂, k₂, h₂⟩ => wpAny_pure ⟨.next, ls', H₂, trivial, R₂, k₁.trans k₂, h₂⟩) fun _ _ x => x

theorem AS.ite {test : Expr} {body orelse : List Stmt} {pos : Pos} {Q : AFl → Ls → AHeap → Prop} (h : AT T ⟨.fn, env, ls⟩ Fs H test (fun b H₁ => if b then AX T env Fs ls H₁ body Q E else AX T env Fs ls H₁ orelse Q E) E) : AS T env Fs ls H (.If test body orelse pos) Q E := fun A s ok R =>
  wpAny_If (wpAny_mono (h A s ok R) (fun b s₁ ⟨H₁, R₁, k₁, h₁⟩ => by
    have tail : ∀ {ss : List Stmt}, AX T env Fs ls H₁ ss Q E → wpAny T.C.M A (execs ss env) (PostX T env Fs s Q) E s₁ := fun h => wpAny_mono (h A s₁ ok R₁) (fun v s₂ ⟨a, ls₂, H₂, pr, R₂, k₂, h₂⟩ => ⟨a, ls₂, H₂, pr, R₂, k₁.trans k₂, h₂⟩) fun _ _ x => x
    cases b with
    | true => exact tail h₁
    | false => exact tail h₁) fun _ _ x => x)
theorem AS.ret {e : Expr} {pos : Pos} {Q : AFl → Ls → AHeap → Prop} (h : AE T ⟨.fn, env, ls⟩ Fs H e (fun p H₁ => Q (.ret p) ls H₁) E) : AS T env Fs ls H (.Return (some e) pos) Q E := fun A s ok R =>
  wpAny_Return_some (wpAny_mono (h A s ok R) (fun v s₁ ⟨p, H₁, pr, R₁, k₁, h₁⟩ => ⟨.ret p, ls, H₁, pr, R₁, k₁, h₁⟩) fun _ _ x => x)
theorem AS.brk {pos : Pos} {Q : AFl → Ls → AHeap → Prop} (h : Q .brk ls H) : AS T env Fs ls H (.Break pos) Q E := fun A s ok R => wpAny_Break ⟨.brk, ls, H, trivial, R, TupKeep.refl _, h⟩
theorem AS.cont {pos : Pos} {Q : AFl → Ls → AHeap → Prop} (h : Q .cont ls H) : AS T env Fs ls H (.Continue pos) Q E := fun A s ok R => wpAny_Continue ⟨.cont, ls, H, trivial, R, TupKeep.refl _, h⟩
theorem AS.pass {pos : Pos} {Q : AFl → Ls → AHeap → Prop} (h : Q .next ls H) : AS T env Fs ls H (.Pass pos) Q E := fun A s ok R => wpAny_Pass ⟨.next, ls, H, trivial, R, TupKeep.refl _, h⟩
theorem AS.aug {x : Str} {p' pos : Pos} {op : Operator} {value : Expr} {old : PV} {nm : List (Str × NameKind)} {Q : AFl → Ls → AHeap → Prop} (hn : env.scope.names = nm) (hk : isOwn (nm.lookup x) = true) (hl : ls.lookup x = some old)
    (h : AE T ⟨.fn, env, ls⟩ Fs H value (fun p H₁ => ABin T (.fr ⟨.fn, env, ls⟩ :: Fs) H₁ (inplaceOp op) old p (fun r H₂ => Q .next ((x, r) :: ls) H₂) E) E) (hc : (x == ("__classdict__" : Str)) = false := by decide) : AS T env Fs ls H (.AugAssign (.Name x p') op value pos) Q E := fun A s ok R => by
  have hk' : isVar (env.kindOf x) = true := by
    rcases isOwn_cases' hn hk with e | e <;> rw [e] <;> rfl
  refine wpAny_AugAssign_Name (wpAny_mono (load_name (f := ⟨.fn, env, ls⟩) (Q := fun p H' => p = old ∧ H' = H) R hk' hl ⟨rfl, rfl⟩ hc) (fun v s₀ ⟨p₀, H₀, pr₀, R₀, k₀, h₀⟩ => ?_) fun _ _ x => x)
  obtain ⟨rfl, rfl⟩ := h₀
  refine wpAny_mono (h A s₀ ok R₀) (fun w s₁ ⟨p, H₁, pr, R₁, k₁, h₁⟩ => ?_) fun _ _ x => x
  refine wpAny_mono (h₁ A s₁ v w ok R₁ (pr₀.keep k₁) pr) (fun u s₂ ⟨r, H₂, pr₂, R₂, k₂, h₂⟩ => ?_) fun _ _ x => x
  exact store_name R₂ (isOwn_cases hn hk) pr₂ fun s' R' tk => ⟨.next, _, H₂, trivial, R', k₀.trans (k₁.trans (k₂.trans tk)), h₂⟩
theorem push_keep {h : Heap} {o : Obj} : ∀ b ob, h.get? b = some ob → (h.push o).get? b = some ob := fun b ob e => Heap.get?_push_of_some _ e
theorem AE.tuple {es : List Expr} {k : Nat} {pos : Pos} {Q : PV → AHeap → Prop} (h : AL T f Fs H es (fun ps H₁ => ps.length ≤ 1000 ∧ Q (.tup ps) H₁) E) : AE T f Fs H (.Tuple es k pos) Q E := fun A s ok R => by
  refine wpAny_Tuple (wpAny_mono (h A s pos ok R) (fun vs s₁ ⟨ps, H₁, prs, R₁, k₁, hz, h₁⟩ => ?_) fun _ _ x => x)
  refine ⟨by rw [← prs.length]; exact Nat.le_trans hz (by decide), .tup ps, H₁, ?_, R₁.ext push_keep, k₁.trans (TupKeep.of_keep push_keep), h₁⟩
  unfold PR
  exact ⟨_, _, _, _, rfl, Heap.get?_push_size _ rfl, rfl, rfl, rfl, PRs.keep (TupKeep.of_keep push_keep) _ prs⟩
theorem stands_newList {C : Cx} {h : Heap} {ps : List PV} {vs : List Value} (prs : PRs h ps vs) : Stands C (h.push { cls := .type "list", data := .seq vs.toArray }) h.objs.size (.list ps) :=
  ⟨_, _, Heap.get?_push_size _ rfl, PRs.keep (TupKeep.of_keep push_keep) _ prs⟩
theorem AE.list {es : List Expr} {pos : Pos} {Q : PV → AHeap → Prop} (h : AL T f Fs H es (fun ps H₁ => ps.length ≤ 1000 ∧ ∀ a, H₁ a = Option.none → Q (.ref a) (upd H₁ a (.list ps))) E) : AE T f Fs H (.List es pos) Q E := fun A s ok R => by
  refine wpAny_List (wpAny_mono (h A s pos ok R) (fun vs s₁ ⟨ps, H₁, prs, R₁, k₁, hz, h₁⟩ => ?_) fun _ _ x => x)
  exact ⟨by rw [← prs.length]; exact Nat.le_trans hz (by decide), _, _, PR.ref, R₁.new push_keep (Nat.le_refl _) (stands_newList prs), k₁.trans (TupKeep.of_keep push_keep), h₁ _ R₁.fresh⟩
end
end
section
open PySem PySem.W PyProof.Rows PySem.Calls
structure ClsOk (K : Frag) (c : Addr) : Prop where
  ga : findIn K (.ref c) "__getattribute__" = some (some (.builtin "object.__getattribute__"))
  gattr : findIn K (.ref c) "__getattr__" = some none
  sa : findIn K (.ref c) "__setattr__" = some (some (.builtin "object.__setattr__"))
  cd : (clsIn K c).any (·.hasDict) = true
  plain : plainOver K c = true

noncomputable def AGet (T : Tr) (Fs : List AF) (H : AHeap) (name : Str) (p : PV) (Q : PV → AHeap → Prop) (E : Value → Shared → Prop) : Prop :=
  ∀ A s v, AOk T Fs A → Rep T.C Fs H s → PR s.heap p v → wpAny T.C.M A (getAttr v name true) (PostV T Fs s Q) E s
noncomputable def AMeth (T : Tr) (Fs : List AF) (H : AHeap) (name : Str) (p : PV) (g : PV) : Prop :=
  ∀ A s v pl (Q : Value × List Value → Shared → Prop) E, AOk T Fs A → Rep T.C Fs H s → PR s.heap p v → (∀ u, PR s.heap g u → Q (u, [v]) s) → wpAny T.C.M A (getMethod v name pl) Q E s
noncomputable def ASub (T : Tr) (Fs : List AF) (H : AHeap) (value slice : Expr) (p q : PV) (Q : PV → AHeap → Prop) (E : Value → Shared → Prop) : Prop :=
  ∀ A s v w, AOk T Fs A → Rep T.C Fs H s → PR s.heap p v → PR s.heap q w → wpAny T.C.M A (subscriptTail value slice v w) (PostV T Fs s Q) E s
noncomputable def ASetItem (T : Tr) (Fs : List AF) (H : AHeap) (p i q : PV) (Q : AHeap → Prop) (E : Value → Shared → Prop) : Prop :=
  ∀ A s v w u, AOk T Fs A → Rep T.C Fs H s → PR s.heap p v → PR s.heap i w → PR s.heap q u → wpAny T.C.M A (setItem v w u) (fun _ s' => PostH T Fs s Q s') E s
noncomputable def ASetAttr (T : Tr) (Fs : List AF) (H : AHeap) (name : Str) (p q : PV) (Q : AHeap → Prop) (E : Value → Shared → Prop) : Prop :=
  ∀ A s v u, AOk T Fs A → Rep T.C Fs H s → PR s.heap p v → PR s.heap q u → wpAny T.C.M A (setAttr v name u) (fun _ s' => PostH T Fs s Q s') E s

section
variable {T : Tr} {f : FR} {env : Env} {ls : Ls} {Fs : List AF} {H : AHeap} {E : Value → Shared → Prop} {s : Shared} {A : Around}

theorem Rep.kin {C : Cx} (R : Rep C Fs H s) : C.K.In s.heap := R.ok.kin.keeps R.keep
theorem ns1_lookIn {h : Heap} {a : Addr} {m : Str → Option Value} (n : h.Ns1 a m) (name : Str) : ∃ o, h.get? a = some o ∧ lookIn name o = some (m name) := by
  obtain ⟨o, es, ep, ho, hd, hk, _, hm⟩ := n
  refine ⟨o, ho, ?_⟩
  unfold lookIn
  rw [hd]
  dsimp only
  have := hm name
  unfold nsFind findBy at this
  rw [← Array.find?_toList] at this
  cases e : es.toList.find? (·.key.isStr name) with
  | some en => rw [e] at this; simp at this; simp [this]
  | none =>
    rw [e] at this; simp at this
    have hr : es.toList.any (·.refKey) = false := by
      rw [List.any_eq_false]; intro x hx
      obtain ⟨n, t, q⟩ := hk x (by simpa using hx)
      simp [DictEntry.refKey, q]
    simp [hr, this]
theorem instAt_of {C : Cx} {x c d : Addr} {l : Ls} (R : Rep C Fs H s) (hx : H x = some (.inst c d)) (hd : H d = some (.attrs l)) (name : Str) :
    ∃ ox od, InstAt s.heap x ox c (some od) ∧ ox.dict = some d ∧ s.heap.get? d = some od ∧ (∀ p, l.lookup name = some p → ∃ v, lookIn name od = some (some v) ∧ PR s.heap p v) ∧ (l.lookup name = none → lookIn name od = some none) := by
  obtain ⟨⟨ox, hox, hc, hdict, hdata, _⟩, _⟩ := R.objs x _ hx
  obtain ⟨⟨m, n, h1, h2⟩, _⟩ := R.objs d _ hd
  obtain ⟨od, hod, hl⟩ := ns1_lookIn n name
  refine ⟨ox, od, ⟨hox, hc, by unfold notCls; rw [hdata], by rw [hdict]; exact hod⟩, hdict, hod, fun p e => ?_, fun e => ?_⟩
  · obtain ⟨v, e1, pr⟩ := h2 name p e
    exact ⟨v, by rw [hl, e1], pr⟩
  · rw [hl, h1 name e]
theorem findObj_value {K : Frag} {c : Addr} {od : Obj} {name : Str} {v : Value} (hc : (clsIn K c).any (·.hasDict) = true) (hn : findIn K (.ref c) name = some none) (hl : lookIn name od = some (some v)) : findObj K c (some od) name = some (.value v) := by
  obtain ⟨cd, h1, h2⟩ := any_some hc
  unfold findObj
  rw [h1, Option.bind_some, hn, Option.bind_some]
  dsimp only
  simp [W.ownOf, h2, hl]

noncomputable def PV.handed : PV → Bool
  | .bi _ => false
  | _ => true
theorem PR.handed {h : Heap} {p : PV} {v : Value} (x : PR h p v) (hp : p.handed = true) : handedIn v = true := by
  cases p with
  | none => rw [x.none_inv]; rfl
  | bool => rw [x.bool_inv]; rfl
  | int => obtain ⟨t, rfl⟩ := x.int_inv; rfl
  | str => obtain ⟨t, rfl⟩ := x.str_inv; rfl
  | tup => obtain ⟨a, o, vs, n, rfl, _⟩ := x.tup_inv; rfl
  | ref => rw [x.ref_inv]; rfl
  | ty => rw [x.ty_inv]; rfl
  | bi => cases hp

theorem AGet.inst {x c d : Addr} {l : Ls} {name : Str} {p : PV} {Q : PV → AHeap → Prop} (hc : ClsOk T.C.K c) (hn : findIn T.C.K (.ref c) name = some none) (hx : H x = some (.inst c d)) (hd : H d = some (.attrs l)) (hl : l.lookup name = some p) (hp : p.handed = true) (h : Q p H) :
    AGet T Fs H name (.ref x) Q E := fun A s v ok R pv => by
  rw [pv.ref_inv]
  obtain ⟨ox, od, I, _, _, h1, _⟩ := instAt_of R hx hd name
  obtain ⟨u, e, pr⟩ := h1 p hl
  exact get_value R.kin I hc.ga (findObj_value hc.cd hn e) (pr.handed hp) (post_same R pr h)

theorem AMeth.own {x c d g : Addr} {l : Ls} {name : Str} (hc : ClsOk T.C.K c) (hf : findIn T.C.K (.ref c) name = some (some (.ref g))) (ht : typeIn T.C.K (.ref g) = some (.type "function")) (hx : H x = some (.inst c d)) (hd : H d = some (.attrs l)) (hl : l.lookup name = none) :
    AMeth T Fs H name (.ref x) (.ref g) := fun A s v pl Q E ok R pv h => by
  rw [pv.ref_inv] at h ⊢
  obtain ⟨ox, od, I, _, _, _, h2⟩ := instAt_of R hx hd name
  exact method_fn R.kin I hc.ga hc.gattr hf ht (by unfold shadowIn; dsimp only; rw [h2 hl]; rfl) (h _ PR.ref)

theorem AE.attr {value : Expr} {attr : Str} {pos : Pos} {Q : PV → AHeap → Prop} (hb : attributeBase value attr f.env (eval value f.env) = eval value f.env) (h : AE T f Fs H value (fun p H₁ => AGet T (.fr f :: Fs) H₁ attr p Q E) E) : AE T f Fs H (.Attribute value attr pos) Q E := fun A s ok R => by
  rw [arm_eval_Attribute, hb]
  refine wpAny_bind (wpAny_mono (h A s ok R) (fun v s₁ ⟨p, H₁, pr, R₁, k₁, h₁⟩ => wpAny_bind (wpAny_standAt (wpAny_bind (wpAny_holding (wpAny_mono (h₁ A s₁ v ok R₁ pr) (fun u s₂ ⟨q, H₂, qr, R₂, k₂, h₂⟩ => ?_) fun _ _ x => x))))) fun _ _ x => x)
  exact wpAny_bind (wpAny_letTemporaryGo (wpAny_pure ⟨q, H₂, qr, R₂, k₁.trans k₂, h₂⟩))

theorem AE.sub {value slice : Expr} {pos : Pos} {Q : PV → AHeap → Prop} (h : AE T f Fs H value (fun p H₁ => AE T f Fs H₁ slice (fun q H₂ => ASub T (.fr f :: Fs) H₂ value slice p q Q E) E) E) : AE T f Fs H (.Subscript value slice pos) Q E := fun A s ok R =>
  Subscript_ (wpAny_mono (h A s ok R) (fun v s₁ ⟨p, H₁, pr, R₁, k₁, h₁⟩ => wpAny_mono (h₁ A s₁ ok R₁) (fun w s₂ ⟨q, H₂, qr, R₂, k₂, h₂⟩ =>
    wpAny_mono (h₂ A s₂ v w ok R₂ (pr.keep k₂) qr) (fun u s₃ ⟨p', H', pr', R', k', hq⟩ => ⟨p', H', pr', R', k₁.trans (k₂.trans k'), hq⟩) fun _ _ x => x) fun _ _ x => x) fun _ _ x => x)

theorem isList_of {C : Cx} {h : Heap} {a : Addr} {l : List PV} (S : Stands C h a (.list l)) : ∃ vs, h.IsList a vs ∧ PRs h l vs.toList := by
  obtain ⟨vs, n, il, r⟩ := S
  exact ⟨vs, il.isList, r⟩
theorem item_of {h : Heap} {l : List PV} {vs : Array Value} (r : PRs h l vs.toList) {i : Nat} {p : PV} (e : l[i]? = some p) : ∃ v, vs[i]? = some v ∧ PR h p v := by
  obtain ⟨v, e', pr⟩ := r.get i e
  exact ⟨v, by rw [← Array.getElem?_toList]; exact e', pr⟩

theorem ASub.list {value slice : Expr} {a : Addr} {l : List PV} {k : Int} {p : PV} {Q : PV → AHeap → Prop} (hH : H a = some (.list l)) (h0 : 0 ≤ k) (hk : k < 2 ^ 63) (hx : l[k.toNat]? = some p) (h : Q p H)
    (hs : ∀ u, subscripted slice false (.ref a) (.int k u) = operate [.ref a, .int k u] (getItem (.ref a) (.int k u)) := by intro _; rfl) : ASub T Fs H value slice (.ref a) (.int k) Q E := fun A s v w ok R pv pw => by
  rw [pv.ref_inv]
  obtain ⟨t, rfl⟩ := pw.int_inv
  obtain ⟨vs, il, r⟩ := isList_of (R.objs a _ hH).1
  obtain ⟨u, e, pr⟩ := item_of r hx
  exact tail_any il.typeIs slot_list_getitem.lookup (wpAny_getItem_list il h0 hk e (post_same R pr h)) (hs t)
theorem ASub.tup {value slice : Expr} {l : List PV} {k : Int} {p : PV} {Q : PV → AHeap → Prop} (h0 : 0 ≤ k) (hk : k < 2 ^ 63) (hx : l[k.toNat]? = some p) (h : Q p H)
    (hs : ∀ a u, subscripted slice false (.ref a) (.int k u) = operate [.ref a, .int k u] (getItem (.ref a) (.int k u)) := by intro _ _; rfl) : ASub T Fs H value slice (.tup l) (.int k) Q E := fun A s v w ok R pv pw => by
  obtain ⟨a, o, vs, n, rfl, ho, hc, hd, hsq, r⟩ := pv.tup_inv
  obtain ⟨t, rfl⟩ := pw.int_inv
  obtain ⟨u, e, pr⟩ := item_of r hx
  have it : IsTup s.heap a vs := ⟨o, ho, hc, n, hsq⟩
  refine tail_any it.typeIs slot_tuple_getitem.lookup (getItem_tuple (j := k.toNat) it (Int.le_trans (by decide) h0) hk ?_ e (post_same R pr h)) (hs a t)
  have hlt : k.toNat < vs.size := by
    have := (List.getElem?_eq_some_iff.mp hx).1
    have hl := r.length
    simp at hl; omega
  have h1 : ¬ k < 0 := by omega
  have h2 : k < vs.size := by omega
  simp [seqIndex?, h1, h0, h2]

theorem atKey_of {l : List (Pt × PV)} {xs : List (List Int × Addr × Value)} {h : Heap} (r : DRel h l xs) (p : Pt) :
    (l.lookup p = none → atKey xs (ptK p) = none) ∧ ∀ q, l.lookup p = some q → ∃ a v, atKey xs (ptK p) = some (a, v) ∧ PR h q v := by
  induction l generalizing xs with
  | nil =>
    have : xs = [] := r
    subst this
    exact ⟨fun _ => rfl, fun q e => by cases e⟩
  | cons y l ih =>
    obtain ⟨y1, y2⟩ := y
    obtain ⟨⟨x1, x2, x3⟩, xs, rfl, e1, _, pr, r⟩ := r
    have e1 : x1 = ptK y1 := e1
    subst e1
    obtain ⟨i1, i2⟩ := ih r
    by_cases hp : p = y1
    · subst hp
      have : atKey ((ptK p, x2, x3) :: xs) (ptK p) = some (x2, x3) := by simp [atKey]
      rw [List.lookup_cons]
      simp only [beq_self_eq_true]
      exact ⟨fun e => (by cases e), fun q e => by cases e; exact ⟨x2, x3, this, pr⟩⟩
    · have hk : ptK y1 ≠ ptK p := fun e => hp (by simp [ptK] at e; exact Prod.ext e.1.symm e.2.symm)
      have : atKey ((ptK y1, x2, x3) :: xs) (ptK p) = atKey xs (ptK p) := by simp [atKey, hk]
      rw [List.lookup_cons, beq_eq_false_iff_ne.mpr hp, this]
      exact ⟨i1, i2⟩
theorem pt_key {C : Cx} {h : Heap} {p : Pt} {v : Value} (x : PR h (pt p) v) : ∃ a, v = .ref a ∧ IsTupleKey (intKind C.prog C.w) h (ptK p) a := (isPt_of_PR x).key
theorem notSys {C : Cx} {a : Addr} {o : AO} (R : Rep C Fs H s) (e : H a = some o) : (a == sysModules) = false :=
  beq_eq_false_iff_ne.mpr (Nat.ne_of_gt (R.objs a o e).2.1.2)
end
end
section
open PySem PySem.W PyProof.Rows PySem.Calls
noncomputable def dput (l : List (Pt × PV)) (p : Pt) (q : PV) : List (Pt × PV) := if (l.lookup p).isSome then l.map (fun e => if e.1 = p then (e.1, q) else e) else l ++ [(p, q)]
noncomputable def ddel (l : List (Pt × PV)) (p : Pt) : List (Pt × PV) := l.filter fun e => !decide (e.1 = p)

theorem ptK_inj {p q : Pt} (e : ptK p = ptK q) : p = q := by simp [ptK] at e; exact Prod.ext e.1 e.2
theorem DRel.length {h : Heap} : ∀ {l : List (Pt × PV)} {xs : List (List Int × Addr × Value)}, DRel h l xs → xs.length = l.length
  | [], xs, x => by rw [show xs = [] from x]; rfl
  | e :: l, xs, ⟨x, r, a, b, c, d, y⟩ => by rw [a]; simp [y.length]
theorem DRel.snoc {h : Heap} {p : Pt} {q : PV} {a : Addr} {v : Value} (hp : PR h (pt p) (.ref a)) (hq : PR h q v) : ∀ {l : List (Pt × PV)} {xs : List (List Int × Addr × Value)}, DRel h l xs → DRel h (l ++ [(p, q)]) (xs ++ [(ptK p, a, v)])
  | [], xs, x => by rw [show xs = [] from x]; exact ⟨_, [], rfl, rfl, hp, hq, rfl⟩
  | e :: l, xs, ⟨x, r, a', b, c, d, y⟩ => ⟨x, r ++ [(ptK p, a, v)], by rw [a']; rfl, b, c, d, DRel.snoc hp hq y⟩
theorem DRel.put {h : Heap} {p : Pt} {q : PV} {v : Value} (hq : PR h q v) : ∀ {l : List (Pt × PV)} {xs : List (List Int × Addr × Value)}, DRel h l xs → DRel h (l.map fun e => if e.1 = p then (e.1, q) else e) (xs.map (putAt (ptK p) v))
  | [], xs, x => by rw [show xs = [] from x]; rfl
  | e :: l, xs, ⟨x, r, a, b, c, d, y⟩ => by
    subst a
    by_cases hk : x.1 = ptK p
    · have he : e.1 = p := ptK_inj (b.symm.trans hk)
      have e1 : putAt (ptK p) v x = (x.1, x.2.1, v) := by unfold putAt; rw [if_pos hk]
      refine ⟨putAt (ptK p) v x, r.map (putAt (ptK p) v), rfl, ?_, ?_, ?_, DRel.put hq y⟩ <;> (rw [e1]; dsimp only; rw [if_pos he])
      · exact b
      · exact c
      · exact hq
    · have he : ¬ e.1 = p := fun z => hk (by rw [b, z])
      have e1 : putAt (ptK p) v x = x := by unfold putAt; rw [if_neg hk]
      refine ⟨putAt (ptK p) v x, r.map (putAt (ptK p) v), rfl, ?_, ?_, ?_, DRel.put hq y⟩ <;> (rw [e1]; dsimp only; rw [if_neg he])
      · exact b
      · exact c
      · exact d
theorem DRel.get {h : Heap} : ∀ {l : List (Pt × PV)} {xs : List (List Int × Addr × Value)} {j : Nat} {x : List Int × Addr × Value}, DRel h l xs → xs[j]? = some x → ∃ e, l[j]? = some e ∧ x.1 = ptK e.1 ∧ PR h (pt e.1) (.ref x.2.1) ∧ PR h e.2 x.2.2
  | [], xs, j, x, r, e => by rw [show xs = [] from r] at e; simp at e
  | e :: l, xs, 0, x, ⟨x', r, a, b, c, d, y⟩, ex => by subst a; simp at ex; subst ex; exact ⟨e, rfl, b, c, d⟩
  | e :: l, xs, j + 1, x, ⟨x', r, a, b, c, d, y⟩, ex => by subst a; simp at ex; obtain ⟨e', h1, h2⟩ := DRel.get y ex; exact ⟨e', by simpa using h1, h2⟩
theorem DRel.erase {h : Heap} : ∀ {l : List (Pt × PV)} {xs : List (List Int × Addr × Value)} (j : Nat), DRel h l xs → DRel h (l.eraseIdx j) (xs.eraseIdx j)
  | [], xs, j, x => by rw [show xs = [] from x]; rfl
  | e :: l, xs, 0, ⟨x, r, a, b, c, d, y⟩ => by subst a; exact y
  | e :: l, xs, j + 1, ⟨x, r, a, b, c, d, y⟩ => by subst a; exact ⟨x, r.eraseIdx j, rfl, b, c, d, DRel.erase j y⟩
theorem DRel.nodup {h : Heap} {l : List (Pt × PV)} {xs : List (List Int × Addr × Value)} (r : DRel h l xs) (hn : (xs.map (·.1)).Nodup) : (l.map (·.1)).Nodup := by
  induction l generalizing xs with
  | nil => exact List.nodup_nil
  | cons e l ih =>
    obtain ⟨x, r, rfl, b, c, d, y⟩ := r
    rw [List.map_cons] at hn ⊢
    obtain ⟨h1, h2⟩ := List.nodup_cons.mp hn
    refine List.nodup_cons.mpr ⟨fun hm => h1 ?_, ih y h2⟩
    clear h1 h2 hn ih
    rw [b]
    induction l generalizing r with
    | nil => cases hm
    | cons e' l ih =>
      obtain ⟨x', r', rfl, b', c', d', y'⟩ := y
      rw [List.map_cons] at hm ⊢
      rcases List.mem_cons.mp hm with e1 | hm
      · rw [e1, ← b']; exact List.mem_cons_self
      · exact List.mem_cons_of_mem _ (ih r' y' hm)
theorem eraseIdx_ddel {l : List (Pt × PV)} (hn : (l.map (·.1)).Nodup) {j : Nat} {e : Pt × PV} (he : l[j]? = some e) : l.eraseIdx j = ddel l e.1 := by
  unfold ddel
  induction l generalizing j with
  | nil => simp at he
  | cons y l ih =>
    rw [List.map_cons] at hn
    obtain ⟨h1, h2⟩ := List.nodup_cons.mp hn
    cases j with
    | zero =>
      simp at he; subst he
      simp only [List.eraseIdx_cons_zero, List.filter_cons, decide_true, Bool.not_true, Bool.false_eq_true, if_false]
      symm; rw [List.filter_eq_self]
      intro z hz
      have : z.1 ≠ y.1 := fun q => h1 (q ▸ List.mem_map.mpr ⟨z, hz, rfl⟩)
      simp [this]
    | succ j =>
      simp at he
      have hy : y.1 ≠ e.1 := fun q => h1 (q ▸ List.mem_map.mpr ⟨e, List.mem_of_getElem? he, rfl⟩)
      simp only [List.eraseIdx_cons_succ, List.filter_cons, hy, decide_false, Bool.not_false, if_true]
      rw [ih h2 he]

section
variable {T : Tr} {f : FR} {env : Env} {ls : Ls} {Fs : List AF} {H : AHeap} {E : Value → Shared → Prop} {s : Shared} {A : Around}

theorem AOk.cl (ok : AOk T Fs A) : A.units + 100 ≤ cLine := by have := ok.units; have : cLine = 9900 := rfl; omega

theorem ACmp.inDict {d : Addr} {l : List (Pt × PV)} {p : Pt} {Q : Bool → AHeap → Prop} (hH : H d = some (.pdict l)) (h : Q (l.lookup p).isSome H) : ACmp T Fs H .In (pt p) (.ref d) Q E := fun A s v w ok R pv pw => by
  rw [pw.ref_inv]
  obtain ⟨a, rfl, hk⟩ := pt_key (C := T.C) pv
  obtain ⟨xs, D, r⟩ := (R.objs d _ hH).1
  have := ok.cl
  refine wpAny_in_heap (knd := tupleKind (intKind T.C.prog T.C.w)) (k := ptK p) (show A.units + 1 < cLine by omega) hk (notSys R hH) D ⟨_, rfl, ?_⟩
  obtain ⟨i1, i2⟩ := atKey_of r p
  cases e : l.lookup p with
  | none => rw [i1 e]; rw [e] at h; exact postB_same R h
  | some q => obtain ⟨a', v', e', _⟩ := i2 q e; rw [e']; rw [e] at h; exact postB_same R h
theorem notIn_of_in {v w : Value} {Q : Value → Shared → Prop} {M : Model} (h : wpAny M A (compareOp .In v w) (fun c s' => ∃ b, c = .bool b ∧ Q (.bool (!b)) s') E s) : wpAny M A (compareOp .NotIn v w) Q E s := by
  have h : wpAny M A (contains w v >>= fun b => pure (Value.bool b)) (fun c s' => ∃ b, c = .bool b ∧ Q (.bool (!b)) s') E s := h
  show wpAny M A (contains w v >>= fun b => pure (Value.bool (!b))) Q E s
  intro Γ p hΓ
  have := h Γ p hΓ
  rw [Sem.wp_bind'] at this ⊢
  refine Sem.wp_mono M Γ _ (fun b p' s' hb => ?_) (fun _ _ _ x => x) _ _ this
  obtain ⟨b', e, q⟩ : ∃ b', Value.bool b = .bool b' ∧ Q (.bool (!b')) s' := hb
  cases e; exact q
theorem ACmp.notIn {p q : PV} {Q : Bool → AHeap → Prop} (h : ACmp T Fs H .In p q (fun b H₁ => Q (!b) H₁) E) : ACmp T Fs H .NotIn p q Q E := fun A s v w ok R pv pw =>
  notIn_of_in (wpAny_mono (h A s v w ok R pv pw) (fun c s' ⟨b, e, ⟨H₁, R₁, k₁, q₁⟩⟩ => ⟨b, e, _, rfl, ⟨H₁, R₁, k₁, q₁⟩⟩) fun _ _ x => x)

theorem ASub.dict {value slice : Expr} {d : Addr} {l : List (Pt × PV)} {p : Pt} {q : PV} {Q : PV → AHeap → Prop} (hH : H d = some (.pdict l)) (hl : l.lookup p = some q) (h : Q q H)
    (hs : ∀ a, subscripted slice false (.ref d) (.ref a) = operate [.ref d, .ref a] (getItem (.ref d) (.ref a)) := by intro _; rfl) : ASub T Fs H value slice (.ref d) (pt p) Q E := fun A s v w ok R pv pw => by
  rw [pv.ref_inv]
  obtain ⟨a, rfl, hk⟩ := pt_key (C := T.C) pw
  obtain ⟨xs, D, r⟩ := (R.objs d _ hH).1
  have := ok.cl
  obtain ⟨a', v', e', pr⟩ := (atKey_of r p).2 q hl
  exact tail_any D.typeIs slot_dict_getitem.lookup (wpAny_getItem_heap (knd := tupleKind (intKind T.C.prog T.C.w)) (k := ptK p) (show A.units + 1 < cLine by omega) hk D e' (post_same R pr h)) (hs a)

theorem ASetItem.dict {d : Addr} {l : List (Pt × PV)} {p : Pt} {q : PV} {Q : AHeap → Prop} (hH : H d = some (.pdict l)) (hz : l.length ≤ 10000) (h : Q (upd H d (.pdict (dput l p q)))) : ASetItem T Fs H (.ref d) (pt p) q Q E := fun A s v w u ok R pv pw pu => by
  rw [pv.ref_inv]
  have pw' := pw
  obtain ⟨a, rfl, hk⟩ := pt_key (C := T.C) pw
  obtain ⟨xs, D, r⟩ := (R.objs d _ hH).1
  have := ok.cl
  refine wpAny_setItem_heap (knd := tupleKind (intKind T.C.prog T.C.w)) (k := ptK p) (show A.units + 1 < cLine by omega) hk D (fun h' D' sb => ?_) (by rw [r.length]; exact Nat.le_trans hz (by decide))
  have tk : TupKeep s.heap h' := R.turnKeep (s' := { s with heap := h', toks := s.toks + (tupleKind (intKind T.C.prog T.C.w)).draws (ptK p) }) hH sb.extBut
  refine ⟨_, R.turn (o' := .pdict (dput l p q)) hH sb.extBut ⟨_, D', ?_⟩, tk, h⟩
  obtain ⟨i1, i2⟩ := atKey_of r p
  unfold dput
  cases e : l.lookup p with
  | none =>
    rw [storedH_new (i1 e)]
    simp only [Option.isSome_none, Bool.false_eq_true, if_false]
    exact DRel.snoc (PR.keep tk _ pw') (pu.keep tk) (r.keep tk)
  | some q' =>
    obtain ⟨a', v', e', _⟩ := i2 q' e
    rw [storedH_old e']
    simp only [Option.isSome_some, if_true]
    exact DRel.put (pu.keep tk) (r.keep tk)
end
end
section
open PySem PySem.W PyProof.Rows PySem.Calls
noncomputable def NoE : Value → Shared → Prop := fun _ _ => False

theorem len_succ {α : Type} {l : List α} {n : Nat} (h : l.length = n + 1) : ∃ a r, l = a :: r ∧ r.length = n := by
  cases l with
  | nil => cases h
  | cons a r => exact ⟨a, r, rfl, Nat.succ.inj h⟩
theorem bind_of1 {fd : FuncData} {x : Str} (h : ∀ a, bindArgs fd ⟨[a], []⟩ = pure [(x, a)]) (vs : List Value) (hl : vs.length = [x].length) : bindArgs fd ⟨vs, []⟩ = pure ([x].zip vs) := by
  obtain ⟨a, r1, e1, h1⟩ := len_succ hl; subst e1
  cases List.eq_nil_of_length_eq_zero h1; exact h a
theorem bind_of2 {fd : FuncData} {x y : Str} (h : ∀ a b, bindArgs fd ⟨[a, b], []⟩ = pure [(x, a), (y, b)]) (vs : List Value) (hl : vs.length = [x, y].length) : bindArgs fd ⟨vs, []⟩ = pure ([x, y].zip vs) := by
  obtain ⟨a, r1, e1, h1⟩ := len_succ hl; subst e1
  obtain ⟨b, r2, e2, h2⟩ := len_succ h1; subst e2
  cases List.eq_nil_of_length_eq_zero h2; exact h a b
theorem bind_of3 {fd : FuncData} {x y z : Str} (h : ∀ a b c, bindArgs fd ⟨[a, b, c], []⟩ = pure [(x, a), (y, b), (z, c)]) (vs : List Value) (hl : vs.length = [x, y, z].length) : bindArgs fd ⟨vs, []⟩ = pure ([x, y, z].zip vs) := by
  obtain ⟨a, r1, e1, h1⟩ := len_succ hl; subst e1
  obtain ⟨b, r2, e2, h2⟩ := len_succ h1; subst e2
  obtain ⟨c, r3, e3, h3⟩ := len_succ h2; subst e3
  cases List.eq_nil_of_length_eq_zero h3; exact h a b c
theorem bind_of4 {fd : FuncData} {x y z u : Str} (h : ∀ a b c d, bindArgs fd ⟨[a, b, c, d], []⟩ = pure [(x, a), (y, b), (z, c), (u, d)]) (vs : List Value) (hl : vs.length = [x, y, z, u].length) : bindArgs fd ⟨vs, []⟩ = pure ([x, y, z, u].zip vs) := by
  obtain ⟨a, r1, e1, h1⟩ := len_succ hl; subst e1
  obtain ⟨b, r2, e2, h2⟩ := len_succ h1; subst e2
  obtain ⟨c, r3, e3, h3⟩ := len_succ h2; subst e3
  obtain ⟨d, r4, e4, h4⟩ := len_succ h3; subst e4
  cases List.eq_nil_of_length_eq_zero h4; exact h a b c d
theorem lookup_of_mem {α : Type} : ∀ {l : List (Str × α)} {n : Str} {c : α}, (l.map (·.1)).Nodup → (n, c) ∈ l → l.lookup n = some c
  | (k, v) :: r, n, c, hn, hm => by
    rw [List.map_cons] at hn
    obtain ⟨h1, h2⟩ := List.nodup_cons.mp hn
    rw [List.lookup_cons]
    rcases List.mem_cons.mp hm with e | hm
    · cases e; simp
    · have : n ≠ k := fun e => h1 (e ▸ List.mem_map.mpr ⟨(n, c), hm, rfl⟩)
      rw [beq_eq_false_iff_ne.mpr this]
      exact lookup_of_mem h2 hm
theorem cellsFrom_nodup : ∀ (names : List (Str × NameKind)) (n : Nat) (acc : List (Str × Addr)), (acc.map (·.1) ++ names.map (·.1)).Nodup → ((cellsFrom n names acc).map (·.1)).Nodup
  | [], n, acc, h => by simpa [cellsFrom] using h
  | (x, k) :: r, n, acc, h => by
    unfold cellsFrom
    split
    · refine cellsFrom_nodup r (n + 1) _ ?_
      rw [List.map_cons] at h ⊢
      exact List.perm_middle.nodup_iff.mp h
    · refine cellsFrom_nodup r n acc ?_
      rw [List.map_cons] at h
      exact h.sublist (List.Sublist.append (List.Sublist.refl _) (List.sublist_cons_self _ _))
theorem cellsFrom_keep {x : Str} : ∀ (names : List (Str × NameKind)) (n : Nat) (acc : List (Str × Addr)), (acc.lookup x).isSome = true → ((cellsFrom n names acc).lookup x).isSome = true
  | [], n, acc, h => h
  | (y, k) :: r, n, acc, h => by
    unfold cellsFrom
    split
    · refine cellsFrom_keep r (n + 1) _ ?_
      rw [List.lookup_cons]
      cases x == y <;> simp [h]
    · exact cellsFrom_keep r n acc h
theorem cellsFrom_has {x : Str} : ∀ (names : List (Str × NameKind)) (n : Nat) (acc : List (Str × Addr)), names.lookup x = some .cell → ((cellsFrom n names acc).lookup x).isSome = true
  | (y, k) :: r, n, acc, h => by
    rw [List.lookup_cons] at h
    unfold cellsFrom
    cases e : x == y with
    | true =>
      rw [e] at h; cases h
      simp only [beq_self_eq_true, if_true]
      refine cellsFrom_keep r _ _ ?_
      rw [List.lookup_cons, e]; rfl
    | false =>
      rw [e] at h
      split
      · exact cellsFrom_has r _ _ h
      · exact cellsFrom_has r _ _ h

theorem bindL_get {kindOf : Str → Option NameKind} {x : Str} (hk : kindOf x = some .local) : ∀ (binds : List (Str × Value)) (m : Str → Option Value), (binds.map (·.1)).Nodup → bindL kindOf binds m x = match binds.lookup x with | some v => some v | none => m x
  | [], m, _ => rfl
  | (n, v) :: r, m, hn => by
    rw [List.map_cons] at hn
    obtain ⟨h1, h2⟩ := List.nodup_cons.mp hn
    unfold bindL
    rw [bindL_get hk r _ h2, List.lookup_cons]
    by_cases e : x = n
    · subst e
      have : r.lookup x = none := by
        cases q : r.lookup x with
        | none => rfl
        | some v => exact absurd (List.mem_map.mpr ⟨_, mem_of_lookup q, rfl⟩) h1
      rw [this, if_pos hk]; simp
    · rw [beq_eq_false_iff_ne.mpr e]
      dsimp only
      cases r.lookup x with
      | some v => rfl
      | none => dsimp only; split <;> simp [e]
theorem bindC_get {kindOf : Str → Option NameKind} {x : Str} (hk : kindOf x ≠ some .local) : ∀ (binds : List (Str × Value)) (m : Str → Option Value), (binds.map (·.1)).Nodup → bindC kindOf binds m x = match binds.lookup x with | some v => some v | none => m x
  | [], m, _ => rfl
  | (n, v) :: r, m, hn => by
    rw [List.map_cons] at hn
    obtain ⟨h1, h2⟩ := List.nodup_cons.mp hn
    unfold bindC
    rw [bindC_get hk r _ h2, List.lookup_cons]
    by_cases e : x = n
    · subst e
      have : r.lookup x = none := by
        cases q : r.lookup x with
        | none => rfl
        | some v => exact absurd (List.mem_map.mpr ⟨_, mem_of_lookup q, rfl⟩) h1
      rw [this, if_neg hk]; simp
    · rw [beq_eq_false_iff_ne.mpr e]
      dsimp only
      cases r.lookup x with
      | some v => rfl
      | none => dsimp only; split <;> simp [e]
theorem zip_lookup {h : Heap} : ∀ {nms : List Str} {ps : List PV} {vs : List Value} {x : Str} {p : PV}, PRs h ps vs → (nms.zip ps).lookup x = some p → ∃ v, (nms.zip vs).lookup x = some v ∧ PR h p v
  | [], ps, vs, x, p, r, e => by simp at e
  | n :: nms, [], vs, x, p, r, e => by simp at e
  | n :: nms, q :: ps, vs, x, p, r, e => by
    obtain ⟨v, rr, rfl, pr, r⟩ := r.cons_inv
    rw [List.zip_cons_cons, List.lookup_cons] at e ⊢
    cases hb : x == n with
    | true => rw [hb] at e; cases e; exact ⟨v, rfl, pr⟩
    | false => rw [hb] at e; exact zip_lookup r e

structure DefAt (K : Frag) (g : Addr) (fd : FuncData) (nms : List Str) (body : List Stmt) : Prop where
  obj : ∃ oc od osl, K.lookup g = some ⟨oc, od, .func fd, osl⟩
  body : fd.body = .stmts body
  clo : fd.closure = []
  code : codeIn K fd.code fd.qualname = true
  globals : fd.globals = mainGlobals
  builtins : fd.builtins = builtinsNs
  bind : ∀ vs : List Value, vs.length = nms.length → bindArgs fd ⟨vs, []⟩ = pure (nms.zip vs)
  kinds : nms.all (fun x => isOwn (fd.scope.names.lookup x)) = true
  nodup : nms.Nodup
  names : (fd.scope.names.map (·.1)).Nodup
  nofree : fd.scope.names.all (fun x => x.2 != .free) = true
  coro : fd.scope.isCoroutine = false
  gen : fd.scope.isGenerator = false
  kind : fd.scope.kind = .function

section
variable {T : Tr} {f : FR} {env : Env} {ls : Ls} {Fs : List AF} {H : AHeap} {E : Value → Shared → Prop} {s : Shared} {A : Around}

noncomputable def Tr.down (T : Tr) : Tr := { T with n := T.n - 1 }
theorem AOk.deeper {env : Env} {ls : Ls} (ok : AOk T Fs A) (hn : 1 ≤ T.n) : AOk T.down (.fr ⟨.fn, env, ls⟩ :: Fs) (A.deeper env) := by
  refine ⟨?_, ?_, ?_, fun h => ok.handled h⟩
  · show A.frames.map (env :: ·) = _; rw [ok.frames]; rfl
  · have := ok.depth; show A.depth + 1 + 4 * (T.n - 1) + 10 ≤ 1000; omega
  · have := ok.units; show A.units + 3 + 20 * (T.n - 1) + 100 ≤ 9900; omega

theorem enter_frame {fd : FuncData} {g : Addr} {nms : List Str} {body : List Stmt} {ps : List PV} {vs : List Value} {s₁ : Shared} (D : DefAt T.C.K g fd nms body) (hlen : ps.length = nms.length) (R : Rep T.C Fs H s) (prs : PRs s.heap ps vs)
    (x : InCallC s (callEnvC fd s.heap.objs.size g).locals (bindL (callEnvC fd s.heap.objs.size g).kindOf (nms.zip vs) fun _ => none) (callEnvC fd s.heap.objs.size g).cells (bindC (callEnvC fd s.heap.objs.size g).kindOf (nms.zip vs) fun _ => none) s₁) :
    Rep T.C (.fr ⟨.fn, callEnvC fd s.heap.objs.size g, nms.zip ps⟩ :: Fs) H s₁ ∧ TupKeep s.heap s₁.heap := by
  obtain ⟨⟨h₁, tk, rfl⟩, ns, keep, fresh⟩ := x.toInCall
  have hk : TupKeep s.heap h₁ := TupKeep.of_keep keep
  have nd : ((callEnvC fd s.heap.objs.size g).cells.map (·.1)).Nodup := cellsFrom_nodup _ _ _ (by simpa using D.names)
  have hvl : vs.length = nms.length := by rw [← prs.length]; exact hlen
  have nb : ((nms.zip vs).map (·.1)).Nodup := by rw [List.map_fst_zip (by omega)]; exact D.nodup
  refine ⟨(R.ext (s' := { s with heap := h₁, toks := tk }) keep).push ?_ ?_ ?_ ?_ ?_, hk⟩
  · refine ⟨D.kind, D.globals, D.builtins, ⟨_, ns, fun y p e k => ?_⟩, fun y hy => ⟨_, x.cell y.1 y.2 (lookup_of_mem nd hy)⟩, fun y p e k => ?_, fun y k => ?_, x.apart, fun y hy => Nat.ne_of_gt (x.above y.1 y.2 hy), fun _ => rfl⟩
    · obtain ⟨v, e1, pr⟩ := zip_lookup prs e
      exact ⟨v, by rw [bindL_get k _ _ nb, e1], pr.keep hk⟩
    · obtain ⟨v, e1, pr⟩ := zip_lookup prs e
      have k : (callEnvC fd s.heap.objs.size g).kindOf y = some .cell ∨ (callEnvC fd s.heap.objs.size g).kindOf y = some .free := k
      have kl : (callEnvC fd s.heap.objs.size g).kindOf y ≠ some .local := by rcases k with k | k <;> rw [k] <;> intro q <;> cases q
      have kc : fd.scope.names.lookup y = some .cell := by
        rcases k with k | k
        · exact k
        · have hm : y ∈ nms := (List.of_mem_zip (mem_of_lookup e)).1
          have := List.all_eq_true.mp D.kinds y hm
          have k : fd.scope.names.lookup y = some .free := k
          rw [k] at this; cases this
      obtain ⟨c, hc⟩ := Option.isSome_iff_exists.mp (cellsFrom_has (x := y) fd.scope.names (s.heap.objs.size + 1) [] kc)
      refine ⟨c, v, hc, ?_, pr.keep hk⟩
      have := x.cell y c hc
      rw [bindC_get kl _ _ nb, e1] at this
      exact this
    · rcases k with k | k
      · exact Option.isSome_iff_exists.mp (cellsFrom_has fd.scope.names _ _ k)
      · have k : fd.scope.names.lookup y = some .free := k
        have := List.all_eq_true.mp D.nofree _ (mem_of_lookup k)
        simp at this
  all_goals
    have big : ∀ a ∈ (AF.fr ⟨.fn, callEnvC fd s.heap.objs.size g, nms.zip ps⟩).reads, s.heap.objs.size ≤ a := fun a ha => by
      rcases List.mem_cons.mp ha with rfl | ha
      · exact Nat.le_refl _
      · obtain ⟨y, hy, rfl⟩ := List.mem_map.mp ha
        exact Nat.le_of_lt (x.above y.1 y.2 hy)
  · exact fun a ha => (R.fresh_ge (big a ha)).2.1.1
  · exact fun a ha => (R.fresh_ge (big a ha)).1
  · exact fun a ha k hk => (R.fresh_ge (big a (AF.owns_reads ha))).2.2 k hk
  · intro k hk a ha hb
    refine (R.fresh_ge (big a hb)).2.2 k hk ?_
    cases k with
    | fr f => cases ha
    | hid c o => exact ha
    | gh _ => cases ha

theorem call_entry {fd : FuncData} {g : Addr} {nms : List Str} {body : List Stmt} {ps : List PV} {vs : List Value} {R' : Result → Shared → Prop} (D : DefAt T.C.K g fd nms body) (hlen : ps.length = nms.length) (hn : 1 ≤ T.n) (ok : AOk T Fs A) (R : Rep T.C Fs H s) (prs : PRs s.heap ps vs)
    (h : ∀ env s₁, env.scope = fd.scope → AOk T.down (.fr ⟨.fn, env, nms.zip ps⟩ :: Fs) (A.deeper env) → Rep T.C (.fr ⟨.fn, env, nms.zip ps⟩ :: Fs) H s₁ → TupKeep s.heap s₁.heap →
      wpAny T.C.M (A.deeper env) (execs body env) (fun f s' => R' (.ok (.ret (match f with | .ret v => v | _ => .none))) s')
        (fun e s' => wpAny T.C.M (A.deeper env) (leaving env e) (fun _ s'' => R' (.error e) s'') (fun e' s'' => R' (.error e') s'') s') s₁) :
    codeAny T.C.M A (.call (.ref g) ⟨vs, []⟩) R' s := by
  obtain ⟨oc, od, osl, ho⟩ := D.obj
  refine codeAny_call_cells (fd := fd) (by have := ok.depth; show A.depth < 1000; omega) (R.kin g _ ho) rfl (R.ok.top.nolimit.keeps R.keep) (codeRec_of R.kin D.code) D.body (D.bind vs (by rw [← prs.length]; exact hlen)) D.clo (fun x hx => ?_) (fun s₁ x => ?_) D.coro D.gen D.kind
  · have hm := (List.of_mem_zip hx).1
    have := List.all_eq_true.mp D.kinds x.1 hm
    revert this
    cases e : fd.scope.names.lookup x.1 with
    | none => intro q; cases q
    | some k =>
      intro q
      cases k <;> first | exact .inl rfl | exact .inr ⟨rfl, cellsFrom_has _ _ _ e⟩ | cases q
  · obtain ⟨R₁, tk⟩ := enter_frame D hlen R prs x
    exact h _ s₁ rfl (ok.deeper hn) R₁ tk

noncomputable def RetQ (Q : PV → AHeap → Prop) (a : AFl) (_ : Ls) (H : AHeap) : Prop := match a with
  | .ret p => Q p H
  | .next => Q .none H
  | _ => False

end
end
section
open PySem PySem.W PyProof.Rows PySem.Calls
noncomputable def noStar : List Expr → Bool
  | [] => true
  | .Starred _ _ :: _ => false
  | _ :: r => noStar r
theorem starEach_cons_plain {e : Expr} {es : List Expr} {env : Env} (h : noStar (e :: es) = true) : starEach (e :: es) env = (false, eval e env) :: starEach es env ∧ noStar es = true := by
  cases e <;> first | exact ⟨rfl, h⟩ | cases h
theorem noStar_any {pos : Pos} {env : Env} : ∀ {es : List Expr}, noStar es = true → (backTo pos (starEach es env)).any (·.1) = false
  | [], _ => rfl
  | e :: es, h => by
    obtain ⟨h1, h2⟩ := starEach_cons_plain (env := env) h
    rw [h1]
    show (false || (backTo pos (starEach es env)).any (·.1)) = false
    rw [noStar_any h2]; rfl

noncomputable def calleeO (K : Frag) (a : Addr) : Option Obj → Bool
  | some ⟨_, _, .func _, _⟩ => true
  | some ⟨_, _, .cls _, _⟩ => makesIn K a
  | _ => false
noncomputable def callee (K : Frag) : PV → Bool
  | .bi _ => true
  | .ty _ => true
  | .ref a => calleeO K a (K.lookup a)
  | _ => false

section
variable {T : Tr} {f : FR} {env : Env} {ls : Ls} {Fs : List AF} {H : AHeap} {E : Value → Shared → Prop} {s : Shared} {A : Around}

theorem wp_evalArgs {M : Model} {g : Value} {pos : Pos} {es : List Expr} {Q : Args → Shared → Prop} (hs : noStar es = true) (h : wpAny M A (spliced (backTo pos (starEach es env))) (fun vs s' => Q ⟨vs, []⟩ s') E s) :
    wpAny M A (evalArgs g true (backTo pos (starEach es env)) []) Q E s := by
  cases es with
  | nil =>
    unfold evalArgs
    show wpAny M A (spliced [] >>= _) Q E s
    refine wpAny_bind (wpAny_mono h (fun vs s' h' => ?_) fun _ _ x => x)
    refine wpAny_holding ?_
    exact wpAny_bind (wpAny_pure (wpAny_bind (wpAny_pure (wpAny_pure h'))))
  | cons e es =>
    obtain ⟨h1, h2⟩ := starEach_cons_plain (env := env) hs
    rw [h1] at h ⊢
    exact evalArgs_plain h

theorem wp_callWith {g : PV} {v : Value} {first : List Value} {pos : Pos} {es : List Expr} {Q : Value → Shared → Prop} (hs : noStar es = true) (R : Rep T.C Fs H s) (hg : callee T.C.K g = true) (pv : PR s.heap g v)
    (h : wpAny T.C.M A (spliced (backTo pos (starEach es env))) (fun vs s₁ => (∃ H₁, Rep T.C Fs H₁ s₁) ∧ wpAny T.C.M A (call v (first ++ vs)) Q E s₁) E s) :
    wpAny T.C.M A (callWith pos v first (backTo pos (starEach es env)) []) Q E s := by
  have tail : ∀ {t : Sem Value} {s₁ : Shared}, wpAny T.C.M A t Q E s₁ → wpAny T.C.M A (t >>= fun r => holding [r] point >>= fun _ => pure r) Q E s₁ :=
    fun ht => wpAny_bind (wpAny_mono ht (fun r s₂ hr => wpAny_bind (wpAny_holding (wpAny_point (wpAny_pure hr)))) fun _ _ x => x)
  cases g with
  | bi i =>
    rw [pv.bi_inv] at h ⊢
    exact callWith_builtin (noStar_any hs) (wp_evalArgs hs (wpAny_mono h (fun vs s₁ h₁ => h₁.2) fun _ _ x => x))
  | ty n =>
    rw [pv.ty_inv] at h ⊢
    exact PySem.callWith_type (noStar_any hs) (wp_evalArgs hs (wpAny_mono h (fun vs s₁ h₁ => h₁.2) fun _ _ x => x))
  | ref a =>
    rw [pv.ref_inv] at h ⊢
    have hg : calleeO T.C.K a (T.C.K.lookup a) = true := hg
    cases ho : T.C.K.lookup a with
    | none => rw [ho] at hg; cases hg
    | some o =>
    rw [ho] at hg
    obtain ⟨c, d, data, ex⟩ := o
    cases data with
    | func fd =>
      refine callWith_function (wp_evalArgs hs (wpAny_mono h (fun vs s₁ ⟨⟨H₁, R₁⟩, h₁⟩ => ⟨⟨R₁.kin a _ ho, rfl⟩, h₁⟩) fun _ _ x => x))
    | cls cd =>
      unfold callWith
      refine wpAny_bind (wpAny_holding (wp_evalArgs hs (wpAny_mono h (fun vs s₁ ⟨⟨H₁, R₁⟩, h₁⟩ => wpAny_bind (wpAny_standAt ?_)) fun _ _ x => x)))
      simp only [noStar_any hs, List.any_nil, Bool.or_false]
      refine wpAny_bind (m := keeperOf (.ref a)) ?_
      unfold keeperOf
      refine wpAny_bind (wpAny_load (R₁.kin a _ ho) ?_)
      refine wpAny_bind ((makes_of (M := T.C.M) R₁.kin hg).call.here (wpAny_pure ?_))
      rw [if_pos (by simp)]
      exact tail h₁
    | _ => cases hg
  | _ => cases hg

theorem AE.call {func : Expr} {args : List Expr} {pos : Pos} {Q : PV → AHeap → Prop} (hf : ∀ env, eval (.Call func args [] pos) env = (do callWith pos (← eval func env) [] (backTo pos (starEach args env)) (backToKw pos (keywordEach [] env)))) (hs : noStar args = true)
    (h : AE T f Fs H func (fun g H₁ => callee T.C.K g = true ∧ AL T f Fs H₁ args (fun ps H₂ => ACall T (.fr f :: Fs) H₂ g ps Q E) E) E) : AE T f Fs H (.Call func args [] pos) Q E := fun A s ok R => by
  rw [hf]
  refine wpAny_bind (wpAny_mono (h A s ok R) (fun v s₁ ⟨g, H₁, pr, R₁, k₁, hg, h₁⟩ => ?_) fun _ _ x => x)
  refine wp_callWith hs R₁ hg pr (wpAny_mono (h₁ A s₁ pos ok R₁) (fun vs s₂ ⟨ps, H₂, prs, R₂, k₂, h₂⟩ => ⟨⟨_, R₂⟩, ?_⟩) fun _ _ x => x)
  exact wpAny_mono (h₂ A s₂ v vs ok R₂ (pr.keep k₂) prs) (fun u s₃ ⟨p', H', pr', R', k', hq⟩ => ⟨p', H', pr', R', k₁.trans (k₂.trans k'), hq⟩) fun _ _ x => x

theorem eval_meth (o : Expr) (name : Str) (apos pos : Pos) (args : List Expr) (env : Env) : eval (.Call (.Attribute o name apos) args [] pos) env = (do
    let ov ← attributeBase o name env (eval o env)
    standAt apos.atName
    methodCall o name apos pos env ov (args.length + 0) (backTo pos (starEach args env)) (backToKw pos (keywordEach [] env))) := rfl
theorem noStar_all {pos : Pos} {env : Env} : ∀ {es : List Expr}, noStar es = true → (backTo pos (starEach es env)).all (!·.1) = true
  | [], _ => rfl
  | e :: es, h => by
    obtain ⟨h1, h2⟩ := starEach_cons_plain (env := env) h
    rw [h1]
    show (true && (backTo pos (starEach es env)).all (!·.1)) = true
    rw [noStar_all h2]; rfl
theorem AE.meth {o : Expr} {name : Str} {apos pos : Pos} {args : List Expr} {Q : PV → AHeap → Prop} (hb : attributeBase o name f.env (eval o f.env) = eval o f.env) (hs : noStar args = true) (hl : args.length < 30) (hp : (apos.endLine == pos.line) = true)
    (h : AE T f Fs H o (fun p H₁ => ∃ g, callee T.C.K g = true ∧ AMeth T (.fr f :: Fs) H₁ name p g ∧ AL T f Fs H₁ args (fun ps H₂ => ACall T (.fr f :: Fs) H₂ g (p :: ps) Q E) E) E) : AE T f Fs H (.Call (.Attribute o name apos) args [] pos) Q E := fun A s ok R => by
  rw [eval_meth, hb]
  refine wpAny_bind (wpAny_mono (h A s ok R) (fun v s₁ ⟨p, H₁, pr, R₁, k₁, g, hg, hm, h₁⟩ => wpAny_bind (wpAny_standAt ?_)) fun _ _ x => x)
  have hform : methodCallForm (args.length + 0) (backTo pos (starEach args f.env)) (backToKw pos (keywordEach [] f.env)) = true := by
    unfold methodCallForm
    rw [noStar_all hs]
    have e : backToKw pos (keywordEach [] f.env) = [] := rfl
    rw [e]
    exact decide_eq_true hl
  unfold methodCall
  rw [hform]
  unfold calleeOf methodCallPos
  simp only [if_true, hp, Bool.not_true, Bool.false_or]
  refine wpAny_bind (wpAny_holding (hm A s₁ v _ _ _ ok R₁ pr fun u pu => ?_))
  refine wpAny_bind (wpAny_pure ?_)
  refine wp_callWith hs R₁ hg pu (wpAny_mono (h₁ A s₁ pos ok R₁) (fun vs s₂ ⟨ps, H₂, prs, R₂, k₂, h₂⟩ => ⟨⟨_, R₂⟩, ?_⟩) fun _ _ x => x)
  exact wpAny_mono (h₂ A s₂ u (v :: vs) ok R₂ (pu.keep k₂) (PRs.cons (pr.keep k₂) prs)) (fun u s₃ ⟨p', H', pr', R', k', hq⟩ => ⟨p', H', pr', R', k₁.trans (k₂.trans k'), hq⟩) fun _ _ x => x
end
end
section
open PySem PySem.W PyProof.Rows PySem.Calls
noncomputable def aput (l : Ls) (x : Str) (p : PV) : Ls := (x, p) :: l

section
variable {T : Tr} {f : FR} {env : Env} {ls : Ls} {Fs : List AF} {H : AHeap} {E : Value → Shared → Prop} {s : Shared} {A : Around}

theorem stands_inst {C : Cx} {h : Heap} {c : Addr} : Stands C ((h.push emptyDict).push (instObj c h.objs.size)) (h.objs.size + 1) (.inst c h.objs.size) :=
  ⟨_, by rw [show h.objs.size + 1 = (h.push emptyDict).objs.size from (Heap.size_push ..).symm]; exact Heap.get?_push_size _ rfl, rfl, rfl, rfl, Nat.ne_of_lt (Nat.lt_succ_self _)⟩
theorem stands_attrs0 {C : Cx} {h : Heap} {o : Obj} : Stands C ((h.push emptyDict).push o) h.objs.size (.attrs []) := by
  refine ⟨fun _ => none, ⟨emptyDict, #[], 0, Heap.get?_push_of_some _ (Heap.get?_push_size _ rfl), rfl, ?_, ?_, fun _ => rfl⟩, fun _ _ => rfl, fun x p e => by cases e⟩
  · intro e he; simp at he
  · exact List.Pairwise.nil

theorem under_tc {c : Addr} {rest : List Value} : (Code.builtin "type.__call__" ⟨.ref c :: rest, []⟩).weight = 1 ∧ (Code.builtin "type.__call__" ⟨.ref c :: rest, []⟩).cUnits = 1 ∧ (Code.builtin "type.__call__" ⟨.ref c :: rest, []⟩).envs = [] := ⟨rfl, rfl, rfl⟩
theorem AOk.creation {c : Addr} {rest : List Value} (ok : AOk T Fs A) (hn : 1 ≤ T.n) : AOk T.down Fs (A.under (.builtin "type.__call__" ⟨.ref c :: rest, []⟩)) := by
  obtain ⟨h1, h2, h3⟩ := under_tc (c := c) (rest := rest)
  refine ⟨?_, ?_, ?_, fun h => ok.handled h⟩
  · show pushEnvs (Code.builtin "type.__call__" ⟨.ref c :: rest, []⟩).envs A.frames = _; rw [h3]; exact ok.frames
  · have := ok.depth; show A.depth + (Code.builtin "type.__call__" ⟨.ref c :: rest, []⟩).weight + 4 * (T.n - 1) + 10 ≤ 1000; rw [h1]; omega
  · have := ok.units; show A.units + (Code.builtin "type.__call__" ⟨.ref c :: rest, []⟩).cUnits + 20 * (T.n - 1) + 100 ≤ 9900; rw [h2]; omega

theorem two_new {C : Cx} {h' : Heap} {a b : Addr} {o o' : AO} {s' : Shared} (R : Rep C Fs H s) (hk : ∀ b o, s.heap.get? b = some o → s'.heap.get? b = some o) (ha : s.heap.objs.size ≤ a) (hb : s.heap.objs.size ≤ b) (h1 : Stands C s'.heap a o) (h2 : Stands C s'.heap b o')
    (hg : s'.gens = s.gens := by rfl) (hos : s'.os = s.os := by rfl) : Rep C Fs (upd (upd H a o) b o') s' := by
  obtain ⟨x, y, z⟩ := R.fresh_ge ha
  obtain ⟨x', y', z'⟩ := R.fresh_ge hb
  refine R.to (fun _ => False) (fun b o _ e => hk b o e) (fun b o e _ _ => hk b o e) (fun _ h => h.elim) (fun _ _ _ _ h => h) (fun c ob e => ?_) hg hos
  unfold upd at e
  split at e
  · cases e; rename_i q; subst q; exact .inr ⟨h2, y', z'⟩
  · split at e
    · cases e; rename_i q; subst q; exact .inr ⟨h1, y, z⟩
    · exact .inl ⟨e, fun h => h⟩

theorem ACode.cls {c fI : Addr} {ps : List PV} {Q : PV → AHeap → Prop} (hm : makesIn T.C.K c = true) (hi : findIn T.C.K (.ref c) "__init__" = some (some (.ref fI))) (ht : typeIn T.C.K (.ref fI) = some (.type "function")) (hn : 1 ≤ T.n)
    (h : ∀ x d, x ≠ d → H x = Option.none → H d = Option.none → ACode T.down Fs (upd (upd H d (.attrs [])) x (.inst c d)) (.ref fI) (.ref x :: ps) (fun p H' => p = .none ∧ Q (.ref x) H') E) : ACode T Fs H (.ref c) ps Q E := fun A s v vs ok R pv prs => by
  rw [pv.ref_inv]
  obtain ⟨hh, g, d, t, os⟩ := s
  have Y := makes_of (M := T.C.M) R.kin hm
  have k : ∀ b o, hh.get? b = some o → ((hh.push emptyDict).push (instObj c hh.objs.size)).get? b = some o := fun b o e => Heap.get?_push_of_some _ (Heap.get?_push_of_some _ e)
  refine make_core Y (looks_findIn R.kin hi) (fun self => bind_fn R.kin self ht) (.inl rfl) ?_
  have h1 := h (hh.objs.size + 1) hh.objs.size (Nat.ne_of_gt (Nat.lt_succ_self _)) (R.fresh_ge (Nat.le_succ _)).1 R.fresh
  have R₁ : Rep T.C Fs (upd (upd H hh.objs.size (.attrs [])) (hh.objs.size + 1) (.inst c hh.objs.size)) ⟨(hh.push emptyDict).push (instObj c hh.objs.size), g, d, t, os⟩ :=
    two_new (h' := hh) R k (Nat.le_refl _) (Nat.le_succ _) stands_attrs0 stands_inst
  have h2 := h1 _ _ (.ref fI) (.ref (hh.objs.size + 1) :: vs) (ok.creation (c := c) (rest := vs) hn) R₁ PR.ref (PRs.cons PR.ref (PRs.keep (TupKeep.of_keep k) _ prs))
  refine codeAny_mono h2 fun r s' x => ?_
  rcases r with e | (u | _ | _ | _)
  · exact x
  all_goals first | exact x.elim | skip
  obtain ⟨p, H', pr, R', k', rfl, hq⟩ := x
  exact ⟨pr.none_inv, _, H', PR.ref, R', (TupKeep.of_keep k).trans k', hq⟩
theorem ACode.cls0 {c : Addr} {Q : PV → AHeap → Prop} (hm : makesIn T.C.K c = true) (hi : findIn T.C.K (.ref c) "__init__" = some (some (.builtin "object.__init__")))
    (h : ∀ x d, x ≠ d → H x = Option.none → H d = Option.none → Q (.ref x) (upd (upd H d (.attrs [])) x (.inst c d))) : ACode T Fs H (.ref c) [] Q E := fun A s v vs ok R pv prs => by
  rw [pv.ref_inv, prs.nil_inv]
  obtain ⟨hh, g, d, t, os⟩ := s
  have Y := makes_of (M := T.C.M) R.kin hm
  have k : ∀ b o, hh.get? b = some o → ((hh.push emptyDict).push (instObj c hh.objs.size)).get? b = some o := fun b o e => Heap.get?_push_of_some _ (Heap.get?_push_of_some _ e)
  have R₁ : Rep T.C Fs (upd (upd H hh.objs.size (.attrs [])) (hh.objs.size + 1) (.inst c hh.objs.size)) ⟨(hh.push emptyDict).push (instObj c hh.objs.size), g, d, t, os⟩ :=
    two_new (h' := hh) R k (Nat.le_refl _) (Nat.le_succ _) stands_attrs0 stands_inst
  have hx : ((hh.push emptyDict).push (instObj c hh.objs.size)).get? (hh.objs.size + 1) = some (instObj c hh.objs.size) := by
    rw [show hh.objs.size + 1 = (hh.push emptyDict).objs.size from (Heap.size_push ..).symm]; exact Heap.get?_push_size _ rfl
  refine make_core Y (looks_findIn R.kin hi) (fun self => Looks.of_pure (oi_bind self)) (.inr ⟨rfl, rfl⟩) ?_
  have t1 : Looks T.C.M ((hh.push emptyDict).push (instObj c hh.objs.size)) (typeOf (.ref (hh.objs.size + 1))) (.ref c) := (Looks.ld hx).andThen .now
  have t2 : Looks T.C.M ((hh.push emptyDict).push (instObj c hh.objs.size)) (isInstance (.ref (hh.objs.size + 1)) (.type "object")) true := t1.andThen (Y.top.keeps k)
  refine codeAny_call_builtin oi_plain entry_oi (@check_slot T.C.M _ _ _ "object.__init__" "object" "__init__" (.ref (hh.objs.size + 1)) [] [] _ oi_kind oi_split t2 (oi_args (.ref (hh.objs.size + 1))) ?_)
  rw [oi_run]
  exact wpAny_pure (And.intro rfl ⟨_, _, PR.ref, R₁, TupKeep.of_keep k, h _ _ (Nat.ne_of_gt (Nat.lt_succ_self _)) (R.fresh_ge (Nat.le_succ _)).1 R.fresh⟩)

theorem stands_aput {C : Cx} {h h' : Heap} {d : Addr} {l : Ls} {name : Str} {p : PV} {v : Value} {m : Str → Option Value} (tk : TupKeep h h') (hn : ∀ x, l.lookup x = none → m x = none) (hs : ∀ x p, l.lookup x = some p → ∃ v, m x = some v ∧ PR h p v)
    (n' : h'.Ns1 d (fun y => if y = name then some v else m y)) (hp : PR h p v) : Stands C h' d (.attrs ((name, p) :: l)) := by
  refine ⟨_, n', fun x e => ?_, fun x q e => ?_⟩
  · rw [List.lookup_cons] at e
    by_cases hx : x = name
    · subst hx; simp at e
    · rw [beq_eq_false_iff_ne.mpr hx] at e; simp [hx, hn x e]
  · rw [List.lookup_cons] at e
    by_cases hx : x = name
    · subst hx; simp at e; subst e; exact ⟨v, by simp, hp.keep tk⟩
    · rw [beq_eq_false_iff_ne.mpr hx] at e
      obtain ⟨u, e1, pr⟩ := hs x q e
      exact ⟨u, by simp [hx, e1], pr.keep tk⟩

theorem ASetAttr.inst {x c d : Addr} {l : Ls} {name : Str} {p : PV} {Q : AHeap → Prop} (hc : ClsOk T.C.K c) (hn : findIn T.C.K (.ref c) name = some none) (hx : H x = some (.inst c d)) (hd : H d = some (.attrs l)) (hz : l.length ≤ 10000) (h : Q (upd H d (.attrs ((name, p) :: l)))) :
    ASetAttr T Fs H name (.ref x) p Q E := fun A s v u ok R pv pu => by
  rw [pv.ref_inv]
  obtain ⟨ox, od, I, hdict, hod, _, _⟩ := instAt_of R hx hd name
  obtain ⟨⟨m, n1, h1, h2⟩, _⟩ := R.objs d _ hd
  refine set_plain R.kin I hc.sa ?_
  have ht : takerIn T.C.K c name = some none := by unfold takerIn; rw [hn]; rfl
  refine osa_open (s := { s with toks := s.toks + 1 }) R.kin I hc.plain ht fun b => ?_
  obtain ⟨cd, hcd, hd'⟩ := any_some hc.cd
  obtain ⟨hx', hcl, hno, -⟩ := I
  obtain ⟨oc, odi, oda, osl⟩ := ox
  dsimp only at hcl hdict
  subst hcl hdict
  refine wpAny_bind (wpAny_pure (wpAny_bind (wpAny_bind (wpAny_loadPart hx' (wpAny_bind (looks_clsIn R.kin hcd _ _ _ _ (fun _ _ e => e) ?_))))))
  rw [hd']
  refine wpAny_pure (a := some d) (wpAny_bind (wpAny_pure (wpAny_bind ?_)))
  refine wpAny_nsSet1 (s := { s with toks := s.toks + 1 }) n1 fun h' n' sb => ?_
  have tk : TupKeep s.heap h' := R.turnKeep (s' := { s with heap := h', toks := s.toks + 1 + 1 }) hd sb.extBut
  have hw : PySem.Within m (l.map (·.1)) := fun y hy => by
    cases e : l.lookup y with
    | none => exact absurd (h1 y e) hy
    | some q => exact List.mem_map.mpr ⟨_, mem_of_lookup e, rfl⟩
  obtain ⟨oD, esD, epD, hoD, hdD, hcD⟩ := n'.count (PySem.Within.cons name u hw)
  refine wpAny_bind (wpAny_lookBehind hoD (by rw [hdD]; exact pastItsLine_dict (Nat.le_trans hcD (by rw [List.length_cons, List.length_map]; exact Nat.le_trans (Nat.succ_le_succ hz) (by decide)))) ?_)
  refine wpAny_pure ?_
  show PostH T Fs s Q _
  exact ⟨_, R.turn (o' := .attrs ((name, p) :: l)) hd sb.extBut (stands_aput tk h1 h2 n' pu), tk, h⟩

theorem AA.attr {o : Expr} {attr : Str} {pos : Pos} {p : PV} {Q : Ls → AHeap → Prop} (h : AE T f Fs H o (fun q H₁ => ASetAttr T (.fr f :: Fs) H₁ attr q p (fun H₂ => Q f.ls H₂) E) E) : AA T f Fs H (.Attribute o attr pos) p Q E := fun A s v ok R pv => by
  rw [arm_assign_Attribute]
  refine wpAny_bind (wpAny_holding (wpAny_mono (h A s ok R) (fun w s₁ ⟨q, H₁, qr, R₁, k₁, h₁⟩ => ?_) fun _ _ x => x))
  refine wpAny_bind (wpAny_standAt (wpAny_bind (wpAny_holding (wpAny_mono (h₁ A s₁ w v ok R₁ qr (pv.keep k₁)) (fun _ s₂ ⟨H₂, R₂, k₂, h₂⟩ => wpA_release ⟨f.ls, H₂, R₂, k₁.trans k₂, h₂⟩) fun _ _ x => x))))
theorem AA.sub {o i : Expr} {pos : Pos} {p : PV} {Q : Ls → AHeap → Prop} (h : AE T f Fs H o (fun q H₁ => AE T f Fs H₁ i (fun j H₂ => ASetItem T (.fr f :: Fs) H₂ q j p (fun H₃ => Q f.ls H₃) E) E) E) : AA T f Fs H (.Subscript o i pos) p Q E := fun A s v ok R pv => by
  rw [arm_assign_Subscript]
  refine wpAny_bind (wpAny_holding (wpAny_mono (h A s ok R) (fun w s₁ ⟨q, H₁, qr, R₁, k₁, h₁⟩ => ?_) fun _ _ x => x))
  refine wpAny_bind (wpAny_holding (wpAny_mono (h₁ A s₁ ok R₁) (fun u s₂ ⟨j, H₂, jr, R₂, k₂, h₂⟩ => ?_) fun _ _ x => x))
  refine wpAny_bind (wpAny_standAt (wpAny_bind (wpAny_holding (wpAny_mono (h₂ A s₂ w u v ok R₂ (qr.keep k₂) jr (pv.keep (k₁.trans k₂))) (fun _ s₃ ⟨H₃, R₃, k₃, h₃⟩ => ?_) fun _ _ x => x))))
  exact wpA_release ⟨f.ls, H₃, R₃, k₁.trans (k₂.trans k₃), h₃⟩

noncomputable def AAs (T : Tr) (f : FR) (Fs : List AF) (H : AHeap) (ts : List Expr) (ps : List PV) (Q : Ls → AHeap → Prop) (E : Value → Shared → Prop) : Prop :=
  ∀ A s vs, AOk T (.fr f :: Fs) A → Rep T.C (.fr f :: Fs) H s → PRs s.heap ps vs → wpAny T.C.M A (assignInOrder ((assignEach ts f.env).map (·.2)) vs) (fun _ s' => PostA T f Fs s Q s') E s
theorem AAs.nil {Q : Ls → AHeap → Prop} (h : Q f.ls H) : AAs T f Fs H [] [] Q E := fun A s vs ok R pv => by
  rw [pv.nil_inv]
  exact wpAny_pure ⟨f.ls, H, R, TupKeep.refl _, h⟩
theorem AAs.cons {t : Expr} {ts : List Expr} {p : PV} {ps : List PV} {Q : Ls → AHeap → Prop} (he : assignEach (t :: ts) f.env = (false, assign t f.env) :: assignEach ts f.env)
    (h : AA T f Fs H t p (fun ls' H₁ => AAs T { f with ls := ls' } Fs H₁ ts ps Q E) E) : AAs T f Fs H (t :: ts) (p :: ps) Q E := fun A s vs ok R pv => by
  obtain ⟨v, r, rfl, pr, prs⟩ := pv.cons_inv
  rw [he]
  show wpAny T.C.M A (holding r (assign t f.env v) >>= fun _ => assignInOrder ((assignEach ts f.env).map (·.2)) r) _ _ _
  refine wpAny_bind (wpAny_holding (wpAny_mono (h A s v ok R pr) (fun _ s₁ ⟨ls', H₁, R₁, k₁, h₁⟩ => ?_) fun _ _ x => x))
  exact wpAny_mono (h₁ A s₁ r (AOk.any ok) R₁ (PRs.keep k₁ _ prs)) (fun _ s₂ ⟨ls'', H₂, R₂, k₂, h₂⟩ => ⟨ls'', H₂, R₂, k₁.trans k₂, h₂⟩) fun _ _ x => x
theorem AA.tup {es : List Expr} {k : Nat} {pos : Pos} {ps : List PV} {Q : Ls → AHeap → Prop} (hh : T.hd = false) (hn : (assignEach es f.env).length = ps.length) (hst : (assignEach es f.env).findIdx? (·.1) = none)
    (h : AAs T f Fs H es ps Q E) : AA T f Fs H (.Tuple es k pos) (.tup ps) Q E := fun A s v ok R pv => by
  obtain ⟨a, o, vs, n, rfl, ho, hc, hd, hs, r⟩ := pv.tup_inv
  have it : IsTup s.heap a vs := ⟨o, ho, hc, n, hs⟩
  refine assign_Tuple_tuple (ok.handled hh) it (by rw [hn, r.length, Array.length_toList]) hst fun h' ext => ?_
  have kp : ∀ b o, s.heap.get? b = some o → h'.get? b = some o := fun b o e => ext b o (Nat.ne_of_lt (Heap.lt_size e)) e
  exact wpAny_mono (h A { s with heap := h' } vs.toList ok (R.ext kp) (PRs.keep (TupKeep.of_keep kp) _ r)) (fun _ s₂ ⟨ls'', H₂, R₂, k₂, h₂⟩ => ⟨ls'', H₂, R₂, (TupKeep.of_keep kp).trans k₂, h₂⟩) fun _ _ x => x
end
end
section
open PySem PySem.W PyProof.Rows PySem.Calls
inductive AIt where
  | list (a : Addr) (i : Nat)
  | range (x left : Int)
noncomputable def IsIt (o : Obj) : AIt → Prop
  | .list a i => o.cls = .type "list_iterator" ∧ o.data = .fields #[.ref a, .int i 0]
  | .range x left => o = { cls := .type "range_iterator", dict := none, data := .fields #[rawInt x, rawInt left, rawInt 1], slots := #[] }
theorem IsIt.notTup {o : Obj} : ∀ {x : AIt}, IsIt o x → NotTup o
  | .list a i, ⟨h, _⟩ => .cls (by rw [h]; decide)
  | .range _ _, h => .cls (by rw [show o = _ from h]; show Value.type "range_iterator" ≠ Value.type "tuple"; decide)
noncomputable def ItTurn (H : AHeap) (x : AIt) (K : PV → AIt → Prop) (D : Prop) : Prop := match x with
  | .list a i => ∃ l, H a = some (.list l) ∧ (∀ p, l[i]? = some p → K p (.list a (i + 1))) ∧ (l[i]? = none → D)
  | .range x left => (0 < left → K (.int x) (.range (x + 1) (left - 1))) ∧ (left ≤ 0 → D)

section
variable {T : Tr} {f : FR} {env : Env} {ls : Ls} {Fs : List AF} {H : AHeap} {E : Value → Shared → Prop} {s : Shared} {A : Around}

theorem Rep.unhide {C : Cx} {pre post : List AF} {a : Addr} {o : Obj} {s' : Shared} (R : Rep C (pre ++ .hid a o :: post) H s) (hk : Heap.ExtBut a s.heap s'.heap)
    (hg : s'.gens = s.gens := by rfl) (hos : s'.os = s.os := by rfl) : Rep C (pre ++ post) H s' ∧ TupKeep s.heap s'.heap := by
  obtain ⟨p1, p2, p3⟩ := List.pairwise_append.mp R.apart
  obtain ⟨q1, q2⟩ := List.pairwise_cons.mp p2
  obtain ⟨⟨ho, hoc⟩, hb⟩ := R.frs (.hid a o) (by simp)
  have hb := hb a List.mem_cons_self
  have tk : TupKeep s.heap s'.heap := TupKeep.of_ext hk fun o₁ e => by rw [ho] at e; cases e; exact hoc
  have nf : ∀ f ∈ pre ++ post, a ∉ f.reads := fun f hf => by
    rcases List.mem_append.mp hf with hf | hf
    · exact (p3 f hf _ (.head _)).2 a List.mem_cons_self
    · exact (q1 f hf).1 a List.mem_cons_self
  exact ⟨(R.sub (List.Sublist.append (List.Sublist.refl _) (List.sublist_cons_self _ _))).to (fun b => b = a) (fun b o hb e => hk b o hb e) tk (fun b h => h ▸ hb) (fun g hg b hb h => nf g hg (h ▸ hb))
    (fun b ob e => .inl ⟨e, fun h => (R.objs b ob e).2.2 (.hid a o) (by simp) (h ▸ List.mem_cons_self)⟩) hg hos, tk⟩
theorem Rep.swap {C : Cx} {a : Addr} {o : Obj} {g : AF} (R : Rep C (.hid a o :: g :: Fs) H s) : Rep C (g :: .hid a o :: Fs) H s := by
  obtain ⟨a1, a2⟩ := List.pairwise_cons.mp R.apart
  obtain ⟨b1, b2⟩ := List.pairwise_cons.mp a2
  have h := a1 g (.head _)
  have ha : a ∉ g.reads := h.1 a List.mem_cons_self
  refine ⟨R.ok, R.keep, R.gens, R.os, fun x hx => R.frs x (by simp only [List.mem_cons] at hx ⊢; rcases hx with h | h | h <;> simp [h]), List.pairwise_cons.mpr ⟨fun x hx => ?_, List.pairwise_cons.mpr ⟨fun x hx => a1 x (.tail _ hx), b2⟩⟩, fun b ob e => ?_⟩
  · rcases List.mem_cons.mp hx with rfl | hx
    · exact ⟨fun b hb hb' => ha (by rw [← List.mem_singleton.mp hb']; exact AF.owns_reads hb), fun b hb => by rw [List.mem_singleton.mp hb]; exact ha⟩
    · exact b1 x hx
  · obtain ⟨x, y, z⟩ := R.objs b ob e
    exact ⟨x, y, fun k hk => z k (by simp only [List.mem_cons] at hk ⊢; rcases hk with h | h | h <;> simp [h])⟩

theorem AOk.hid {c : FK} {ls ls' : Ls} {a : Addr} {o : Obj} (ok : AOk T (.fr ⟨c, env, ls⟩ :: Fs) A) : AOk T (.fr ⟨c, env, ls'⟩ :: .hid a o :: Fs) A := by
  cases c <;> exact ⟨ok.frames, ok.depth, ok.units, ok.handled⟩
theorem wp_next {pre post : List AF} {it : Addr} {o : Obj} {x : AIt} {K : PV → AIt → Prop} {D : Prop} {Q : Option Value → Shared → Prop} (hh : A.handled = none) (R : Rep T.C (pre ++ .hid it o :: post) H s) (hi : IsIt o x) (ht : ItTurn H x K D)
    (hK : ∀ p x' v o' s', K p x' → IsIt o' x' → PR s'.heap p v → Rep T.C (pre ++ .hid it o' :: post) H s' → TupKeep s.heap s'.heap → Q (some v) s')
    (hD : ∀ s', D → Rep T.C (pre ++ post) H s' → TupKeep s.heap s'.heap → Q none s') : wpAny T.C.M A (pyNext (.ref it)) Q E s := by
  obtain ⟨⟨ho, _⟩, _⟩ := R.frs (.hid it o) (by simp)
  cases x with
  | list a i =>
    obtain ⟨l, hl, h1, h2⟩ := ht
    obtain ⟨vs, il, r⟩ := isList_of (R.objs a _ hl).1
    have hit : s.heap.IsListIter it a i := ⟨o, ho, hi.1, hi.2⟩
    cases e : l[i]? with
    | some p =>
      obtain ⟨v, ev, pr⟩ := item_of r e
      refine wpAny_pyNext_list_item hit il ev fun h' hit' sb => ?_
      obtain ⟨o', ho', hc', hd'⟩ := hit'
      obtain ⟨R', tk⟩ := R.hidden (s' := { s with heap := h' }) sb.extBut ho' (IsIt.notTup (x := .list a (i + 1)) ⟨hc', hd'⟩)
      exact hK p _ v o' _ (h1 p e) ⟨hc', hd'⟩ (pr.keep tk) R' tk
    | none =>
      have ev : vs[i]? = none := by
        rw [← Array.getElem?_toList]
        have := r.length
        rw [List.getElem?_eq_none_iff] at e ⊢
        omega
      refine wpAny_pyNext_list_end hh hit il ev fun h' ext => ?_
      obtain ⟨R', tk⟩ := R.unhide (s' := { s with heap := h' }) ext
      exact hD _ (h2 e) R' tk
  | range x left =>
    obtain ⟨h1, h2⟩ := ht
    have hit : IsRangeIter s.heap it x left 1 := by rw [show o = _ from hi] at ho; exact ho
    by_cases hl : 0 < left
    · refine wpAny_pyNext_range_item hit hl fun h' hit' sb => ?_
      obtain ⟨R', tk⟩ := R.hidden (s' := { s with heap := h', toks := s.toks + 1 }) sb.extBut hit' (IsIt.notTup (x := .range (x + 1) (left - 1)) rfl)
      exact hK _ _ _ _ _ (h1 hl) rfl PR.int R' tk
    · refine wpAny_pyNext_range_end hh hit (by omega) fun h' ext => ?_
      obtain ⟨R', tk⟩ := R.unhide (s' := { s with heap := h' }) ext
      exact hD _ (h2 (by omega)) R' tk

noncomputable def AIter (T : Tr) (Fs : List AF) (H : AHeap) (p : PV) (x : AIt) : Prop :=
  ∀ A s v (Q : Value → Shared → Prop) E, AOk T Fs A → Rep T.C Fs H s → PR s.heap p v → (∀ it o s', IsIt o x → Rep T.C (.hid it o :: Fs) H s' → TupKeep s.heap s'.heap → Q (.ref it) s') → wpAny T.C.M A (pyIter v) Q E s
theorem AIter.list {a : Addr} {l : List PV} (hH : H a = some (.list l)) : AIter T Fs H (.ref a) (.list a 0) := fun A s v Q E ok R pv h => by
  rw [pv.ref_inv]
  obtain ⟨vs, il, r⟩ := isList_of (R.objs a _ hH).1
  exact wpAny_pyIter_list il (h _ _ _ ⟨rfl, rfl⟩ (R.hide push_keep (Nat.le_refl _) (Heap.get?_push_size _ rfl) (.cls (by show Value.type "list_iterator" ≠ Value.type "tuple"; decide))) (TupKeep.of_keep push_keep))
theorem AIter.range {a : Addr} {x y : Int} (hH : H a = some (.range x y)) (hx : -(2 ^ 62) ≤ x) (hx' : x < 2 ^ 62) (hy : -(2 ^ 62) ≤ y) (hy' : y < 2 ^ 62) : AIter T Fs H (.ref a) (.range x (if x < y then y - x else 0)) := fun A s v Q E ok R pv h => by
  rw [pv.ref_inv]
  obtain ⟨t, u, w, ir⟩ := (R.objs a _ hH).1
  refine wpAny_pyIter_range ir (small_one hx hx' hy hy') ?_
  rw [rangeSize_one]
  exact (h _ _ _ rfl (R.hide push_keep (Nat.le_refl _) (Heap.get?_push_size _ rfl) (.cls (by show Value.type "range_iterator" ≠ Value.type "tuple"; decide))) (TupKeep.of_keep push_keep))

theorem wp_letOwned {pre post : List AF} {it : Addr} {o : Obj} {x : AIt} {t : Expr} {v : Value} {C : Cx} {M : Model} {Q : Unit → Shared → Prop} (R : Rep C (pre ++ .hid it o :: post) H s) (hi : IsIt o x) (h : Q () s) : wpAny M A (letOwnedTupleGo t (.ref it) v) Q E s := by
  obtain ⟨⟨ho, _⟩, _⟩ := R.frs (.hid it o) (by simp)
  have main : wpAny M A (do
    let (.ref r, .ref a) := (Value.ref it, v) | return
    let o ← load r
    match o.cls, o.data with
    | .type n, .fields vs =>
      if ["enumerate", "zip", "dict_itemiterator", "dict_reverseitemiterator", "odict_iterator", "itertools.zip_longest", "itertools.pairwise"].contains n && vs[0]? == some (rawInt a) then
        rule "for.unpacks-the-owned-tuple"
        updateField r 0 .none
    | _, _ => pure ()) Q E s := by
    cases v <;> first | exact wpAny_pure h | skip
    refine wpAny_bind (wpAny_load ho ?_)
    cases x with
    | list a i =>
      rw [hi.1, hi.2]; dsimp only
      exact wpAny_pure h
    | range x y =>
      rw [show o = _ from hi]; dsimp only
      exact wpAny_pure h
  cases t <;> first | exact wpAny_pure h | exact main

theorem AA.mono {t : Expr} {p : PV} {Q Q' : Ls → AHeap → Prop} (h : AA T f Fs H t p Q E) (hq : ∀ ls H, Q ls H → Q' ls H) : AA T f Fs H t p Q' E :=
  fun A s v ok R pv => wpAny_mono (h A s v ok R pv) (fun _ s' ⟨ls', H', a, b, c⟩ => ⟨ls', H', a, b, hq _ _ c⟩) fun _ _ x => x
noncomputable def LoopQ (next : Ls → AHeap → Prop) (Q : AFl → Ls → AHeap → Prop) (a : AFl) (ls : Ls) (H : AHeap) : Prop := match a with
  | .next => next ls H
  | .cont => next ls H
  | .brk => Q .next ls H
  | .ret p => Q (.ret p) ls H

noncomputable def ForTail (T : Tr) (env : Env) (Fs : List AF) (ls : Ls) (target : Expr) (body : List Stmt) (Q : AFl → Ls → AHeap → Prop) (E : Value → Shared → Prop) (p : PV) (H₁ : AHeap) : Prop :=
  ∀ A s s₁ v, AOk T (.fr ⟨.fn, env, ls⟩ :: Fs) A → Rep T.C (.fr ⟨.fn, env, ls⟩ :: Fs) H₁ s₁ → PR s₁.heap p v → TupKeep s.heap s₁.heap →
    wpAny T.C.M A (pyIter v) (fun it s₂ => codeAny T.C.M A (.forLoop target it body [] env) (fun r s' => match r with | .ok f => PostX T env Fs s Q f s' | .error e => cameBackBy T.C.M A env E e s') s₂) E s₁
theorem AS.forTail {target iter : Expr} {body : List Stmt} {pos : Pos} {Q : AFl → Ls → AHeap → Prop} (hs : ∀ x, foldedSetIterable iter env x = pure x) (h : AE T ⟨.fn, env, ls⟩ Fs H iter (ForTail T env Fs ls target body Q E) E) :
    AS T env Fs ls H (.For target iter body [] pos) Q E := fun A s ok R =>
  wpAny_For (wpAny_mono (h A s ok R) (fun v s₁ ⟨p, H₁, pr, R₁, k₁, h⟩ => h A s s₁ v ok R₁ pr k₁) fun _ _ e => e) hs
theorem for_tail {target : Expr} {body : List Stmt} {Q : AFl → Ls → AHeap → Prop} {p : PV} {H₁ : AHeap} (hh : T.hd = false)
    (h : ∃ x, AIter T (.fr ⟨.fn, env, ls⟩ :: Fs) H₁ p x ∧ ∃ (I : Nat → AIt → Ls → AHeap → Prop) (n : Nat), I n x ls H₁ ∧
      ∀ n x ls' H', I n x ls' H' → ItTurn H' x (fun p x' => ∀ Fs', AA T ⟨.fn, env, ls'⟩ Fs' H' target p (fun ls₁ H₁ => AX T env Fs' ls₁ H₁ body (LoopQ (fun ls₂ H₂ => ∃ m, m < n ∧ I m x' ls₂ H₂) Q) NoE) NoE) (Q .next ls' H')) :
    ForTail T env Fs ls target body Q E p H₁ := fun A s s₁ v ok R₁ pr k₁ => by
  obtain ⟨x, hx, I, n, hI, turn⟩ := h
  refine hx A s₁ v _ _ ok R₁ pr fun it o s₂ hi R₂ k₂ => ?_
  have R₂ := R₂.swap
  refine codeAny_forLoop_any (fun n s' => ∃ x ls' H' o, IsIt o x ∧ I n x ls' H' ∧ Rep T.C (.fr ⟨.fn, env, ls'⟩ :: .hid it o :: Fs) H' s' ∧ TupKeep s.heap s'.heap) ?_ n ⟨x, ls, H₁, o, hi, hI, R₂, k₁.trans k₂⟩
  rintro n s₃ ⟨x, ls', H', o, hi, hI, R₃, k₃⟩
  refine wp_next (pre := [.fr ⟨.fn, env, ls'⟩]) (ok.handled hh) R₃ hi (turn n x ls' H' hI) (fun p x' v o' s₄ hK hi' pv R₄ k₄ => ?_) (fun s₄ hD R₄ k₄ => ?_)
  · dsimp only
    refine wp_letOwned (pre := [.fr ⟨.fn, env, ls'⟩]) R₄ hi' ?_
    refine wpAny_mono (hK (.hid it o' :: Fs) A s₄ v (AOk.hid ok) R₄ pv) (fun _ s₅ ⟨ls₁, H₁', R₅, k₅, hX⟩ => ?_) fun _ _ e => e.elim
    refine wpAny_mono (hX A s₅ (AOk.hid ok) R₅) (fun fl s₆ ⟨a, ls₂, H₂', fr, R₆, k₆, hQ⟩ => ?_) fun _ _ e => e.elim
    have kk := k₃.trans (k₄.trans (k₅.trans k₆))
    rcases a with _ | _ | _ | p <;> cases fl <;> first | exact fr.elim | skip
    · obtain ⟨m, hm, hI'⟩ := hQ; exact ⟨m, hm, x', ls₂, H₂', o', hi', hI', R₆, kk⟩
    · exact ⟨.next, ls₂, H₂', trivial, R₆.pop2, kk, hQ⟩
    · obtain ⟨m, hm, hI'⟩ := hQ; exact ⟨m, hm, x', ls₂, H₂', o', hi', hI', R₆, kk⟩
    · exact ⟨.ret p, ls₂, H₂', fr, R₆.pop2, kk, hQ⟩
  · exact wpAny_execs_nil ⟨.next, ls', H', trivial, R₄, k₃.trans k₄, hD⟩
theorem it_list {target : Expr} {body : List Stmt} {Q : AFl → Ls → AHeap → Prop} {p : PV} {H₁ : AHeap}
    (h : ∃ a l, p = .ref a ∧ H₁ a = some (.list l) ∧ ∃ J : Nat → Ls → AHeap → Prop, J 0 ls H₁ ∧
      (∀ i ls' H', J i ls' H' → H' a = some (.list l)) ∧
      (∀ i p ls' H' Fs', l[i]? = some p → J i ls' H' → AA T ⟨.fn, env, ls'⟩ Fs' H' target p (fun ls₁ H₁ => AX T env Fs' ls₁ H₁ body (LoopQ (J (i + 1)) Q) NoE) NoE) ∧ ∀ ls' H', J l.length ls' H' → Q .next ls' H') :
    ∃ x, AIter T (.fr ⟨.fn, env, ls⟩ :: Fs) H₁ p x ∧ ∃ (I : Nat → AIt → Ls → AHeap → Prop) (n : Nat), I n x ls H₁ ∧
      ∀ n x ls' H', I n x ls' H' → ItTurn H' x (fun p x' => ∀ Fs', AA T ⟨.fn, env, ls'⟩ Fs' H' target p (fun ls₁ H₁ => AX T env Fs' ls₁ H₁ body (LoopQ (fun ls₂ H₂ => ∃ m, m < n ∧ I m x' ls₂ H₂) Q) NoE) NoE) (Q .next ls' H') := by
  obtain ⟨a, l, rfl, hl, J, h0, h1, h2, h3⟩ := h
  refine ⟨.list a 0, AIter.list hl, fun n x ls' H' => ∃ i, x = .list a i ∧ n = l.length - i ∧ i ≤ l.length ∧ J i ls' H', l.length, ⟨0, rfl, rfl, Nat.zero_le _, h0⟩, ?_⟩
  rintro n x ls' H' ⟨i, rfl, rfl, hle, hJ⟩
  refine ⟨l, h1 i ls' H' hJ, fun p e Fs' => ?_, fun e => ?_⟩
  · have hlt := (List.getElem?_eq_some_iff.mp e).1
    refine AA.mono (h2 i p ls' H' Fs' e hJ) fun ls₁ H₁ hX => AX.mono hX fun a ls₂ H₂ hQ => ?_
    cases a <;> first | exact hQ | exact ⟨l.length - (i + 1), by omega, i + 1, rfl, rfl, hlt, hQ⟩
  · have : i = l.length := by rw [List.getElem?_eq_none_iff] at e; omega
    subst this; exact h3 ls' H' hJ
theorem it_grow {target : Expr} {body : List Stmt} {Q : AFl → Ls → AHeap → Prop} {p : PV} {H₁ : AHeap}
    (h : ∃ a, p = .ref a ∧ (∃ l, H₁ a = some (.list l)) ∧ ∃ (J : Nat → Nat → Ls → AHeap → Prop) (n : Nat), J n 0 ls H₁ ∧
      ∀ n i ls' H', J n i ls' H' → ∃ l, H' a = some (.list l) ∧ (∀ p Fs', l[i]? = some p → AA T ⟨.fn, env, ls'⟩ Fs' H' target p (fun ls₁ H₁ => AX T env Fs' ls₁ H₁ body (LoopQ (fun ls₂ H₂ => ∃ m, m < n ∧ J m (i + 1) ls₂ H₂) Q) NoE) NoE) ∧
        (l.length ≤ i → Q .next ls' H')) :
    ∃ x, AIter T (.fr ⟨.fn, env, ls⟩ :: Fs) H₁ p x ∧ ∃ (I : Nat → AIt → Ls → AHeap → Prop) (n : Nat), I n x ls H₁ ∧
      ∀ n x ls' H', I n x ls' H' → ItTurn H' x (fun p x' => ∀ Fs', AA T ⟨.fn, env, ls'⟩ Fs' H' target p (fun ls₁ H₁ => AX T env Fs' ls₁ H₁ body (LoopQ (fun ls₂ H₂ => ∃ m, m < n ∧ I m x' ls₂ H₂) Q) NoE) NoE) (Q .next ls' H') := by
  obtain ⟨a, rfl, ⟨l, hl⟩, J, n, h0, h1⟩ := h
  refine ⟨.list a 0, AIter.list hl, fun n x ls' H' => ∃ i, x = .list a i ∧ J n i ls' H', n, ⟨0, rfl, h0⟩, ?_⟩
  rintro n x ls' H' ⟨i, rfl, hJ⟩
  obtain ⟨l, hl, h2, h3⟩ := h1 n i ls' H' hJ
  refine ⟨l, hl, fun p e Fs' => ?_, fun e => h3 (List.getElem?_eq_none_iff.mp e)⟩
  refine AA.mono (h2 p Fs' e) fun ls₁ H₁ hX => AX.mono hX fun a ls₂ H₂ hQ => ?_
  cases a <;> first | exact hQ | (obtain ⟨m, hm, hJ'⟩ := hQ; exact ⟨m, hm, i + 1, rfl, hJ'⟩)
theorem it_range {target : Expr} {body : List Stmt} {Q : AFl → Ls → AHeap → Prop} {p : PV} {H₁ : AHeap}
    (h : ∃ (a : Addr) (n : Nat), p = .ref a ∧ H₁ a = some (.range 0 n) ∧ n < 2 ^ 62 ∧ ∃ J : Nat → Ls → AHeap → Prop, J 0 ls H₁ ∧
      (∀ i ls' H' Fs', i < n → J i ls' H' → AA T ⟨.fn, env, ls'⟩ Fs' H' target (.int i) (fun ls₁ H₁ => AX T env Fs' ls₁ H₁ body (LoopQ (J (i + 1)) Q) NoE) NoE) ∧ ∀ ls' H', J n ls' H' → Q .next ls' H') :
    ∃ x, AIter T (.fr ⟨.fn, env, ls⟩ :: Fs) H₁ p x ∧ ∃ (I : Nat → AIt → Ls → AHeap → Prop) (n : Nat), I n x ls H₁ ∧
      ∀ n x ls' H', I n x ls' H' → ItTurn H' x (fun p x' => ∀ Fs', AA T ⟨.fn, env, ls'⟩ Fs' H' target p (fun ls₁ H₁ => AX T env Fs' ls₁ H₁ body (LoopQ (fun ls₂ H₂ => ∃ m, m < n ∧ I m x' ls₂ H₂) Q) NoE) NoE) (Q .next ls' H') := by
  obtain ⟨a, n, rfl, hl, hz, J, h0, h2, h3⟩ := h
  refine ⟨_, AIter.range hl (by decide) (by decide) (by omega) (by exact_mod_cast hz), fun k x ls' H' => ∃ i : Nat, x = .range i (n - i) ∧ k = n - i ∧ i ≤ n ∧ J i ls' H', n, ⟨0, ?_, rfl, Nat.zero_le _, h0⟩, ?_⟩
  · congr 1
    split <;> omega
  rintro k x ls' H' ⟨i, rfl, rfl, hle, hJ⟩
  refine ⟨fun hp Fs' => ?_, fun e => ?_⟩
  · refine AA.mono (h2 i ls' H' Fs' (by omega) hJ) fun ls₁ H₁ hX => AX.mono hX fun a ls₂ H₂ hQ => ?_
    cases a <;> first | exact hQ | exact ⟨n - (i + 1), by omega, i + 1, by congr 1; push_cast; omega, rfl, by omega, hQ⟩
  · have : i = n := by omega
    subst this; exact h3 ls' H' hJ

theorem AS.while_ {test : Expr} {body : List Stmt} {pos : Pos} {Q : AFl → Ls → AHeap → Prop} (I : Nat → Ls → AHeap → Prop) (n : Nat) (h0 : I n ls H)
    (turn : ∀ n ls' H', I n ls' H' → AT T ⟨.fn, env, ls'⟩ Fs H' test (fun b H₁ => if b then AX T env Fs ls' H₁ body (LoopQ (fun ls₂ H₂ => ∃ m, m < n ∧ I m ls₂ H₂) Q) NoE else Q .next ls' H₁) NoE) :
    AS T env Fs ls H (.While test body [] pos) Q E := fun A s ok R => by
  refine wpAny_While (codeAny_whileLoop (fun n s' => ∃ ls' H', I n ls' H' ∧ Rep T.C (.fr ⟨.fn, env, ls'⟩ :: Fs) H' s' ∧ TupKeep s.heap s'.heap) ?_ n ⟨ls, H, h0, R, TupKeep.refl _⟩)
  rintro n s₁ ⟨ls', H', hI, R₁, k₁⟩
  refine wpAny_mono (turn n ls' H' hI A s₁ (AOk.any ok) R₁) (fun b s₂ ⟨H₂, R₂, k₂, hb⟩ => ?_) fun _ _ e => e.elim
  cases b with
  | false => exact wpAny_execs_nil ⟨.next, ls', H₂, trivial, R₂, k₁.trans k₂, hb⟩
  | true =>
    refine wpAny_mono (hb A s₂ (AOk.any ok) R₂) (fun fl s₃ ⟨a, ls₃, H₃, fr, R₃, k₃, hQ⟩ => ?_) fun _ _ e => e.elim
    have kk := k₁.trans (k₂.trans k₃)
    rcases a with _ | _ | _ | p <;> cases fl <;> first | exact fr.elim | skip
    · obtain ⟨m, hm, hI'⟩ := hQ; exact ⟨m, hm, ls₃, H₃, hI', R₃, kk⟩
    · exact ⟨.next, ls₃, H₃, trivial, R₃, kk, hQ⟩
    · obtain ⟨m, hm, hI'⟩ := hQ; exact ⟨m, hm, ls₃, H₃, hI', R₃, kk⟩
    · exact ⟨.ret p, ls₃, H₃, fr, R₃, kk, hQ⟩
end
end
section
open PySem PySem.W PyProof.Rows PySem.Calls
noncomputable def All2 {α β : Type} (R : α → β → Prop) : List α → List β → Prop
  | [], bs => bs = []
  | a :: as, bs => ∃ b r, bs = b :: r ∧ R a b ∧ All2 R as r
noncomputable def HD (C : Cx) (H : AHeap) : Nat → PV → Dat → Prop
  | _, .none, d => d = .none
  | _, .int i, d => d = .int i
  | _, .str x, d => d = .str x ∧ PyData.strOk x = true
  | n + 1, .tup l, d => ∃ ds, d = .tuple ds ∧ All2 (HD C H n) l ds
  | n + 1, .ref a, d => ∃ l ds, LAt C H a l ∧ d = .list ds ∧ All2 (HD C H n) l ds
  | _, _, _ => False

theorem All2.mk {α β : Type} {R : α → β → Prop} {a : α} {b : β} {l : List α} {m : List β} (h : R a b) (t : All2 R l m) : All2 R (a :: l) (b :: m) := ⟨b, m, rfl, h, t⟩
theorem HD.none' {C : Cx} {H : AHeap} {n : Nat} : HD C H (n + 1) .none .none := rfl
theorem HD.int' {C : Cx} {H : AHeap} {n : Nat} {i : Int} : HD C H (n + 1) (.int i) (.int i) := rfl
theorem HD.str' {C : Cx} {H : AHeap} {n : Nat} {x : Str} (h : PyData.strOk x = true) : HD C H (n + 1) (.str x) (.str x) := ⟨rfl, h⟩
theorem HD.tup' {C : Cx} {H : AHeap} {n : Nat} {l : List PV} {ds : List Dat} (h : All2 (HD C H n) l ds) : HD C H (n + 1) (.tup l) (.tuple ds) := ⟨ds, rfl, h⟩
theorem HD.list' {C : Cx} {H : AHeap} {n : Nat} {a : Addr} {l : List PV} {ds : List Dat} (hl : LAt C H a l) (h : All2 (HD C H n) l ds) : HD C H (n + 1) (.ref a) (.list ds) := ⟨l, ds, hl, rfl, h⟩
section
variable {T : Tr} {f : FR} {env : Env} {ls : Ls} {Fs : List AF} {H : AHeap} {E : Value → Shared → Prop} {s : Shared} {A : Around}

theorem HD.okAll {C : Cx} {n : Nat} (ih : ∀ p d, HD C H n p d → kqdOk n d = true) : ∀ (l : List PV) (ds : List Dat), All2 (HD C H n) l ds → ∀ d ∈ ds, kqdOk n d = true
  | [], ds, h, d, hd => by rw [show ds = [] from h] at hd; cases hd
  | p :: l, ds, ⟨b, r, e, x, y⟩, d, hd => by
    subst e
    rcases List.mem_cons.mp hd with rfl | hd
    · exact ih p _ x
    · exact HD.okAll ih l r y d hd
theorem HD.ok {C : Cx} : ∀ (n : Nat) (p : PV) (d : Dat), HD C H n p d → kqdOk n d = true
  | n, .none, d, h => by cases n <;> (change d = .none at h; subst h; rfl)
  | n, .int i, d, h => by cases n <;> (change d = .int i at h; subst h; rfl)
  | n, .str i, d, h => by cases n <;> (change d = .str i ∧ PyData.strOk i = true at h; obtain ⟨rfl, h⟩ := h; exact h)
  | n + 1, .tup l, d, h => by
    change ∃ ds, d = .tuple ds ∧ All2 (HD C H n) l ds at h
    obtain ⟨ds, rfl, h⟩ := h
    simpa [kqdOk] using HD.okAll (fun p d => HD.ok n p d) l ds h
  | n + 1, .ref a, d, h => by
    change ∃ l ds, LAt C H a l ∧ d = .list ds ∧ All2 (HD C H n) l ds at h
    obtain ⟨l, ds, _, rfl, h⟩ := h
    simpa [kqdOk] using HD.okAll (fun p d => HD.ok n p d) l ds h
  | 0, .tup l, d, h => False.elim h
  | 0, .ref l, d, h => False.elim h
  | n, .bool _, d, h => by cases n <;> exact False.elim h
  | n, .ty _, d, h => by cases n <;> exact False.elim h
  | n, .bi _, d, h => by cases n <;> exact False.elim h
theorem HD.readsAll {C : Cx} {n : Nat} (ih : ∀ p d v, HD C H n p d → PR s.heap p v → ∃ as, Reads s.heap v (kqdP d) as) : ∀ (l : List PV) (ds : List Dat) (vs : List Value), All2 (HD C H n) l ds → PRs s.heap l vs → ∃ as, ReadsAll s.heap vs (kqdPs ds) as
  | [], ds, vs, h, r => by rw [show ds = [] from h, r.nil_inv]; exact ⟨_, ReadsAll.nil⟩
  | p :: l, ds, vs, ⟨b, r, e, x, y⟩, r' => by
    subst e
    obtain ⟨v, vs, rfl, pr, r'⟩ := r'.cons_inv
    obtain ⟨as, q⟩ := ih p b v x pr
    obtain ⟨bs, q'⟩ := HD.readsAll ih l r vs y r'
    rw [kqdPs]
    exact ⟨_, ReadsAll.cons q q'⟩
theorem HD.reads {C : Cx} (R : Rep C Fs H s) : ∀ (n : Nat) (p : PV) (d : Dat) (v : Value), HD C H n p d → PR s.heap p v → ∃ as, Reads s.heap v (kqdP d) as
  | n, .none, d, v, h, r => by cases n <;> (change d = .none at h; subst h; rw [r.none_inv]; exact ⟨_, Reads.none⟩)
  | n, .int i, d, v, h, r => by cases n <;> (change d = .int i at h; subst h; obtain ⟨t, rfl⟩ := r.int_inv; exact ⟨_, Reads.int i t⟩)
  | n, .str i, d, v, h, r => by cases n <;> (change d = .str i ∧ PyData.strOk i = true at h; obtain ⟨rfl, h⟩ := h; obtain ⟨t, rfl⟩ := r.str_inv; exact ⟨_, Reads.str i t⟩)
  | n + 1, .tup l, d, v, h, r => by
    change ∃ ds, d = .tuple ds ∧ All2 (HD C H n) l ds at h
    obtain ⟨ds, rfl, h⟩ := h
    obtain ⟨a, o, vs, k, rfl, ho, hc, hd, hs, rr⟩ := r.tup_inv
    obtain ⟨as, q⟩ := HD.readsAll (fun p d v => HD.reads R n p d v) l ds vs.toList h rr
    rw [kqdP]
    exact ⟨_, reads_tuple_at ho hc hs q⟩
  | n + 1, .ref a, d, v, h, r => by
    change ∃ l ds, LAt C H a l ∧ d = .list ds ∧ All2 (HD C H n) l ds at h
    obtain ⟨l, ds, hl, rfl, h⟩ := h
    rw [r.ref_inv]
    obtain ⟨vs, k, il, rr⟩ := R.lat hl
    obtain ⟨as, q⟩ := HD.readsAll (fun p d v => HD.reads R n p d v) l ds vs.toList h rr
    rw [kqdP]
    exact ⟨_, reads_list_at il rfl rfl q⟩
  | 0, .tup l, d, v, h, r => False.elim h
  | 0, .ref l, d, v, h, r => False.elim h
  | n, .bool _, d, v, h, r => by cases n <;> exact False.elim h
  | n, .ty _, d, v, h, r => by cases n <;> exact False.elim h
  | n, .bi _, d, v, h, r => by cases n <;> exact False.elim h
theorem shaped_of {C : Cx} {n : Nat} {p : PV} {d : Dat} (hn : n ≤ 9) (h : HD C H n p d) : SeqAt.shaped (kqdP d) = true := by
  have l := kqd_lay n d (HD.ok n p d h)
  unfold SeqAt.shaped
  rw [l.1, Bool.true_and]; exact decide_eq_true (Nat.le_trans l.2 (by omega))

theorem ACmp.eqData {p q : PV} {d e : Dat} {Q : Bool → AHeap → Prop} (hp : HD T.C H 9 p d) (hq : HD T.C H 9 q e) (h : ∀ b, (b = true ↔ d = e) → Q b H) : ACmp T Fs H .Eq p q Q E := fun A s v w ok R pv pw => by
  obtain ⟨as, ra⟩ := HD.reads R 9 p d v hp pv
  obtain ⟨bs, rb⟩ := HD.reads R 9 q e w hq pw
  have := ok.cl
  exact eq_dataH ra rb (shaped_of (by decide) hp) (shaped_of (by decide) hq) (by omega) ⟨_, rfl, postB_same R (h _ (kqd_eqv 9 d e 9 (HD.ok 9 _ _ hp) (HD.ok 9 _ _ hq)))⟩
theorem ACmp.neData {p q : PV} {d e : Dat} {Q : Bool → AHeap → Prop} (hp : HD T.C H 9 p d) (hq : HD T.C H 9 q e) (h : ∀ b, (b = true ↔ d ≠ e) → Q b H) : ACmp T Fs H .NotEq p q Q E := fun A s v w ok R pv pw => by
  obtain ⟨as, ra⟩ := HD.reads R 9 p d v hp pv
  obtain ⟨bs, rb⟩ := HD.reads R 9 q e w hq pw
  have := ok.cl
  refine ne_dataH ra rb (shaped_of (by decide) hp) (shaped_of (by decide) hq) (by omega) ⟨_, rfl, postB_same R (h _ ?_)⟩
  have k := kqd_eqv 9 d e 9 (HD.ok 9 _ _ hp) (HD.ok 9 _ _ hq)
  cases hb : PyData.eqv (kqdP d) (kqdP e)
  · simp only [hb] at k ⊢; simp; intro hde; exact Bool.false_ne_true (k.mpr hde)
  · simp only [hb] at k ⊢; simp; exact k.mp trivial
theorem ACmp.inList {a : Addr} {l : List PV} {p : PV} {ds : List Dat} {d : Dat} {Q : Bool → AHeap → Prop} (hl : LAt T.C H a l) (hds : All2 (HD T.C H 8) l ds) (hp : HD T.C H 8 p d) (h : ∀ b, (b = true ↔ d ∈ ds) → Q b H) : ACmp T Fs H .In p (.ref a) Q E := fun A s v w ok R pv pw => by
  rw [pw.ref_inv]
  obtain ⟨vs, k, il, rr⟩ := R.lat hl
  obtain ⟨as, ra⟩ := HD.readsAll (fun p d v => HD.reads R 8 p d v) l ds vs.toList hds rr
  obtain ⟨bs, rx⟩ := HD.reads R 8 p d v hp pv
  have hok := HD.okAll (fun p d => HD.ok 8 p d) l ds hds
  have hdk := HD.ok 8 p d hp
  have l1 := kqd_layL hok
  have ld := kqd_lay 8 d hdk
  have l2 := ld.2
  have := ok.cl
  refine SeqAt.in_list_reads (reads_list_at il rfl rfl ra) rx l1.1 ld.1 ?_ ⟨_, rfl, postB_same R (h _ (kqd_any ds d hok hdk))⟩
  have := Nat.min_le_right (PyData.depthAll (kqdPs ds)) (kqdP d).depth
  omega
theorem ACmp.neBool {a b : Bool} {Q : Bool → AHeap → Prop} (h : Q (a != b) H) : ACmp T Fs H .NotEq (.bool a) (.bool b) Q E := fun A s v w ok R pv pw => by
  rw [pv.bool_inv, pw.bool_inv]
  exact PyProof.Rows.ne_bool ⟨_, rfl, postB_same R h⟩

theorem il_keep {h : Heap} {a : Addr} {vs : Array Value} {n : Nat} (il : IsL h a vs n) (g : Array Value → Array Value) : Heap.ExtBut a h (h.update a (Obj.mapSeq g)) := (Heap.SameBut.update ..).extBut
theorem prs_size {h : Heap} {l : List PV} {vs : Array Value} (r : PRs h l vs.toList) : vs.size = l.length := by have := r.length; simp at this; exact this.symm

theorem AMeth.listAppend {a : Addr} {l : List PV} (hH : H a = some (.list l)) : AMeth T Fs H "append" (.ref a) (.bi "list.append") := fun A s v pl Q E ok R pv h => by
  rw [pv.ref_inv] at h ⊢
  obtain ⟨vs, n, il, r⟩ := (R.objs a _ hH).1
  exact getMethod_list_append il rfl rfl (h _ PR.bi)
theorem ACall.listAppend {a : Addr} {l : List PV} {p : PV} {Q : PV → AHeap → Prop} (hH : H a = some (.list l)) (hz : l.length ≤ 100000) (h : Q .none (upd H a (.list (l ++ [p])))) : ACall T Fs H (.bi "list.append") [.ref a, p] Q E := fun A s v ws ok R pv prs => by
  rw [pv.bi_inv]
  obtain ⟨w, r1, rfl, pw, prs⟩ := prs.cons_inv
  obtain ⟨u, r2, rfl, pu, prs⟩ := prs.cons_inv
  rw [prs.nil_inv, pw.ref_inv]
  obtain ⟨vs, n, il, r⟩ := (R.objs a _ hH).1
  have hsz : vs.size ≤ sizeLine := by rw [prs_size r]; exact Nat.le_trans hz (by decide)
  refine call_meets slot_list_append ⟨_, il, rfl⟩ entry_list_append (args_list_append _ _) (list_append a vs n u hsz) ⟨il, ?_⟩
  have tk : TupKeep s.heap (s.heap.update a (Obj.mapSeq fun x => x.push u)) := R.turnKeep (s' := { s with heap := s.heap.update a (Obj.mapSeq fun x => x.push u) }) hH (il_keep il _)
  refine ⟨.none, _, PR.none, R.turn (o' := .list (l ++ [p])) hH (il_keep il _) ⟨_, _, IsL.update il _, ?_⟩, tk, h⟩
  rw [Array.toList_push]
  exact (PRs.keep tk _ r).append (PRs.cons (pu.keep tk) PRs.nil)
theorem ASetItem.list {a : Addr} {l : List PV} {k : Int} {q : PV} {Q : AHeap → Prop} (hH : H a = some (.list l)) (h0 : 0 ≤ k) (hk : k < l.length) (hz : l.length ≤ 100000) (h : Q (upd H a (.list (l.set k.toNat q)))) : ASetItem T Fs H (.ref a) (.int k) q Q E := fun A s v w u ok R pv pw pu => by
  rw [pv.ref_inv]
  obtain ⟨t, rfl⟩ := pw.int_inv
  obtain ⟨vs, n, il, r⟩ := (R.objs a _ hH).1
  have hl := il.isList
  have hs := prs_size r
  unfold setItem
  refine wpAny_holding ?_
  refine wpAny_bind (wpAny_sequenceKey hl.typeIs (by decide) ?_)
  refine wpAny_bind (wpAny_callSpecial?_slot (name := Str.ofString "__setitem__") hl.typeIs slot_list_setitem
    (wpAny_call_entry slot_list_setitem hl.typeIs entry_list_setitem ?_ (args_list_setitem _ _ _)))
  show wpAny _ _ (Builtin.List.listSubscript? (.int k t) >>= _) _ _ s
  refine wpAny_bind (wpAny_listSubscript_int (fitsIndex_of h0 (by omega)) ?_)
  obtain ⟨j, rfl⟩ := Int.eq_ofNat_of_zero_le h0
  have hj : j < vs.size := by omega
  have hx' : vs[j]? = some vs[j] := Array.getElem?_eq_getElem hj
  show wpAny _ _ ((seqItemAt a j >>= fun r => pure (r.map (j, ·))) >>= _) _ _ s
  refine wpAny_bind (wpAny_bind (wpAny_seqItemAt il rfl (wpAny_pure ?_)))
  rw [hx']
  show wpAny _ _ (setSeqItemAt a j u >>= _) _ _ s
  have tk : TupKeep s.heap (s.heap.update a (Obj.mapSeq (·.setIfInBounds j u))) := R.turnKeep (s' := { s with heap := s.heap.update a (Obj.mapSeq (·.setIfInBounds j u)) }) hH (il_keep il _)
  have hfin : PostH T Fs s Q { s with heap := s.heap.update a (Obj.mapSeq (·.setIfInBounds j u)) } := by
    refine ⟨_, R.turn (o' := .list (l.set j q)) hH (il_keep il _) ⟨_, _, IsL.update il _, ?_⟩, tk, h⟩
    rw [Array.toList_setIfInBounds]
    exact (PRs.keep tk _ r).set j (pu.keep tk)
  refine wpAny_bind (wpAny_setSeqItemAt il rfl ?_)
  exact wpAny_pure ⟨.none, rfl, wpAny_pure hfin⟩

theorem ACall.lenList {a : Addr} {l : List PV} {Q : PV → AHeap → Prop} (hH : LAt T.C H a l) (hz : l.length ≤ 100000) (h : Q (.int l.length) H) : ACall T Fs H (.bi "len") [.ref a] Q E := fun A s v ws ok R pv prs => by
  rw [pv.bi_inv]
  obtain ⟨w, r1, rfl, pw, prs⟩ := prs.cons_inv
  rw [prs.nil_inv, pw.ref_inv]
  obtain ⟨vs, n, il, r⟩ := R.lat hH
  have hs := prs_size r
  refine call_len_list il.isList (by rw [hs]; omega) ?_
  rw [hs]; exact post_same R PR.int h
theorem ATr.list {a : Addr} {l : List PV} {Q : Bool → AHeap → Prop} (hH : LAt T.C H a l) (hz : l.length ≤ 100000) (h : Q (!l.isEmpty) H) : ATr T Fs H (.ref a) Q E := fun A s v ok R pv => by
  rw [pv.ref_inv]
  obtain ⟨vs, n, il, r⟩ := R.lat hH
  have hs := prs_size r
  refine wpAny_truthy_list il.isList (by rw [hs]; omega) ?_
  have : vs.isEmpty = l.isEmpty := by
    cases l with
    | nil => have : vs.size = 0 := hs; simp [Array.isEmpty, this]
    | cons x l => simp at hs; simp [Array.isEmpty, hs]
  rw [this]; exact postB_same R h
theorem ABin.addList {a b : Addr} {l m : List PV} {Q : PV → AHeap → Prop} (hl : LAt T.C H a l) (hm : LAt T.C H b m) (hz : l.length + m.length ≤ 100000) (h : ∀ c, H c = Option.none → Q (.ref c) (upd H c (.list (l ++ m)))) : ABin T Fs H (binaryOp .Add) (.ref a) (.ref b) Q E := fun A s v w ok R pv pw => by
  rw [pv.ref_inv, pw.ref_inv]
  obtain ⟨vs, n, il, r⟩ := R.lat hl
  obtain ⟨ws, n', im, r'⟩ := R.lat hm
  have hs := prs_size r
  have hs' := prs_size r'
  refine P.add_list il im ⟨_, _, PR.ref, R.new (o := .list (l ++ m)) push_keep (Nat.le_refl _) ⟨_, _, IsL.new _ _, ?_⟩, TupKeep.of_keep push_keep, h _ R.fresh⟩ (by rw [hs, hs']; exact Nat.le_trans hz (by decide))
  rw [Array.toList_append]
  exact (PRs.keep (TupKeep.of_keep push_keep) _ r).append (PRs.keep (TupKeep.of_keep push_keep) _ r')
end
end
section
open PySem PySem.W PyProof.Rows PySem.Calls
theorem upd_self {H : AHeap} {a : Addr} {o : AO} (h : H a = some o) : upd H a o = H := by
  funext b; unfold upd; split
  · rename_i q; rw [q, h]
  · rfl

section
variable {T : Tr} {f : FR} {env : Env} {ls : Ls} {Fs : List AF} {H : AHeap} {E : Value → Shared → Prop} {s : Shared} {A : Around}

theorem Rep.pset {C : Cx} (R : Rep C Fs H s) {a : Addr} {l : List Pt} (e : H a = some (.pset l)) : PSet C.w s.heap a l := (R.objs a _ e).1

theorem ACall.setNew {Q : PV → AHeap → Prop} (h : ∀ a, H a = Option.none → Q (.ref a) (upd H a (.pset []))) : ACall T Fs H (.ty "set") [] Q E := fun A s v ws ok R pv prs => by
  rw [pv.ty_inv, prs.nil_inv]
  exact call_set_new fun S => ⟨_, _, PR.ref, R.new (o := .pset []) push_keep (Nat.le_refl _) S, TupKeep.of_keep push_keep, h _ R.fresh⟩
theorem AMeth.setAdd {a : Addr} {l : List Pt} (hH : H a = some (.pset l)) : AMeth T Fs H "add" (.ref a) (.bi "set.add") := fun A s v pl Q E ok R pv h => by
  rw [pv.ref_inv] at h ⊢
  exact method_set_add (R.pset hH) (h _ PR.bi)
theorem AMeth.setPop {a : Addr} {l : List Pt} (hH : H a = some (.pset l)) : AMeth T Fs H "pop" (.ref a) (.bi "set.pop") := fun A s v pl Q E ok R pv h => by
  rw [pv.ref_inv] at h ⊢
  exact method_set_pop (R.pset hH) (h _ PR.bi)
theorem AMeth.setUpdate {a : Addr} {l : List Pt} (hH : H a = some (.pset l)) : AMeth T Fs H "update" (.ref a) (.bi "set.update") := fun A s v pl Q E ok R pv h => by
  rw [pv.ref_inv] at h ⊢
  exact method_set_update (R.pset hH) (h _ PR.bi)
theorem ACall.setAdd {a : Addr} {l : List Pt} {p : Pt} {Q : PV → AHeap → Prop} (hH : H a = some (.pset l)) (hb : InBox p) (h : ∀ l', l'.Nodup → (∀ q, q ∈ l' ↔ q = p ∨ q ∈ l) → Q .none (upd H a (.pset l'))) : ACall T Fs H (.bi "set.add") [.ref a, pt p] Q E := fun A s v ws ok R pv prs => by
  rw [pv.bi_inv]
  obtain ⟨w, r1, rfl, pw, prs⟩ := prs.cons_inv
  obtain ⟨u, r2, rfl, pu, prs⟩ := prs.cons_inv
  rw [prs.nil_inv, pw.ref_inv]
  have S := R.pset hH
  have := ok.cl
  refine call_set_add' (by omega) S (isPt_of_PR pu) hb (fun hm tk => ?_) fun hm h' l' tk sb hp S' => ?_
  · have h1 := h l S.nodup (fun q => ⟨.inr, fun x => by rcases x with rfl | x; exact hm; exact x⟩)
    rw [upd_self hH] at h1
    exact post_same R PR.none h1
  · exact ⟨.none, _, PR.none, R.turn (o' := .pset l') (s' := { s with heap := h', toks := tk }) hH sb.extBut S', R.turnKeep (s' := { s with heap := h', toks := tk }) hH sb.extBut, h l' S'.nodup fun q => by rw [hp.mem_iff, List.mem_cons]⟩
theorem ACall.setPop {a : Addr} {l : List Pt} {Q : PV → AHeap → Prop} (hH : H a = some (.pset l)) (hne : l ≠ []) (h : ∀ p l', p ∈ l → l'.Nodup → (∀ q, q ∈ l' ↔ q ∈ l ∧ q ≠ p) → l'.length + 1 = l.length → Q (pt p) (upd H a (.pset l'))) : ACall T Fs H (.bi "set.pop") [.ref a] Q E := fun A s v ws ok R pv prs => by
  rw [pv.bi_inv]
  obtain ⟨w, r1, rfl, pw, prs⟩ := prs.cons_inv
  rw [prs.nil_inv, pw.ref_inv]
  have S := R.pset hH
  refine call_set_pop' S hne fun i p v h' d hi sb S' hp => ?_
  have hlt := (List.getElem?_eq_some_iff.mp hi).1
  refine ⟨pt p, _, PR_of_isPt hp, R.turn (o' := .pset (l.eraseIdx i)) (s' := { s with heap := h', drawn := d }) hH sb.extBut S', R.turnKeep (s' := { s with heap := h', drawn := d }) hH sb.extBut, h p _ (List.mem_of_getElem? hi) S'.nodup (fun q => ?_) ?_⟩
  · have hpm := cons_eraseIdx_perm l i hlt
    have e : l[i] = p := (List.getElem?_eq_some_iff.mp hi).2
    rw [e] at hpm
    have nd : (p :: l.eraseIdx i).Nodup := hpm.nodup_iff.mpr S.nodup
    have hn := (List.nodup_cons.mp nd).1
    rw [← hpm.mem_iff]
    simp only [List.singleton_append, List.mem_cons]
    constructor
    · intro hq; exact ⟨.inr hq, fun e => hn (e ▸ hq)⟩
    · rintro ⟨x | x, y⟩
      · exact absurd x y
      · exact x
  · rw [List.length_eraseIdx, if_pos hlt]; omega
theorem ACall.setUpdate {a b : Addr} {l m : List Pt} {Q : PV → AHeap → Prop} (hH : H a = some (.pset l)) (hb : H b = some (.pset m)) (hne : a ≠ b) (h : ∀ l', l'.Nodup → (∀ q, q ∈ l' ↔ q ∈ l ∨ q ∈ m) → Q .none (upd H a (.pset l'))) : ACall T Fs H (.bi "set.update") [.ref a, .ref b] Q E := fun A s v ws ok R pv prs => by
  rw [pv.bi_inv]
  obtain ⟨w, r1, rfl, pw, prs⟩ := prs.cons_inv
  obtain ⟨u, r2, rfl, pu, prs⟩ := prs.cons_inv
  rw [prs.nil_inv, pw.ref_inv, pu.ref_inv]
  have := ok.cl
  exact call_set_update' (by omega) (R.pset hH) (R.pset hb) hne fun h' l' sb hm S' =>
    ⟨.none, _, PR.none, R.turn (o' := .pset l') (s' := { s with heap := h' }) hH sb.extBut S', R.turnKeep (s' := { s with heap := h' }) hH sb.extBut, h l' S'.nodup hm⟩
theorem ACmp.inSet {a : Addr} {l : List Pt} {p : Pt} {Q : Bool → AHeap → Prop} (hH : H a = some (.pset l)) (hb : InBox p) (h : Q (decide (p ∈ l)) H) : ACmp T Fs H .In (pt p) (.ref a) Q E := fun A s v w ok R pv pw => by
  rw [pw.ref_inv]
  have := ok.cl
  exact in_set (by omega) (R.pset hH) (isPt_of_PR pv) hb fun tk => ⟨_, rfl, postB_same R h⟩
theorem PSet.size_es {w : World} {h : Heap} {a : Addr} {l : List Pt} (S : PSet w h a l) : ∃ o es ep t, h.get? a = some o ∧ o.ExactSet ∧ o.data = .set es ep t ∧ t.fits es.size = true ∧ es.size = l.length := by
  obtain ⟨o, es, ep, t, ho, hx, hd, I, hb, El⟩ := S.obj
  exact ⟨o, es, ep, t, ho, hx, hd, inv_fits I, by rw [← Array.length_toList]; exact El.length⟩
theorem ACall.lenSet {a : Addr} {l : List Pt} {Q : PV → AHeap → Prop} (hH : H a = some (.pset l)) (h : Q (.int l.length) H) : ACall T Fs H (.bi "len") [.ref a] Q E := fun A s v ws ok R pv prs => by
  rw [pv.bi_inv]
  obtain ⟨w, r1, rfl, pw, prs⟩ := prs.cons_inv
  rw [prs.nil_inv, pw.ref_inv]
  have hl := (R.pset hH).length_le
  obtain ⟨o, es, ep, t, ho, hx, hd, hf, hs⟩ := (R.pset hH).size_es
  refine call_len_set ho hx hd hf (by rw [hs]; omega) ?_
  rw [hs]; exact post_same R PR.int h
theorem noBool_set : typeLookup (.type "set") "__bool__" = pure none := by rw [typeLookup_type, builtinLookup_eq_fast]; kernel_rfl
theorem ATr.set {a : Addr} {l : List Pt} {Q : Bool → AHeap → Prop} (hH : H a = some (.pset l)) (h : Q (!l.isEmpty) H) : ATr T Fs H (.ref a) Q E := fun A s v ok R pv => by
  rw [pv.ref_inv]
  have hl := (R.pset hH).length_le
  obtain ⟨o, es, ep, t, ho, hx, hd, hf, hs⟩ := (R.pset hH).size_es
  have hT : s.TypeIs (.ref a) "set" := ⟨o, ho, hx.1⟩
  have key : wpAny T.C.M A (runValue (.builtin "len" ⟨[.ref a], []⟩)) (fun r s' => r = .int l.length (s.toks + 1) ∧ PostB T Fs s Q (!l.isEmpty) s') E s := by
    refine wpAny_runValue (codeAny_builtin entry_len ?_)
    rw [Around.under_plainId plain_len _]
    exact wpAny_mono (wpAny_len_body_set (Q := fun r s' => r = .int l.length (s.toks + 1) ∧ PostB T Fs s Q (!l.isEmpty) s') ho hx hd hf (by rw [hs]; omega) ⟨by rw [hs], postB_same R h⟩)
      (fun fin s' h' => by obtain ⟨r, rfl, hq⟩ := h'; exact hq) fun _ _ e => e
  have hne : ((l.length : Int) != 0) = !l.isEmpty := by cases l <;> simp; omega
  unfold truthy
  refine wpAny_bind (wpAny_callSpecial?_none (name := Str.ofString "__bool__") hT noBool_set ?_)
  refine wpAny_bind (wpAny_specialOf (name := Str.ofString "__len__") hT F.slot_set_len.lookup ?_)
  exact wpAny_bind (wpAny_mono key (fun r s' h' => by obtain ⟨rfl, hq⟩ := h'; exact wpAny_pure (hne ▸ hq)) fun _ _ e => e)

theorem foldl_rep (x : Value) : ∀ (n : Nat) (acc : Array Value), (List.foldl (fun x1 x2 => x1 ++ x2) acc (List.replicate n #[x])).toList = acc.toList ++ List.replicate n x
  | 0, acc => by simp
  | n + 1, acc => by rw [List.replicate_succ, List.foldl_cons, foldl_rep x n, List.replicate_succ]; simp
theorem ABin.mulList {a : Addr} {p : PV} {n : Int} {Q : PV → AHeap → Prop} (hH : H a = some (.list [p])) (h0 : 0 ≤ n) (hn : n ≤ 100000) (h : ∀ c, H c = Option.none → Q (.ref c) (upd H c (.list (List.replicate n.toNat p)))) : ABin T Fs H (binaryOp .Mult) (.ref a) (.int n) Q E := fun A s v w ok R pv pw => by
  rw [pv.ref_inv]
  obtain ⟨u, rfl⟩ := pw.int_inv
  obtain ⟨vs, k, il, r⟩ := (R.objs a _ hH).1
  obtain ⟨x, rr, e, px, r2⟩ := r.cons_inv
  rw [r2.nil_inv] at e
  have hvs : vs = #[x] := by apply Array.toList_inj.mp; rw [e]
  subst hvs
  refine wpAny_binaryOp_repeat_ref (T := "list") (U := "int") (by decide) ⟨_, il, rfl⟩ (fun s' => typeIs_int s' n u) noFill_list_mul F.fills_int_mul F.slot_int_rmul repeat_list F.slot_int_index.lookup
    (call_meets F.slot_int_rmul (typeIs_int s n u) F.entry_int_rmul (F.args_int_rmul_2 _ _) (int___rmul___int_list n u a #[x] k)
      ⟨il, rfl, ⟨_, il, rfl⟩, call_meets F.slot_list_mul ⟨_, il, rfl⟩ F.entry_list_mul (F.args_list_mul_2 _ _)
        (AutoListH.list___mul___list_int_3 a #[x] k n u (by simp [Builtin.List.listFitsIndex]; omega) (by simp; omega) (by simp [Builtin.List.listTooLong, sizeLine]; omega)) ⟨il, ?_⟩⟩)
  refine ⟨_, _, PR.ref, R.new (o := .list (List.replicate n.toNat p)) push_keep (Nat.le_refl _) ⟨_, _, IsL.new _ _, ?_⟩, TupKeep.of_keep push_keep, h _ R.fresh⟩
  rw [if_neg (by simp), foldl_rep]
  exact PRs.replicate (px.keep (TupKeep.of_keep push_keep)) _
theorem noI_list_add : fillsInplaceSlot (.type "list") "add" true = pure false := by
  show (do let fi ← typeLookup (.type "list") (dunderI "add"); return fi.isSome && !isSeqSlot fi) = _
  rw [F.slot_list_iadd.lookup]
  kernel_rfl
theorem ACall.range1 {n : Int} {Q : PV → AHeap → Prop} (h : ∀ c, H c = Option.none → Q (.ref c) (upd H c (.range 0 n))) : ACall T Fs H (.ty "range") [.int n] Q E := fun A s v ws ok R pv prs => by
  rw [pv.ty_inv]
  obtain ⟨w, r1, rfl, pw, prs⟩ := prs.cons_inv
  rw [prs.nil_inv]
  obtain ⟨u, rfl⟩ := pw.int_inv
  exact call_range_1 ⟨_, _, PR.ref, R.new (o := .range 0 n) (s' := { s with heap := _, toks := _ }) push_keep (Nat.le_refl _) ⟨_, _, _, IsRange.new _ _ _ _ _ _ _⟩, TupKeep.of_keep push_keep, h _ R.fresh⟩
end
end
section
open PySem PySem.W PyProof.Rows PySem.Calls
noncomputable def pslice (l : List PV) (lo hi : Option Int) : List PV := (sliceRange (sliceBounds lo hi none l.length).1 (sliceBounds lo hi none l.length).2.1 (sliceBounds lo hi none l.length).2.2).filterMap (fun k => l[k]?)
theorem PRs.pick {h : Heap} {l : List PV} {vs : List Value} (r : PRs h l vs) : ∀ idx : List Nat, PRs h (idx.filterMap (fun k => l[k]?)) (idx.filterMap (fun k => vs[k]?))
  | [] => PRs.nil
  | i :: idx => by
    have ih := PRs.pick r idx
    cases e : l[i]? with
    | none =>
      have : vs[i]? = none := by rw [List.getElem?_eq_none_iff] at e ⊢; rw [← r.length]; exact e
      rw [List.filterMap_cons_none e, List.filterMap_cons_none this]; exact ih
    | some p =>
      obtain ⟨v, ev, pr⟩ := r.get i e
      rw [List.filterMap_cons_some e, List.filterMap_cons_some ev]; exact PRs.cons pr ih
theorem pick_runL (l : List PV) (a : Nat) : ∀ k : Nat, ((List.range k).map (a + ·)).filterMap (fun i => l[i]?) = (l.drop a).take k
  | 0 => by simp
  | k + 1 => by
    rw [List.range_succ, List.map_append, List.filterMap_append, pick_runL l a k, List.take_add_one]
    congr 1
    simp only [List.map_cons, List.map_nil, List.getElem?_drop]
    cases h : l[a + k]? <;> simp [h]
theorem pslice_nat (l : List PV) (a b : Nat) (hb : b ≤ l.length) (ha : a ≤ l.length) : (sliceRange (a : Int) (b : Int) 1).filterMap (fun k => l[k]?) = (l.drop a).take (b - a) := by
  rw [sliceRange_one, pick_runL]
theorem clip_nat (i : Int) (n : Nat) : ∃ a : Nat, max 0 (min (if i < 0 then i + n else i) (n : Int)) = (a : Int) ∧ a ≤ n ∧ (0 ≤ i → a = min i.toNat n) := by
  by_cases h : i < 0
  · have h1 : i + n ≤ n := by omega
    rw [if_pos h, Int.min_eq_left h1]
    refine ⟨(i + n).toNat, ?_, Int.toNat_le.mpr h1, fun h0 => absurd h (Int.not_lt.mpr h0)⟩
    rw [Int.ofNat_toNat, Int.max_comm]
  · rw [if_neg h]
    obtain ⟨k, rfl⟩ := Int.eq_ofNat_of_zero_le (Int.not_lt.mp h)
    rw [Int.toNat_natCast]
    by_cases hk : k ≤ n
    · rw [Int.min_eq_left (Int.ofNat_le.mpr hk), Int.max_eq_right (Int.natCast_nonneg _), Nat.min_eq_left hk]
      exact ⟨k, rfl, hk, fun _ => rfl⟩
    · have hk := Nat.le_of_lt (Nat.not_le.mp hk)
      rw [Int.min_eq_right (Int.ofNat_le.mpr hk), Int.max_eq_right (Int.natCast_nonneg _), Nat.min_eq_right hk]
      exact ⟨n, rfl, Nat.le_refl _, fun _ => rfl⟩
theorem sliceBounds_get (lo hi : Option Int) (n : Nat) : ∃ a b : Nat, sliceBounds lo hi none n = ((a : Int), (b : Int), 1) ∧ a ≤ n ∧ b ≤ n ∧
    (lo = none → a = 0) ∧ (∀ i, lo = some i → 0 ≤ i → a = min i.toNat n) ∧ (hi = none → b = n) ∧ (∀ i, hi = some i → 0 ≤ i → b = min i.toNat n) := by
  have hA : ∃ a : Nat, (sliceBounds lo hi none n).1 = (a : Int) ∧ a ≤ n ∧ (lo = none → a = 0) ∧ (∀ i, lo = some i → 0 ≤ i → a = min i.toNat n) := by
    cases lo with
    | none => exact ⟨0, rfl, Nat.zero_le _, fun _ => rfl, fun i e => by cases e⟩
    | some i => obtain ⟨a, h1, h2, h3⟩ := clip_nat i n; exact ⟨a, by simpa [sliceBounds] using h1, h2, (fun e => by cases e), fun j e => by cases e; exact h3⟩
  have hB : ∃ b : Nat, (sliceBounds lo hi none n).2.1 = (b : Int) ∧ b ≤ n ∧ (hi = none → b = n) ∧ (∀ i, hi = some i → 0 ≤ i → b = min i.toNat n) := by
    cases hi with
    | none => exact ⟨n, by simp [sliceBounds], Nat.le_refl _, fun _ => rfl, fun i e => by cases e⟩
    | some i => obtain ⟨a, h1, h2, h3⟩ := clip_nat i n; exact ⟨a, by simpa [sliceBounds] using h1, h2, (fun e => by cases e), fun j e => by cases e; exact h3⟩
  obtain ⟨a, a1, a2, a3, a4⟩ := hA
  obtain ⟨b, b1, b2, b3, b4⟩ := hB
  refine ⟨a, b, ?_, a2, b2, a3, a4, b3, b4⟩
  rw [← a1, ← b1]; rfl
theorem pslice_both (l : List PV) {i j : Int} (hi : 0 ≤ i) (hj : 0 ≤ j) : pslice l (some i) (some j) = (l.take j.toNat).drop i.toNat := by
  obtain ⟨a, b, e, ha, hb, _, a2, _, b2⟩ := sliceBounds_get (some i) (some j) l.length
  unfold pslice
  rw [e, pslice_nat l a b hb ha, a2 i rfl hi, b2 j rfl hj, List.drop_take]
  by_cases h : i.toNat ≤ l.length
  · rw [Nat.min_eq_left h, List.take_eq_take_iff, List.length_drop, Nat.sub_min_sub_right, Nat.sub_min_sub_right, Nat.min_assoc, Nat.min_self]
  · have h := Nat.le_of_lt (Nat.not_le.mp h)
    rw [Nat.min_eq_right h, List.drop_length, List.drop_of_length_le h, List.take_nil, List.take_nil]
section
variable {T : Tr} {f : FR} {env : Env} {ls : Ls} {Fs : List AF} {H : AHeap} {E : Value → Shared → Prop} {s : Shared} {A : Around}

noncomputable def APart (T : Tr) (f : FR) (Fs : List AF) (H : AHeap) (e : Option Expr) (Q : Option Int → AHeap → Prop) (E : Value → Shared → Prop) : Prop := match e with
  | none => Q none H
  | some e => AE T f Fs H e (fun p H₁ => ∃ i, p = .int i ∧ Q (some i) H₁) E
theorem wp_part {e : Option Expr} {Q : Option Int → AHeap → Prop} (h : APart T f Fs H e Q E) (ok : AOk T (.fr f :: Fs) A) (R : Rep T.C (.fr f :: Fs) H s) :
    wpAny T.C.M A (evalPart e f.env) (fun v s' => ∃ i H', IsPart v i ∧ Rep T.C (.fr f :: Fs) H' s' ∧ TupKeep s.heap s'.heap ∧ Q i H') E s := by
  cases e with
  | none => exact wpAny_pure ⟨none, H, .none, R, TupKeep.refl _, h⟩
  | some e => exact wpAny_mono (h A s ok R) (fun v s' ⟨p, H', pr, R', k, i, e, q⟩ => by subst e; obtain ⟨t, rfl⟩ := pr.int_inv; exact ⟨some i, H', .int i t, R', k, q⟩) fun _ _ x => x

theorem AE.slice {value : Expr} {lo hi : Option Expr} {p pos : Pos} {Q : PV → AHeap → Prop}
    (h : AE T f Fs H value (fun q H₁ => APart T f Fs H₁ lo (fun i H₂ => APart T f Fs H₂ hi (fun j H₃ => ∃ a l, q = .ref a ∧ LAt T.C H₃ a l ∧ l.length ≤ 100000 ∧ ∀ c, H₃ c = Option.none → Q (.ref c) (upd H₃ c (.list (pslice l i j)))) E) E) E) :
    AE T f Fs H (.Subscript value (.Slice lo hi Option.none p) pos) Q E := fun A s ok R => by
  refine Subscript_ (wpAny_mono (h A s ok R) (fun v s₁ ⟨q, H₁, qr, R₁, k₁, h₁⟩ => ?_) fun _ _ x => x)
  refine wpAny_Slice (wpAny_mono (wp_part h₁ ok R₁) (fun vl s₂ ⟨i, H₂, il, R₂, k₂, h₂⟩ => ?_) fun _ _ x => x)
  refine wpAny_mono (wp_part h₂ ok R₂) (fun vu s₃ ⟨j, H₃, iu, R₃, k₃, a, l, e, hl, hz, h₃⟩ => ?_) fun _ _ x => x
  subst e
  rw [qr.ref_inv]
  refine wpAny_pure ?_
  obtain ⟨vs, n, isl, r⟩ := R₃.lat hl
  have hs := prs_size r
  have R₄ : Rep T.C (.fr f :: Fs) H₃ { s₃ with heap := s₃.heap.push { cls := .type "slice", data := .fields #[vl, vu, .none] } } := R₃.ext push_keep
  have il' := isl.push { cls := .type "slice", data := .fields #[vl, vu, .none] }
  have k₄ : TupKeep s₃.heap (s₃.heap.push { cls := .type "slice", data := .fields #[vl, vu, .none] }) := TupKeep.of_keep push_keep
  refine tail_any (T := "list") il'.isList.typeIs slot_list_getitem.lookup (wpAny_getItem_list_slice (st := Option.none) il'.isList (Heap.IsSliceOf.new _ _ _ _) il iu .none (by simp) ?_ (by rw [hs]; exact Nat.le_trans hz (by decide))) rfl
  refine ⟨_, _, PR.ref, R₄.new (o := .list (pslice l i j)) push_keep (Nat.le_refl _) ⟨_, _, IsL.new _ _, ?_⟩, k₁.trans (k₂.trans (k₃.trans (k₄.trans (TupKeep.of_keep push_keep)))), h₃ _ R₄.fresh⟩
  have := (PRs.keep (k₄.trans (TupKeep.of_keep (push_keep (o := { cls := .type "list", data := .seq (slicePick vs i j Option.none) })))) _ r).pick (sliceRange (sliceBounds i j Option.none vs.size).1 (sliceBounds i j Option.none vs.size).2.1 (sliceBounds i j Option.none vs.size).2.2)
  have e1 : (slicePick vs i j Option.none).toList = (sliceRange (sliceBounds i j Option.none vs.size).1 (sliceBounds i j Option.none vs.size).2.1 (sliceBounds i j Option.none vs.size).2.2).filterMap (fun k => vs.toList[k]?) := by
    unfold slicePick; simp
  rw [e1]
  unfold pslice
  rw [hs] at this ⊢
  exact this

theorem ABin.iaddList {a b : Addr} {l m : List PV} {Q : PV → AHeap → Prop} (hl : H a = some (.list l)) (hm : H b = some (.list m)) (hz : l.length + m.length ≤ 100000) (h : Q (.ref a) (upd H a (.list (l ++ m)))) : ABin T Fs H (inplaceOp .Add) (.ref a) (.ref b) Q E := fun A s v w ok R pv pw => by
  rw [pv.ref_inv, pw.ref_inv]
  obtain ⟨vs, n, il, r⟩ := (R.objs a _ hl).1
  obtain ⟨ws, n', im, r'⟩ := (R.objs b _ hm).1
  have hs := prs_size r
  have hs' := prs_size r'
  have ta : s.TypeIs (.ref a) "list" := ⟨_, il, rfl⟩
  have tb : s.TypeIs (.ref b) "list" := ⟨_, im, rfl⟩
  unfold inplaceOp
  refine wpAny_holding ?_
  refine wpAny_bind (wpAny_typeOf ta (wpAny_bind (wpAny_of_eq noI_list_add ?_)))
  rw [if_neg Bool.false_ne_true]
  refine wpAny_bind (wpAny_binaryOp1_none (nm := "add") ta tb noFill_list_add ?_)
  refine wpAny_bind (wpAny_of_eq (PySem.seqSlot_of F.slot_list_iadd.lookup (by decide +kernel)) ?_)
  refine wpAny_bind (wpAny_rule ?_)
  have door : ¬(!vs.isEmpty && Builtin.List.listTooLong (vs.size + ws.size)) = true := by
    simp [Builtin.List.listTooLong, sizeLine]; intro _; rw [hs, hs']; omega
  refine call_meets F.slot_list_iadd ta F.entry_list_iadd (F.args_list_iadd_2 _ _) (AutoSeq1.list___iadd___list_list_0 a vs n b ws n' door (by rw [hs]; exact Nat.le_trans (by omega : l.length ≤ 100000) (by decide)) (by rw [hs, hs']; exact Nat.le_trans hz (by decide))) ⟨il, im, ?_⟩
  have tk : TupKeep s.heap (s.heap.update a (Obj.mapSeq fun x => x ++ ws)) := R.turnKeep (s' := { s with heap := s.heap.update a (Obj.mapSeq fun x => x ++ ws) }) hl (il_keep il _)
  refine ⟨.ref a, _, PR.ref, R.turn (o' := .list (l ++ m)) hl (il_keep il _) ⟨_, _, IsL.update il _, ?_⟩, tk, h⟩
  rw [Array.toList_append]
  exact (PRs.keep tk _ r).append (PRs.keep tk _ r')

theorem AE.dictEmpty {pos : Pos} {Q : PV → AHeap → Prop} (h : ∀ c, H c = Option.none → Q (.ref c) (upd H c (.pdict []))) : AE T f Fs H (.Dict [] [] pos) Q E := fun A s ok R =>
  wpAny_Dict_empty ⟨_, _, PR.ref, R.new (o := .pdict []) push_keep (Nat.le_refl _) ⟨[], ⟨_, #[], 0, Heap.get?_push_size _ rfl, ⟨rfl, rfl, rfl⟩, rfl, rfl, (fun x hx => by cases hx), List.nodup_nil⟩, rfl⟩, TupKeep.of_keep push_keep, h _ R.fresh⟩
end
end
section
open PySem PySem.W PyProof.Rows PySem.Calls
theorem lookup_pt : ∀ {l : List (Pt × PV)} {e : Pt × PV}, (l.map (·.1)).Nodup → e ∈ l → l.lookup e.1 = some e.2
  | (k, v) :: r, e, hn, hm => by
    rw [List.map_cons] at hn
    obtain ⟨h1, h2⟩ := List.nodup_cons.mp hn
    rw [List.lookup_cons]
    rcases List.mem_cons.mp hm with rfl | hm
    · simp
    · have : e.1 ≠ k := fun q => h1 (q ▸ List.mem_map.mpr ⟨e, hm, rfl⟩)
      rw [beq_eq_false_iff_ne.mpr this]
      exact lookup_pt h2 hm

section
variable {T : Tr} {f : FR} {env : Env} {ls : Ls} {Fs : List AF} {H : AHeap} {E : Value → Shared → Prop} {s : Shared} {A : Around}

theorem Rep.exactDict {C : Cx} (R : Rep C Fs H s) {d : Addr} {l : List (Pt × PV)} (e : H d = some (.pdict l)) : (∀ b, Value.ref d = .ref b → ∃ ob, s.heap.get? b = some ob ∧ ob.dict = none) ∧ s.TypeIs (.ref d) "dict" := by
  obtain ⟨xs, ⟨o, es, ep, ho, hx, _⟩, _⟩ := (R.objs d _ e).1
  exact ⟨fun b e => by injection e with e; subst e; exact ⟨o, ho, hx.2.1⟩, ⟨o, ho, hx.1⟩⟩
theorem AMeth.dictPop {d : Addr} {l : List (Pt × PV)} (hH : H d = some (.pdict l)) : AMeth T Fs H "pop" (.ref d) (.bi "dict.pop") := fun A s v pl Q E ok R pv h => by
  rw [pv.ref_inv] at h ⊢
  obtain ⟨h1, h2⟩ := R.exactDict hH
  exact getMethod_builtin h2 F.plainAttrs_dict F.slot_dict_pop F.type_dict_pop h1 (h _ PR.bi)
theorem erase_map {α β : Type} (g : α → β) : ∀ (l : List α) (j : Nat), (l.map g).eraseIdx j = (l.eraseIdx j).map g
  | [], j => by simp
  | x :: l, 0 => by simp
  | x :: l, j + 1 => by simp [erase_map g l j]
theorem keys_erase {xs : List (List Int × Addr × Value)} {j : Nat} (hn : (xs.map (·.1)).Nodup) : ((xs.eraseIdx j).map (·.1)).Nodup := hn.sublist ((List.eraseIdx_sublist xs j).map _)

theorem ACall.dictPop {d : Addr} {l : List (Pt × PV)} {p : Pt} {q : PV} {Q : PV → AHeap → Prop} (hH : H d = some (.pdict l)) (hl : l.lookup p = some q) (hz : l.length ≤ 10000) (h : Q q (upd H d (.pdict (ddel l p)))) : ACall T Fs H (.bi "dict.pop") [.ref d, pt p] Q E := fun A s v ws ok R pv prs => by
  rw [pv.bi_inv]
  obtain ⟨w, r1, rfl, pw, prs⟩ := prs.cons_inv
  obtain ⟨u, r2, rfl, pu, prs⟩ := prs.cons_inv
  rw [prs.nil_inv, pw.ref_inv]
  obtain ⟨a, rfl, hk⟩ := pt_key (C := T.C) pu
  obtain ⟨h1, hT⟩ := R.exactDict hH
  obtain ⟨xs, ⟨o, es, ep, ho, hx, hd, he, his, hn⟩, r⟩ := (R.objs d _ hH).1
  have hcl := ok.cl
  have hsz : es.size = l.length := by rw [← r.length, ← Array.length_toList, he, List.length_map]
  refine wpAny_call_entry F.slot_dict_pop hT F.entry_dict_pop ?_ (F.args_dict_pop_2 _ _)
  unfold Builtin.«dict.pop»
  refine wpAny_bind ?_
  unfold Builtin.Dict.keyAndDefault
  refine wpAny_bind (wpAny_notOrdered_dict hT ?_)
  show wpAny _ _ (pure (d, Value.ref a, none)) _ _ s
  refine wpAny_pure ?_
  have hkp : (keyPart (.ref a)).isSome = false := rfl
  dsimp only
  rw [hkp, if_neg (by decide)]
  refine wpAny_bind (wpAny_dictEntries ho hd (wpAny_bind (wpAny_pure ?_)))
  have hne : es.isEmpty = false := by
    cases e : es.isEmpty with
    | false => rfl
    | true =>
      have : es.size = 0 := by simpa [Array.isEmpty] using e
      rw [hsz] at this
      have : l = [] := List.length_eq_zero_iff.mp this
      subst this; cases hl
  rw [hne]
  rw [if_neg (by decide)]
  refine wpAny_bind ?_
  unfold Builtin.Dict.takeOut
  refine wpAny_holding ?_
  refine wpAny_bind ((tupleKind (intKind T.C.prog T.C.w)).pyHash (A := A.in1) (k := ptK p) (show A.units + 1 < cLine by omega) hk ?_)
  refine wpAny_bind (wpAny_dictFind_heap (knd := tupleKind (intKind T.C.prog T.C.w)) (k := ptK p) (s := { s with toks := _ }) (show A.units + 1 < cLine by omega) hk ho hd he his hn (fun hno => ?_) fun j y hj => ?_)
  · exfalso
    obtain ⟨a', v', e', _⟩ := (atKey_of r p).2 q hl
    unfold atKey at e'
    obtain ⟨x, hx1, hx2⟩ := Option.map_eq_some_iff.mp e'
    have hm := List.mem_of_find?_eq_some hx1
    have hk1 := List.find?_some hx1
    simp at hk1
    obtain ⟨j, hj⟩ := List.mem_iff_getElem?.mp hm
    exact hno j x.2 (by rw [hj, ← hk1])
  · obtain ⟨e, he1, he2, he3, he4⟩ := r.get hj
    have hep : e.1 = p := ptK_inj he2.symm
    have nd := r.nodup hn
    have hq : e.2 = q := by
      have := lookup_pt nd (List.mem_of_getElem? he1)
      rw [hep, hl] at this; exact (Option.some.inj this).symm
    have hes : es[j]? = some ⟨tupleKeyHash (intKind T.C.prog T.C.w) (ptK p), .ref y.1, y.2⟩ := by
      rw [← Array.getElem?_toList, he, List.getElem?_map, hj]; rfl
    dsimp only
    refine wpAny_bind (wpAny_dictEntries ho hd ?_)
    rw [hes]
    dsimp only
    refine wpAny_bind (wpAny_updateDictKeys ho hd ?_ (by rw [hsz]; exact Nat.le_trans hz (by decide)) ?_)
    · refine wpAny_pure ?_
      dsimp only [Option.isNone_some]
      rw [if_neg (by decide)]
      refine wpAny_bind (wpAny_letGo (wpAny_pure ⟨_, rfl, ?_⟩))
      have sb : Heap.SameBut d s.heap (s.heap.update d (Obj.mapDictKeys fun x => x.eraseIdxIfInBounds j)) := Heap.SameBut.update ..
      have tk : TupKeep s.heap (s.heap.update d (Obj.mapDictKeys fun x => x.eraseIdxIfInBounds j)) := R.turnKeep (s' := { s with heap := s.heap.update d (Obj.mapDictKeys fun x => x.eraseIdxIfInBounds j) }) hH sb.extBut
      have hlt : j < es.size := (Array.getElem?_eq_some_iff.mp hes).1
      have ho' := Heap.get?_update_self (Obj.mapDictKeys fun x => x.eraseIdxIfInBounds j) ho (by
        obtain ⟨c, dd, dt, sl⟩ := o; dsimp only at hd; subst hd; rfl)
      refine ⟨q, _, hq ▸ PR.keep tk _ he4, R.turn (o' := .pdict (ddel l p)) hH sb.extBut ⟨xs.eraseIdx j, ⟨_, es.eraseIdxIfInBounds j, ep + 1, ho', hx.mapDictKeys _, Obj.data_mapDictKeys hd _, ?_, fun x hx => IsTupleKey.keepT tk (his x (List.mem_of_mem_eraseIdx hx)), keys_erase hn⟩, ?_⟩, tk, h⟩
      · rw [Array.eraseIdxIfInBounds, dif_pos hlt, Array.toList_eraseIdx, he, erase_map]
      · rw [← hep, ← eraseIdx_ddel nd he1]
        exact (r.keep tk).erase j
    · rw [Array.eraseIdxIfInBounds]; split
      · rw [Array.size_eraseIdx]; omega
      · omega
theorem dict_len {C : Cx} (R : Rep C Fs H s) {d : Addr} {l : List (Pt × PV)} (e : H d = some (.pdict l)) : ∃ o es ep, s.heap.get? d = some o ∧ o.ExactDict ∧ o.data = .dict es ep ∧ es.size = l.length := by
  obtain ⟨xs, ⟨o, es, ep, ho, hx, hd, he, his, hn⟩, r⟩ := (R.objs d _ e).1
  exact ⟨o, es, ep, ho, hx, hd, by rw [← r.length, ← Array.length_toList, he, List.length_map]⟩
set_option maxHeartbeats 1000000 in
theorem ACmp.eqDictNil {a b : Addr} {l : List (Pt × PV)} {Q : Bool → AHeap → Prop} (ha : H a = some (.pdict l)) (hb : H b = some (.pdict [])) (h : Q l.isEmpty H) : ACmp T Fs H .Eq (.ref a) (.ref b) Q E := fun A s v w ok R pv pw => by
  rw [pv.ref_inv, pw.ref_inv]
  obtain ⟨_, ta⟩ := R.exactDict ha
  obtain ⟨_, tb⟩ := R.exactDict hb
  obtain ⟨oa, es, ep, hoa, _, hda, hsa⟩ := dict_len R ha
  obtain ⟨ob, es', ep', hob, _, hdb, hsb⟩ := dict_len R hb
  have hcl := ok.cl
  refine wpAny_richCompare_same_room (op := .Eq) ta tb PySem.F.slot_dict_eq (wpAny_call_entry PySem.F.slot_dict_eq ta PySem.F.entry_dict_eq ?_ (PySem.F.args_dict_eq_2 _ _)) (by omega)
  show wpAny _ _ (Builtin.Dict.dictSlotArgs "__eq__" ⟨[.ref a, .ref b], []⟩ >>= _) _ _ s
  refine wpAny_bind ?_
  unfold Builtin.Dict.dictSlotArgs
  refine wpAny_bind (wpAny_notOrdered_dict ta ?_)
  show wpAny _ _ (pure (Value.ref a, Value.ref b)) _ _ s
  refine wpAny_pure ?_
  refine wpAny_bind (wpAny_isInstance (T := "dict") tb PySem.F.sub_dict_dict ?_)
  simp only [Bool.not_true, Bool.false_eq_true, if_false]
  refine wpAny_bind (wpAny_pure (wpAny_bind (wpAny_pure ?_)))
  refine wpAny_bind ?_
  unfold Builtin.Dict.samePairs Builtin.Dict.showsAll
  rw [if_neg (show ¬ (a == sysModules) = true by rw [notSys R ha]; exact Bool.false_ne_true), if_neg (show ¬ (b == sysModules) = true by rw [notSys R hb]; exact Bool.false_ne_true)]
  refine wpAny_bind (wpAny_pure (wpAny_bind (wpAny_pure ?_)))
  refine wpAny_bind (wpAny_dictEntries hoa hda ?_)
  dsimp only
  refine wpAny_bind (wpAny_dictEntries hob hdb ?_)
  simp only [List.length_nil] at hsb
  cases l with
  | nil =>
    simp only [List.length_nil] at hsa
    rw [if_neg (by rw [hsa, hsb]; simp)]
    refine wpAny_bind (wpAny_dictEpoch hoa hda ?_)
    refine wpAny_bind ?_
    rw [Std.Legacy.Range.forIn_eq_forIn_range']
    simp only [Std.Legacy.Range.size, Nat.sub_zero, Nat.add_sub_cancel, Nat.div_one, hsa, List.range'_zero, List.forIn_nil]
    refine wpAny_pure (wpAny_pure (wpAny_pure ⟨_, rfl, ⟨(by intro x; cases x), true, rfl, postB_same R h⟩⟩))
  | cons e l =>
    simp only [List.length_cons] at hsa
    rw [if_pos (by rw [hsa, hsb]; simp)]
    exact wpAny_bind (wpAny_rule (wpAny_pure (wpAny_pure ⟨_, rfl, ⟨(by intro x; cases x), false, rfl, postB_same R h⟩⟩)))
end
end
section
open PySem PySem.W PyProof.Rows PySem.Calls
noncomputable def rem (H : AHeap) (a : Addr) : AHeap := fun b => if b = a then none else H b
theorem rem_some {H : AHeap} {a b : Addr} {o : AO} (h : rem H a b = some o) : H b = some o ∧ b ≠ a := by
  unfold rem at h; split at h
  · cases h
  · rename_i q; exact ⟨h, q⟩

section
variable {T : Tr} {f : FR} {env : Env} {ls : Ls} {Fs : List AF} {H : AHeap} {E : Value → Shared → Prop} {s : Shared} {A : Around}

theorem Rep.hideObj {C : Cx} {a : Addr} {o : Obj} {ob : AO} (R : Rep C Fs H s) (hH : H a = some ob) (ho : s.heap.get? a = some o) : Rep C (.hid a o :: Fs) (rem H a) s := by
  obtain ⟨x, y, z⟩ := R.objs a ob hH
  obtain ⟨o', ho', nt⟩ := x.there
  rw [ho] at ho'; cases ho'
  refine (R.mono fun b ob' e => (rem_some e).1).push ⟨ho, nt⟩ (fun b hb => by rw [List.mem_singleton.mp hb]; exact y.1) (fun b hb => by rw [List.mem_singleton.mp hb]; simp [rem]) (fun b hb g hg => by rw [List.mem_singleton.mp hb]; exact z g hg) fun g hg b hb hb' => ?_
  rw [List.mem_singleton.mp hb'] at hb
  have : a ∈ g.reads := by cases g with | fr f => cases hb | hid c o => exact hb | gh _ => cases hb
  exact z g hg this
theorem Rep.showObj {C : Cx} {pre post : List AF} {a : Addr} {o : Obj} {ob : AO} (R : Rep C (pre ++ .hid a o :: post) H s) (hn : New0 C a) (hs : Stands C s.heap a ob) : Rep C (pre ++ post) (upd H a ob) s := by
  obtain ⟨p1, p2, p3⟩ := List.pairwise_append.mp R.apart
  obtain ⟨q1, q2⟩ := List.pairwise_cons.mp p2
  have nf : ∀ f ∈ pre ++ post, a ∉ f.reads := fun f hf => by
    rcases List.mem_append.mp hf with hf | hf
    · exact (p3 f hf _ (.head _)).2 a List.mem_cons_self
    · exact (q1 f hf).1 a List.mem_cons_self
  have R' : Rep C (pre ++ post) H s := R.sub (List.Sublist.append (List.Sublist.refl _) (List.sublist_cons_self _ _))
  refine ⟨R'.ok, R'.keep, R'.gens, R'.os, R'.frs, R'.apart, fun b ob' e => ?_⟩
  unfold upd at e
  split at e
  · cases e; rename_i q; subst q; exact ⟨hs, hn, nf⟩
  · exact R'.objs b ob' e

structure SetParts (C : Cx) (a : Addr) (o : Obj) (l' : List Pt) (es : Array (Int × Value)) (ep : Nat) (t : SetTable) : Prop where
  ex : o.ExactSet
  data : o.data = .set es ep t
  inv : Tab.Inv t (es.toList.map (·.1))
  led : C.w.params.followText "set-order" = false → t.led = true ∧ t.plain = true
  len : l'.length = es.size
theorem setParts {C : Cx} (R : Rep C Fs H s) {a : Addr} {l : List Pt} (hH : H a = some (.pset l)) : ∃ o es ep t l', s.heap.get? a = some o ∧ SetParts C a o l' es ep t ∧ l'.Perm l ∧ ∀ (i : Nat) (q : Pt), l'[i]? = some q → ∃ x : Int × Value, (walkOf C.w a es ep)[i]? = some x ∧ IsPt s.heap q x.2 := by
  have S := R.pset hH
  obtain ⟨o, es, ep, t, ho, hx, hd, I, hb, El⟩ := S.obj
  obtain ⟨l', hp, El'⟩ := els_perm (walkOf_perm C.w a es ep).symm El
  refine ⟨o, es, ep, t, l', ho, ⟨hx, hd, I, hb, by rw [hp.length_eq, ← El.length, Array.length_toList]⟩, hp, fun i q e => ?_⟩
  obtain ⟨v, e1, p1⟩ := El'.at e
  exact ⟨_, by rw [← Array.getElem?_toList]; exact e1, p1⟩

theorem set_tail {target : Expr} {body : List Stmt} {Q : AFl → Ls → AHeap → Prop} {p : PV} {H₁ : AHeap} (hh : T.hd = false)
    (h : ∃ (a : Addr) (l : List Pt), p = .ref a ∧ H₁ a = some (.pset l) ∧ ∀ l' : List Pt, l'.Perm l → ∃ J : Nat → Ls → AHeap → Prop, J 0 ls (rem H₁ a) ∧
      (∀ i q ls' H' Fs', l'[i]? = some q → J i ls' H' → AA T ⟨.fn, env, ls'⟩ Fs' H' target (pt q) (fun ls₁ H₁ => AX T env Fs' ls₁ H₁ body (LoopQ (J (i + 1)) (fun _ _ _ => False)) NoE) NoE) ∧ ∀ ls' H', J l'.length ls' H' → Q .next ls' (upd H' a (.pset l))) :
    ForTail T env Fs ls target body Q E p H₁ := fun A s s₁ v ok R₁ pr k₁ => by
  obtain ⟨a, l, e, hH, hl⟩ := h
  subst e
  rw [pr.ref_inv]
  obtain ⟨o, es, ep, t, l', ho, SP, hp, hw⟩ := setParts R₁ hH
  obtain ⟨J, h0, h1, h2⟩ := hl l' hp
  have S₁ := R₁.pset hH
  have hn0 := (R₁.objs a _ hH).2.1
  refine wp_pyIter_set ho SP.ex SP.data SP.inv SP.led ?_
  have R₂ : Rep T.C (.hid a o :: .fr ⟨.fn, env, ls⟩ :: Fs) (rem H₁ a) s₁ := R₁.hideObj hH ho
  have R₃ : Rep T.C (.hid s₁.heap.objs.size (setIterObj (slotAt T.C.w t 0) 0 a es.size ep) :: .hid a o :: .fr ⟨.fn, env, ls⟩ :: Fs) (rem H₁ a) { s₁ with heap := s₁.heap.push (setIterObj 0 0 a es.size ep) } := by
    refine R₂.hide push_keep (Nat.le_refl _) ?_ (.cls (by show Value.type "set_iterator" ≠ Value.type "tuple"; decide))
    have : slotAt T.C.w t 0 = 0 := by unfold slotAt; split <;> rfl
    rw [this]; exact Heap.get?_push_size _ rfl
  have R₄ : Rep T.C (.fr ⟨.fn, env, ls⟩ :: .hid s₁.heap.objs.size (setIterObj (slotAt T.C.w t 0) 0 a es.size ep) :: .hid a o :: Fs) (rem H₁ a) { s₁ with heap := s₁.heap.push (setIterObj 0 0 a es.size ep) } := by
    have x := R₃.swap.sub (List.Sublist.refl _)
    have y : Rep T.C (.hid s₁.heap.objs.size (setIterObj (slotAt T.C.w t 0) 0 a es.size ep) :: .fr ⟨.fn, env, ls⟩ :: .hid a o :: Fs) (rem H₁ a) { s₁ with heap := s₁.heap.push (setIterObj 0 0 a es.size ep) } := by
      refine (R₂.swap).hide push_keep (Nat.le_refl _) ?_ (.cls (by show Value.type "set_iterator" ≠ Value.type "tuple"; decide))
      have : slotAt T.C.w t 0 = 0 := by unfold slotAt; split <;> rfl
      rw [this]; exact Heap.get?_push_size _ rfl
    exact y.swap
  generalize hit : s₁.heap.objs.size = it at R₄ ⊢
  have k₂ : TupKeep s₁.heap (s₁.heap.push (setIterObj 0 0 a es.size ep)) := TupKeep.of_keep push_keep
  refine codeAny_forLoop_any (fun n s' => ∃ i ls' H', n = l'.length - i ∧ i ≤ l'.length ∧ J i ls' H' ∧ Rep T.C (.fr ⟨.fn, env, ls'⟩ :: .hid it (setIterObj (slotAt T.C.w t i) i a es.size ep) :: .hid a o :: Fs) H' s' ∧ TupKeep s₁.heap s'.heap) ?_ l'.length ⟨0, ls, _, rfl, Nat.zero_le _, h0, R₄, k₂⟩
  rintro n s₃ ⟨i, ls', H', rfl, hle, hJ, R₅, k₃⟩
  have hit' : s₃.heap.get? it = some (setIterObj (slotAt T.C.w t i) i a es.size ep) := (R₅.frs (.hid it _) (by simp)).1.1
  have ho' : s₃.heap.get? a = some o := (R₅.frs (.hid a o) (by simp)).1.1
  by_cases hlt : i < l'.length
  · obtain ⟨x, hx, px⟩ := hw i l'[i] (List.getElem?_eq_getElem hlt)
    refine wp_pyNext_set_item hit' ho' SP.ex SP.data SP.inv SP.led hx fun h' hi' sb => ?_
    dsimp only
    obtain ⟨R₆, k₆⟩ := Rep.hidden (pre := [.fr ⟨.fn, env, ls'⟩]) (s' := { s₃ with heap := h' }) R₅ sb.extBut hi' (.cls (by show Value.type "set_iterator" ≠ Value.type "tuple"; decide))
    have own : wpAny T.C.M A (letOwnedTupleGo target (.ref it) x.2) (fun _ s₁' =>
          wpAny T.C.M A (assign target env x.2) (fun _ s₂ => wpAny T.C.M A (execs body env) (fun f s₃ => match f with
            | .next | .cont => ∃ m, m < l'.length - i ∧ ∃ i ls' H', m = l'.length - i ∧ i ≤ l'.length ∧ J i ls' H' ∧ Rep T.C (.fr ⟨.fn, env, ls'⟩ :: .hid it (setIterObj (slotAt T.C.w t i) i a es.size ep) :: .hid a o :: Fs) H' s₃ ∧ TupKeep s₁.heap s₃.heap
            | .brk => False
            | .ret v => False) NoE s₂) NoE s₁') NoE { s₃ with heap := h' } := by
      have hstep := h1 i l'[i] ls' H' (.hid it (setIterObj (slotAt T.C.w t (i + 1)) (i + 1) a es.size ep) :: .hid a o :: Fs) (List.getElem?_eq_getElem hlt) hJ
      have okk : ∀ ls'', AOk T (.fr ⟨.fn, env, ls''⟩ :: .hid it (setIterObj (slotAt T.C.w t (i + 1)) (i + 1) a es.size ep) :: .hid a o :: Fs) A := fun ls'' => ⟨ok.frames, ok.depth, ok.units, ok.handled⟩
      have main : wpAny T.C.M A (assign target env x.2) (fun _ s₂ => wpAny T.C.M A (execs body env) (fun f s₃ => match f with
            | .next | .cont => ∃ m, m < l'.length - i ∧ ∃ i ls' H', m = l'.length - i ∧ i ≤ l'.length ∧ J i ls' H' ∧ Rep T.C (.fr ⟨.fn, env, ls'⟩ :: .hid it (setIterObj (slotAt T.C.w t i) i a es.size ep) :: .hid a o :: Fs) H' s₃ ∧ TupKeep s₁.heap s₃.heap
            | .brk => False
            | .ret v => False) NoE s₂) NoE { s₃ with heap := h' } := by
        refine wpAny_mono (hstep A { s₃ with heap := h' } x.2 (okk _) R₆ (PR.keep (k₃.trans k₆) _ (PR_of_isPt px))) (fun _ s₇ ⟨ls₁, H₁', R₇, k₇, hX⟩ => ?_) fun _ _ e => e
        refine wpAny_mono (hX A s₇ (okk _) R₇) (fun fl s₈ ⟨b, ls₂, H₂', fr, R₈, k₈, hQ⟩ => ?_) fun _ _ e => e
        have kk : TupKeep s₁.heap s₈.heap := k₃.trans (k₆.trans (k₇.trans k₈))
        rcases b with _ | _ | _ | p <;> cases fl <;> first | exact fr.elim | exact hQ.elim | skip
        · exact ⟨l'.length - (i + 1), by omega, i + 1, ls₂, H₂', rfl, hlt, hQ, R₈, kk⟩
        · exact ⟨l'.length - (i + 1), by omega, i + 1, ls₂, H₂', rfl, hlt, hQ, R₈, kk⟩
      have triv : ∀ t : Expr, (∀ y, letOwnedTupleGo t (.ref it) y = pure () ∨ letOwnedTupleGo t (.ref it) y = (do
          let (.ref r, .ref a) := (Value.ref it, y) | return
          let o ← load r
          match o.cls, o.data with
          | .type n, .fields vs =>
            if ["enumerate", "zip", "dict_itemiterator", "dict_reverseitemiterator", "odict_iterator", "itertools.zip_longest", "itertools.pairwise"].contains n && vs[0]? == some (rawInt a) then
              rule "for.unpacks-the-owned-tuple"
              updateField r 0 .none
          | _, _ => pure ())) := fun t y => by cases t <;> first | exact .inl rfl | exact .inr rfl
      rcases triv target x.2 with e | e <;> rw [e]
      · exact wpAny_pure main
      · clear e
        generalize x.2 = y at main ⊢
        cases y <;> first | exact wpAny_pure main | skip
        refine wpAny_bind (wpAny_load (s := { s₃ with heap := h' }) hi' ?_)
        exact wpAny_pure main
    exact wpAny_mono own (fun _ s₁' hm => wpAny_mono hm (fun _ s₂ hb => wpAny_mono hb (fun fl s₃ hf => by cases fl <;> first | exact hf | exact hf.elim) fun _ _ e => e.elim) fun _ _ e => e.elim) fun _ _ e => e.elim
  · have hi : i = es.size := by rw [← SP.len]; omega
    refine wp_pyNext_set_end (ok.handled hh) hit' ho' SP.ex SP.data SP.inv SP.led hi fun h' ext => ?_
    dsimp only
    obtain ⟨R₆, k₆⟩ := Rep.unhide (pre := [.fr ⟨.fn, env, ls'⟩]) (s' := { s₃ with heap := h' }) R₅ ext
    have : i = l'.length := by omega
    subst this
    have ho'' : h'.get? a = some o := (R₆.frs (.hid a o) (by simp)).1.1
    have kk := k₃.trans k₆
    have St : Stands T.C h' a (.pset l) := PSet.keep S₁ (ho''.trans ho.symm) fun b o e c d => ⟨o.slots, kk b o e c d⟩
    exact wpAny_execs_nil ⟨.next, ls', _, trivial, Rep.showObj (pre := [.fr ⟨.fn, env, ls'⟩]) R₆ hn0 St, k₁.trans kk, h2 ls' H' hJ⟩
end
end
section
open PySem PySem.W PyProof.Rows PySem.Calls
noncomputable abbrev listObj (vs : Array Value) (n : Nat) : Obj := { cls := .type "list", dict := none, data := .seq vs n, slots := #[] }
theorem listObj_nt {vs : Array Value} {n : Nat} : NotTup (listObj vs n) := .cls (by show Value.type "list" ≠ Value.type "tuple"; decide)

noncomputable def CS (C : Cx) (f : FR) (mid : List AF) (D : Addr) (out : List PV) (post : List AF) (H : AHeap) (s : Shared) : Prop :=
  ∃ vs n, PRs s.heap out vs.toList ∧ Rep C (.fr f :: (mid ++ .hid D (listObj vs n) :: post)) H s
noncomputable def AIfs (T : Tr) (f : FR) (Fs : List AF) (H : AHeap) : List Expr → (Bool → AHeap → Prop) → Prop
  | [], Q => Q true H
  | c :: r, Q => AT T f Fs H c (fun b H₁ => if b then AIfs T f Fs H₁ r Q else Q false H₁) NoE
noncomputable def AEmit (T : Tr) (f : FR) (D : Addr) (post : List AF) (emit : Value → Env → Sem Unit) (H : AHeap) (out : List PV) (K : List PV → AHeap → Prop) : Prop :=
  ∀ A s mid, AOk T (.fr f :: (mid ++ .hid D (listObj #[] 0) :: post)) A → CS T.C f mid D out post H s → wpAny T.C.M A (emit (.ref D) f.env) (fun _ s' => ∃ out' H', CS T.C f mid D out' post H' s' ∧ TupKeep s.heap s'.heap ∧ K out' H') NoE s
noncomputable def Sub (ls ls' : Ls) : Prop := ∀ y p, ls.lookup y = some p → ls'.lookup y = some p
theorem Sub.refl (ls : Ls) : Sub ls ls := fun _ _ e => e
theorem Sub.cons {ls ls' : Ls} {x : Str} {p : PV} (h : Sub ls ls') (hx : ls.lookup x = none) : Sub ls ((x, p) :: ls') := fun y q e => by
  rw [List.lookup_cons]
  by_cases hy : y = x
  · subst hy; rw [hx] at e; cases e
  · rw [beq_eq_false_iff_ne.mpr hy]; exact h y q e

noncomputable def testLoop (ifs : List Expr) (env : Env) : Sem Bool := forIn ifs true fun c r => if r = true then do let ok ← isTrue c env (eval c env); pure (ForInStep.yield ok) else pure (ForInStep.yield r)
structure CompShape (elt : Expr) (gens : List Comprehension) (scope : Scope) (pos : Pos) (d : Nat) (target : Expr) (ifs : List Expr) (emit : Value → Env → Sem Unit) : Prop where
  turn : ∃ p0, ∀ it acc env, compTurn (.ListComp elt gens scope pos) d it acc env = (standAt p0 >>= fun _ => pyNext it >>= fun r => match r with
    | none => pure (.done .next)
    | some v => letOwnedTupleGo target it v >>= fun _ => assign target env v >>= fun _ => testLoop ifs env >>= fun ok =>
      (if ok = true then (emit acc env >>= fun _ => again (.compLoop (.ListComp elt gens scope pos) d it acc env)) else again (.compLoop (.ListComp elt gens scope pos) d it acc env)))
  start : ∃ g, gens[d]? = some g ∧ g.is_async = 0

section
variable {T : Tr} {f : FR} {env : Env} {ls : Ls} {Fs : List AF} {H : AHeap} {E : Value → Shared → Prop} {s : Shared} {A : Around}

theorem AOk.same {Gs Gs' : List AF} (ok : AOk T Gs A) (h : envsOf Gs' = envsOf Gs) : AOk T Gs' A := ⟨h ▸ ok.frames, ok.depth, ok.units, ok.handled⟩
theorem envsOf_hid {pre post : List AF} {a : Addr} {o : Obj} : envsOf (pre ++ .hid a o :: post) = envsOf (pre ++ post) := by
  induction pre with
  | nil => rfl
  | cons x pre ih =>
    rcases x with ⟨_ | cs, e, l⟩ | ⟨b, o'⟩ <;> simp only [List.cons_append, envsOf, ih]
theorem envsOf_ls {c : FK} {ls ls' : Ls} {Gs : List AF} : envsOf (.fr ⟨c, env, ls⟩ :: Gs) = envsOf (.fr ⟨c, env, ls'⟩ :: Gs) := by cases c <;> rfl

theorem wp_tests {c : FK} {Fs' : List AF} {ifs : List Expr} {Q : Bool → AHeap → Prop} (h : AIfs T ⟨c, env, ls⟩ Fs' H ifs Q) (ok : AOk T (.fr ⟨c, env, ls⟩ :: Fs') A) (R : Rep T.C (.fr ⟨c, env, ls⟩ :: Fs') H s) :
    wpAny T.C.M A (testLoop ifs env) (PostB T (.fr ⟨c, env, ls⟩ :: Fs') s Q) NoE s := by
  have off : ∀ (ifs : List Expr) (s : Shared) (Q' : Bool → Shared → Prop), Q' false s → wpAny T.C.M A (forIn ifs false fun c r => if r = true then do let ok ← isTrue c env (eval c env); pure (ForInStep.yield ok) else pure (ForInStep.yield r)) Q' NoE s := by
    intro ifs
    induction ifs with
    | nil => intro s Q' h; exact wpAny_pure h
    | cons c ifs ih => intro s Q' h; rw [List.forIn_cons]; exact wpAny_bind (wpAny_pure (ih s Q' h))
  unfold testLoop
  induction ifs generalizing s H with
  | nil => exact wpAny_pure ⟨H, R, TupKeep.refl _, h⟩
  | cons e ifs ih =>
    rw [List.forIn_cons]
    simp only [if_true]
    refine wpAny_bind (wpAny_bind (wpAny_mono (h A s ok R) (fun b s₁ ⟨H₁, R₁, k₁, h₁⟩ => wpAny_pure ?_) fun _ _ x => x))
    cases b with
    | true => exact wpAny_mono (ih h₁ R₁) (fun b s₂ ⟨H₂, R₂, k₂, h₂⟩ => ⟨H₂, R₂, k₁.trans k₂, h₂⟩) fun _ _ x => x
    | false => exact off ifs s₁ _ ⟨H₁, R₁, k₁, h₁⟩

theorem comp_loop {elt target : Expr} {gens : List Comprehension} {scope : Scope} {pos : Pos} {d : Nat} {ifs : List Expr} {emit : Value → Env → Sem Unit} {c : FK} {D it : Addr} {mid post : List AF} {o : Obj} {x : AIt} {out : List PV} {R' : Result → Shared → Prop} (sh : CompShape elt gens scope pos d target ifs emit) (hh : T.hd = false)
    (I : Nat → AIt → List PV → AHeap → Prop) (n : Nat) (hI : I n x out H) (D' : List PV → AHeap → Prop)
    (turn : ∀ n x out H', I n x out H' → ItTurn H' x (fun p x' => ∀ Fs', AA T ⟨c, env, ls⟩ Fs' H' target p (fun ls' H₂ => Sub ls ls' ∧ AIfs T ⟨c, env, ls'⟩ Fs' H₂ ifs (fun b H₃ => if b then AEmit T ⟨c, env, ls'⟩ D post emit H₃ out (fun out' H₄ => ∃ m, m < n ∧ I m x' out' H₄) else ∃ m, m < n ∧ I m x' out H₃)) NoE) (D' out H'))
    (hi : IsIt o x) (ok : AOk T (.fr ⟨c, env, ls⟩ :: (.hid it o :: mid ++ .hid D (listObj #[] 0) :: post)) A) (S : CS T.C ⟨c, env, ls⟩ (.hid it o :: mid) D out post H s)
    (hR : ∀ s' out' H', CS T.C ⟨c, env, ls⟩ mid D out' post H' s' → TupKeep s.heap s'.heap → D' out' H' → R' (.ok .next) s') :
    codeAny T.C.M A (.compLoop (.ListComp elt gens scope pos) d (.ref it) (.ref D) env) R' s := by
  refine codeAny_loop rfl (fun n s' => ∃ x out H' o, IsIt o x ∧ I n x out H' ∧ CS T.C ⟨c, env, ls⟩ (.hid it o :: mid) D out post H' s' ∧ TupKeep s.heap s'.heap) ?_ n ⟨x, out, H, o, hi, hI, S, TupKeep.refl _⟩
  rintro n s₁ ⟨x, out, H', o, hi, hI, ⟨vs, k, prs, R₁⟩, k₁⟩
  show wpAny _ A ((compTurn (.ListComp elt gens scope pos) d (.ref it) (.ref D) env).onRaise (fun x => do noteFrame x env; theTreesLotGoes x)) _ _ s₁
  refine wpAny_noted ?_
  obtain ⟨p0, ht⟩ := sh.turn
  rw [ht]
  have okk : ∀ (o : Obj) (vs : Array Value) (k : Nat) (ls' : Ls), AOk T (.fr ⟨c, env, ls'⟩ :: (.hid it o :: (mid ++ .hid D (listObj vs k) :: post))) A := fun o' vs k ls' => ok.same (by
    rw [envsOf_ls (ls := ls') (ls' := ls)]
    have := envsOf_hid (pre := .fr ⟨c, env, ls⟩ :: .hid it o' :: mid) (post := post) (a := D) (o := listObj vs k)
    have h2 := envsOf_hid (pre := .fr ⟨c, env, ls⟩ :: .hid it o :: mid) (post := post) (a := D) (o := listObj #[] 0)
    have h3 := envsOf_hid (pre := [.fr ⟨c, env, ls⟩]) (post := mid ++ post) (a := it) (o := o')
    have h4 := envsOf_hid (pre := [.fr ⟨c, env, ls⟩]) (post := mid ++ post) (a := it) (o := o)
    simp only [List.cons_append, List.nil_append] at this h2 h3 h4 ⊢
    cases c <;> simp_all [envsOf])
  refine wpAny_bind (wpAny_standAt (wpAny_bind ?_))
  refine wp_next (pre := [.fr ⟨c, env, ls⟩]) (ok.handled hh) R₁ hi (turn n x out H' hI) (fun p x' v o' s₂ hK hi' pv R₂ k₂ => ?_) (fun s₂ hD R₂ k₂ => ?_)
  · dsimp only
    refine wpAny_bind (wp_letOwned (pre := [.fr ⟨c, env, ls⟩]) R₂ hi' ?_)
    refine wpAny_bind (wpAny_mono (hK _ A s₂ v (okk o' vs k ls) R₂ pv) (fun _ s₃ ⟨ls', H₃, R₃, k₃, hsub, hT⟩ => ?_) fun _ _ e => e.elim)
    refine wpAny_bind (wpAny_mono (wp_tests hT (okk o' vs k ls') R₃) (fun b s₄ ⟨H₄, R₄, k₄, hb⟩ => ?_) fun _ _ e => e.elim)
    have kk := k₂.trans (k₃.trans k₄)
    cases b with
    | false =>
      rw [if_neg (by decide)]
      obtain ⟨m, hm, hI'⟩ := hb
      exact wpAny_pure ⟨rfl, m, hm, x', out, H₄, o', hi', hI', ⟨vs, k, PRs.keep kk _ prs, R₄.weak hsub fun _ _ e => e⟩, k₁.trans kk⟩
    | true =>
      rw [if_pos rfl]
      simp only [if_true] at hb
      refine wpAny_bind (wpAny_mono (hb A s₄ (.hid it o' :: mid) (okk o' #[] 0 ls') ⟨vs, k, PRs.keep kk _ prs, R₄⟩) (fun _ s₅ ⟨out', H₅, ⟨vs', k', prs', R₅⟩, k₅, m, hm, hI'⟩ => ?_) fun _ _ e => e.elim)
      exact wpAny_pure ⟨rfl, m, hm, x', out', H₅, o', hi', hI', ⟨vs', k', prs', R₅.weak hsub fun _ _ e => e⟩, k₁.trans (kk.trans k₅)⟩
  · exact wpAny_pure (hR s₂ out H' ⟨vs, k, PRs.keep k₂ _ prs, R₂⟩ (k₁.trans k₂) hD)
end
end
section
open PySem PySem.W PyProof.Rows PySem.Calls
theorem entry_range_it_iter : entryFor table "range_iterator.__iter__" = some Builtin.«dict_keyiterator.__iter__» :=
  entryFor_alias (id' := "dict_keyiterator.__iter__") (by kernel_rfl) rfl (by decide +kernel) (by kernel_rfl)

section
variable {T : Tr} {f : FR} {env : Env} {ls : Ls} {Fs : List AF} {H : AHeap} {E : Value → Shared → Prop} {s : Shared} {A : Around}

theorem wp_iterSelf {pre post : List AF} {it : Addr} {o : Obj} {x : AIt} {Q : Value → Shared → Prop} (R : Rep T.C (pre ++ .hid it o :: post) H s) (hi : IsIt o x) (h : Q (.ref it) s) : wpAny T.C.M A (pyIter (.ref it)) Q E s := by
  obtain ⟨⟨ho, _⟩, _⟩ := R.frs (.hid it o) (by simp)
  cases x with
  | list a i => exact wpAny_pyIter_listiter ⟨o, ho, hi.1, hi.2⟩ h
  | range x left =>
    have hT : s.TypeIs (.ref it) "range_iterator" := ⟨o, ho, by rw [show o = _ from hi]⟩
    refine wpAny_pyIter_slot hT F.slot_range_iterator_iter (wpAny_call_entry F.slot_range_iterator_iter hT entry_range_it_iter ?_ (F.args_range_iterator_iter_1 _))
    show wpAny _ _ (ret (.ref it)) _ _ s
    exact wpAny_pure ⟨_, rfl, "range_iterator", _, hT, F.slot_range_iterator_next.lookup, h⟩

theorem comp_start {elt target : Expr} {gens : List Comprehension} {scope : Scope} {pos : Pos} {d : Nat} {ifs : List Expr} {emit : Value → Env → Sem Unit} {it D : Addr} {pre post : List AF} {o : Obj} {x : AIt} {R' : Result → Shared → Prop} (sh : CompShape elt gens scope pos d target ifs emit)
    (hi : IsIt o x) (R : Rep T.C (pre ++ .hid it o :: post) H s) (h : codeAny T.C.M A (.compLoop (.ListComp elt gens scope pos) d (.ref it) (.ref D) env) R' s) :
    codeAny T.C.M A (.compStart (.ListComp elt gens scope pos) d (.ref it) (.ref D) env) R' s := by
  obtain ⟨g, hg, ha⟩ := sh.start
  refine codeAny_of_tree ?_
  show wpAny _ A ((compStart (.ListComp elt gens scope pos) d (.ref it) (.ref D) env).onRaise (fun x => do noteFrame x env; standAt theWindowsPlace)) _ _ s
  refine wpAny_notedAt ?_
  unfold compStart
  have hc : (clausesOf (.ListComp elt gens scope pos))[d]? = some g := hg
  rw [hc]
  have : ((some g).elim false fun x => x.is_async != 0) = false := by simp [ha]
  rw [this, if_neg (by decide)]
  refine wpAny_bind (wpAny_askSetting (wpAny_ite ?_))
  split
  · exact wpAny_pure ⟨rfl, h⟩
  · refine wpAny_bind (wpAny_rule ?_)
    dsimp only
    refine wpAny_bind (wpAny_standAt (wpAny_bind (wp_iterSelf R hi (wpAny_pure ⟨rfl, h⟩))))

noncomputable def emitElt (elt : Expr) (acc : Value) (env : Env) : Sem Unit := eval elt env >>= fun x => call (.builtin "list.append") [acc, x] >>= fun _ => pure ()
theorem AEmit.elt {elt : Expr} {D : Addr} {post : List AF} {out : List PV} {K : List PV → AHeap → Prop} (hz : out.length ≤ 100000) (h : ∀ Fs', AE T f Fs' H elt (fun v H' => K (out ++ [v]) H') NoE) : AEmit T f D post (emitElt elt) H out K := fun A s mid ok ⟨vs, n, prs, R⟩ => by
  have ok' : AOk T (.fr f :: (mid ++ .hid D (listObj vs n) :: post)) A := ok.same (by
    have h1 := envsOf_hid (pre := .fr f :: mid) (post := post) (a := D) (o := listObj vs n)
    have h2 := envsOf_hid (pre := .fr f :: mid) (post := post) (a := D) (o := listObj #[] 0)
    simp only [List.cons_append] at h1 h2
    rw [h1, h2])
  refine wpAny_bind (wpAny_mono (h _ A s ok' R) (fun v s₁ ⟨p, H₁, pr, R₁, k₁, h₁⟩ => ?_) fun _ _ e => e)
  have il : IsL s₁.heap D vs n := (R₁.frs (.hid D (listObj vs n)) (by simp)).1.1
  have hs := prs_size prs
  refine wpAny_bind (call_meets slot_list_append ⟨_, il, rfl⟩ entry_list_append (args_list_append _ _) (list_append D vs n v (by rw [hs]; exact Nat.le_trans hz (by decide))) ⟨il, ?_⟩)
  obtain ⟨R₂, k₂⟩ := Rep.hidden (pre := .fr f :: mid) (s' := { s₁ with heap := s₁.heap.update D (Obj.mapSeq fun x => x.push v) }) R₁ (il_keep il _) (IsL.update il _) listObj_nt
  refine wpAny_pure ⟨out ++ [p], H₁, ⟨_, _, ?_, R₂⟩, k₁.trans k₂, h₁⟩
  rw [Array.toList_push]
  exact (PRs.keep (k₁.trans k₂) _ prs).append (PRs.cons (pr.keep k₂) PRs.nil)

noncomputable def emitNest (elt : Expr) (gens : List Comprehension) (scope : Scope) (pos : Pos) (d : Nat) (iter : Expr) (acc : Value) (env : Env) : Sem Unit :=
  eval iter env >>= fun x => standAt iter.pos >>= fun _ => foldedSetIterable iter env x >>= fun x => holding [x] (pyIter x) >>= fun it => runOwn (.compStart (.ListComp elt gens scope pos) d it acc env) env >>= fun _ => pure ()
theorem AEmit.nest {elt iter target : Expr} {gens : List Comprehension} {scope : Scope} {pos : Pos} {d : Nat} {ifs : List Expr} {emit : Value → Env → Sem Unit} {c : FK} {D : Addr} {post : List AF} {out : List PV} {K : List PV → AHeap → Prop} (sh : CompShape elt gens scope pos d target ifs emit) (hh : T.hd = false)
    (hs : ∀ x, foldedSetIterable iter env x = pure x)
    (h : ∀ Fs', AE T ⟨c, env, ls⟩ Fs' H iter (fun p H₁ => ∃ x, AIter T (.fr ⟨c, env, ls⟩ :: Fs') H₁ p x ∧ ∃ (I : Nat → AIt → List PV → AHeap → Prop) (n : Nat), I n x out H₁ ∧
      ∀ n x out H', I n x out H' → ItTurn H' x (fun p x' => ∀ Fs', AA T ⟨c, env, ls⟩ Fs' H' target p (fun ls' H₂ => Sub ls ls' ∧ AIfs T ⟨c, env, ls'⟩ Fs' H₂ ifs (fun b H₃ => if b then AEmit T ⟨c, env, ls'⟩ D post emit H₃ out (fun out' H₄ => ∃ m, m < n ∧ I m x' out' H₄) else ∃ m, m < n ∧ I m x' out H₃)) NoE) (K out H')) NoE) :
    AEmit T ⟨c, env, ls⟩ D post (emitNest elt gens scope pos d iter) H out K := fun A s mid ok ⟨vs, n, prs, R⟩ => by
  have ok' : ∀ vs n, AOk T (.fr ⟨c, env, ls⟩ :: (mid ++ .hid D (listObj vs n) :: post)) A := fun vs n => ok.same (by
    have h1 := envsOf_hid (pre := .fr ⟨c, env, ls⟩ :: mid) (post := post) (a := D) (o := listObj vs n)
    have h2 := envsOf_hid (pre := .fr ⟨c, env, ls⟩ :: mid) (post := post) (a := D) (o := listObj #[] 0)
    simp only [List.cons_append] at h1 h2
    rw [h1, h2])
  refine wpAny_bind (wpAny_mono (h _ A s (ok' vs n) R) (fun v s₁ ⟨p, H₁, pr, R₁, k₁, x, hx, I, m, hI, turn⟩ => ?_) fun _ _ e => e)
  refine wpAny_bind (wpAny_standAt (wpAny_bind (wpAny_of_eq (hs v) (wpAny_bind (wpAny_holding ?_)))))
  refine hx A s₁ v _ _ (ok' vs n) R₁ pr fun it o s₂ hi R₂ k₂ => ?_
  have R₂ := R₂.swap
  have okk : AOk T (.fr ⟨c, env, ls⟩ :: (.hid it o :: mid ++ .hid D (listObj #[] 0) :: post)) A := ok.same (by
    have h3 := envsOf_hid (pre := [.fr ⟨c, env, ls⟩]) (post := mid ++ .hid D (listObj #[] 0) :: post) (a := it) (o := o)
    simpa using h3)
  refine wpAny_bind (wpAny_runOwn (comp_start (pre := [.fr ⟨c, env, ls⟩]) sh hi R₂ ?_))
  refine comp_loop (T := T) (mid := mid) sh hh I m hI K turn hi (by show AOk T _ A; exact okk) ⟨vs, n, PRs.keep (k₁.trans k₂) _ prs, R₂⟩ fun s₃ out' H' S' k₃ hK => ?_
  exact wpAny_pure ⟨out', H', S', k₁.trans (k₂.trans k₃), hK⟩

theorem shape1 {elt target iter : Expr} {ifs : List Expr} {scope : Scope} {pos : Pos} : CompShape elt [⟨target, iter, ifs, 0⟩] scope pos 0 target ifs (emitElt elt) :=
  ⟨⟨iter.pos, fun it acc env => by
    rw [compTurn_list]
    rfl⟩, ⟨_, rfl, rfl⟩⟩
end
end
section
open PySem PySem.W PyProof.Rows PySem.Calls
noncomputable def closOf (env : Env) : List (Str × NameKind) → List (Str × Addr) → List (Str × Addr)
  | [], acc => acc
  | (n, k) :: r, acc => if k == .free then closOf env r ((n, (env.cells.lookup n).getD 0) :: acc) else closOf env r acc
theorem closureFor_eq {scope : Scope} {env : Env} (h : ∀ n, (n, NameKind.free) ∈ scope.names → ∃ c, env.cells.lookup n = some c) : closureFor scope env = pure (closOf env scope.names []) := by
  unfold closureFor
  have main : ∀ (names : List (Str × NameKind)) (acc : List (Str × Addr)), (∀ n, (n, NameKind.free) ∈ names → ∃ c, env.cells.lookup n = some c) →
      (forIn names acc fun (x : Str × NameKind) cs => match x with | (name, kind) => (if (kind == NameKind.free) = true then do
          let c ← cellOf env name
          pure (ForInStep.yield ((name, c) :: cs)) else pure (ForInStep.yield cs) : Sem (ForInStep (List (Str × Addr))))) = pure (closOf env names acc) := by
    intro names
    induction names with
    | nil => intro acc _; rfl
    | cons x names ih =>
      obtain ⟨n, k⟩ := x
      intro acc hx
      rw [List.forIn_cons]
      unfold closOf
      by_cases hk : (k == NameKind.free) = true
      · have hk' : k = .free := by simpa using hk
        subst hk'
        obtain ⟨c, hc⟩ := hx n (.head _)
        simp only [beq_self_eq_true, if_true]
        have : cellOf env n = pure c := by unfold cellOf; rw [hc]
        rw [this]
        simp only [pure_bind]
        rw [ih _ fun m hm => hx m (.tail _ hm), hc]; rfl
      · rw [if_neg hk]
        dsimp only
        rw [if_neg hk]
        simp only [pure_bind]
        exact ih _ fun m hm => hx m (.tail _ hm)
  exact (congrArg (fun m : Sem (List (Str × Addr)) => m >>= fun cs => pure cs) (main scope.names [] h)).trans rfl

theorem closOf_lookup {env : Env} {x : Str} : ∀ (names : List (Str × NameKind)) (acc : List (Str × Addr)), (names.map (·.1)).Nodup → (closOf env names acc).lookup x = if names.lookup x = some .free then some ((env.cells.lookup x).getD 0) else acc.lookup x
  | [], acc, _ => by simp [closOf]
  | (n, k) :: r, acc, hn => by
    rw [List.map_cons] at hn
    obtain ⟨h1, h2⟩ := List.nodup_cons.mp hn
    unfold closOf
    have hr : x = n → r.lookup x = none := fun e => by
      subst e
      cases q : r.lookup x with
      | none => rfl
      | some v => exact absurd (List.mem_map.mpr ⟨_, mem_of_lookup q, rfl⟩) h1
    by_cases hk : (k == NameKind.free) = true
    · have hk' : k = .free := by simpa using hk
      subst hk'
      simp only [beq_self_eq_true, if_true]
      rw [closOf_lookup r _ h2, List.lookup_cons, List.lookup_cons]
      by_cases e : x = n
      · rw [hr e]; subst e; simp
      · rw [beq_eq_false_iff_ne.mpr e]
    · rw [if_neg hk, closOf_lookup r _ h2, List.lookup_cons]
      by_cases e : x = n
      · rw [hr e]; subst e; simp
        intro q; subst q; simp at hk
      · rw [beq_eq_false_iff_ne.mpr e]
theorem closOf_mem {env : Env} {y : Str × Addr} : ∀ (names : List (Str × NameKind)) (acc : List (Str × Addr)), y ∈ closOf env names acc → y ∈ acc ∨ ((y.1, NameKind.free) ∈ names ∧ y.2 = (env.cells.lookup y.1).getD 0)
  | [], acc, h => .inl h
  | (n, k) :: r, acc, h => by
    unfold closOf at h
    by_cases hk : (k == NameKind.free) = true
    · have hk' : k = .free := by simpa using hk
      subst hk'
      simp only [beq_self_eq_true, if_true] at h
      rcases closOf_mem r _ h with h | ⟨h, e⟩
      · rcases List.mem_cons.mp h with rfl | h
        · exact .inr ⟨.head _, rfl⟩
        · exact .inl h
      · exact .inr ⟨.tail _ h, e⟩
    · rw [if_neg hk] at h
      rcases closOf_mem r _ h with h | ⟨h, e⟩
      · exact .inl h
      · exact .inr ⟨.tail _ h, e⟩
theorem closOf_apart {env : Env} (ha : env.cells.Pairwise fun x y => x.2 ≠ y.2) : ∀ (names : List (Str × NameKind)) (acc : List (Str × Addr)), (acc.map (·.1) ++ names.map (·.1)).Nodup → (∀ y ∈ acc, y ∈ env.cells) → (∀ n, (n, NameKind.free) ∈ names → ∃ c, env.cells.lookup n = some c) → acc.Pairwise (fun x y => x.2 ≠ y.2) → (closOf env names acc).Pairwise fun x y => x.2 ≠ y.2
  | [], acc, _, _, _, h => h
  | (n, k) :: r, acc, hn, hm, hx, h => by
    unfold closOf
    rw [List.map_cons] at hn
    by_cases hk : (k == NameKind.free) = true
    · have hk' : k = .free := by simpa using hk
      subst hk'
      simp only [beq_self_eq_true, if_true]
      obtain ⟨c, hc⟩ := hx n (.head _)
      have hmem := mem_of_lookup hc
      refine closOf_apart ha r _ ?_ ?_ (fun m hm => hx m (.tail _ hm)) (List.pairwise_cons.mpr ⟨fun y hy => ?_, h⟩)
      · rw [List.map_cons]; exact List.perm_middle.nodup_iff.mp hn
      · intro y hy
        rcases List.mem_cons.mp hy with rfl | hy
        · rw [hc]; exact hmem
        · exact hm y hy
      · rw [hc]
        have hne : n ≠ y.1 := fun e => by
          have hp := List.perm_middle.nodup_iff.mp hn
          exact (List.nodup_cons.mp hp).1 (List.mem_append_left _ (e ▸ List.mem_map.mpr ⟨y, hy, rfl⟩))
        exact apart_ne ha hmem (hm y hy) hne
    · rw [if_neg hk]
      exact closOf_apart ha r acc (hn.sublist (List.Sublist.append (List.Sublist.refl _) (List.sublist_cons_self _ _))) hm (fun m hm => hx m (.tail _ hm)) h

noncomputable def relN (ns nm : List (Str × NameKind)) : List (Str × NameKind) := ns.map fun (n, k) => if k == .free && nm.lookup n == some .cell then (n, .cell) else (n, k)
theorem relN_lookup {nm : List (Str × NameKind)} {x : Str} : ∀ (ns : List (Str × NameKind)), (relN ns nm).lookup x = (ns.lookup x).map fun k => if k == .free && nm.lookup x == some .cell then .cell else k
  | [] => rfl
  | (n, k) :: r => by
    have ih := relN_lookup (nm := nm) (x := x) r
    unfold relN at ih ⊢
    rw [List.map_cons]
    dsimp only
    by_cases e : x = n
    · subst e
      by_cases hc : (k == NameKind.free && nm.lookup x == some NameKind.cell) = true
      · rw [if_pos hc]; simp only [List.lookup_cons, beq_self_eq_true, Option.map_some]; rw [if_pos hc]
      · rw [if_neg hc]; simp only [List.lookup_cons, beq_self_eq_true, Option.map_some]; rw [if_neg hc]
    · by_cases hc : (k == NameKind.free && nm.lookup n == some NameKind.cell) = true
      · rw [if_pos hc]; simp only [List.lookup_cons, beq_eq_false_iff_ne.mpr e]; exact ih
      · rw [if_neg hc]; simp only [List.lookup_cons, beq_eq_false_iff_ne.mpr e]; exact ih
noncomputable def compLs (ns : List (Str × NameKind)) (ls : Ls) : Ls := ls.filter fun e => ns.lookup e.1 != some .local
theorem compLs_lookup {ns : List (Str × NameKind)} {x : Str} {p : PV} : ∀ {ls : Ls}, (compLs ns ls).lookup x = some p → ls.lookup x = some p ∧ ns.lookup x ≠ some .local
  | [], h => by cases h
  | (y, q) :: ls, h => by
    unfold compLs at h
    rw [List.filter_cons] at h
    by_cases e : x = y
    · subst e
      by_cases hc : ns.lookup x = some .local
      · rw [if_neg (by simp [hc])] at h
        exact absurd hc (compLs_lookup (ls := ls) h).2
      · rw [if_pos (by simp [hc])] at h
        rw [List.lookup_cons] at h ⊢
        simp only [beq_self_eq_true] at h ⊢
        exact ⟨h, hc⟩
    · have hb := beq_eq_false_iff_ne.mpr e
      split at h
      · rw [List.lookup_cons, hb] at h
        rw [List.lookup_cons, hb]
        exact compLs_lookup (ls := ls) h
      · rw [List.lookup_cons, hb]
        exact compLs_lookup (ls := ls) h

structure ScopeOk (scope : Scope) (nm : List (Str × NameKind)) : Prop where
  kind : scope.kind = .function
  nodup : (scope.names.map (·.1)).Nodup
  cell : ∀ x ∈ scope.names, x.2 ≠ .cell
  free : ∀ x ∈ scope.names, x.2 = .free → nm.lookup x.1 = some .cell ∨ nm.lookup x.1 = some .free

section
variable {T : Tr} {f : FR} {env : Env} {ls : Ls} {Fs : List AF} {H : AHeap} {E : Value → Shared → Prop} {s : Shared} {A : Around}

theorem comp_frame {C : Cx} {c : FK} {scope : Scope} {nm : List (Str × NameKind)} {mid : List AF} {L : Addr} {h₁ : Heap} {s' : Shared} (hn : env.scope.names = nm) (sc : ScopeOk scope nm) (R : Rep C (mid ++ .fr ⟨c, env, ls⟩ :: Fs) H s) (hmid : ∀ g ∈ mid, ∃ a o, g = .hid a o)
    (hL : s.heap.objs.size = L) (ns : s'.heap.Ns L (fun _ => none)) (hk : ∀ b o, s.heap.get? b = some o → s'.heap.get? b = some o) (hg : s'.gens = s.gens) (hos : s'.os = s.os) :
    ∃ cenv, cenv = ({ newEnv scope L env.globals (closOf env scope.names []) env.qual none .none (some env) 0 with scope := relabel scope env } : Env) ∧ cenv.scope.names = relN scope.names nm ∧
      Rep C (.fr ⟨.cp [], cenv, compLs scope.names ls⟩ :: (mid ++ .fr ⟨c, env, ls⟩ :: Fs)) H s' := by
  have F : FrOk s.heap ⟨c, env, ls⟩ := (R.frs (.fr ⟨c, env, ls⟩) (by simp)).1
  have hasF : ∀ n, (n, NameKind.free) ∈ scope.names → ∃ d, env.cells.lookup n = some d := fun n hm => by
    have := sc.free _ hm rfl
    rw [← hn] at this
    exact F.has n this
  have names : (relabel scope env).names = relN scope.names nm := by
    unfold relabel relN
    dsimp only
    apply List.map_congr_left
    rintro ⟨n, k⟩ _
    have e1 : env.kindOf n = nm.lookup n := by rw [← hn]; rfl
    rw [show env.scope.kind = .function from F.kind, e1]
    simp
  refine ⟨_, rfl, names, ?_⟩
  have cmem : ∀ y ∈ closOf env scope.names [], y ∈ env.cells := fun y hy => by
    rcases closOf_mem _ _ hy with h | ⟨h, e⟩
    · cases h
    · obtain ⟨d, hd⟩ := hasF _ h
      rw [hd] at e
      have := mem_of_lookup hd
      rwa [show (y.1, d) = y from by rw [show d = y.2 from e.symm]] at this
  have tk := TupKeep.of_keep hk
  have kx : ∀ x k, (relN scope.names nm).lookup x = some k → (k = .cell ∨ k = .free) → scope.names.lookup x = some .free := fun x k e hkk => by
    rw [relN_lookup] at e
    cases q : scope.names.lookup x with
    | none => rw [q] at e; cases e
    | some k' =>
      rw [q] at e
      simp only [Option.map_some, Option.some.injEq] at e
      by_cases hc : (k' == NameKind.free && nm.lookup x == some NameKind.cell) = true
      · simp at hc; rw [hc.1]
      · rw [if_neg hc] at e; subst e
        rcases hkk with rfl | rfl
        · exact absurd rfl (sc.cell _ (mem_of_lookup q))
        · rfl
  have look : ∀ x, scope.names.lookup x = some .free → ∃ d, env.cells.lookup x = some d ∧ (closOf env scope.names []).lookup x = some d := fun x hx => by
    obtain ⟨d, hd⟩ := hasF x (mem_of_lookup hx)
    refine ⟨d, hd, ?_⟩
    rw [closOf_lookup _ _ sc.nodup, if_pos hx, hd]; rfl
  have R' : Rep C (mid ++ .fr ⟨c, env, ls⟩ :: Fs) H s' := R.ext hk hg hos
  have fresh : ∀ n, L ≤ n → H n = none ∧ New0 C n ∧ ∀ f ∈ mid ++ .fr ⟨c, env, ls⟩ :: Fs, n ∉ f.reads := fun n hn => R.fresh_ge (by rw [hL]; exact hn)
  refine R'.push ?_ ?_ ?_ ?_ ?_
  · refine ⟨sc.kind, F.globals, F.builtins, ⟨_, ns, fun x p e k => ?_⟩, fun y hy => ?_, fun x p e k => ?_, fun x k => ?_, closOf_apart F.apart _ _ (by simpa using sc.nodup) (fun y hy => by cases hy) hasF List.Pairwise.nil, fun y hy => ?_, fun e => by cases e⟩
    · exfalso
      have k : (relabel scope env).names.lookup x = some .local := k
      rw [names, relN_lookup] at k
      have := (compLs_lookup e).2
      cases q : scope.names.lookup x with
      | none => rw [q] at k; cases k
      | some k' =>
        rw [q] at k this
        simp only [Option.map_some, Option.some.injEq] at k
        split at k
        · cases k
        · subst k; exact this rfl
    · obtain ⟨v, r⟩ := F.cells y (cmem y hy)
      exact ⟨v, isCell_at r fun o e => hk _ o e⟩
    · have k : (relabel scope env).names.lookup x = some .cell ∨ (relabel scope env).names.lookup x = some .free := k
      rw [names] at k
      have hx : scope.names.lookup x = some .free := by
        rcases k with k | k
        · exact kx x _ k (.inl rfl)
        · exact kx x _ k (.inr rfl)
      obtain ⟨d, h1, h2⟩ := look x hx
      have hck := sc.free _ (mem_of_lookup hx) rfl
      rw [← hn] at hck
      obtain ⟨d', v, e1, r, pr⟩ := F.cellv x p (compLs_lookup e).1 hck
      rw [show env.cells.lookup x = some d from h1] at e1; cases e1
      exact ⟨d, v, h2, isCell_at r (fun o e => hk _ o e), pr.keep tk⟩
    · have k : (relabel scope env).names.lookup x = some .cell ∨ (relabel scope env).names.lookup x = some .free := k
      rw [names] at k
      have hx : scope.names.lookup x = some .free := by
        rcases k with k | k
        · exact kx x _ k (.inl rfl)
        · exact kx x _ k (.inr rfl)
      obtain ⟨d, h1, h2⟩ := look x hx
      exact ⟨d, h2⟩
    · have := F.cells y (cmem y hy)
      obtain ⟨v, o, ho, _⟩ := this
      intro e
      have hlt := Heap.lt_size ho
      rw [hL] at hlt
      have e : y.2 = L := e
      rw [e] at hlt
      exact Nat.lt_irrefl _ hlt
  · intro a ha
    rcases List.mem_cons.mp ha with e | ha
    · rw [show a = L from e]; exact (fresh L (Nat.le_refl _)).2.1.1
    · obtain ⟨y, hy, rfl⟩ := List.mem_map.mp ha
      exact (R.frs (.fr ⟨c, env, ls⟩) (by simp)).2 y.2 (List.mem_cons_of_mem _ (List.mem_map.mpr ⟨y, cmem y hy, rfl⟩))
  · intro a ha
    rcases List.mem_cons.mp ha with e | ha
    · rw [show a = L from e]; exact (fresh L (Nat.le_refl _)).1
    · obtain ⟨y, hy, rfl⟩ := List.mem_map.mp ha
      cases q : H y.2 with
      | none => rfl
      | some o => exact absurd (List.mem_cons_of_mem _ (List.mem_map.mpr ⟨y, cmem y hy, rfl⟩)) ((R.objs y.2 o q).2.2 (.fr ⟨c, env, ls⟩) (by simp))
  · intro a ha g hg
    have : a = L := by
      rcases List.mem_cons.mp ha with rfl | ha
      · rfl
      · cases ha
    subst this
    exact (fresh a (Nat.le_refl _)).2.2 g hg
  · intro g hg a ha hb
    rcases List.mem_cons.mp hb with e | hb
    · have e : a = L := e
      subst e
      refine (fresh a (Nat.le_refl _)).2.2 g hg ?_
      cases g with
      | fr f => cases ha
      | gh _ => cases ha
      | hid b o => exact ha
    · obtain ⟨y, hy, rfl⟩ := List.mem_map.mp hb
      have hyr : y.2 ∈ (AF.fr ⟨c, env, ls⟩).reads := List.mem_cons_of_mem _ (List.mem_map.mpr ⟨y, cmem y hy, rfl⟩)
      cases g with
      | fr f => cases ha
      | gh _ => cases ha
      | hid b o =>
        have hab : y.2 = b := List.mem_singleton.mp ha
        obtain ⟨p1, p2, p3⟩ := List.pairwise_append.mp R.apart
        obtain ⟨q1, q2⟩ := List.pairwise_cons.mp p2
        rcases List.mem_append.mp hg with hg | hg
        · exact (p3 _ hg _ (.head _)).1 b List.mem_cons_self (hab ▸ hyr)
        · rcases List.mem_cons.mp hg with e | hg
          · cases e
          · exact (q1 _ hg).2 b List.mem_cons_self (hab ▸ hyr)
end
end
section
open PySem PySem.W PyProof.Rows PySem.Calls
section
variable {T : Tr} {f : FR} {env : Env} {ls : Ls} {Fs : List AF} {H : AHeap} {E : Value → Shared → Prop} {s : Shared} {A : Around}

theorem comp_pop {C : Cx} {cenv : Env} {l : Ls} {Gs : List AF} {h' : Heap} (R : Rep C (.fr ⟨.cp [], cenv, l⟩ :: Gs) H s) (sb : Heap.SameBut cenv.locals s.heap h') : Rep C Gs H { s with heap := h' } ∧ TupKeep s.heap h' := by
  obtain ⟨a1, a2⟩ := List.pairwise_cons.mp R.apart
  have F : FrOk s.heap ⟨.cp [], cenv, l⟩ := (R.frs _ (.head _)).1
  have tk : TupKeep s.heap h' := TupKeep.of_ext sb.extBut fun o e => by
    obtain ⟨m, ⟨o', es, ep, ho', hd, _⟩, _⟩ := F.ns
    rw [ho'] at e; cases e; exact .dict hd
  refine ⟨R.pop.to (s' := { s with heap := h' }) (fun b => b = cenv.locals) (fun b o hb e => (sb.2 b hb).trans e) tk (fun b h => by subst h; exact (R.frs _ (.head _)).2 _ List.mem_cons_self) (fun g hg a ha h => (a1 g hg).1 cenv.locals List.mem_cons_self (h ▸ ha))
    (fun a o e => .inl ⟨e, fun h => (R.objs a o e).2.2 _ (.head _) (by rw [h]; exact List.mem_cons_self)⟩), tk⟩
theorem comp_toHid {C : Cx} {cenv : Env} {l : Ls} {Gs : List AF} (R : Rep C (.fr ⟨.cp [], cenv, l⟩ :: Gs) H s) : ∃ o, s.heap.get? cenv.locals = some o ∧ (∃ es ep, o.data = .dict es ep ∧ ∀ h' : Heap, h'.get? cenv.locals = some o → ∃ m, h'.Ns cenv.locals m) ∧ Rep C (.hid cenv.locals o :: Gs) H s := by
  obtain ⟨a1, a2⟩ := List.pairwise_cons.mp R.apart
  have F : FrOk s.heap ⟨.cp [], cenv, l⟩ := (R.frs _ (.head _)).1
  obtain ⟨m, ⟨o, es, ep, ho, hd, r⟩, _⟩ := F.ns
  refine ⟨o, ho, ⟨es, ep, hd, fun h' e => ⟨m, o, es, ep, e, hd, r⟩⟩, R.pop.push ⟨ho, .dict hd⟩ (fun a ha => ?_) (fun a ha => ?_) (fun a ha g hg => ?_) fun g hg a ha hb => ?_⟩
  · rw [List.mem_singleton.mp ha]; exact (R.frs _ (.head _)).2 _ List.mem_cons_self
  · rw [List.mem_singleton.mp ha]
    cases q : H cenv.locals with
    | none => rfl
    | some o => exact absurd List.mem_cons_self ((R.objs _ o q).2.2 _ (.head _))
  · rw [List.mem_singleton.mp ha]; exact (a1 g hg).1 _ List.mem_cons_self
  · rw [List.mem_singleton.mp hb] at ha
    exact (a1 g hg).2 _ ha List.mem_cons_self
theorem hid_none {C : Cx} {Gs : List AF} {a : Addr} {o : Obj} (R : Rep C Gs H s) (hm : AF.hid a o ∈ Gs) : H a = none := by
  cases q : H a with
  | none => rfl
  | some ob => exact absurd List.mem_cons_self ((R.objs a ob q).2.2 _ hm)

noncomputable def CompTurns (T : Tr) (ns : List (Str × NameKind)) (nm : List (Str × NameKind)) (ls : Ls) (target : Expr) (ifs : List Expr) (emit : Value → Env → Sem Unit) (I : Nat → AIt → List PV → AHeap → Prop) (D' : List PV → AHeap → Prop) : Prop :=
  ∀ cenv D post, cenv.scope.names = relN ns nm → ∀ n x out H', I n x out H' → ItTurn H' x (fun p x' => ∀ Fs', AA T ⟨.cp [], cenv, compLs ns ls⟩ Fs' H' target p (fun ls' H₂ => Sub (compLs ns ls) ls' ∧ AIfs T ⟨.cp [], cenv, ls'⟩ Fs' H₂ ifs (fun b H₃ =>
    if b then AEmit T ⟨.cp [], cenv, ls'⟩ D post emit H₃ out (fun out' H₄ => ∃ m, m < n ∧ I m x' out' H₄) else ∃ m, m < n ∧ I m x' out H₃)) NoE) (D' out H')

theorem comp_run {elt target iter : Expr} {ifs : List Expr} {rest : List Comprehension} {scope : Scope} {pos : Pos} {emit : Value → Env → Sem Unit} {c : FK} {nm : List (Str × NameKind)} {use : Option (Value → Sem Unit)} {Q' : Value → Shared → Prop} {D' : List PV → AHeap → Prop}
    (hh : T.hd = false) (hn : env.scope.names = nm) (sc : ScopeOk scope nm) (hs : ∀ x, foldedSetIterable iter env x = pure x) (sh : CompShape elt (⟨target, iter, ifs, 0⟩ :: rest) scope pos 0 target ifs emit)
    (h : AE T ⟨c, env, ls⟩ Fs H iter (fun p H₁ => ∃ x, AIter T (.fr ⟨c, env, ls⟩ :: Fs) H₁ p x ∧ ∃ (I : Nat → AIt → List PV → AHeap → Prop) (n : Nat), I n x [] H₁ ∧ CompTurns T scope.names nm ls target ifs emit I D') E)
    (ok : AOk T (.fr ⟨c, env, ls⟩ :: Fs) A) (R : Rep T.C (.fr ⟨c, env, ls⟩ :: Fs) H s)
    (hpost : ∀ D cenv l s' vs n out H', New0 T.C D → PRs s'.heap out vs.toList → Rep T.C (.fr ⟨.cp [], cenv, l⟩ :: .hid D (listObj vs n) :: .fr ⟨c, env, ls⟩ :: Fs) H' s' → TupKeep s.heap s'.heap → D' out H' → compPost T.C.M A E use Q' (.ref D) cenv.locals (.ok .next) s') :
    wpAny T.C.M A (comprehension (.ListComp elt (⟨target, iter, ifs, 0⟩ :: rest) scope pos) scope env (firstIterPos (⟨target, iter, ifs, 0⟩ :: rest) pos) (newList []) false (firstIter (⟨target, iter, ifs, 0⟩ :: rest) env) use) Q' E s := by
  have F : FrOk s.heap ⟨c, env, ls⟩ := (R.frs _ (.head _)).1
  have hasF : ∀ n, (n, NameKind.free) ∈ scope.names → ∃ d, env.cells.lookup n = some d := fun n hm => by
    have := sc.free _ hm rfl
    rw [← hn] at this
    exact F.has n this
  refine wpAny_comprehension_free (g := ⟨target, iter, ifs, 0⟩) rfl hs (closureFor_eq hasF) sc.kind (fun x hx e => ?_) ?_
  · obtain ⟨n, k⟩ := x
    have e : k = .local := e
    subst e
    exact lookup_of_mem sc.nodup hx
  show wpAny _ _ (eval iter env) _ _ _
  refine wpAny_mono (h A s ok R) (fun v s₁ ⟨p, H₁, pr, R₁, k₁, x, hx, I, n, hI, turn⟩ => ?_) fun _ _ e => e
  refine hx A s₁ v _ _ ok R₁ pr fun it o s₂ hi R₂ k₂ => ?_
  refine wpAny_newObj_type ?_ (by show (#[] : Array Value).size ≤ sizeLine; decide)
  have R₃ : Rep T.C (.hid it o :: .hid s₂.heap.objs.size (listObj #[] 0) :: .fr ⟨c, env, ls⟩ :: Fs) H₁ { s₂ with heap := s₂.heap.push (listObj #[] 0) } :=
    (R₂.hide push_keep (Nat.le_refl _) (Heap.get?_push_size _ rfl) listObj_nt).swap
  have hD0 : New0 T.C s₂.heap.objs.size := (R₂.fresh_ge (Nat.le_refl _)).2.1
  have k₃ : TupKeep s₂.heap (s₂.heap.push (listObj #[] 0)) := TupKeep.of_keep push_keep
  generalize s₂.heap.objs.size = D at R₃ hD0 ⊢
  refine wpAny_newFunctionEnv sc.cell (by intro y hy; simp at hy) (fun h₁ hns₁ hsb₁ => ?_) sc.kind
  dsimp only at hns₁ hsb₁ ⊢
  generalize hH2 : s₂.heap.push (listObj #[] 0) = H2 at R₃ k₃ hns₁ hsb₁ ⊢
  have keep4 : ∀ b o, H2.get? b = some o → h₁.get? b = some o := fun b o e => hsb₁.extBut b o (Nat.ne_of_lt (Heap.lt_size e)) (Heap.get?_push_of_some _ e)
  obtain ⟨cenv, hce, hcn, R₄⟩ := comp_frame (C := T.C) (s := { s₂ with heap := H2 }) (s' := { s₂ with heap := h₁, toks := s₂.toks + ([] : List (Str × Value)).length }) (mid := [.hid it o, .hid D (listObj #[] 0)]) (h₁ := h₁) hn sc R₃ (by intro g hg; simp at hg; rcases hg with rfl | rfl <;> exact ⟨_, _, rfl⟩) rfl hns₁ keep4 rfl rfl
  have k₄ : TupKeep H2 h₁ := TupKeep.of_keep keep4
  have okc : AOk T (.fr ⟨.cp [], cenv, compLs scope.names ls⟩ :: (.hid it o :: ([] ++ .hid D (listObj #[] 0) :: .fr ⟨c, env, ls⟩ :: Fs))) A := ok.same (by cases c <;> rfl)
  have hce' : ({ newEnv scope H2.objs.size env.globals (closOf env scope.names []) env.qual none .none (some env) 0 with scope := relabel scope env } : Env) = cenv := hce.symm
  show codeAny T.C.M A (.compStart _ 0 (.ref it) (.ref D) { newEnv scope H2.objs.size env.globals (closOf env scope.names []) env.qual none .none (some env) 0 with scope := relabel scope env }) (compPost T.C.M A E use Q' (.ref D) H2.objs.size) _
  have hloc : H2.objs.size = cenv.locals := by rw [hce]; rfl
  rw [hce', hloc]
  refine comp_start (pre := [.fr ⟨.cp [], cenv, compLs scope.names ls⟩]) sh hi R₄ ?_
  refine comp_loop (T := T) (mid := []) (post := .fr ⟨c, env, ls⟩ :: Fs) sh hh I n hI D' (turn cenv D _ hcn) hi okc ⟨#[], 0, PRs.nil, R₄⟩ fun s₅ out H' S k₅ hD' => ?_
  obtain ⟨vs, m, prs, R₅⟩ := S
  exact hpost D cenv _ s₅ vs m out H' hD0 prs R₅ (k₁.trans (k₂.trans (k₃.trans (k₄.trans k₅)))) hD'

theorem AE.comp {elt target iter : Expr} {ifs : List Expr} {rest : List Comprehension} {scope : Scope} {pos : Pos} {emit : Value → Env → Sem Unit} {c : FK} {nm : List (Str × NameKind)} {Q : PV → AHeap → Prop}
    (hh : T.hd = false) (hn : env.scope.names = nm) (sc : ScopeOk scope nm) (hs : ∀ x, foldedSetIterable iter env x = pure x) (sh : CompShape elt (⟨target, iter, ifs, 0⟩ :: rest) scope pos 0 target ifs emit)
    (h : AE T ⟨c, env, ls⟩ Fs H iter (fun p H₁ => ∃ x, AIter T (.fr ⟨c, env, ls⟩ :: Fs) H₁ p x ∧ ∃ (I : Nat → AIt → List PV → AHeap → Prop) (n : Nat), I n x [] H₁ ∧ CompTurns T scope.names nm ls target ifs emit I (fun out H' => ∀ a, H' a = Option.none → Q (.ref a) (upd H' a (.list out)))) E) :
    AE T ⟨c, env, ls⟩ Fs H (.ListComp elt (⟨target, iter, ifs, 0⟩ :: rest) scope pos) Q E := fun A s ok R => by
  rw [eval_ListComp]
  refine comp_run (use := Option.none) hh hn sc hs sh h ok R fun D cenv l s' vs n out H' hD0 prs R' k hQ => ?_
  have F : FrOk s'.heap ⟨.cp [], cenv, l⟩ := (R'.frs _ (.head _)).1
  obtain ⟨m, hm, _⟩ := F.ns
  refine ⟨m, hm, fun h' sb => ?_⟩
  obtain ⟨R₁, k₁⟩ := comp_pop R' sb
  have hd : h'.get? D = some (listObj vs n) := (R₁.frs (.hid D _) (.head _)).1.1
  have St : Stands T.C h' D (.list out) := ⟨vs, n, hd, PRs.keep k₁ _ prs⟩
  exact ⟨.ref D, _, PR.ref, Rep.showObj (pre := []) R₁ hD0 St, k.trans k₁, hQ D (hid_none R₁ (.head _))⟩

theorem AS.assignComp {elt target iter : Expr} {ifs : List Expr} {rest : List Comprehension} {scope : Scope} {pos p' pos' : Pos} {t : Str} {emit : Value → Env → Sem Unit} {nm : List (Str × NameKind)} {Q : AFl → Ls → AHeap → Prop}
    (hh : T.hd = false) (hn : env.scope.names = nm) (hk : isOwn (nm.lookup t) = true) (sc : ScopeOk scope nm) (hs : ∀ x, foldedSetIterable iter env x = pure x) (sh : CompShape elt (⟨target, iter, ifs, 0⟩ :: rest) scope pos 0 target ifs emit)
    (hsw : swapsWith (.ListComp elt (⟨target, iter, ifs, 0⟩ :: rest) scope pos) (some (.Name t p')) pos'.line env = pure true)
    (h : AE T ⟨.fn, env, ls⟩ Fs H iter (fun p H₁ => ∃ x, AIter T (.fr ⟨.fn, env, ls⟩ :: Fs) H₁ p x ∧ ∃ (I : Nat → AIt → List PV → AHeap → Prop) (n : Nat), I n x [] H₁ ∧ CompTurns T scope.names nm ls target ifs emit I (fun out H' => ∀ a, H' a = Option.none → Q .next ((t, .ref a) :: ls) (upd H' a (.list out)))) E) :
    AS T env Fs ls H (.Assign [.Name t p'] (.ListComp elt (⟨target, iter, ifs, 0⟩ :: rest) scope pos) pos') Q E := fun A s ok R => by
  rw [arm_exec_Assign]
  rw [show swapsWithSole [.Name t p'] (.ListComp elt (⟨target, iter, ifs, 0⟩ :: rest) scope pos) pos'.line env = pure true from hsw]
  refine wpAny_bind (wpAny_standAt (wpAny_bind (wpAny_pure ?_)))
  rw [if_pos rfl]
  rw [arm_evalThenUse_ListComp]
  refine wpAny_bind ?_
  show wpAny T.C.M A (comprehension (.ListComp elt (⟨target, iter, ifs, 0⟩ :: rest) scope pos) scope env (firstIterPos (⟨target, iter, ifs, 0⟩ :: rest) pos) (newList []) false (firstIter (⟨target, iter, ifs, 0⟩ :: rest) env) (some fun v => assignAll v [assign (.Name t p') env]) >>= fun _ => pure ()) _ _ _
  refine wpAny_bind ?_
  refine comp_run hh hn sc hs sh h ok R fun D cenv l s' vs n out H' hD0 prs R' k hQ => ?_
  show wpAny T.C.M A (assign (.Name t p') env (.ref D)) _ _ _
  obtain ⟨oL, hoL, ⟨es, ep, hdL, hns⟩, R₁⟩ := comp_toHid R'
  have hd : s'.heap.get? D = some (listObj vs n) := (R₁.frs (.hid D _) (by simp)).1.1
  have St : Stands T.C s'.heap D (.list out) := ⟨vs, n, hd, prs⟩
  have hDn := hid_none R₁ (a := D) (o := listObj vs n) (by simp)
  have R₂ := (Rep.showObj (pre := [.hid cenv.locals oL]) R₁ hD0 St).swap
  refine wpAny_assign_Name (store_name R₂ (isOwn_cases hn hk) PR.ref fun s₃ R₃ k₃ => ?_)
  obtain ⟨m, hm⟩ := hns s₃.heap (R₃.frs (.hid cenv.locals oL) (by simp)).1.1
  refine ⟨m, hm, fun h' sb => ?_⟩
  obtain ⟨R₄, k₄⟩ := Rep.unhide (pre := [.fr ⟨.fn, env, (t, .ref D) :: ls⟩]) (s' := { s₃ with heap := h' }) R₃ sb.extBut
  exact wpAny_pure (wpAny_pure ⟨.next, _, _, trivial, R₄, k.trans (k₃.trans k₄), hQ D hDn⟩)
end
end
section
open PySem PySem.W PyProof.Rows PySem.Calls
noncomputable def Hides (C : Cx) (B : Heap) (s₁ : Shared) (Fs : List AF) (H : AHeap) : Prop :=
  ∃ ds : List Addr, (∀ b o, b ∉ ds → s₁.heap.get? b = some o → B.get? b = some o) ∧ ∀ d ∈ ds, H d = none ∧ C.h₀.get? d = none ∧ (∀ o, s₁.heap.get? d = some o → ∃ es ep, o.data = .dict es ep) ∧ ∀ f ∈ Fs, d ∉ f.hids

section
variable {C : Cx} {env : Env} {ls : Ls} {Fs : List AF} {H : AHeap} {E : Value → Shared → Prop} {s s₁ : Shared} {A : Around} {B : Heap}

theorem Rep.back (R : Rep C Fs H s₁) (hi : Hides C B s₁ Fs H) (st : B.StaysIn s.heap) (sl : s₁.heap.UpToSlots s.heap) (hg : s.gens = s₁.gens) (hos : s.os = s₁.os) : Rep C Fs H s ∧ TupKeep s₁.heap s.heap := by
  obtain ⟨ds, h1, h2⟩ := hi
  have ex : ∀ b o, b ∉ ds → s₁.heap.get? b = some o → s.heap.get? b = some o := fun b o hb e => st b o (h1 b o hb e)
  have tk : TupKeep s₁.heap s.heap := fun b o e c ⟨vs, n, d⟩ => ex b o (fun hb => by obtain ⟨es, ep, q⟩ := (h2 b hb).2.2.1 o e; rw [d] at q; cases q) e
  refine ⟨⟨R.ok, fun b o e => ex b o (fun hb => by rw [(h2 b hb).2.1] at e; cases e) (R.keep b o e), hg.trans R.gens, hos.trans R.os, fun f hf => ⟨?_, (R.frs f hf).2⟩, R.apart, fun a o e => ?_⟩, tk⟩
  · have F := (R.frs f hf).1
    cases f with
    | fr f =>
      have F : FrOk s₁.heap f := F
      obtain ⟨m, hm, hv⟩ := F.ns
      have kc : ∀ y ∈ f.env.cells, ∀ o, s₁.heap.get? y.2 = some o → s.heap.get? y.2 = some o := fun y hy o e => by
        obtain ⟨v, o', ho', hd'⟩ := F.cells y hy
        refine ex _ _ (fun hb => ?_) e
        obtain ⟨es, ep, q⟩ := (h2 _ hb).2.2.1 o' ho'
        rw [hd'] at q; cases q
      exact ⟨F.kind, F.globals, F.builtins, ⟨m, sl.ns hm, fun y p a b => let ⟨v, e, r⟩ := hv y p a b; ⟨v, e, r.keep tk⟩⟩, fun y e => let ⟨v, r⟩ := F.cells y e; ⟨v, isCell_at r (kc y e)⟩,
        fun y p a b => let ⟨c, v, e, r, q⟩ := F.cellv y p a b; ⟨c, v, e, isCell_at r (kc (y, c) (mem_of_lookup e)), q.keep tk⟩, F.has, F.apart, F.locals, F.frame⟩
    | hid a o => exact ⟨ex a o (fun hb => (h2 a hb).2.2.2 _ hf List.mem_cons_self) F.1, F.2⟩
    | gh g => exact TupKeep.trans F tk
  · obtain ⟨x, y, z⟩ := R.objs a o e
    exact ⟨Stands.keep tk (fun ob eo => ex a ob (fun hb => by rw [(h2 a hb).1] at e; cases e) eo) o x, y, z⟩

theorem Hides.pop {f : AF} (hi : Hides C B s₁ (f :: Fs) H) : Hides C B s₁ Fs H := let ⟨ds, h1, h2⟩ := hi; ⟨ds, h1, fun d hd => let ⟨a, b, c, e⟩ := h2 d hd; ⟨a, b, c, fun g hg => e g (.tail _ hg)⟩⟩
theorem hids_owns {f : AF} {a : Addr} (h : a ∈ f.hids) : a ∈ f.owns := by
  cases f with
  | fr f => cases h
  | hid b o => exact h
  | gh g => cases h
theorem apart_hids {fr : FR} : ∀ {Fs : List AF}, Fs.Pairwise Apart → .fr fr ∈ Fs → ∀ g ∈ Fs, fr.env.locals ∉ g.hids
  | [], _, h, _, _ => by cases h
  | x :: l, hp, hf, g, hg => by
    obtain ⟨h1, h2⟩ := List.pairwise_cons.mp hp
    have hr : fr.env.locals ∈ (AF.fr fr).reads := List.mem_cons_self
    rcases List.mem_cons.mp hf with rfl | hf'
    · rcases List.mem_cons.mp hg with rfl | hg'
      · intro h; cases h
      · exact fun h => (h1 g hg').2 _ h hr
    · rcases List.mem_cons.mp hg with rfl | hg'
      · exact fun h => (h1 _ hf').1 _ (hids_owns h) hr
      · exact apart_hids h2 hf' g hg'
theorem envsOf_mem {env : Env} : ∀ {Fs : List AF}, env ∈ envsOf Fs → ∃ ls, .fr ⟨.fn, env, ls⟩ ∈ Fs := by
  intro Fs
  induction Fs with
  | nil => intro h; cases h
  | cons f r ih =>
    intro h
    have tail : env ∈ envsOf r → ∃ ls, AF.fr ⟨.fn, env, ls⟩ ∈ f :: r := fun h => let ⟨ls, q⟩ := ih h; ⟨ls, .tail _ q⟩
    cases f with
    | fr f =>
      obtain ⟨c, e, ls⟩ := f
      cases c with
      | fn =>
        rcases List.mem_cons.mp h with rfl | h
        · exact ⟨ls, .head _⟩
        · exact tail h
      | cp cs => exact tail h
    | hid a o => exact tail h
    | gh g => exact tail h
theorem funFrames_of {h : Heap} : ∀ {l : List Env}, (∀ env ∈ l, env.scope.kind = .function ∧ env.frame = some env.locals ∧ (∃ m, h.Ns env.locals m) ∧ B.get? env.locals = none) → h.FunFrames B l
  | [], _ => trivial
  | env :: l, x => by
    obtain ⟨k, f, ⟨m, o, es, ep, ho, hd, _⟩, hb⟩ := x env (.head _)
    exact ⟨(by rw [k]; intro q; cases q), ⟨env.locals, o, f, hb, ho, fun vs q => by rw [hd] at q; cases q⟩, funFrames_of fun e he => x e (.tail _ he)⟩

noncomputable def Fly (C : Cx) (Fs : List AF) (X : String) (Q : AHeap → Prop) (e : Value) (s : Shared) : Prop :=
  ∃ a H s₁ B a0, e = .ref a ∧ Rep C Fs H s₁ ∧ s.gens = s₁.gens ∧ s.os = s₁.os ∧ Q H ∧ Heap.FlyingW B (envsOf Fs) a (.type X) a0 s.heap ∧ Hides C B s₁ Fs H ∧ s₁.heap.UpToSlots s.heap
noncomputable def Err (C : Cx) (env : Env) (Fs : List AF) (X : String) (Q : Ls → AHeap → Prop) (e : Value) (s : Shared) : Prop :=
  (∃ a ls H s₁, e = .ref a ∧ Rep C (.fr ⟨.fn, env, ls⟩ :: Fs) H s₁ ∧ s.gens = s₁.gens ∧ s.os = s₁.os ∧ Q ls H ∧ Heap.NewExc s₁.heap s.heap a X) ∨
  ∃ ls, Fly C (.fr ⟨.fn, env, ls⟩ :: Fs) X (Q ls) e s

theorem Fly.mono {X : String} {Q Q' : AHeap → Prop} {e : Value} (h : Fly C Fs X Q e s) (hq : ∀ H, Q H → Q' H) : Fly C Fs X Q' e s :=
  let ⟨a, H, s₁, B, a0, x1, x2, x3, x4, x5, x6⟩ := h; ⟨a, H, s₁, B, a0, x1, x2, x3, x4, hq H x5, x6⟩
theorem Err.of_fly {X : String} {Q : Ls → AHeap → Prop} {Q' : AHeap → Prop} {e : Value} (h : Fly C (.fr ⟨.fn, env, ls⟩ :: Fs) X Q' e s) (hq : ∀ H, Q' H → Q ls H) : Err C env Fs X Q e s := .inr ⟨ls, h.mono hq⟩

theorem leave_err {M : Model} {X : String} {Q : Ls → AHeap → Prop} {e : Value} {R : Unit → Shared → Prop} (hA : A.frames = some (env :: envsOf Fs)) (h : Err C env Fs X Q e s) (k : ∀ s', Fly C Fs X (fun H => ∃ ls, Q ls H) e s' → R () s') : wpAny M A (leaving env e) R E s := by
  rcases h with ⟨a, ls, H, s₁, rfl, R₁, hg, hos, hQ, hx⟩ | ⟨ls, a, H, s₁, B, a0, rfl, R₁, hg, hos, hQ, hfl, hi, sl⟩
  · let ds := (env :: envsOf Fs).filterMap (·.frame)
    have mem : ∀ e' ∈ env :: envsOf Fs, e'.scope.kind = .function ∧ e'.frame = some e'.locals ∧ (∃ m, s₁.heap.Ns e'.locals m) ∧ (hideAll s₁.heap ds).get? e'.locals = none := fun e' he => by
      obtain ⟨ls', hm⟩ := envsOf_mem (Fs := .fr ⟨.fn, env, ls⟩ :: Fs) he
      have F : FrOk s₁.heap ⟨.fn, e', ls'⟩ := (R₁.frs _ hm).1
      obtain ⟨m, hm', _⟩ := F.ns
      exact ⟨F.kind, F.frame rfl, ⟨m, hm'⟩, hideAll_none _ (List.mem_filterMap.mpr ⟨e', he, F.frame rfl⟩)⟩
    have st : (hideAll s₁.heap ds).StaysIn s₁.heap := fun b o q => of_hideAll _ q
    obtain ⟨ob, t, he, hc, hd⟩ := hx.there
    have hne : (hideAll s₁.heap ds).get? a = none := by
      cases q : (hideAll s₁.heap ds).get? a with
      | none => rfl
      | some o => have := st a o q; rw [hx.new] at this; cases this
    have ff : s.heap.FunFrames (hideAll s₁.heap ds) (env :: envsOf Fs) := funFrames_of fun e' he' => let ⟨x1, x2, ⟨m, x3⟩, x4⟩ := mem e' he'; ⟨x1, x2, ⟨m, ns_at x3 fun o q => hx.keeps _ _ q⟩, x4⟩
    have hi : Hides C (hideAll s₁.heap ds) s₁ Fs H := ⟨ds, fun b o hb q => hideAll_get _ q hb, fun d hdm => by
      obtain ⟨e', he', hf'⟩ := List.mem_filterMap.mp hdm
      obtain ⟨ls', hm⟩ := envsOf_mem (Fs := .fr ⟨.fn, env, ls⟩ :: Fs) he'
      obtain ⟨_, x2, ⟨m, o, es, ep, ho, hd', _⟩, _⟩ := mem e' he'
      obtain rfl : e'.locals = d := by rw [x2] at hf'; exact Option.some.inj hf'
      have hr : e'.locals ∈ (AF.fr ⟨.fn, e', ls'⟩).reads := List.mem_cons_self
      refine ⟨?_, (R₁.frs _ hm).2 _ hr, fun o' q => ?_, fun g hg => apart_hids R₁.apart hm g (.tail _ hg)⟩
      · cases q : H e'.locals with
        | none => rfl
        | some o => exact absurd hr ((R₁.objs _ _ q).2.2 _ hm)
      · rw [ho] at q; cases q; exact ⟨es, ep, hd'⟩⟩
    refine wpAny_leaving_firstW (a0 := t) hA ff (mem env (.head _)).2.1 he (fun b o q => hx.keeps b o (st b o q)) hne hd rfl rfl fun h' hL => ?_
    obtain ⟨k1, ⟨_, _, k2⟩, k3, k4⟩ := hL
    rw [hc] at k3
    exact k _ ⟨a, H, s₁, _, t, rfl, R₁.pop, hg, hos, ⟨ls, hQ⟩, ⟨k1, hne, k2, k3⟩, hi, (Heap.UpToSlots.of_keeps hx.keeps).trans k4⟩
  · have F : FrOk s₁.heap ⟨.fn, env, ls⟩ := (R₁.frs _ (.head _)).1
    refine wpAny_leaves_onW hA (F.frame rfl) hfl fun h' x1 x2 => ?_
    exact k _ ⟨a, H, s₁, B, a0, rfl, R₁.pop, hg, hos, ⟨ls, hQ⟩, x1, hi.pop, sl.trans x2⟩
end

section
variable {T : Tr} {f : FR} {env : Env} {ls : Ls} {Fs : List AF} {H : AHeap} {E : Value → Shared → Prop} {s : Shared} {A : Around}

theorem ACode.fnE {fd : FuncData} {g : Addr} {nms : List Str} {body : List Stmt} {ps : List PV} {Q : PV → AHeap → Prop} {X : String} {QE : Ls → AHeap → Prop} (D : DefAt T.C.K g fd nms body) (hlen : ps.length = nms.length) (hn : 1 ≤ T.n)
    (hE : ∀ e s, Fly T.C Fs X (fun H => ∃ ls, QE ls H) e s → E e s)
    (h : ∀ env, env.scope = fd.scope → AX T.down env Fs (nms.zip ps) H body (RetQ Q) (Err T.C env Fs X QE)) : ACode T Fs H (.ref g) ps Q E := fun A s v vs ok R pv prs => by
  rw [pv.ref_inv]
  refine call_entry D hlen hn ok R prs fun env s₁ he ok₁ R₁ tk => ?_
  refine wpAny_mono (h env he _ s₁ ok₁ R₁) (fun fl s' ⟨a, ls', H', fr, R', k', hq⟩ => ?_) fun e s' x => ?_
  · rcases a with _ | _ | _ | p <;> cases fl <;> first | exact fr.elim | exact hq.elim | skip
    · exact ⟨.none, H', PR.none, R'.pop, tk.trans k', hq⟩
    · exact ⟨p, H', fr, R'.pop, tk.trans k', hq⟩
  · exact leave_err ok₁.frames x fun s'' y => hE _ _ y

theorem AS.raiseName {x : Str} {np pos : Pos} {X N I : String} {nm : List (Str × NameKind)} {Q : AFl → Ls → AHeap → Prop} {QE : Ls → AHeap → Prop} (hh : T.hd = false) (hc : ExcClass X N I) (hself : isSubtype (.type X) (.type X) = pure true)
    (hmiss : T.C.mg x = Option.none) (hn : env.scope.names = nm) (hk : nm.lookup x = some .globalImplicit) (hv : bootBuiltins x = some (.type X)) (h : QE ls H)
    (hnn : x ≠ "__name__" := by decide +kernel) (hd : (x == ("__debug__" : Str)) = false := by decide) : AS T env Fs ls H (.Raise (some (.Name x np)) Option.none pos) Q (Err T.C env Fs X QE) := fun A s ok R => by
  refine Raise_classB (ok.handled hh) hc hself (load_builtin (f := ⟨.fn, env, ls⟩) R (by rw [show env.kindOf x = env.scope.names.lookup x from rfl, hn]; exact hk) hv hmiss hnn ⟨rfl, rfl⟩ hd) fun h' e hx => ?_
  exact .inl ⟨e, ls, H, s, rfl, R, rfl, rfl, h, hx⟩

noncomputable def Tr.inH (T : Tr) : Tr := { T with hd := true }
theorem AS.try_ {body suite : List Stmt} {b₀ : Stmt} {x : Str} {np hp pos : Pos} {X Y : String} {nm : List (Str × NameKind)} {Q : AFl → Ls → AHeap → Prop} {QE : Ls → AHeap → Prop}
    (hmiss : T.C.mg x = Option.none) (hn : env.scope.names = nm) (hk : nm.lookup x = some .globalImplicit) (hv : bootBuiltins x = some (.type Y))
    (hexc : isSubtype (.type Y) (.type "BaseException") = pure true) (hnt : isSubtype (.type ((Manifest.find? Y).elim "type" fun y => y.metatype)) (.type "tuple") = pure false) (hsub : isSubtype (.type X) (.type Y) = pure true)
    (h : ∀ g, AX T env (.gh g :: Fs) ls H body Q (fun e s => ∃ ls', Fly T.C (.fr ⟨.fn, env, ls'⟩ :: .gh g :: Fs) X (QE ls') e s))
    (hs : ∀ ls' H', QE ls' H' → AX T.inH env Fs ls' H' (b₀ :: suite) Q NoE)
    (hnn : x ≠ "__name__" := by decide +kernel) (hd : (x == ("__debug__" : Str)) = false := by decide) :
    AS T env Fs ls H (.Try body [.ExceptHandler (some (.Name x np)) Option.none (b₀ :: suite) hp] [] [] pos) Q E := fun A s ok R => by
  have R' : Rep T.C (.fr ⟨.fn, env, ls⟩ :: .gh s.heap :: Fs) H s := by
    obtain ⟨a1, a2⟩ := List.pairwise_cons.mp R.apart
    refine ⟨R.ok, R.keep, R.gens, R.os, fun g hg => ?_, List.pairwise_cons.mpr ⟨fun g hg => ?_, List.pairwise_cons.mpr ⟨fun g hg => ⟨fun a ha => (by cases ha), fun a ha h => (by cases h)⟩, a2⟩⟩, fun a o e => ?_⟩
    · rcases List.mem_cons.mp hg with rfl | hg
      · exact R.frs _ (.head _)
      · rcases List.mem_cons.mp hg with rfl | hg
        · exact ⟨TupKeep.refl _, fun a ha => by cases ha⟩
        · exact R.frs _ (.tail _ hg)
    · rcases List.mem_cons.mp hg with rfl | hg
      · exact ⟨fun a ha h => (by cases h), fun a ha => (by cases ha)⟩
      · exact a1 g hg
    · obtain ⟨x, y, z⟩ := R.objs a o e
      refine ⟨x, y, fun g hg => ?_⟩
      rcases List.mem_cons.mp hg with rfl | hg
      · exact z _ (.head _)
      · rcases List.mem_cons.mp hg with rfl | hg
        · intro h; cases h
        · exact z _ (.tail _ hg)
  have ok' : ∀ {ls'}, AOk T (.fr ⟨.fn, env, ls'⟩ :: .gh s.heap :: Fs) A := ⟨ok.frames, ok.depth, ok.units, ok.handled⟩
  refine wpAny_Try_except (wpAny_mono (h s.heap A s ok' R') (fun fl s₁ ⟨a, ls₁, H₁, fr, R₁, k₁, h₁⟩ => ?_) fun e s₁ hx => ?_)
  · cases a <;> cases fl <;> first | exact fr.elim | skip
    · exact wpAny_execs_nil ⟨.next, ls₁, H₁, fr, R₁.pop2, k₁, h₁⟩
    all_goals exact ⟨_, ls₁, H₁, fr, R₁.pop2, k₁, h₁⟩
  · obtain ⟨ls', a, H', s₀, B, a0, rfl, R₀, hg, hos, hQ, hfl, hi, sl⟩ := hx
    have F : FrOk s₀.heap ⟨.fn, env, ls'⟩ := (R₀.frs _ (.head _)).1
    refine wpAny_looks_onW ok.frames (F.frame rfl) hfl fun h₂ f₂ u₂ => ?_
    refine wpAny_landsW f₂ fun h₃ f₃ u₃ => ?_
    have R₃ := (R₀.back (s := { s₁ with heap := h₃ }) hi f₃.1 (sl.trans (u₂.trans u₃)) hg hos).1
    obtain ⟨ob, hob, hobc⟩ := f₃.there
    refine wpAny_handleBy_builtin (X := X) (T := Y) (b := true) hexc hnt hsub (load_builtin (f := ⟨.fn, env, ls'⟩) R₃ (by rw [show env.kindOf x = env.scope.names.lookup x from rfl, hn]; exact hk) hv hmiss hnn ⟨rfl, ⟨ob, hob, hobc⟩, ?_⟩ hd)
    rw [if_pos rfl]
    refine lands_againW f₃ fun h₄ f₄ u₄ => ?_
    obtain ⟨R₄, k₄⟩ := R₀.back (s := { s₁ with heap := h₄ }) hi f₄.1 (sl.trans (u₂.trans (u₃.trans u₄))) hg hos
    have kk : TupKeep s.heap h₄ := (R₄.frs (.gh s.heap) (.tail _ (.head _))).1
    refine wpAny_mono (hs ls' H' hQ (A.mark (some (.ref a))) _ ⟨ok.frames, ok.depth, ok.units, fun h => by cases h⟩ R₄.pop2) (fun fl s₅ ⟨a, ls₅, H₅, fr, R₅, k₅, h₅⟩ => ⟨a, ls₅, H₅, fr, R₅, kk.trans k₅, h₅⟩) fun _ _ x => x.elim
end
end
section
open PySem PySem.W PyProof.Rows PySem.Calls
section
theorem turn2a (elt t1 i1 t2 i2 : Expr) (f1 f2 : List Expr) (scope : Scope) (pos : Pos) (it acc : Value) (env : Env) : compTurn (.ListComp elt [⟨t1, i1, f1, 0⟩, ⟨t2, i2, f2, 0⟩] scope pos) 0 it acc env = (standAt i1.pos >>= fun _ => pyNext it >>= fun r => match r with
    | none => pure (.done .next)
    | some v => letOwnedTupleGo t1 it v >>= fun _ => assign t1 env v >>= fun _ => testLoop f1 env >>= fun ok =>
      (if ok = true then (eval i2 env >>= fun x => standAt i2.pos >>= fun _ => foldedSetIterable i2 env x >>= fun x => holding [x] (pyIter x) >>= fun it' => runOwn (.compStart (.ListComp elt [⟨t1, i1, f1, 0⟩, ⟨t2, i2, f2, 0⟩] scope pos) 1 it' acc env) env >>= fun _ => again (.compLoop (.ListComp elt [⟨t1, i1, f1, 0⟩, ⟨t2, i2, f2, 0⟩] scope pos) 0 it acc env)) else again (.compLoop (.ListComp elt [⟨t1, i1, f1, 0⟩, ⟨t2, i2, f2, 0⟩] scope pos) 0 it acc env))) := by rfl
theorem shape2a {elt t1 i1 t2 i2 : Expr} {f1 f2 : List Expr} {scope : Scope} {pos : Pos} : CompShape elt [⟨t1, i1, f1, 0⟩, ⟨t2, i2, f2, 0⟩] scope pos 0 t1 f1 (emitNest elt [⟨t1, i1, f1, 0⟩, ⟨t2, i2, f2, 0⟩] scope pos 1 i2) :=
  ⟨⟨i1.pos, fun it acc env => by rw [turn2a]; simp only [emitNest, bind_assoc, pure_bind]; try rfl⟩, ⟨_, rfl, rfl⟩⟩
theorem shape2b {elt t1 i1 t2 i2 : Expr} {f1 f2 : List Expr} {scope : Scope} {pos : Pos} : CompShape elt [⟨t1, i1, f1, 0⟩, ⟨t2, i2, f2, 0⟩] scope pos 1 t2 f2 (emitElt elt) :=
  ⟨⟨i2.pos, fun it acc env => by rfl⟩, ⟨_, rfl, rfl⟩⟩

noncomputable def Ext (H H' : AHeap) : Prop := ∀ a o, H a = some o → H' a = some o
theorem Ext.refl (H : AHeap) : Ext H H := fun _ _ e => e
theorem Ext.trans {H₁ H₂ H₃ : AHeap} (x : Ext H₁ H₂) (y : Ext H₂ H₃) : Ext H₁ H₃ := fun a o e => y a o (x a o e)
theorem Ext.upd {H H' : AHeap} {a : Addr} {o : AO} (x : Ext H H') (h : H a = none) : Ext H (upd H' a o) := fun b ob e => by
  unfold AM.upd
  split
  · rename_i q; subst q; rw [h] at e; cases e
  · exact x b ob e
theorem Ext.none {H H' : AHeap} {a : Addr} (x : Ext H H') (h : H' a = none) : H a = none := by
  cases e : H a with
  | none => rfl
  | some o => rw [x a o e] at h; cases h
theorem Ext.both {H H' : AHeap} {a : Addr} {o : AO} (x : Ext H H') : Ext (AM.upd H a o) (AM.upd H' a o) := fun b ob e => by
  unfold AM.upd at e ⊢
  split
  · rename_i q; rw [if_pos q] at e; exact e
  · rename_i q; rw [if_neg q] at e; exact x b ob e

variable {T : Tr} {f : FR} {env : Env} {ls : Ls} {Fs : List AF} {H : AHeap} {E : Value → Shared → Prop} {s : Shared} {A : Around}
theorem AE.forget {e : Expr} {Q : PV → AHeap → Prop} (h : AE T f Fs H e (fun p H₁ => ∃ H₂, Ext H₂ H₁ ∧ Q p H₂) E) : AE T f Fs H e Q E :=
  fun A s ok R => wpAny_mono (h A s ok R) (fun v s' ⟨p, H', a, b, c, H₂, x, d⟩ => ⟨p, H₂, a, b.mono x, c, d⟩) fun _ _ x => x
theorem AS.forget {st : Stmt} {Q : AFl → Ls → AHeap → Prop} (h : AS T env Fs ls H st (fun a l H₁ => ∃ H₂, Ext H₂ H₁ ∧ Q a l H₂) E) : AS T env Fs ls H st Q E :=
  fun A s ok R => wpAny_mono (h A s ok R) (fun v s' ⟨p, l, H', a, b, c, H₂, x, d⟩ => ⟨p, l, H₂, a, b.mono x, c, d⟩) fun _ _ x => x
theorem AA.nameL {c : FK} {x : Str} {pos : Pos} {p : PV} {nm : List (Str × NameKind)} {Q : Ls → AHeap → Prop} (hn : env.scope.names = nm) (hk : nm.lookup x = some .local) (h : Q ((x, p) :: ls) H) : AA T ⟨c, env, ls⟩ Fs H (.Name x pos) p Q E :=
  fun A s v ok R hp => wpAny_assign_Name (store_name R (.inl (by rw [show env.kindOf x = env.scope.names.lookup x from rfl, hn]; exact hk)) hp fun s' R' tk => ⟨_, H, R', tk, h⟩)
theorem ItTurn.mono {x : AIt} {K K' : PV → AIt → Prop} {D D' : Prop} (h : ItTurn H x K D) (hk : ∀ p x', K p x' → K' p x') (hd : D → D') : ItTurn H x K' D' := by
  cases x with
  | list a i => obtain ⟨l, h1, h2, h3⟩ := h; exact ⟨l, h1, fun p e => hk _ _ (h2 p e), fun e => hd (h3 e)⟩
  | range x left => exact ⟨fun q => hk _ _ (h.1 q), fun q => hd (h.2 q)⟩
theorem CompTurns.mono {ns nm : List (Str × NameKind)} {target : Expr} {ifs : List Expr} {emit : Value → Env → Sem Unit} {I : Nat → AIt → List PV → AHeap → Prop} {D D' : List PV → AHeap → Prop} (h : CompTurns T ns nm ls target ifs emit I D) (hd : ∀ out H, D out H → D' out H) : CompTurns T ns nm ls target ifs emit I D' :=
  fun cenv Dd post hc n x out H' hI => ItTurn.mono (h cenv Dd post hc n x out H' hI) (fun _ _ k => k) (hd out H')

noncomputable def CompGives (T : Tr) (ns nm : List (Str × NameKind)) (c : FK) (env : Env) (ls : Ls) (Fs : List AF) (H : AHeap) (iter target : Expr) (ifs : List Expr) (emit : Value → Env → Sem Unit) (P : List PV → AHeap → Prop) (E : Value → Shared → Prop) : Prop :=
  AE T ⟨c, env, ls⟩ Fs H iter (fun p H₁ => ∃ x, AIter T (.fr ⟨c, env, ls⟩ :: Fs) H₁ p x ∧ ∃ (I : Nat → AIt → List PV → AHeap → Prop) (n : Nat), I n x [] H₁ ∧ CompTurns T ns nm ls target ifs emit I (fun out H' => ∃ H₂, Ext H₂ H' ∧ P out H₂)) E

theorem AE.compG {elt target iter : Expr} {ifs : List Expr} {rest : List Comprehension} {scope : Scope} {pos : Pos} {emit : Value → Env → Sem Unit} {c : FK} {nm : List (Str × NameKind)} {Q : PV → AHeap → Prop}
    (hh : T.hd = false) (hn : env.scope.names = nm) (sc : ScopeOk scope nm) (hs : ∀ x, foldedSetIterable iter env x = pure x) (sh : CompShape elt (⟨target, iter, ifs, 0⟩ :: rest) scope pos 0 target ifs emit)
    (h : CompGives T scope.names nm c env ls Fs H iter target ifs emit (fun out H₂ => ∀ a, H₂ a = Option.none → Q (.ref a) (upd H₂ a (.list out))) E) :
    AE T ⟨c, env, ls⟩ Fs H (.ListComp elt (⟨target, iter, ifs, 0⟩ :: rest) scope pos) Q E := by
  refine AE.forget (AE.comp hh hn sc hs sh (AE.mono h ?_))
  rintro p H₁ ⟨x, hx, I, n, hI, ht⟩
  refine ⟨x, hx, I, n, hI, ht.mono ?_⟩
  rintro out H' ⟨H₂, ex, hP⟩ a ha
  exact ⟨_, ex.both, hP a (ex.none ha)⟩
theorem AS.assignCompG {elt target iter : Expr} {ifs : List Expr} {rest : List Comprehension} {scope : Scope} {pos p' pos' : Pos} {t : Str} {emit : Value → Env → Sem Unit} {nm : List (Str × NameKind)} {Q : AFl → Ls → AHeap → Prop}
    (hh : T.hd = false) (hn : env.scope.names = nm) (hk : isOwn (nm.lookup t) = true) (sc : ScopeOk scope nm) (hs : ∀ x, foldedSetIterable iter env x = pure x) (sh : CompShape elt (⟨target, iter, ifs, 0⟩ :: rest) scope pos 0 target ifs emit)
    (hsw : swapsWith (.ListComp elt (⟨target, iter, ifs, 0⟩ :: rest) scope pos) (some (.Name t p')) pos'.line env = pure true)
    (h : CompGives T scope.names nm .fn env ls Fs H iter target ifs emit (fun out H₂ => ∀ a, H₂ a = Option.none → Q .next ((t, .ref a) :: ls) (upd H₂ a (.list out))) E) :
    AS T env Fs ls H (.Assign [.Name t p'] (.ListComp elt (⟨target, iter, ifs, 0⟩ :: rest) scope pos) pos') Q E := by
  refine AS.forget (AS.assignComp hh hn hk sc hs sh hsw (AE.mono h ?_))
  rintro p H₁ ⟨x, hx, I, n, hI, ht⟩
  refine ⟨x, hx, I, n, hI, ht.mono ?_⟩
  rintro out H' ⟨H₂, ex, hP⟩ a ha
  exact ⟨_, ex.both, hP a (ex.none ha)⟩

theorem compLs_none {ns : List (Str × NameKind)} {x : Str} (h : ns.lookup x = some .local) : (compLs ns ls).lookup x = Option.none := by
  cases e : (compLs ns ls).lookup x with
  | none => rfl
  | some p => exact absurd h (compLs_lookup e).2
theorem relN_local {ns nm : List (Str × NameKind)} {x : Str} (h : ns.lookup x = some .local) : (relN ns nm).lookup x = some .local := by
  rw [relN_lookup, h]; rfl

noncomputable def CompItem (T : Tr) (ns nm : List (Str × NameKind)) (l : Ls) (H₁ : AHeap) (ifs : List Expr) (elt : Expr) (r : Option PV) : Prop :=
  ∀ cenv Fs' H', cenv.scope.names = relN ns nm → Ext H₁ H' → AIfs T ⟨.cp [], cenv, l⟩ Fs' H' ifs (fun b H'' => Ext H₁ H'' ∧ if b then ∃ v, r = some v ∧ ∀ Fs'', AE T ⟨.cp [], cenv, l⟩ Fs'' H'' elt (fun u H₃ => u = v ∧ Ext H₁ H₃) NoE else r = Option.none)

theorem AIfs.mono {ifs : List Expr} {Q Q' : Bool → AHeap → Prop} (h : AIfs T f Fs H ifs Q) (hq : ∀ b H, Q b H → Q' b H) : AIfs T f Fs H ifs Q' := by
  induction ifs generalizing H with
  | nil => exact hq _ _ h
  | cons c r ih =>
    intro A s ok R
    refine wpAny_mono (h A s ok R) (fun b s' ⟨H', a, k, q⟩ => ⟨H', a, k, ?_⟩) fun _ _ x => x
    cases b with
    | true => exact ih q
    | false => exact hq _ _ q
theorem AEmit.mono {D : Addr} {post : List AF} {emit : Value → Env → Sem Unit} {out : List PV} {K K' : List PV → AHeap → Prop} (h : AEmit T f D post emit H out K) (hk : ∀ out H, K out H → K' out H) : AEmit T f D post emit H out K' :=
  fun A s mid ok S => wpAny_mono (h A s mid ok S) (fun _ s' ⟨o, H', a, b, c⟩ => ⟨o, H', a, b, hk _ _ c⟩) fun _ _ x => x

noncomputable def gather2 (n m : Nat) (g : Nat → Nat → Option PV) : List PV := (List.range n).flatMap fun i => (List.range m).filterMap (g i)
theorem range_filterMap_succ {g : Nat → Option PV} {j : Nat} : (List.range (j + 1)).filterMap g = (List.range j).filterMap g ++ (match g j with | some v => [v] | Option.none => []) := by
  rw [List.range_succ, List.filterMap_append]
  congr 1
  rw [List.filterMap_cons]
  cases g j <;> rfl
theorem gather2_succ {n m : Nat} {g : Nat → Nat → Option PV} : gather2 (n + 1) m g = gather2 n m g ++ (List.range m).filterMap (g n) := by
  unfold gather2
  rw [List.range_succ, List.flatMap_append]; simp
theorem gather2_length {n m : Nat} {g : Nat → Nat → Option PV} : (gather2 n m g).length ≤ n * m := by
  induction n with
  | zero => simp [gather2]
  | succ n ih =>
    rw [gather2_succ, List.length_append, Nat.succ_mul]
    have := List.length_filterMap_le (g n) (List.range m)
    simp only [List.length_range] at this
    omega

theorem CompGives.range2 {x y : Str} {xp yp : Pos} {elt i1 i2 : Expr} {ifs : List Expr} {scope : Scope} {pos : Pos} {nm : List (Str × NameKind)} {c : FK} {P : List PV → AHeap → Prop} {n m : Nat} (g : Nat → Nat → Option PV) (hh : T.hd = false) (hx : scope.names.lookup x = some .local) (hy : scope.names.lookup y = some .local) (hxy : x ≠ y) (hz : n * m ≤ 90000) (hn : n < 2 ^ 62) (hm : m < 2 ^ 62)
    (hs : ∀ cenv v, cenv.scope.names = relN scope.names nm → foldedSetIterable i2 cenv v = pure v)
    (h : AE T ⟨c, env, ls⟩ Fs H i1 (fun p H₁ => ∃ a, p = .ref a ∧ H₁ a = some (.range 0 n) ∧
      (∀ (i : Nat) cenv Fs' H', i < n → cenv.scope.names = relN scope.names nm → Ext H₁ H' → AE T ⟨.cp [], cenv, (x, .int i) :: compLs scope.names ls⟩ Fs' H' i2 (fun q H₂ => ∃ b, q = .ref b ∧ H₂ b = some (.range 0 m) ∧ Ext H₁ H₂) NoE) ∧
      (∀ i j : Nat, i < n → j < m → CompItem T scope.names nm ((y, .int j) :: (x, .int i) :: compLs scope.names ls) H₁ ifs elt (g i j)) ∧ P (gather2 n m g) H₁) E) :
    CompGives T scope.names nm c env ls Fs H i1 (.Name x xp) [] (emitNest elt [⟨.Name x xp, i1, [], 0⟩, ⟨.Name y yp, i2, ifs, 0⟩] scope pos 1 i2) P E := by
  refine AE.mono h ?_
  rintro p H₁ ⟨a, rfl, hl, h2, hg, hP⟩
  refine ⟨_, AIter.range hl (by decide) (by decide) (by omega) (by exact_mod_cast hn), fun k z out H' => ∃ i : Nat, z = .range i (n - i) ∧ k = n - i ∧ i ≤ n ∧ out = gather2 i m g ∧ Ext H₁ H', n, ⟨0, ?_, rfl, Nat.zero_le _, rfl, Ext.refl _⟩, ?_⟩
  · congr 1
    split <;> omega
  rintro cenv D post hc k z out H' ⟨i, rfl, rfl, hle, rfl, ex⟩
  refine ⟨fun hp Fs' => ?_, fun e => ?_⟩
  · have hlt : i < n := by omega
    refine AA.nameL hc (relN_local hx) ⟨(Sub.refl _).cons (compLs_none hx), ?_⟩
    show AEmit _ _ _ _ _ _ _ _
    refine AEmit.nest shape2b hh (fun v => hs cenv v hc) fun Fs'' => AE.mono (h2 i cenv Fs'' H' hlt hc ex) ?_
    rintro q H₂ ⟨b, rfl, hb, ex2⟩
    refine ⟨_, AIter.range hb (by decide) (by decide) (by omega) (by exact_mod_cast hm), fun k z out H' => ∃ j : Nat, z = .range j (m - j) ∧ k = m - j ∧ j ≤ m ∧ out = gather2 i m g ++ (List.range j).filterMap (g i) ∧ Ext H₁ H', m, ⟨0, ?_, rfl, Nat.zero_le _, by simp, ex2⟩, ?_⟩
    · congr 1
      split <;> omega
    rintro k z out H₃ ⟨j, rfl, rfl, hle2, rfl, ex3⟩
    refine ⟨fun hp2 Fs₃ => ?_, fun e => ?_⟩
    · have hlt2 : j < m := by omega
      have hyn : ((x, PV.int i) :: compLs scope.names ls).lookup y = Option.none := by
        rw [List.lookup_cons, beq_eq_false_iff_ne.mpr (Ne.symm hxy)]; exact compLs_none hy
      refine AA.nameL hc (relN_local hy) ⟨(Sub.refl _).cons hyn, ?_⟩
      refine AIfs.mono (hg i j hlt hlt2 cenv Fs₃ H₃ hc ex3) fun b H₄ ⟨ex4, hb⟩ => ?_
      cases b with
      | true =>
        simp only [if_true] at hb ⊢
        obtain ⟨v, hv, hE⟩ := hb
        have hlen : (gather2 i m g ++ (List.range j).filterMap (g i)).length ≤ 100000 := by
          have h1 := @gather2_length i m g
          have h3 := List.length_filterMap_le (g i) (List.range j)
          have h4 : i * m + m ≤ n * m := by rw [← Nat.succ_mul]; exact Nat.mul_le_mul_right _ hlt
          simp only [List.length_append, List.length_range] at h3 ⊢
          omega
        refine AEmit.elt hlen fun Fs₅ => AE.mono (hE Fs₅) ?_
        rintro u H₅ ⟨rfl, ex5⟩
        exact ⟨m - (j + 1), by omega, j + 1, by congr 1; push_cast; omega, rfl, hlt2, by rw [range_filterMap_succ, hv, List.append_assoc], ex5⟩
      | false =>
        simp only [Bool.false_eq_true, if_false] at hb ⊢
        exact ⟨m - (j + 1), by omega, j + 1, by congr 1; push_cast; omega, rfl, hlt2, by rw [range_filterMap_succ, hb, List.append_nil], ex4⟩
    · have : j = m := by omega
      subst this
      exact ⟨n - (i + 1), by omega, i + 1, by congr 1; push_cast; omega, rfl, hlt, by rw [gather2_succ], ex3⟩
  · have : i = n := by omega
    subst this
    exact ⟨H₁, ex, hP⟩
end
end
section
open PySem PySem.W PyProof.Rows PySem.Calls
section
variable {T : Tr} {f : FR} {env : Env} {ls : Ls} {Fs : List AF} {H : AHeap} {E : Value → Shared → Prop} {s : Shared} {A : Around}

theorem AA.tupSet {t : Expr} {k : Nat} {pos : Pos} {a : Addr} {q : Pt} {Q : Ls → AHeap → Prop} (hh : T.hd = false) (hH : H a = some (.pset [q])) (he : assignEach [t] f.env = [(false, assign t f.env)])
    (h : AA T f Fs H t (pt q) Q E) : AA T f Fs H (.Tuple [t] k pos) (.ref a) Q E := fun A s v ok R pv => by
  rw [pv.ref_inv, assign_Tuple]
  refine wpAny_bind (wpAny_standAt ?_)
  unfold unpack
  rw [he]
  show wpAny _ _ (do assignInOrder [assign t f.env] (← holding [.ref a] (unpackItems (.ref a) 1 Option.none))) _ _ _
  obtain ⟨o, es, ep, tb, l', ho, SP, hp, hw⟩ := setParts R hH
  have hl' : l' = [q] := List.perm_singleton.mp hp
  subst hl'
  have hT : s.TypeIs (.ref a) "set" := ⟨o, ho, SP.ex.1⟩
  have hsz : es.size = 1 := SP.len.symm
  refine wpAny_bind (wpAny_holding ?_)
  unfold unpackItems notIterableAtAll
  refine wpAny_bind (wpAny_bind (wpAny_specialOf hT F.slot_set_iter.lookup ?_))
  refine wpAny_pure ?_
  simp only [Bool.false_eq_true, if_false]
  refine wpAny_bind (wpAny_holding (wp_pyIter_set ho SP.ex SP.data SP.inv SP.led ?_))
  have hslot : slotAt T.C.w tb 0 = 0 := by unfold slotAt; split <;> rfl
  have k1 : ∀ b o, s.heap.get? b = some o → (s.heap.push (setIterObj 0 0 a es.size ep)).get? b = some o := push_keep
  obtain ⟨x, hx, px⟩ := hw 0 q rfl
  have hit : (s.heap.push (setIterObj 0 0 a es.size ep)).get? s.heap.objs.size = some (setIterObj (slotAt T.C.w tb 0) 0 a es.size ep) := by rw [hslot]; exact Heap.get?_push_size _ rfl
  refine wpAny_bind (wpAny_holding (show wpAny _ _ (pyNext (.ref s.heap.objs.size) >>= _) _ _ _ from wpAny_bind ?_))
  refine wp_pyNext_set_item (i := 0) hit (k1 a o ho) SP.ex SP.data SP.inv SP.led hx fun h₁ hit₁ sb₁ => ?_
  refine wpAny_bind (wpAny_holding (show wpAny _ _ (pure []) _ _ _ from wpAny_pure (wpAny_pure ?_)))
  rw [if_neg (by simp)]
  have hne : a ≠ s.heap.objs.size := Nat.ne_of_lt (Heap.lt_size ho)
  have ho₁ : h₁.get? a = some o := (sb₁.2 a hne).trans (k1 a o ho)
  refine wpAny_bind (wpAny_holding (wp_pyNext_set_end (i := 1) (ok.handled hh) hit₁ ho₁ SP.ex SP.data SP.inv SP.led hsz.symm fun h₂ ex₂ => ?_))
  simp only [Option.isSome_none, Bool.false_eq_true, if_false]
  refine wpAny_pure ?_
  have kp : ∀ b o, s.heap.get? b = some o → h₂.get? b = some o := fun b o e => by
    have hb : b ≠ s.heap.objs.size := Nat.ne_of_lt (Heap.lt_size e)
    exact ex₂ b o hb ((sb₁.2 b hb).trans (k1 b o e))
  refine wpAny_bind (m := holding [] (assign t f.env x.2)) (wpAny_holding (wpAny_mono (h A { s with heap := h₂ } x.2 ok (R.ext kp) (PR.keep (TupKeep.of_keep kp) _ (PR_of_isPt px))) (fun _ s₂ ⟨ls'', H₂, R₂, k₂, h₂⟩ => ?_) fun _ _ x => x))
  exact wpAny_pure ⟨ls'', H₂, R₂, (TupKeep.of_keep kp).trans k₂, h₂⟩

theorem ASub.topStr {value slice : Expr} {a : Addr} {x y : Str} {tk : Tok} {es : Array DictEntry} {n : Nat} {Q : PV → AHeap → Prop} (hl : T.C.K.lookup a = some ⟨.type "dict", none, .dict es n, #[]⟩) (hk : KeysLit T.C.w.params es.toList) (e : nsIn T.C.K a x = some (some (.str y tk)))
    (h : Q (.str y) H) (hs : ∀ t, subscripted slice false (.ref a) (.str x t) = operate [.ref a, .str x t] (getItem (.ref a) (.str x t)) := by intro _; rfl) : ASub T Fs H value slice (.ref a) (.str x) Q E := fun A s v w ok R pv pw => by
  rw [pv.ref_inv]
  obtain ⟨t, rfl⟩ := pw.str_inv
  have hm := mapOf_K (prog := T.C.prog) R.kin hl hk
  exact tail_any hm.typeIs slot_dict_getitem.lookup (wpAny_getItem_of (strKind_is T.C.prog T.C.w x t) hm (find_K hl e) (post_same R PR.str h)) (hs t)
end
end
section
open PySem PySem.W PyProof.Rows PySem.Calls
theorem lk_here {α : Type} {x : Str} {p : α} {l : List (Str × α)} : ((x, p) :: l).lookup x = some p := by rw [List.lookup_cons]; simp
theorem lk_next {α : Type} {x y : Str} {p q : α} {l : List (Str × α)} (h : (x == y) = false) (e : l.lookup x = some p) : ((y, q) :: l).lookup x = some p := by rw [List.lookup_cons, h]; exact e
theorem lk_none {α : Type} {x y : Str} {q : α} {l : List (Str × α)} (h : (x == y) = false) (e : l.lookup x = none) : ((y, q) :: l).lookup x = none := by rw [List.lookup_cons, h]; exact e

section
variable {T : Tr} {f : FR} {env : Env} {ls : Ls} {Fs : List AF} {H : AHeap} {E : Value → Shared → Prop} {s : Shared} {A : Around}
theorem AS.exp {e : Expr} {pos : Pos} {Q : AFl → Ls → AHeap → Prop} (hs : swapsWith e none pos.line env = pure false)
    (h : AE T ⟨.fn, env, ls⟩ Fs H e (fun _ H₁ => Q .next ls H₁) E) : AS T env Fs ls H (.Expr e pos) Q E := fun A s ok R => by
  have F : FrOk s.heap ⟨.fn, env, ls⟩ := (R.frs _ (.head _)).1
  have hk : env.scope.kind = .function := F.kind
  refine wpAny_Expr_any (wpAny_mono (h A s ok R) (fun v s₁ ⟨p, H₁, pr, R₁, k₁, h₁⟩ => ⟨.next, ls, H₁, trivial, R₁, k₁, h₁⟩) fun _ _ x => x) ?_ hs
  unfold interactive; rw [hk]; rfl
theorem AAs.nil' {c : FK} {Q : Ls → AHeap → Prop} (h : Q ls H) : AAs T ⟨c, env, ls⟩ Fs H [] [] Q E := AAs.nil h
theorem AAs.cons' {c : FK} {t : Expr} {ts : List Expr} {p : PV} {ps : List PV} {Q : Ls → AHeap → Prop} (he : assignEach (t :: ts) env = (false, assign t env) :: assignEach ts env)
    (h : AA T ⟨c, env, ls⟩ Fs H t p (fun ls' H₁ => AAs T ⟨c, env, ls'⟩ Fs H₁ ts ps Q E) E) : AAs T ⟨c, env, ls⟩ Fs H (t :: ts) (p :: ps) Q E := AAs.cons he h
theorem swaps_true {elt : Expr} {gens : List Comprehension} {scope : Scope} {pos p' : Pos} {t : Str} {line : Nat} {nm : List (Str × NameKind)} (hk : env.scope.kind = .function) (hn : env.scope.names = nm) (hl : (nm.lookup t == some .local) = true) (hline : (p'.line == pos.line) = true)
    (hf : (scope.names.any fun (n, k) => n == t && (k == .local || k == .cell)) = false) : swapsWith (.ListComp elt gens scope pos) (some (.Name t p')) line env = pure true := by
  have hb : env.blockKind = .function := by unfold Env.blockKind; rw [hk]; rfl
  have hl' : (env.kindOf t == some .local) = true := by rw [show env.kindOf t = env.scope.names.lookup t from rfl, hn]; exact hl
  unfold swapsWith
  show pure _ = pure true
  rw [hb, hl', show (Expr.ListComp elt gens scope pos).pos = pos from rfl, hline, hf]
  rfl
end
end
section
open PySem PySem.W PyProof.Rows PySem.Calls
section
variable {T : Tr} {f : FR} {env : Env} {ls : Ls} {Fs : List AF} {H : AHeap} {E : Value → Shared → Prop} {s : Shared} {A : Around}
theorem AS.mono {st : Stmt} {Q Q' : AFl → Ls → AHeap → Prop} (h : AS T env Fs ls H st Q E) (hq : ∀ a ls H, Q a ls H → Q' a ls H) : AS T env Fs ls H st Q' E :=
  fun A s ok R => wpAny_mono (h A s ok R) (fun v s' ⟨a, ls', H', x, y, z, q⟩ => ⟨a, ls', H', x, y, z, hq _ _ _ q⟩) fun _ _ x => x
theorem compLs_get {ns : List (Str × NameKind)} {x : Str} {p : PV} (h : (ns.lookup x != some .local) = true) : ∀ {ls : Ls}, ls.lookup x = some p → (compLs ns ls).lookup x = some p
  | [], e => by cases e
  | (y, q) :: ls, e => by
    unfold compLs
    rw [List.filter_cons]
    by_cases hy : x = y
    · subst hy
      rw [if_pos h]
      rw [List.lookup_cons] at e ⊢
      simpa using e
    · have hb := beq_eq_false_iff_ne.mpr hy
      rw [List.lookup_cons, hb] at e
      have ih := compLs_get h (ls := ls) e
      unfold compLs at ih
      split
      · rw [List.lookup_cons, hb]; exact ih
      · exact ih
theorem mulOk5 {n : Nat} (h : n ≤ 5) : IntMulOk (n : Int) (n : Int) := by
  have h : ∀ n < 6, Builtin.Int.intBits (n : Nat) ≤ 64 := by decide +kernel
  exact IntMulOk.of_left (h n (Nat.lt_succ_of_le ‹_›))
end
end
section
open PySem PySem.W PyProof.Rows PySem.Calls
section
variable {T : Tr} {f : FR} {env : Env} {ls : Ls} {Fs : List AF} {H : AHeap} {E : Value → Shared → Prop} {s : Shared} {A : Around}
theorem APart.some {e : Expr} {Q : Option Int → AHeap → Prop} (h : AE T f Fs H e (fun p H₁ => ∃ i, p = .int i ∧ Q (Option.some i) H₁) E) : APart T f Fs H (Option.some e) Q E := h
theorem pylong_small {a b : Int} (h0 : 0 ≤ b) (h : b < 2 ^ 30) : Builtin.divisionGoesByPylong a b = false := by
  unfold Builtin.divisionGoesByPylong
  simp only [Bool.and_eq_false_iff, decide_eq_false_iff_not]
  left
  split
  · decide
  · have h1 : b.natAbs < 2 ^ 30 := by omega
    have : b.natAbs.log2 < 30 := (Nat.log2_lt (by rename_i q; intro e; apply q; simp; omega)).mpr h1
    omega
end
end
section
open PySem PySem.W PyProof.Rows PySem.Calls
theorem cellsFrom_lo {lo : Nat} : ∀ (names : List (Str × NameKind)) (n : Nat) (acc : List (Str × Addr)), (∀ y ∈ acc, lo ≤ y.2 ∧ y.2 < n) → lo ≤ n → acc.Pairwise (fun x y => x.2 ≠ y.2) →
    (∀ y ∈ cellsFrom n names acc, lo ≤ y.2) ∧ (cellsFrom n names acc).Pairwise fun x y => x.2 ≠ y.2
  | [], n, acc, h, _, hp => ⟨fun y hy => (h y hy).1, hp⟩
  | (x, k) :: r, n, acc, h, hl, hp => by
    unfold cellsFrom
    split
    · refine cellsFrom_lo r (n + 1) ((x, n) :: acc) (fun y hy => ?_) (Nat.le_succ_of_le hl) (List.pairwise_cons.mpr ⟨fun y hy e => ?_, hp⟩)
      · rcases List.mem_cons.mp hy with rfl | hy
        · exact ⟨hl, Nat.lt_succ_self _⟩
        · exact ⟨(h y hy).1, Nat.lt_succ_of_lt (h y hy).2⟩
      · have := (h y hy).2
        have e : n = y.2 := e
        exact absurd this (by rw [← e]; exact Nat.lt_irrefl _)
    · exact cellsFrom_lo r n acc h hl hp
theorem cellsAre_mem {cm : Str → Option Value} : ∀ {cs : List (Str × Addr)} {cells : List (Addr × Obj)}, CellsAre cm cs cells → ∀ y ∈ cs, ∃ o, (y.2, o) ∈ cells ∧ o.data = .cell (cm y.1)
  | _, _, .nil, y, h => by cases h
  | _, _, .cons hd X, y, h => by
    rcases List.mem_cons.mp h with rfl | h
    · exact ⟨_, .head _, hd⟩
    · obtain ⟨o, a, b⟩ := cellsAre_mem X y h
      exact ⟨o, .tail _ a, b⟩
theorem prs_ints {h : Heap} : ∀ {vs : List Value} {xs : List Int}, IntsAre vs xs → PRs h (xs.map PV.int) vs
  | _, _, .nil => PRs.nil
  | _, _, .cons n t r => PRs.cons PR.int (prs_ints r)
theorem law_end {C : Cx} {A : Around} {env : Env} {s₁ s : Shared} {body : List Stmt} (hh : C.h₀ = s₁.heap) (ho : C.os = s₁.os) (hA : A.frames = some [env]) (hd : A.depth ≤ 400) (hu : A.units ≤ 100) (hn : A.handled = none)
    (R : Rep C [.fr ⟨.fn, env, [("script", .ref C.scA)]⟩] (fun _ => none) s)
    (h : AX ⟨C, 30, false⟩ env [] [("script", .ref C.scA)] (fun _ => none) body (fun a _ _ => a = .ret (.bool true)) NoE)
    {Q : Flow → Shared → Prop} {E : Value → Shared → Prop} (hQ : ∀ s', (∀ b o, s₁.heap.get? b = some o → s'.heap.get? b = some o) → s'.os = s₁.os → s'.gens = #[] → Q (.ret (.bool true)) s') :
    wpAny (model C.prog C.w) A (execs body env) Q E s := by
  refine wpAny_mono (h A s ⟨hA, by show A.depth + 4 * 30 + 10 ≤ 1000; omega, by show A.units + 20 * 30 + 100 ≤ 9900; omega, fun _ => hn⟩ R) (fun fl s' ⟨a, ls', H', fr, R', k', hq⟩ => ?_) fun _ _ x => x.elim
  subst hq
  cases fl with
  | ret v =>
    have : v = .bool true := PR.bool_inv (h := s'.heap) fr
    subst this
    exact hQ s' (fun b o e => R'.keep b o (hh ▸ e)) (R'.os.trans ho) R'.gens
  | next => exact fr.elim
  | brk => exact fr.elim
  | cont => exact fr.elim
theorem law_rep {C : Cx} (ok : C.Ok) {scope : Scope} {name : Str} {fa : Addr} {cd : Value} {h₁ : Heap} {s₁ : Shared} {d : Nat} {tk : Nat} {m cm : Str → Option Value} {cells : List (Addr × Obj)} (hh : C.h₀ = s₁.heap) (ho : C.os = s₁.os) (hg : s₁.gens = #[])
    (F : Fr s₁.heap s₁.heap.objs.size h₁ m) (hm : m "script" = some (.ref C.scA)) (N : News s₁.heap s₁.heap.objs.size h₁ cells) (X : CellsAre cm (cellsFrom (s₁.heap.objs.size + 1) scope.names []) cells)
    (hk : scope.kind = .function) (hl : scope.names.lookup ("script" : Str) = some .local) (hfree : scope.names.all (fun x => x.2 != .free) = true) :
    Rep C [.fr ⟨.fn, envOfC name scope s₁.heap.objs.size fa cd, [("script", .ref C.scA)]⟩] (fun _ => none) ⟨h₁, s₁.gens, s₁.drawn, tk, s₁.os⟩ := by
  obtain ⟨lo, ap⟩ := cellsFrom_lo (lo := s₁.heap.objs.size + 1) scope.names (s₁.heap.objs.size + 1) [] (fun y hy => by cases hy) (Nat.le_refl _) List.Pairwise.nil
  have one : ∀ (x : Str) (p : PV), ([(("script" : Str), PV.ref C.scA)] : Ls).lookup x = some p → x = "script" ∧ p = .ref C.scA := fun x p e => by
    rw [List.lookup_cons] at e
    cases hb : x == ("script" : Str) with
    | true => rw [hb] at e; exact ⟨by simpa using hb, (Option.some.inj e).symm⟩
    | false => rw [hb] at e; cases e
  refine ⟨ok, fun b o e => F.keep b o (hh ▸ e), hg, ho.symm, fun f hf => ?_, List.pairwise_singleton _ _, fun a o e => by cases e⟩
  rw [List.mem_singleton.mp hf]
  refine ⟨⟨hk, rfl, rfl, ⟨m, F.ns, fun x p e _ => ?_⟩, fun y hy => ?_, fun x p e k => ?_, fun x k => ?_, ap, fun y hy => ?_, fun _ => rfl⟩, fun a ha => ?_⟩
  · obtain ⟨rfl, rfl⟩ := one x p e
    exact ⟨_, hm, PR.ref⟩
  · obtain ⟨o, hm', hd⟩ := cellsAre_mem X y hy
    exact ⟨_, o, N.get hm', hd⟩
  · obtain ⟨rfl, rfl⟩ := one x p e
    have k : scope.names.lookup ("script" : Str) = some .cell ∨ scope.names.lookup ("script" : Str) = some .free := k
    rw [hl] at k
    rcases k with k | k <;> cases k
  · have k : scope.names.lookup x = some .cell ∨ scope.names.lookup x = some .free := k
    rcases k with k | k
    · exact Option.isSome_iff_exists.mp (cellsFrom_has scope.names _ _ k)
    · have := List.all_eq_true.mp hfree _ (mem_of_lookup k)
      simp at this
  · exact Nat.ne_of_gt (lo y hy)
  · rw [hh]
    have big : s₁.heap.objs.size ≤ a := by
      rcases List.mem_cons.mp ha with rfl | ha
      · exact Nat.le_refl _
      · obtain ⟨y, hy, rfl⟩ := List.mem_map.mp ha
        exact Nat.le_of_succ_le (lo y hy)
    exact Heap.get?_none_of_le big
theorem script_at {P : Params} {h : Heap} {a : Addr} {vs : List Value} {xs : List Int} (w : Well P h (.ref a) (ofPy (PyData.list (xs.map PyData.int)))) (hL : h.IsList a vs.toArray) (hI : IntsAre vs xs) : ∃ vs n, IsL h a vs n ∧ PRs h (xs.map PV.int) vs.toList := by
  obtain ⟨o, ho, hc, n, hd⟩ := hL
  cases w with
  | list h1 h2 =>
    rw [ho] at h1
    cases h1
    have e : vs.toArray = _ := (Data.seq.inj hd).1.symm
    exact ⟨_, _, ho, by rw [← e]; exact prs_ints hI⟩
theorem miss_of {p : Program} {loose : List Str} {mean : ExcName → Option Value} {mg mb : Str → Option Value} {h : Heap} (T : Top p loose mean mg mb h) {xs : List Str}
    (hx : xs.all (fun x => !decide (x ∈ startupNames) && !decide (x ∈ loose) && !decide (x ∈ (recsOf p).map (·.name)) && !decide (x ∈ (litsOf p).map (·.1)) && !decide (x ∈ (clssOf p loose).map (·.name))) = true) : ∀ x ∈ xs, mg x = none := fun x h => by
  have := List.all_eq_true.mp hx x h
  simp only [Bool.and_eq_true, Bool.not_eq_true', decide_eq_false_iff_not] at this
  obtain ⟨⟨⟨⟨h1, h2⟩, h3⟩, h4⟩, h5⟩ := this
  exact T.free x h1 h2 h3 h4 h5
end
section
open PySem PySem.W PyProof.Rows PySem.Calls
noncomputable abbrev LN := List (Nat × PV)
inductive CT where
  | one (x : Nat)
  | many (xs : List Nat)
inductive IE where
  | int (i : Int)
  | str (s : Str)
  | none
  | bool (b : Bool)
  | var (x : Nat)
  | glob (p : PV)
  | bin (o : Operator) (a b : IE)
  | un (o : UnaryOp) (a : IE)
  | cmp (o : CmpOp) (a b : IE)
  | cmp2 (o o' : CmpOp) (a b c : IE)
  | boolop (o : BoolOp) (l : IE)
  | ife (t a b : IE)
  | nil
  | cons (a b : IE)
  | tup (l : IE)
  | list (l : IE)
  | dict
  | attr (a : IE) (x : Str)
  | sub (a i : IE)
  | slice (a lo hi : IE)
  | call (g : PV) (l : IE)
  | meth (o : IE) (x : Str) (l : IE)
  | comp (t : CT) (it fs e : IE)
  | compRR (x y : Nat) (i1 i2 fs e : IE)
inductive IT where
  | var (x : Nat)
  | tup (l : IT)
  | tupS (t : IT)
  | nil
  | cons (a b : IT)
  | attr (e : IE) (x : Str)
  | sub (e i : IE)
inductive IS where
  | skip
  | seq (a b : IS)
  | cut (a : IS)
  | expr (e : IE)
  | assign (t : IT) (e : IE)
  | assignC (x : Nat) (e : IE)
  | aug (x : Nat) (o : Operator) (e : IE)
  | ite (t : IE) (a b : IS)
  | ret (e : IE)
  | brk
  | dead
  | cont
  | pass
  | for_ (t : IT) (it : IE) (b : IS)
  | while_ (t : IE) (b : IS)
  | try_ (b : IS) (x : Str) (Y : String) (h : IS)
  | raise_ (x : Str) (Y : String)
inductive Md where
  | v | t | a | o

@[irreducible] noncomputable def SBin (T : Tr) (op : Value → Value → Sem Value) (p q : PV) (H : AHeap) (Q : PV → AHeap → Prop) : Prop := ∀ Fs, ABin T Fs H op p q Q NoE
@[irreducible] noncomputable def SCmp (T : Tr) (op : CmpOp) (p q : PV) (H : AHeap) (Q : Bool → AHeap → Prop) : Prop := ∀ Fs, ACmp T Fs H op p q Q NoE
@[irreducible] noncomputable def STr (T : Tr) (p : PV) (H : AHeap) (Q : Bool → AHeap → Prop) : Prop := ∀ Fs, ATr T Fs H p Q NoE
@[irreducible] noncomputable def SGet (T : Tr) (x : Str) (p : PV) (H : AHeap) (Q : PV → AHeap → Prop) : Prop := ∀ Fs, AGet T Fs H x p Q NoE
@[irreducible] noncomputable def SMeth (T : Tr) (x : Str) (p : PV) (H : AHeap) (g : PV) : Prop := callee T.C.K g = true ∧ ∀ Fs, AMeth T Fs H x p g
@[irreducible] noncomputable def SSub (T : Tr) (p q : PV) (H : AHeap) (Q : PV → AHeap → Prop) : Prop := ∀ Fs value slice, (∀ o i, subscripted slice false o i = operate [o, i] (getItem o i)) → ASub T Fs H value slice p q Q NoE
@[irreducible] noncomputable def SSetItem (T : Tr) (p i q : PV) (H : AHeap) (Q : AHeap → Prop) : Prop := ∀ Fs, ASetItem T Fs H p i q Q NoE
@[irreducible] noncomputable def SSetAttr (T : Tr) (x : Str) (p q : PV) (H : AHeap) (Q : AHeap → Prop) : Prop := ∀ Fs, ASetAttr T Fs H x p q Q NoE
@[irreducible] noncomputable def SCall (T : Tr) (X : String) (g : PV) (ps : List PV) (H : AHeap) (Q : PV → AHeap → Prop) (R : AHeap → Prop) : Prop :=
  ∀ Fs E, (∀ e s, Fly T.C Fs X R e s → E e s) → ACall T Fs H g ps Q E

noncomputable def onInts (p q : PV) (A : Int → Int → Prop) (B : Prop) : Prop := match p with
  | .int a => (match q with
    | .int b => A a b
    | _ => B)
  | _ => B
noncomputable def onStrs (p q : PV) (A : Str → Str → Prop) (B : Prop) : Prop := match p with
  | .str a => (match q with
    | .str b => A a b
    | _ => B)
  | _ => B
noncomputable def onNone (q : PV) (A B : Prop) : Prop := match q with
  | .none => A
  | _ => B
noncomputable def wBin (T : Tr) (o : Operator) (p q : PV) (H : AHeap) (Q : PV → AHeap → Prop) : Prop := match o with
  | .Add => onInts p q (fun a b => Q (.int (a + b)) H) (SBin T (binaryOp .Add) p q H Q)
  | .Sub => onInts p q (fun a b => Q (.int (a - b)) H) (SBin T (binaryOp .Sub) p q H Q)
  | .Mult => onInts p q (fun a b => IntMulOk a b ∧ Q (.int (a * b)) H) (SBin T (binaryOp .Mult) p q H Q)
  | .Mod => onInts p q (fun a b => b ≠ 0 ∧ Q (.int (a.fmod b)) H) (SBin T (binaryOp .Mod) p q H Q)
  | .FloorDiv => onInts p q (fun a b => (b ≠ 0 ∧ Builtin.divisionGoesByPylong a b = false) ∧ Q (.int (a.fdiv b)) H) (SBin T (binaryOp .FloorDiv) p q H Q)
  | .Pow => onInts p q (fun a b => (0 ≤ b ∧ (Builtin.Int.intBits a : Int) * b ≤ 2 ^ 27) ∧ Q (.int (a ^ b.toNat)) H) (SBin T (binaryOp .Pow) p q H Q)
  | _ => False
noncomputable def wAug (T : Tr) (o : Operator) (p q : PV) (H : AHeap) (Q : PV → AHeap → Prop) : Prop := SBin T (inplaceOp o) p q H Q
noncomputable def wCmp (T : Tr) (o : CmpOp) (p q : PV) (H : AHeap) (Q : Bool → AHeap → Prop) : Prop := match o with
  | .Lt => onInts p q (fun a b => Q (decide (a < b)) H) (SCmp T .Lt p q H Q)
  | .LtE => onInts p q (fun a b => Q (decide (a ≤ b)) H) (SCmp T .LtE p q H Q)
  | .Gt => onInts p q (fun a b => Q (decide (b < a)) H) (SCmp T .Gt p q H Q)
  | .GtE => onInts p q (fun a b => Q (decide (b ≤ a)) H) (SCmp T .GtE p q H Q)
  | .Eq => onInts p q (fun a b => Q (decide (a = b)) H) (onStrs p q (fun a b => Q (a == b) H) (SCmp T .Eq p q H Q))
  | .NotEq => onInts p q (fun a b => Q (!decide (a = b)) H) (onStrs p q (fun a b => Q (a != b) H) (SCmp T .NotEq p q H Q))
  | .Is => onNone q (Q p.isNone H) (SCmp T .Is p q H Q)
  | .IsNot => onNone q (Q (!p.isNone) H) (SCmp T .IsNot p q H Q)
  | .NotIn => SCmp T .In p q H (fun b H' => Q (!b) H')
  | .In => SCmp T .In p q H Q
noncomputable def wTr (T : Tr) (p : PV) (H : AHeap) (Q : Bool → AHeap → Prop) : Prop := match p with
  | .bool b => Q b H
  | .int i => Q (!decide (i = 0)) H
  | p => STr T p H Q
noncomputable def wFin (T : Tr) (m : Md) (Q : PV → AHeap → Prop) (p : PV) (H : AHeap) : Prop := match m with
  | .v => Q p H
  | .t => wTr T p H (fun b H' => Q (.bool b) H')
  | _ => False
noncomputable def wUn (T : Tr) (o : UnaryOp) (p : PV) (H : AHeap) (Q : PV → AHeap → Prop) : Prop := match o, p with
  | .USub, .int a => Q (.int (-a)) H
  | .Not, p => wTr T p H (fun b H' => Q (.bool (!b)) H')
  | _, _ => False
noncomputable def lkN (x : Nat) : LN → Option PV
  | [] => Option.none
  | (y, p) :: l => cond (Nat.beq x y) (some p) (lkN x l)
noncomputable def IE.isNo : IE → Bool
  | .none => true
  | _ => false
noncomputable def wPart (no : Bool) (lo : PV) (Q : Option Int → Prop) : Prop := match no, lo with
  | true, _ => Q Option.none
  | false, .int i => Q (some i)
  | false, _ => False
@[irreducible] noncomputable def SSlice (T : Tr) (p : PV) (lo hi : Option Int) (H : AHeap) (Q : PV → AHeap → Prop) : Prop :=
  ∃ a l, p = .ref a ∧ LAt T.C H a l ∧ l.length ≤ 100000 ∧ ∀ c, H c = Option.none → Q (.ref c) (upd H c (.list (pslice l lo hi)))
inductive WComp (T : Tr) (p : PV) (H : AHeap) (step : PV → AHeap → (Option PV → AHeap → Prop) → Prop) (Q : PV → AHeap → Prop) : Prop
  | list (a : Addr) (l : List PV) (e : p = .ref a) (hl : H a = some (.list l)) (hz : l.length ≤ 100000) (J : Nat → List PV → AHeap → Prop) (h0 : J 0 [] H)
      (hk : ∀ i out H', J i out H' → H' a = some (.list l))
      (turn : ∀ i v out H', l[i]? = some v → J i out H' → step v H' (fun r H'' => J (i + 1) (out ++ r.toList) H''))
      (fin : ∀ out H', J l.length out H' → ∃ H₂, Ext H₂ H' ∧ ∀ c, H₂ c = Option.none → Q (.ref c) (upd H₂ c (.list out))) : WComp T p H step Q
  | range (a : Addr) (n : Nat) (e : p = .ref a) (hl : H a = some (.range 0 n)) (hz : n ≤ 100000) (J : Nat → List PV → AHeap → Prop) (h0 : J 0 [] H)
      (turn : ∀ (i : Nat) out H', i < n → J i out H' → step (.int i) H' (fun r H'' => J (i + 1) (out ++ r.toList) H''))
      (fin : ∀ out H', J n out H' → ∃ H₂, Ext H₂ H' ∧ ∀ c, H₂ c = Option.none → Q (.ref c) (upd H₂ c (.list out))) : WComp T p H step Q
noncomputable def bindCT : CT → PV → LN → Option LN
  | .one x, p, ls => some ((x, p) :: ls)
  | .many [x, y], .tup [p, q], ls => some ((y, q) :: (x, p) :: ls)
  | _, _, _ => Option.none
noncomputable def CT.vars : CT → List Nat
  | .one x => [x]
  | .many xs => xs
noncomputable def dropN (vs : List Nat) : LN → LN
  | [] => []
  | (y, p) :: l => cond (vs.any (Nat.beq y)) (dropN vs l) ((y, p) :: dropN vs l)
noncomputable def cutB (Q : PV → AHeap → Prop) (A : Bool → AHeap → Prop) (p : PV) (H : AHeap) : Prop := match p with
  | .bool b => A b H
  | _ => False
noncomputable def cutT (A : List PV → AHeap → Prop) (p : PV) (H : AHeap) : Prop := match p with
  | .tup ps => A ps H
  | _ => False
noncomputable def noR : AHeap → Prop := fun _ => False

noncomputable def w (T : Tr) (X : String) : IE → Md → LN → AHeap → (AHeap → Prop) → (PV → AHeap → Prop) → Prop
  | .int i, m, ls, H, R, Q => wFin T m Q (.int i) H
  | .str i, m, ls, H, R, Q => wFin T m Q (.str i) H
  | .none, m, ls, H, R, Q => wFin T m Q .none H
  | .bool i, m, ls, H, R, Q => wFin T m Q (.bool i) H
  | .var x, m, ls, H, R, Q => match lkN x ls with
    | some p => wFin T m Q p H
    | Option.none => False
  | .glob p, m, ls, H, R, Q => wFin T m Q p H
  | .bin o a b, m, ls, H, R, Q => w T X a .v ls H R fun p H₁ => w T X b .v ls H₁ R fun q H₂ => wBin T o p q H₂ (wFin T m Q)
  | .un o a, m, ls, H, R, Q => match m, o with
    | .t, .Not => w T X a .t ls H R fun p H₁ => match p with
      | .bool b => Q (.bool (!b)) H₁
      | _ => False
    | .v, o => w T X a .v ls H R fun p H₁ => wUn T o p H₁ Q
    | _, _ => False
  | .cmp o a b, m, ls, H, R, Q => match m with
    | .v => w T X a .v ls H R fun p H₁ => w T X b .v ls H₁ R fun q H₂ => wCmp T o p q H₂ fun c H₃ => Q (.bool c) H₃
    | .t => w T X a .v ls H R fun p H₁ => w T X b .v ls H₁ R fun q H₂ => wCmp T o p q H₂ fun c H₃ => Q (.bool c) H₃
    | _ => False
  | .cmp2 o o' a b c, m, ls, H, R, Q => match m with
    | .t => w T X a .v ls H R fun p H₁ => w T X b .v ls H₁ R fun q H₂ => wCmp T o p q H₂ fun d H₃ => cond d (w T X c .v ls H₃ R fun q' H₄ => wCmp T o' q q' H₄ fun d' H₅ => Q (.bool d') H₅) (Q (.bool false) H₃)
    | _ => False
  | .boolop o l, m, ls, H, R, Q => match m, o with
    | .t, .And => w T X l .a ls H R Q
    | .t, .Or => w T X l .o ls H R Q
    | _, _ => False
  | .ife t a b, m, ls, H, R, Q => match m with
    | .v => w T X t .t ls H R fun p H₁ => match p with
      | .bool c => cond c (w T X a .v ls H₁ R Q) (w T X b .v ls H₁ R Q)
      | _ => False
    | _ => False
  | .nil, m, ls, H, R, Q => match m with
    | .v => Q (.tup []) H
    | .a => Q (.bool true) H
    | .o => Q (.bool false) H
    | .t => False
  | .cons a b, m, ls, H, R, Q => match m with
    | .v => w T X a .v ls H R fun p H₁ => w T X b .v ls H₁ R (cutT fun ps H₂ => Q (.tup (p :: ps)) H₂)
    | .a => w T X a .t ls H R fun p H₁ => match p with
      | .bool c => cond c (w T X b .a ls H₁ R Q) (Q (.bool false) H₁)
      | _ => False
    | .o => w T X a .t ls H R fun p H₁ => match p with
      | .bool c => cond c (Q (.bool true) H₁) (w T X b .o ls H₁ R Q)
      | _ => False
    | .t => False
  | .tup l, m, ls, H, R, Q => w T X l .v ls H R (cutT fun ps H₁ => cond (Nat.ble ps.length 1000) (wFin T m Q (.tup ps) H₁) False)
  | .list l, m, ls, H, R, Q => w T X l .v ls H R (cutT fun ps H₁ => cond (Nat.ble ps.length 1000) (∀ c, H₁ c = Option.none → wFin T m Q (.ref c) (upd H₁ c (.list ps))) False)
  | .dict, m, ls, H, R, Q => ∀ c, H c = Option.none → wFin T m Q (.ref c) (upd H c (.pdict []))
  | .attr a x, m, ls, H, R, Q => w T X a .v ls H R fun p H₁ => SGet T x p H₁ (wFin T m Q)
  | .sub a i, m, ls, H, R, Q => w T X a .v ls H R fun p H₁ => w T X i .v ls H₁ R fun q H₂ => SSub T p q H₂ (wFin T m Q)
  | .slice a lo hi, m, ls, H, R, Q => w T X a .v ls H R fun p H₁ => w T X lo .v ls H₁ R fun i H₂ => wPart lo.isNo i fun i' => w T X hi .v ls H₂ R fun j H₃ => wPart hi.isNo j fun j' => SSlice T p i' j' H₃ (wFin T m Q)
  | .call g l, m, ls, H, R, Q => w T X l .v ls H R (cutT fun ps H₁ => SCall T X g ps H₁ (wFin T m Q) R)
  | .meth o x l, m, ls, H, R, Q => w T X o .v ls H R fun p H₁ => ∃ g, SMeth T x p H₁ g ∧ w T X l .v ls H₁ R (cutT fun ps H₂ => SCall T X g (p :: ps) H₂ (wFin T m Q) R)
  | .comp t it fs e, m, ls, H, R, Q => w T X it .v ls H R fun p H₁ => WComp T p H₁ (fun v H' K => match bindCT t v (dropN t.vars ls) with
    | some ls' => w T X fs .a ls' H' noR fun b H₂ => match b with
      | .bool b => cond b (w T X e .v ls' H₂ noR fun r H₃ => K (some r) H₃) (K Option.none H₂)
      | _ => False
    | Option.none => False) (wFin T m Q)
  | .compRR x y i1 i2 fs e, m, ls, H, R, Q => ∃ (n k : Nat) (g : Nat → Nat → Option PV), n * k ≤ 90000 ∧ n < 2 ^ 62 ∧ k < 2 ^ 62 ∧ w T X i1 .v ls H R fun p H₁ => ∃ a, p = .ref a ∧ H₁ a = some (.range 0 n) ∧
      (∀ (i : Nat) H', i < n → Ext H₁ H' → w T X i2 .v ((x, .int i) :: dropN [x, y] ls) H' noR fun q H₂ => ∃ b, q = .ref b ∧ H₂ b = some (.range 0 k) ∧ Ext H₁ H₂) ∧
      (∀ (i j : Nat) H', i < n → j < k → Ext H₁ H' → w T X fs .a ((y, .int j) :: (x, .int i) :: dropN [x, y] ls) H' noR fun b H₂ => match b with
        | .bool b => Ext H₁ H₂ ∧ cond b (∃ r, g i j = some r ∧ w T X e .v ((y, .int j) :: (x, .int i) :: dropN [x, y] ls) H₂ noR fun q H₃ => q = r ∧ Ext H₁ H₃) (g i j = Option.none)
        | _ => False) ∧
      ∀ c, H₁ c = Option.none → wFin T m Q (.ref c) (upd H₁ c (.list (gather2 n k g)))

noncomputable def IT.len : IT → Nat
  | .cons _ b => b.len + 1
  | _ => 0
noncomputable def lenOk (p : PV) (n : Nat) : Bool := match p with
  | .tup ps => Nat.beq ps.length n
  | _ => false
noncomputable def wT (T : Tr) (X : String) : IT → PV → LN → AHeap → (LN → AHeap → Prop) → (LN → AHeap → Prop) → Prop
  | .var x, p, ls, H, R, Q => Q ((x, p) :: ls) H
  | .tup l, p, ls, H, R, Q => cond (lenOk p l.len) (wT T X l p ls H R Q) False
  | .tupS t, p, ls, H, R, Q => ∃ a q, p = .ref a ∧ H a = some (.pset [q]) ∧ wT T X t (pt q) ls H R Q
  | .nil, p, ls, H, R, Q => match p with
    | .tup [] => Q ls H
    | _ => False
  | .cons a b, p, ls, H, R, Q => match p with
    | .tup (q :: ps) => wT T X a q ls H R fun ls' H' => wT T X b (.tup ps) ls' H' R Q
    | _ => False
  | .attr e x, p, ls, H, R, Q => w T X e .v ls H (R ls) fun q H₁ => SSetAttr T x q p H₁ fun H₂ => Q ls H₂
  | .sub e i, p, ls, H, R, Q => w T X e .v ls H (R ls) fun q H₁ => w T X i .v ls H₁ (R ls) fun j H₂ => SSetItem T q j p H₂ fun H₃ => Q ls H₃

noncomputable def loopK (N : LN → AHeap → Prop) (Q : AFl → LN → AHeap → Prop) (a : AFl) (ls : LN) (H : AHeap) : Prop := match a with
  | .next => N ls H
  | .cont => N ls H
  | .brk => Q .next ls H
  | .ret p => Q (.ret p) ls H
noncomputable def SubN : LN → LN → Prop
  | [], _ => True
  | (x, p) :: l, ls => lkN x ls = some p ∧ SubN l ls
noncomputable def KeepN {α : Type} (L : α → LN) (J : α → AHeap → Prop) (ls : LN) (H : AHeap) : Prop := ∃ b, SubN (L b) ls ∧ J b H
inductive WFor (T : Tr) (p : PV) (ls : LN) (H : AHeap) (step : PV → LN → AHeap → (AFl → LN → AHeap → Prop) → Prop) (Q : AFl → LN → AHeap → Prop) : Prop
  | list (a : Addr) (l : List PV) (e : p = .ref a) (hl : H a = some (.list l)) (α : Type) (L : α → LN) (J : Nat → α → AHeap → Prop) (b0 : α) (s0 : SubN (L b0) ls) (h0 : J 0 b0 H)
      (hk : ∀ i b H', J i b H' → H' a = some (.list l))
      (turn : ∀ i v b H', l[i]? = some v → J i b H' → step v (L b) H' (loopK (KeepN L (J (i + 1))) Q))
      (fin : ∀ b H', J l.length b H' → Q .next (L b) H') : WFor T p ls H step Q
  | grow (a : Addr) (e : p = .ref a) (hl : ∃ l, H a = some (.list l)) (α : Type) (L : α → LN) (J : Nat → Nat → α → AHeap → Prop) (n : Nat) (b0 : α) (s0 : SubN (L b0) ls) (h0 : J n 0 b0 H)
      (turn : ∀ n i b H', J n i b H' → ∃ l, H' a = some (.list l) ∧ (∀ v, l[i]? = some v → step v (L b) H' (loopK (KeepN L (fun b H₂ => ∃ m, m < n ∧ J m (i + 1) b H₂)) Q)) ∧ (l.length ≤ i → Q .next (L b) H')) : WFor T p ls H step Q
  | range (a : Addr) (n : Nat) (e : p = .ref a) (hl : H a = some (.range 0 n)) (hz : n < 2 ^ 62) (α : Type) (L : α → LN) (J : Nat → α → AHeap → Prop) (b0 : α) (s0 : SubN (L b0) ls) (h0 : J 0 b0 H)
      (turn : ∀ (i : Nat) b H', i < n → J i b H' → step (.int i) (L b) H' (loopK (KeepN L (J (i + 1))) Q))
      (fin : ∀ b H', J n b H' → Q .next (L b) H') : WFor T p ls H step Q
  | set (a : Addr) (l : List Pt) (e : p = .ref a) (hl : H a = some (.pset l)) (α : Type) (L : α → LN)
      (J : List Pt → Nat → α → AHeap → Prop) (b0 : α) (s0 : SubN (L b0) ls) (h0 : ∀ l' : List Pt, l'.Perm l → J l' 0 b0 (rem H a))
      (turn : ∀ (l' : List Pt) i q b H', l'.Perm l → l'[i]? = some q → J l' i b H' → step (pt q) (L b) H' (loopK (KeepN L (J l' (i + 1))) (fun _ _ _ => False)))
      (fin : ∀ (l' : List Pt) b H', l'.Perm l → J l' l'.length b H' → Q .next (L b) (upd H' a (.pset l))) : WFor T p ls H step Q
noncomputable def cutK {α : Type} (L : α → LN) (P : α → AHeap → Prop) (Q : AFl → LN → AHeap → Prop) (a : AFl) (ls : LN) (H : AHeap) : Prop := match a with
  | .next => KeepN L P ls H
  | .brk => Q .brk ls H
  | .cont => Q .cont ls H
  | .ret p => Q (.ret p) ls H

noncomputable def noRL : LN → AHeap → Prop := fun _ _ => False
structure CatchOk (X Y : String) : Prop where
  exc : isSubtype (.type Y) (.type "BaseException") = pure true
  tup : isSubtype (.type ((Manifest.find? Y).elim "type" fun y => y.metatype)) (.type "tuple") = pure false
  sub : isSubtype (.type X) (.type Y) = pure true
structure RaiseOk (Y : String) : Prop where
  cls : ∃ N I, ExcClass Y N I
  self : isSubtype (.type Y) (.type Y) = pure true
noncomputable def wS : IS → String → Tr → LN → AHeap → (LN → AHeap → Prop) → (AFl → LN → AHeap → Prop) → Prop
  | .skip, X, T, ls, H, R, Q => Q .next ls H
  | .seq a b, X, T, ls, H, R, Q => wS a X T ls H R fun fl ls' H' => match fl with
    | .next => wS b X T ls' H' R Q
    | fl => Q fl ls' H'
  | .cut a, X, T, ls, H, R, Q => ∃ (α : Type) (L : α → LN) (P : α → AHeap → Prop), wS a X T ls H R (cutK L P Q) ∧ ∀ b H', P b H' → Q .next (L b) H'
  | .expr e, X, T, ls, H, R, Q => w T X e .v ls H (R ls) fun _ H' => Q .next ls H'
  | .assign t e, X, T, ls, H, R, Q => w T X e .v ls H (R ls) fun p H₁ => wT T X t p ls H₁ R fun ls' H' => Q .next ls' H'
  | .assignC x e, X, T, ls, H, R, Q => w T X e .v ls H (R ls) fun p H₁ => Q .next ((x, p) :: ls) H₁
  | .aug x o e, X, T, ls, H, R, Q => match lkN x ls with
    | some old => w T X e .v ls H (R ls) fun p H₁ => wAug T o old p H₁ fun r H₂ => Q .next ((x, r) :: ls) H₂
    | Option.none => False
  | .ite t a b, X, T, ls, H, R, Q => w T X t .t ls H (R ls) fun p H₁ => match p with
    | .bool c => cond c (wS a X T ls H₁ R Q) (wS b X T ls H₁ R Q)
    | _ => False
  | .ret e, X, T, ls, H, R, Q => w T X e .v ls H (R ls) fun p H₁ => Q (.ret p) ls H₁
  | .brk, X, T, ls, H, R, Q => Q .brk ls H
  | .dead, X, T, ls, H, R, Q => False
  | .cont, X, T, ls, H, R, Q => Q .cont ls H
  | .pass, X, T, ls, H, R, Q => Q .next ls H
  | .for_ t it b, X, T, ls, H, R, Q => w T X it .v ls H (R ls) fun p H₁ => WFor T p ls H₁ (fun v ls' H' K => wT T X t v ls' H' noRL fun ls'' H'' => wS b X T ls'' H'' noRL K) Q
  | .while_ t b, X, T, ls, H, R, Q => ∃ (α : Type) (L : α → LN) (I : Nat → α → AHeap → Prop) (n : Nat) (b0 : α), SubN (L b0) ls ∧ I n b0 H ∧ ∀ n b1 H', I n b1 H' → w T X t .t (L b1) H' noR fun p H₁ => match p with
    | .bool c => cond c (wS b X T (L b1) H₁ noRL (loopK (KeepN L (fun b2 H₂ => ∃ m, m < n ∧ I m b2 H₂)) Q)) (Q .next (L b1) H₁)
    | _ => False
  | .try_ b x Y h, X, T, ls, H, R, Q => ∃ (X' : String) (QE : LN → AHeap → Prop), CatchOk X' Y ∧ wS b X' T ls H QE Q ∧ ∀ ls' H', QE ls' H' → wS h X T.inH ls' H' noRL Q
  | .raise_ x Y, X, T, ls, H, R, Q => X = Y ∧ RaiseOk Y ∧ R ls H
end
section
open PySem PySem.W PyProof.Rows PySem.Calls
noncomputable abbrev GT := List (Str × PV × Bool)
noncomputable def GOk1 (C : Cx) (x : Str) (p : PV) (c : Bool) : Prop := (c = true → callee C.K p = true) ∧ match p with
  | .ref a => nsIn C.K mainGlobals x = some (some (.ref a))
  | .ty n => C.mg x = none ∧ bootBuiltins x = some (.type n)
  | .bi n => C.mg x = none ∧ bootBuiltins x = some (.builtin n)
  | _ => False
noncomputable def GOk (C : Cx) (G : GT) : Prop := ∀ e ∈ G, GOk1 C e.1 e.2.1 e.2.2
noncomputable def gEq : PV → PV → Bool
  | .ref a, .ref b => Nat.beq a b
  | .ty a, .ty b => a == b
  | .bi a, .bi b => a == b
  | _, _ => false
theorem gEq_eq {p q : PV} (h : gEq p q = true) : p = q := by
  cases p with
  | ref a => cases q with
    | ref b => exact congrArg PV.ref (Nat.eq_of_beq_eq_true h)
    | _ => cases h
  | ty a => cases q with
    | ty b => exact congrArg PV.ty (eq_of_beq (α := String) h)
    | _ => cases h
  | bi a => cases q with
    | bi b => exact congrArg PV.bi (eq_of_beq (α := String) h)
    | _ => cases h
  | _ => cases h
noncomputable def gHas (G : GT) (s : Str) (p : PV) (call : Bool) : Bool := G.any fun e => e.1 == s && gEq e.2.1 p && (!call || e.2.2)
noncomputable def gName (nm : List (Str × NameKind)) (s : Str) : Bool := nm.lookup s == some .globalImplicit && s != "__name__" && s != "__debug__"
noncomputable def vName (names : List Str) (nm : List (Str × NameKind)) (x : Nat) (s : Str) : Bool := names[x]? == some s && isVar (nm.lookup s) && s != "__debug__" && s != "__classdict__"
noncomputable def oName (names : List Str) (nm : List (Str × NameKind)) (x : Nat) (s : Str) : Bool := names[x]? == some s && isOwn (nm.lookup s)
noncomputable def lName (names : List Str) (nm : List (Str × NameKind)) (x : Nat) (s : Str) : Bool := names[x]? == some s && nm.lookup s == some .local
noncomputable def IE.isL : IE → Bool
  | .nil => true
  | .cons _ _ => true
  | _ => false
noncomputable def scOk (scope : Scope) (nm : List (Str × NameKind)) : Bool := scope.kind == .function && decide (scope.names.map (·.1)).Nodup && scope.names.all (fun x => x.2 != .cell) && scope.names.all (fun x => x.2 != .free || nm.lookup x.1 == some .cell || nm.lookup x.1 == some .free)
theorem sc_ok {scope : Scope} {nm : List (Str × NameKind)} (h : scOk scope nm = true) : ScopeOk scope nm := by
  simp only [scOk, Bool.and_eq_true, beq_iff_eq, decide_eq_true_eq, List.all_eq_true, bne_iff_ne, Bool.or_eq_true, ne_eq] at h
  obtain ⟨⟨⟨h1, h2⟩, h3⟩, h4⟩ := h
  exact ⟨h1, h2, h3, fun x hx e => by
    rcases h4 x hx with (h | h) | h
    · exact absurd e h
    · exact .inl h
    · exact .inr h⟩
noncomputable def ownOk (names : List Str) (vs : List Nat) (scope : Scope) : Bool := scope.names.all fun x => x.2 != .local || ((x.1 == ".0" && !names.any (· == ".0")) || vs.any fun v => names[v]? == some x.1)
noncomputable def one {α : Type} : List α → Option α
  | [e] => some e
  | _ => none
theorem one_ok {α : Type} {l : List α} {e : α} (h : one l = some e) : l = [e] := by
  cases l with
  | nil => cases h
  | cons x r => cases r with
    | nil => cases h; rfl
    | cons _ _ => cases h
noncomputable def two {α : Type} : List α → Option (α × α)
  | [e, e'] => some (e, e')
  | _ => none
theorem two_ok {α : Type} {l : List α} {e : α × α} (h : two l = some e) : l = [e.1, e.2] := by
  cases l with
  | nil => cases h
  | cons x r => cases r with
    | nil => cases h
    | cons y r => cases r with
      | nil => cases h; rfl
      | cons _ _ => cases h
structure Inf where
  tag : Nat
  k : List Expr := []
  s : Str := ⟨#[]⟩
  o : Operator := .Add
  u : UnaryOp := .Not
  cs : List CmpOp := []
  b : BoolOp := .And
  c : Const := .none
  sc : Scope := default
  g : List Comprehension := []
  kw : List Keyword := []
  p : Pos := ⟨0, 0, 0, 0⟩
  os : List (Option Expr) := []
noncomputable def inf : Expr → Inf
  | .Constant c _ _ => { tag := 0, c := c }
  | .Name s _ => { tag := 1, s := s }
  | .BinOp l o r _ => { tag := 2, k := [l, r], o := o }
  | .UnaryOp u r _ => { tag := 3, k := [r], u := u }
  | .Compare l cs r _ => { tag := 4, k := l :: r, cs := cs }
  | .BoolOp b r _ => { tag := 5, k := r, b := b }
  | .IfExp a b c _ => { tag := 6, k := [a, b, c] }
  | .Tuple vs _ _ => { tag := 7, k := vs }
  | .List vs _ => { tag := 8, k := vs }
  | .Dict os v _ => { tag := 9, k := v, os := os }
  | .Attribute o s p => { tag := 10, k := [o], s := s, p := p }
  | .Subscript o s _ => { tag := 11, k := [o, s] }
  | .Slice a b c _ => { tag := 12, os := [a, b, c] }
  | .Call f a kw p => { tag := 13, k := f :: a, kw := kw, p := p }
  | .ListComp e g sc _ => { tag := 14, k := [e], g := g, sc := sc }
  | .Lambda .. => { tag := 15 }
  | .NamedExpr .. => { tag := 15 }
  | .Set .. => { tag := 16 }
  | .SetComp .. => { tag := 15 }
  | .DictComp .. => { tag := 15 }
  | .GeneratorExp .. => { tag := 15 }
  | .Await .. => { tag := 15 }
  | .Yield .. => { tag := 15 }
  | .YieldFrom .. => { tag := 15 }
  | .FormattedValue .. => { tag := 15 }
  | .JoinedStr .. => { tag := 15 }
  | .Starred .. => { tag := 15 }
noncomputable def InfOk (e : Expr) (i : Inf) : Prop := match i.tag with
  | 0 => ∃ k p, e = .Constant i.c k p
  | 1 => ∃ p, e = .Name i.s p
  | 2 => ∃ l r p, i.k = [l, r] ∧ e = .BinOp l i.o r p
  | 3 => ∃ r p, i.k = [r] ∧ e = .UnaryOp i.u r p
  | 4 => ∃ l r p, i.k = l :: r ∧ e = .Compare l i.cs r p
  | 5 => ∃ p, e = .BoolOp i.b i.k p
  | 6 => ∃ a b c p, i.k = [a, b, c] ∧ e = .IfExp a b c p
  | 7 => ∃ k p, e = .Tuple i.k k p
  | 8 => ∃ p, e = .List i.k p
  | 9 => ∃ p, e = .Dict i.os i.k p
  | 10 => ∃ o, i.k = [o] ∧ e = .Attribute o i.s i.p
  | 11 => ∃ o s p, i.k = [o, s] ∧ e = .Subscript o s p
  | 12 => ∃ a b c p, i.os = [a, b, c] ∧ e = .Slice a b c p
  | 13 => ∃ f a, i.k = f :: a ∧ e = .Call f a i.kw i.p
  | 14 => ∃ x p, i.k = [x] ∧ e = .ListComp x i.g i.sc p
  | _ => True
theorem inf_ok (e : Expr) : InfOk e (inf e) := by
  cases e with
  | Constant => exact ⟨_, _, rfl⟩
  | Name => exact ⟨_, rfl⟩
  | BinOp => exact ⟨_, _, _, rfl, rfl⟩
  | UnaryOp => exact ⟨_, _, rfl, rfl⟩
  | Compare => exact ⟨_, _, _, rfl, rfl⟩
  | BoolOp => exact ⟨_, rfl⟩
  | IfExp => exact ⟨_, _, _, _, rfl, rfl⟩
  | Tuple => exact ⟨_, _, rfl⟩
  | List => exact ⟨_, rfl⟩
  | Dict => exact ⟨_, rfl⟩
  | Attribute => exact ⟨_, rfl, rfl⟩
  | Subscript => exact ⟨_, _, _, rfl, rfl⟩
  | Slice => exact ⟨_, _, _, _, rfl, rfl⟩
  | Call => exact ⟨_, _, rfl, rfl⟩
  | ListComp => exact ⟨_, _, rfl, rfl⟩
  | _ => exact trivial
theorem tag_eq {α : Type} {n m : Nat} {o : Option α} {x : α} (h : cond (Nat.beq n m) o none = some x) : n = m ∧ o = some x := by
  cases e : Nat.beq n m with
  | true => rw [e] at h; exact ⟨Nat.eq_of_beq_eq_true e, h⟩
  | false => rw [e] at h; cases h
theorem inf_at {e : Expr} {n : Nat} {i : Inf} (hi : inf e = i) (h : i.tag = n) : InfOk e { i with tag := n } := by
  subst h; subst hi; exact inf_ok e
noncomputable def ucons {α : Type} : List α → Option (α × List α)
  | [] => none
  | a :: l => some (a, l)
noncomputable def three {α : Type} : List α → Option (α × α × α)
  | [a, b, c] => some (a, b, c)
  | _ => none
noncomputable def asConst (e : Expr) : Option (Const) := cond (Nat.beq (inf e).tag 0) (some (inf e).c) none
noncomputable def asName (e : Expr) : Option (Str) := cond (Nat.beq (inf e).tag 1) (some (inf e).s) none
noncomputable def asBin (e : Expr) : Option (Expr × Operator × Expr) := cond (Nat.beq (inf e).tag 2) ((two (inf e).k).map fun k => (k.1, (inf e).o, k.2)) none
noncomputable def asUn (e : Expr) : Option (UnaryOp × Expr) := cond (Nat.beq (inf e).tag 3) ((one (inf e).k).map fun k => ((inf e).u, k)) none
noncomputable def asCmp (e : Expr) : Option (Expr × List CmpOp × List Expr) := cond (Nat.beq (inf e).tag 4) ((ucons (inf e).k).map fun k => (k.1, (inf e).cs, k.2)) none
noncomputable def asBool (e : Expr) : Option (BoolOp × List Expr) := cond (Nat.beq (inf e).tag 5) (some ((inf e).b, (inf e).k)) none
noncomputable def asIf (e : Expr) : Option (Expr × Expr × Expr) := cond (Nat.beq (inf e).tag 6) (three (inf e).k) none
noncomputable def asTup (e : Expr) : Option (List Expr) := cond (Nat.beq (inf e).tag 7) (some (inf e).k) none
noncomputable def asList (e : Expr) : Option (List Expr) := cond (Nat.beq (inf e).tag 8) (some (inf e).k) none
noncomputable def asDict (e : Expr) : Option (List (Option Expr) × List Expr) := cond (Nat.beq (inf e).tag 9) (some ((inf e).os, (inf e).k)) none
noncomputable def asAttr (e : Expr) : Option (Expr × Str × Pos) := cond (Nat.beq (inf e).tag 10) ((one (inf e).k).map fun k => (k, (inf e).s, (inf e).p)) none
noncomputable def asSub (e : Expr) : Option (Expr × Expr) := cond (Nat.beq (inf e).tag 11) (two (inf e).k) none
noncomputable def asSlice (e : Expr) : Option (Option Expr × Option Expr × Option Expr) := cond (Nat.beq (inf e).tag 12) (three (inf e).os) none
noncomputable def asCall (e : Expr) : Option (Expr × List Expr × List Keyword × Pos) := cond (Nat.beq (inf e).tag 13) ((ucons (inf e).k).map fun k => (k.1, k.2, (inf e).kw, (inf e).p)) none
noncomputable def asComp (e : Expr) : Option (Expr × List Comprehension × Scope) := cond (Nat.beq (inf e).tag 14) ((one (inf e).k).map fun k => (k, (inf e).g, (inf e).sc)) none
theorem asConst_ok {e : Expr} {x} (h : asConst e = some x) : ∃ k p, e = .Constant x k p := by
  obtain ⟨ht, h⟩ := tag_eq h
  obtain ⟨k, p, he⟩ := inf_at rfl ht
  cases h
  exact ⟨k, p, he⟩
theorem asName_ok {e : Expr} {x} (h : asName e = some x) : ∃ p, e = .Name x p := by
  obtain ⟨ht, h⟩ := tag_eq h
  obtain ⟨p, he⟩ := inf_at rfl ht
  cases h
  exact ⟨p, he⟩
theorem asBin_ok {e : Expr} {x} (h : asBin e = some x) : ∃ p, e = .BinOp x.1 x.2.1 x.2.2 p := by
  obtain ⟨ht, h⟩ := tag_eq h
  obtain ⟨l, r, p, hk, he⟩ := inf_at rfl ht
  rw [show (inf e).k = _ from hk] at h; cases h
  exact ⟨p, he⟩
theorem asUn_ok {e : Expr} {x} (h : asUn e = some x) : ∃ p, e = .UnaryOp x.1 x.2 p := by
  obtain ⟨ht, h⟩ := tag_eq h
  obtain ⟨l, p, hk, he⟩ := inf_at rfl ht
  rw [show (inf e).k = _ from hk] at h; cases h
  exact ⟨p, he⟩
theorem asCmp_ok {e : Expr} {x} (h : asCmp e = some x) : ∃ p, e = .Compare x.1 x.2.1 x.2.2 p := by
  obtain ⟨ht, h⟩ := tag_eq h
  obtain ⟨l, r, p, hk, he⟩ := inf_at rfl ht
  rw [show (inf e).k = _ from hk] at h; cases h
  exact ⟨p, he⟩
theorem asBool_ok {e : Expr} {x} (h : asBool e = some x) : ∃ p, e = .BoolOp x.1 x.2 p := by
  obtain ⟨ht, h⟩ := tag_eq h
  obtain ⟨p, he⟩ := inf_at rfl ht
  cases h
  exact ⟨p, he⟩
theorem asIf_ok {e : Expr} {x} (h : asIf e = some x) : ∃ p, e = .IfExp x.1 x.2.1 x.2.2 p := by
  obtain ⟨ht, h⟩ := tag_eq h
  obtain ⟨a, b, c, p, hk, he⟩ := inf_at rfl ht
  rw [show (inf e).k = _ from hk] at h; cases h
  exact ⟨p, he⟩
theorem asTup_ok {e : Expr} {x} (h : asTup e = some x) : ∃ k p, e = .Tuple x k p := by
  obtain ⟨ht, h⟩ := tag_eq h
  obtain ⟨k, p, he⟩ := inf_at rfl ht
  cases h
  exact ⟨k, p, he⟩
theorem asList_ok {e : Expr} {x} (h : asList e = some x) : ∃ p, e = .List x p := by
  obtain ⟨ht, h⟩ := tag_eq h
  obtain ⟨p, he⟩ := inf_at rfl ht
  cases h
  exact ⟨p, he⟩
theorem asDict_ok {e : Expr} {x} (h : asDict e = some x) : ∃ p, e = .Dict x.1 x.2 p := by
  obtain ⟨ht, h⟩ := tag_eq h
  obtain ⟨p, he⟩ := inf_at rfl ht
  cases h
  exact ⟨p, he⟩
theorem asAttr_ok {e : Expr} {x} (h : asAttr e = some x) : e = .Attribute x.1 x.2.1 x.2.2 := by
  obtain ⟨ht, h⟩ := tag_eq h
  obtain ⟨o, hk, he⟩ := inf_at rfl ht
  rw [show (inf e).k = _ from hk] at h; cases h
  exact he
theorem asSub_ok {e : Expr} {x} (h : asSub e = some x) : ∃ p, e = .Subscript x.1 x.2 p := by
  obtain ⟨ht, h⟩ := tag_eq h
  obtain ⟨o, s, p, hk, he⟩ := inf_at rfl ht
  rw [show (inf e).k = _ from hk] at h; cases h
  exact ⟨p, he⟩
theorem asSlice_ok {e : Expr} {x} (h : asSlice e = some x) : ∃ p, e = .Slice x.1 x.2.1 x.2.2 p := by
  obtain ⟨ht, h⟩ := tag_eq h
  obtain ⟨a, b, c, p, hk, he⟩ := inf_at rfl ht
  rw [show (inf e).os = _ from hk] at h; cases h
  exact ⟨p, he⟩
theorem asCall_ok {e : Expr} {x} (h : asCall e = some x) : e = .Call x.1 x.2.1 x.2.2.1 x.2.2.2 := by
  obtain ⟨ht, h⟩ := tag_eq h
  obtain ⟨f, a, hk, he⟩ := inf_at rfl ht
  rw [show (inf e).k = _ from hk] at h; cases h
  exact he
theorem asComp_ok {e : Expr} {x} (h : asComp e = some x) : ∃ p, e = .ListComp x.1 x.2.1 x.2.2 p := by
  obtain ⟨ht, h⟩ := tag_eq h
  obtain ⟨x, p, hk, he⟩ := inf_at rfl ht
  rw [show (inf e).k = _ from hk] at h; cases h
  exact ⟨p, he⟩
noncomputable def baseOk (e : Expr) : Bool := !(Nat.beq (inf e).tag 13)
theorem base_ok {o : Expr} {x : Str} {env : Env} {wh : Sem Value} (h : baseOk o = true) : attributeBase o x env wh = wh := by
  cases o <;> first | rfl | cases h
noncomputable def idxOk (e : Expr) : Bool := !(Nat.beq (inf e).tag 12)
theorem idx_ok {s : Expr} (h : idxOk s = true) (o i : Value) : subscripted s false o i = operate [o, i] (getItem o i) := by
  cases s <;> first | rfl | cases h
noncomputable def plainTest (e : Expr) : Bool := !(Nat.beq (inf e).tag 3 || (Nat.beq (inf e).tag 4 || (Nat.beq (inf e).tag 5 || Nat.beq (inf e).tag 6)))
theorem plain_test {e : Expr} (h : plainTest e = true) (env : Env) (t : Sem Value) : isTrue e env t = (do let v ← t; standAt e.pos; holding [v] (truthy v)) := by
  cases e <;> first | rfl | cases h
noncomputable def foldOk (e : Expr) : Bool := !(Nat.beq (inf e).tag 16)
theorem fold_ok {e : Expr} (h : foldOk e = true) (env : Env) (x : Value) : foldedSetIterable e env x = pure x := by
  cases e <;> first | rfl | cases h
theorem marks_ok {op : CmpOp} {e : Expr} (h : foldOk e = true) : behindInMarks op e = false := by
  cases e <;> first | rfl | cases h
noncomputable def cInt (i : Int) : Const → Bool
  | .int j => i == j
  | _ => false
noncomputable def cStr (i : Str) : Const → Bool
  | .str j => i == j
  | _ => false
noncomputable def cBool (i : Bool) : Const → Bool
  | .bool j => i == j
  | _ => false
noncomputable def cNone : Const → Bool
  | .none => true
  | _ => false
theorem cInt_ok {i : Int} {c : Const} (h : cInt i c = true) : c = .int i := by cases c <;> first | cases h | (rw [eq_of_beq h])
theorem cStr_ok {i : Str} {c : Const} (h : cStr i c = true) : c = .str i := by cases c <;> first | cases h | (rw [eq_of_beq h])
theorem cBool_ok {i : Bool} {c : Const} (h : cBool i c = true) : c = .bool i := by cases c <;> first | (rw [eq_of_beq h]) | cases h
theorem cNone_ok {c : Const} (h : cNone c = true) : c = .none := by cases c <;> first | rfl | cases h
noncomputable def emp {α : Type} : List α → Bool
  | [] => true
  | _ => false
theorem emp_ok {α : Type} {l : List α} (h : emp l = true) : l = [] := by cases l <;> first | rfl | cases h
theorem any_some {α : Type} {o : Option α} {f : α → Bool} (h : o.any f = true) : ∃ x, o = some x ∧ f x = true := by
  cases o with
  | none => cases h
  | some x => exact ⟨x, rfl, h⟩
noncomputable def oN {α : Type} : Option α → Bool
  | none => true
  | _ => false
theorem oN_ok {α : Type} {o : Option α} (h : oN o = true) : o = none := by cases o <;> first | rfl | cases h

noncomputable def mCT (names : List Str) (nm : List (Str × NameKind)) (t : CT) (e : Expr) : Bool := match t with
  | .one x => (asName e).any (lName names nm x)
  | .many vs => (two vs).any fun v => (asTup e).any fun es => (two es).any fun x => (asName x.1).any (lName names nm v.1) && (asName x.2).any (lName names nm v.2)

noncomputable def mE (G : GT) (names : List Str) (hd : Bool) : IE → List (Str × NameKind) → List Expr → Bool
  | .int i, nm, es => (one es).any fun e => (asConst e).any (cInt i)
  | .str i, nm, es => (one es).any fun e => (asConst e).any (cStr i)
  | .none, nm, es => (one es).any fun e => (asConst e).any cNone
  | .bool b, nm, es => (one es).any fun e => (asConst e).any (cBool b)
  | .var x, nm, es => (one es).any fun e => (asName e).any (vName names nm x)
  | .glob p, nm, es => (one es).any fun e => (asName e).any fun s => gName nm s && gHas G s p false
  | .bin o a b, nm, es => (one es).any fun e => (asBin e).any fun x => (o == x.2.1 && (!a.isL && !b.isL)) && (mE G names hd a nm [x.1] && mE G names hd b nm [x.2.2])
  | .un o a, nm, es => (one es).any fun e => (asUn e).any fun x => (o == x.1 && !a.isL) && mE G names hd a nm [x.2]
  | .cmp o a b, nm, es => (one es).any fun e => (asCmp e).any fun x => (one x.2.1).any fun op => (one x.2.2).any fun r => (o == op && (foldOk r && (!a.isL && !b.isL))) && (mE G names hd a nm [x.1] && mE G names hd b nm [r])
  | .cmp2 o o' a b c, nm, es => (one es).any fun e => (asCmp e).any fun x => (two x.2.1).any fun op => (two x.2.2).any fun r => (o == op.1 && (o' == op.2 && (foldOk r.2 && (!a.isL && (!b.isL && !c.isL))))) && (mE G names hd a nm [x.1] && (mE G names hd b nm [r.1] && mE G names hd c nm [r.2]))
  | .boolop o l, nm, es => (one es).any fun e => (asBool e).any fun x => (o == x.1 && l.isL) && mE G names hd l nm x.2
  | .ife t a b, nm, es => (one es).any fun e => (asIf e).any fun x => (!t.isL && (!a.isL && !b.isL)) && (mE G names hd t nm [x.1] && (mE G names hd a nm [x.2.1] && mE G names hd b nm [x.2.2]))
  | .nil, nm, es => emp es
  | .cons a b, nm, es => match es with
    | e :: r => (noStar (e :: r) && (!a.isL && b.isL)) && (mE G names hd a nm [e] && mE G names hd b nm r)
    | [] => false
  | .tup l, nm, es => (one es).any fun e => (asTup e).any fun x => l.isL && mE G names hd l nm x
  | .list l, nm, es => (one es).any fun e => (asList e).any fun x => l.isL && mE G names hd l nm x
  | .dict, nm, es => (one es).any fun e => (asDict e).any fun x => emp x.1 && emp x.2
  | .attr a y, nm, es => (one es).any fun e => (asAttr e).any fun x => (y == x.2.1 && (baseOk x.1 && !a.isL)) && mE G names hd a nm [x.1]
  | .sub a i, nm, es => (one es).any fun e => (asSub e).any fun x => (idxOk x.2 && (!a.isL && !i.isL)) && (mE G names hd a nm [x.1] && mE G names hd i nm [x.2])
  | .slice a lo hi, nm, es => (one es).any fun e => (asSub e).any fun x => (asSlice x.2).any fun z => (oN z.2.2 && (!a.isL && (!lo.isL && !hi.isL))) && (mE G names hd a nm [x.1] && ((match z.1 with
        | some e => !lo.isNo && mE G names hd lo nm [e]
        | none => lo.isNo) && (match z.2.1 with
        | some e => !hi.isNo && mE G names hd hi nm [e]
        | none => hi.isNo)))
  | .call g l, nm, es => (one es).any fun e => (asCall e).any fun x => (asName x.1).any fun s => (emp x.2.2.1 && (gName nm s && (gHas G s g true && (noStar x.2.1 && l.isL)))) && mE G names hd l nm x.2.1
  | .meth o y l, nm, es => (one es).any fun e => (asCall e).any fun x => (asAttr x.1).any fun z => (emp x.2.2.1 && (y == z.2.1 && (baseOk z.1 && (noStar x.2.1 && (Nat.blt x.2.1.length 30 && (z.2.2.endLine == x.2.2.2.line && (l.isL && !o.isL))))))) && (mE G names hd o nm [z.1] && mE G names hd l nm x.2.1)
  | .comp t it fs e, nm, es => (one es).any fun x => (asComp x).any fun x => (one x.2.1).any fun g => (!hd && (scOk x.2.2 nm && (ownOk names t.vars x.2.2 && (foldOk g.iter && (mCT names (relN x.2.2.names nm) t g.target && (g.is_async == 0 && (!it.isL && (fs.isL && !e.isL)))))))) &&
        (mE G names hd it nm [g.iter] && (mE G names hd fs (relN x.2.2.names nm) g.ifs && mE G names hd e (relN x.2.2.names nm) [x.1]))
  | .compRR x y i1 i2 fs e, nm, es => (one es).any fun z => (asComp z).any fun z => (two z.2.1).any fun g => (asName g.1.target).any fun s => (asName g.2.target).any fun t =>
        (!hd && (scOk z.2.2 nm && (ownOk names [x, y] z.2.2 && (foldOk g.1.iter && (foldOk g.2.iter && (lName names z.2.2.names x s && (lName names z.2.2.names y t && (s != t && (g.1.is_async == 0 && (g.2.is_async == 0 && (emp g.1.ifs && (!i1.isL && (!i2.isL && (fs.isL && !e.isL)))))))))))))) &&
        (mE G names hd i1 nm [g.1.iter] && (mE G names hd i2 (relN z.2.2.names nm) [g.2.iter] && (mE G names hd fs (relN z.2.2.names nm) g.2.ifs && mE G names hd e (relN z.2.2.names nm) [z.1])))

noncomputable def Cov (names : List Str) (l : LN) (ls : Ls) : Prop := ∀ x p, lkN x l = some p → ∃ s, names[x]? = some s ∧ ls.lookup s = some p
noncomputable def WGoal (T : Tr) (f : FR) (Fs : List AF) (H : AHeap) (m : Md) (L : Bool) (es : List Expr) (Q : PV → AHeap → Prop) (E : Value → Shared → Prop) : Prop := match m, L, es with
  | .v, true, es => AL T f Fs H es (fun ps H => Q (.tup ps) H) E
  | .v, false, [e] => AE T f Fs H e Q E
  | .t, false, [e] => AT T f Fs H e (fun b H => Q (.bool b) H) E
  | .a, true, es => AAll T f Fs H .And es (fun b H => Q (.bool b) H) E ∧ (E = NoE → AIfs T f Fs H es (fun b H => Q (.bool b) H))
  | .o, true, es => AAll T f Fs H .Or es (fun b H => Q (.bool b) H) E
  | _, _, _ => True
end
section
open PySem PySem.W PyProof.Rows PySem.Calls
section
variable {T : Tr} {f : FR} {env : Env} {ls : Ls} {Fs : List AF} {H : AHeap} {E : Value → Shared → Prop} {names : List Str} {lsN : LN}
theorem gHas_ok {C : Cx} {G : GT} (GO : GOk C G) {s : Str} {p : PV} {c : Bool} (h : gHas G s p c = true) : GOk1 C s p c := by
  obtain ⟨e, he, h⟩ := List.any_eq_true.mp h
  simp only [Bool.and_eq_true, beq_iff_eq, Bool.or_eq_true, Bool.not_eq_true'] at h
  obtain ⟨⟨h1, h2⟩, h3⟩ := h
  have := GO e he
  rw [h1, gEq_eq h2] at this
  refine ⟨fun q => this.1 ?_, this.2⟩
  rcases h3 with h3 | h3
  · rw [q] at h3; cases h3
  · exact h3
theorem gName_ok {nm : List (Str × NameKind)} {s : Str} (h : gName nm s = true) : nm.lookup s = some .globalImplicit ∧ s ≠ "__name__" ∧ (s == ("__debug__" : Str)) = false := by
  simp only [gName, Bool.and_eq_true, beq_iff_eq, bne_iff_ne, ne_eq] at h
  exact ⟨h.1.1, h.1.2, beq_eq_false_iff_ne.mpr h.2⟩
theorem AE.gl {C : Cx} {G : GT} {nm : List (Str × NameKind)} {s : Str} {pos : Pos} {p : PV} {Q : PV → AHeap → Prop} {c : Bool} (hn : f.env.scope.names = nm) (h : gName nm s = true) (g : GOk1 T.C s p c) (hq : Q p H) : AE T f Fs H (.Name s pos) Q E := by
  obtain ⟨h1, h2, h3⟩ := gName_ok h
  obtain ⟨-, g⟩ := g
  cases p with
  | ref a => exact AE.glob hn h1 g hq h3
  | ty n => exact AE.ty g.1 hn h1 g.2 hq h2 h3
  | bi n => exact AE.bi g.1 hn h1 g.2 hq h2 h3
  | _ => exact g.elim
theorem vName_ok {nm : List (Str × NameKind)} {x : Nat} {s : Str} (h : vName names nm x s = true) : names[x]? = some s ∧ isVar (nm.lookup s) = true ∧ (s == ("__debug__" : Str)) = false ∧ (s == ("__classdict__" : Str)) = false := by
  simp only [vName, Bool.and_eq_true, beq_iff_eq, bne_iff_ne, ne_eq] at h
  exact ⟨h.1.1.1, h.1.1.2, beq_eq_false_iff_ne.mpr h.1.2, beq_eq_false_iff_ne.mpr h.2⟩
theorem Cov.get (cv : Cov names lsN ls) {x : Nat} {p : PV} {s : Str} (h : lkN x lsN = some p) (hs : names[x]? = some s) : ls.lookup s = some p := by
  obtain ⟨s', h1, h2⟩ := cv x p h
  rw [hs] at h1; cases h1; exact h2
theorem lkN_cons {x y : Nat} {p : PV} {l : LN} : lkN x ((y, p) :: l) = if x = y then some p else lkN x l := by
  show cond (Nat.beq x y) _ _ = _
  by_cases h : x = y
  · subst h; rw [Nat.beq_refl, if_pos rfl]; rfl
  · rw [if_neg h]
    cases e : Nat.beq x y with
    | true => exact absurd (Nat.eq_of_beq_eq_true e) h
    | false => rfl
theorem names_inj (nd : names.Nodup) {x y : Nat} {s : Str} (hx : names[x]? = some s) (hy : names[y]? = some s) : x = y := by
  obtain ⟨h1, e1⟩ := List.getElem?_eq_some_iff.mp hx
  obtain ⟨h2, e2⟩ := List.getElem?_eq_some_iff.mp hy
  exact (List.getElem_inj nd).mp (e1.trans e2.symm)
theorem Cov.put (nd : names.Nodup) (cv : Cov names lsN ls) {x : Nat} {p : PV} {s : Str} (hs : names[x]? = some s) : Cov names ((x, p) :: lsN) ((s, p) :: ls) := fun y q h => by
  rw [lkN_cons] at h
  split at h
  · cases h; rename_i e; subst e; exact ⟨s, hs, lk_here⟩
  · rename_i e
    obtain ⟨s', h1, h2⟩ := cv y q h
    exact ⟨s', h1, lk_next (beq_eq_false_iff_ne.mpr fun e' => e (names_inj nd h1 (e' ▸ hs))) h2⟩
theorem lkN_drop {vs : List Nat} {x : Nat} {p : PV} : ∀ {l : LN}, lkN x (dropN vs l) = some p → lkN x l = some p ∧ x ∉ vs
  | [], h => by cases h
  | (y, q) :: l, h => by
    unfold dropN at h
    cases e : vs.any (Nat.beq y) with
    | true =>
      rw [e] at h
      obtain ⟨h1, h2⟩ := lkN_drop (l := l) h
      refine ⟨?_, h2⟩
      rw [lkN_cons]
      split
      · rename_i exy; subst exy
        obtain ⟨z, hz, ez⟩ := List.any_eq_true.mp e
        rw [Nat.eq_of_beq_eq_true ez] at h2
        exact absurd hz h2
      · exact h1
    | false =>
      rw [e] at h
      have h5 : lkN x ((y, q) :: dropN vs l) = some p := h
      clear h
      rw [lkN_cons] at h5 ⊢
      split at h5
      · rename_i exy; subst exy
        rw [if_pos rfl]
        refine ⟨h5, fun hm => ?_⟩
        have : vs.any (Nat.beq x) = true := List.any_eq_true.mpr ⟨x, hm, Nat.beq_refl x⟩
        rw [this] at e; cases e
      · rename_i exy
        rw [if_neg exy]
        exact lkN_drop (l := l) h5
theorem Cov.drop (nd : names.Nodup) (cv : Cov names lsN ls) {vs : List Nat} {scope : Scope} (ho : ownOk names vs scope = true) : Cov names (dropN vs lsN) (compLs scope.names ls) := fun x p h => by
  obtain ⟨h1, h2⟩ := lkN_drop h
  obtain ⟨s, h3, h4⟩ := cv x p h1
  refine ⟨s, h3, compLs_get ?_ h4⟩
  rw [bne_iff_ne]
  intro hl
  obtain ⟨k, hk⟩ : (s, NameKind.local) ∈ scope.names ∧ True := ⟨mem_of_lookup hl, trivial⟩
  have := List.all_eq_true.mp ho _ k
  simp only [bne_self_eq_false, Bool.false_or] at this
  rcases Bool.or_eq_true_iff.mp this with this | this
  · obtain ⟨e1, e2⟩ := Bool.and_eq_true_iff.mp this
    have hs : names.any (· == (".0" : Str)) = true := List.any_eq_true.mpr ⟨s, List.mem_of_getElem? h3, e1⟩
    rw [hs] at e2; cases e2
  obtain ⟨v, hv, ev⟩ := List.any_eq_true.mp this
  rw [beq_iff_eq] at ev
  exact h2 (names_inj nd h3 ev ▸ hv)

theorem STr.to {p : PV} {Q : Bool → AHeap → Prop} (h : STr T p H Q) : ATr T Fs H p Q NoE := by unfold STr at h; exact h Fs
theorem wTr_ok {p : PV} {Q : Bool → AHeap → Prop} (h : wTr T p H Q) : ATr T Fs H p Q NoE := by
  cases p with
  | bool b => exact ATr.bool h
  | int i => exact ATr.int h
  | none => exact STr.to h
  | str s => exact STr.to h
  | tup l => exact STr.to h
  | ref a => exact STr.to h
  | ty n => exact STr.to h
  | bi n => exact STr.to h
theorem ATr.noE {p : PV} {Q : Bool → AHeap → Prop} (h : ATr T Fs H p Q NoE) : ATr T Fs H p Q E := fun A s v ok R pv => wpAny_mono (h A s v ok R pv) (fun _ _ x => x) fun _ _ x => x.elim
theorem ACmp.noE {op : CmpOp} {p q : PV} {Q : Bool → AHeap → Prop} (h : ACmp T Fs H op p q Q NoE) : ACmp T Fs H op p q Q E := fun A s v w ok R pv pw => wpAny_mono (h A s v w ok R pv pw) (fun _ _ x => x) fun _ _ x => x.elim
theorem ABin.noE {op : Value → Value → Sem Value} {p q : PV} {Q : PV → AHeap → Prop} (h : ABin T Fs H op p q Q NoE) : ABin T Fs H op p q Q E := fun A s v w ok R pv pw => wpAny_mono (h A s v w ok R pv pw) (fun _ _ x => x) fun _ _ x => x.elim
theorem AUn.noE {op : Value → Sem Value} {p : PV} {Q : PV → AHeap → Prop} (h : AUn T Fs H op p Q NoE) : AUn T Fs H op p Q E := fun A s v ok R pv => wpAny_mono (h A s v ok R pv) (fun _ _ x => x) fun _ _ x => x.elim
theorem AGet.noE {x : Str} {p : PV} {Q : PV → AHeap → Prop} (h : AGet T Fs H x p Q NoE) : AGet T Fs H x p Q E := fun A s v ok R pv => wpAny_mono (h A s v ok R pv) (fun _ _ x => x) fun _ _ x => x.elim
theorem ASub.noE {value slice : Expr} {p q : PV} {Q : PV → AHeap → Prop} (h : ASub T Fs H value slice p q Q NoE) : ASub T Fs H value slice p q Q E := fun A s v w ok R pv pw => wpAny_mono (h A s v w ok R pv pw) (fun _ _ x => x) fun _ _ x => x.elim
theorem onInts_ok {p q : PV} {A : Int → Int → Prop} {B P : Prop} (h : onInts p q A B) (h1 : ∀ a b, p = .int a → q = .int b → A a b → P) (h2 : B → P) : P := by
  cases p with
  | int a => cases q with
    | int b => exact h1 a b rfl rfl h
    | _ => exact h2 h
  | _ => exact h2 h
theorem onStrs_ok {p q : PV} {A : Str → Str → Prop} {B P : Prop} (h : onStrs p q A B) (h1 : ∀ a b, p = .str a → q = .str b → A a b → P) (h2 : B → P) : P := by
  cases p with
  | str a => cases q with
    | str b => exact h1 a b rfl rfl h
    | _ => exact h2 h
  | _ => exact h2 h
theorem onNone_ok {q : PV} {A B P : Prop} (h : onNone q A B) (h1 : q = .none → A → P) (h2 : B → P) : P := by
  cases q with
  | none => exact h1 rfl h
  | _ => exact h2 h
theorem SBin.to {op : Value → Value → Sem Value} {p q : PV} {Q : PV → AHeap → Prop} (h : SBin T op p q H Q) : ABin T Fs H op p q Q NoE := by unfold SBin at h; exact h Fs
theorem SCmp.to {op : CmpOp} {p q : PV} {Q : Bool → AHeap → Prop} (h : SCmp T op p q H Q) : ACmp T Fs H op p q Q NoE := by unfold SCmp at h; exact h Fs
theorem wBin_ok {o : Operator} {p q : PV} {Q : PV → AHeap → Prop} (h : wBin T o p q H Q) : ABin T Fs H (binaryOp o) p q Q NoE := by
  cases o with
  | Add => exact onInts_ok h (fun a b e1 e2 h => by subst e1; subst e2; exact ABin.add h) SBin.to
  | Sub => exact onInts_ok h (fun a b e1 e2 h => by subst e1; subst e2; exact ABin.sub h) SBin.to
  | Mult => exact onInts_ok h (fun a b e1 e2 h => by subst e1; subst e2; exact ABin.mul h.1 h.2) SBin.to
  | Mod => exact onInts_ok h (fun a b e1 e2 h => by subst e1; subst e2; exact ABin.mod h.1 h.2) SBin.to
  | FloorDiv => exact onInts_ok h (fun a b e1 e2 h => by subst e1; subst e2; exact ABin.div h.1.1 h.1.2 h.2) SBin.to
  | Pow => exact onInts_ok h (fun a b e1 e2 h => by subst e1; subst e2; exact ABin.pow h.1.1 h.1.2 h.2) SBin.to
  | _ => exact h.elim
theorem wCmp_ok {o : CmpOp} {p q : PV} {Q : Bool → AHeap → Prop} (h : wCmp T o p q H Q) : ACmp T Fs H o p q Q NoE := by
  cases o with
  | Lt => exact onInts_ok h (fun a b e1 e2 h => by subst e1; subst e2; exact ACmp.lt h) SCmp.to
  | LtE => exact onInts_ok h (fun a b e1 e2 h => by subst e1; subst e2; exact ACmp.le h) SCmp.to
  | Gt => exact onInts_ok h (fun a b e1 e2 h => by subst e1; subst e2; exact ACmp.gt h) SCmp.to
  | GtE => exact onInts_ok h (fun a b e1 e2 h => by subst e1; subst e2; exact ACmp.ge h) SCmp.to
  | Eq => exact onInts_ok h (fun a b e1 e2 h => by subst e1; subst e2; exact ACmp.eqInt h) fun h => onStrs_ok h (fun a b e1 e2 h => by subst e1; subst e2; exact ACmp.eqStr h) SCmp.to
  | NotEq => exact onInts_ok h (fun a b e1 e2 h => by subst e1; subst e2; exact ACmp.neInt h) fun h => onStrs_ok h (fun a b e1 e2 h => by subst e1; subst e2; exact ACmp.neStr h) SCmp.to
  | Is => exact onNone_ok h (fun e h => by subst e; exact ACmp.isNone h) SCmp.to
  | IsNot => exact onNone_ok h (fun e h => by subst e; exact ACmp.isNotNone h) SCmp.to
  | NotIn => exact ACmp.notIn (SCmp.to h)
  | In => exact SCmp.to h
theorem wUn_ok {o : UnaryOp} {p : PV} {Q : PV → AHeap → Prop} (h : wUn T o p H Q) : AUn T Fs H (unaryOp o) p Q NoE := by
  cases o with
  | USub => cases p with
    | int a => exact AUn.neg h
    | _ => exact h.elim
  | Not => exact AUn.not (wTr_ok h)
  | _ => exact h.elim
theorem AT.mono {e : Expr} {Q Q' : Bool → AHeap → Prop} (h : AT T f Fs H e Q E) (hq : ∀ p H, Q p H → Q' p H) : AT T f Fs H e Q' E :=
  fun A s ok R => wpAny_mono (h A s ok R) (fun v s' ⟨H', b, c, d⟩ => ⟨H', b, c, hq _ _ d⟩) fun _ _ x => x
theorem ACmp.mono {op : CmpOp} {p q : PV} {Q Q' : Bool → AHeap → Prop} (h : ACmp T Fs H op p q Q E) (hq : ∀ b H, Q b H → Q' b H) : ACmp T Fs H op p q Q' E :=
  fun A s v w ok R pv pw => wpAny_mono (h A s v w ok R pv pw) (fun c s' ⟨b, e, ⟨H', R', k, q⟩⟩ => ⟨b, e, ⟨H', R', k, hq _ _ q⟩⟩) fun _ _ x => x
theorem AL.mono {es : List Expr} {Q Q' : List PV → AHeap → Prop} (h : AL T f Fs H es Q E) (hq : ∀ p H, Q p H → Q' p H) : AL T f Fs H es Q' E :=
  fun A s pos ok R => wpAny_mono (h A s pos ok R) (fun v s' ⟨p, H', a, b, c, d⟩ => ⟨p, H', a, b, c, hq _ _ d⟩) fun _ _ x => x
theorem WGoal.fin {e : Expr} {m : Md} {Q : PV → AHeap → Prop} (h : AE T f Fs H e (wFin T m Q) E) (hp : plainTest e = true) : WGoal T f Fs H m false [e] Q E := by
  cases m with
  | v => exact h
  | t => exact AT.value (AE.mono h fun p H' h => (wTr_ok h).noE) (plain_test hp _ _)
  | a => trivial
  | o => trivial
end
end
section
open PySem PySem.W PyProof.Rows PySem.Calls
noncomputable def Sound (T : Tr) (X : String) (G : GT) (names : List Str) (ie : IE) : Prop := ∀ (m : Md) {c : FK} {env : Env} {ls : Ls} {nm : List (Str × NameKind)} {Fs : List AF} {H : AHeap} {R : AHeap → Prop} {Q : PV → AHeap → Prop} {E : Value → Shared → Prop} {es : List Expr} {l : LN},
  env.scope.names = nm → mE G names T.hd ie nm es = true → Cov names l ls → (∀ e s, Fly T.C (.fr ⟨c, env, ls⟩ :: Fs) X R e s → E e s) → w T X ie m l H R Q → WGoal T ⟨c, env, ls⟩ Fs H m ie.isL es Q E

section
variable {T : Tr} {X : String} {G : GT} {names : List Str}

theorem Sound.ae {ie : IE} (S : Sound T X G names ie) {c : FK} {env : Env} {ls : Ls} {nm : List (Str × NameKind)} {Fs : List AF} {H : AHeap} {R : AHeap → Prop} {Q : PV → AHeap → Prop} {E : Value → Shared → Prop} {e : Expr} {l : LN}
    (hL : ie.isL = false) (hn : env.scope.names = nm) (hm : mE G names T.hd ie nm [e] = true) (cv : Cov names l ls) (hE : ∀ e s, Fly T.C (.fr ⟨c, env, ls⟩ :: Fs) X R e s → E e s) (h : w T X ie .v l H R Q) : AE T ⟨c, env, ls⟩ Fs H e Q E := by
  have := S .v hn hm cv hE h
  rw [hL] at this; exact this
theorem Sound.at_ {ie : IE} (S : Sound T X G names ie) {c : FK} {env : Env} {ls : Ls} {nm : List (Str × NameKind)} {Fs : List AF} {H : AHeap} {R : AHeap → Prop} {Q : PV → AHeap → Prop} {E : Value → Shared → Prop} {e : Expr} {l : LN}
    (hL : ie.isL = false) (hn : env.scope.names = nm) (hm : mE G names T.hd ie nm [e] = true) (cv : Cov names l ls) (hE : ∀ e s, Fly T.C (.fr ⟨c, env, ls⟩ :: Fs) X R e s → E e s) (h : w T X ie .t l H R Q) : AT T ⟨c, env, ls⟩ Fs H e (fun b H => Q (.bool b) H) E := by
  have := S .t hn hm cv hE h
  rw [hL] at this; exact this
theorem Sound.al {ie : IE} (S : Sound T X G names ie) {c : FK} {env : Env} {ls : Ls} {nm : List (Str × NameKind)} {Fs : List AF} {H : AHeap} {R : AHeap → Prop} {Q : PV → AHeap → Prop} {E : Value → Shared → Prop} {es : List Expr} {l : LN}
    (hL : ie.isL = true) (hn : env.scope.names = nm) (hm : mE G names T.hd ie nm es = true) (cv : Cov names l ls) (hE : ∀ e s, Fly T.C (.fr ⟨c, env, ls⟩ :: Fs) X R e s → E e s) (h : w T X ie .v l H R Q) : AL T ⟨c, env, ls⟩ Fs H es (fun ps H => Q (.tup ps) H) E := by
  have := S .v hn hm cv hE h
  rw [hL] at this; exact this
theorem noFly {C : Cx} {Fs : List AF} {e : Value} {s : Shared} {E : Value → Shared → Prop} (h : Fly C Fs X noR e s) : E e s := by
  obtain ⟨a, H, s₁, B, a0, x1, x2, x3, x4, x5, x6⟩ := h
  exact x5.elim
theorem nL {b : Bool} (h : (!b) = true) : b = false := by cases b <;> first | rfl | cases h

theorem and1 {a b : Bool} (h : (a && b) = true) : a = true ∧ b = true := Bool.and_eq_true_iff.mp h
theorem and3 {b0 b1 b2 : Bool} {P : Prop} (h : (b0 && (b1 && b2)) = true) (k : b0 = true → b1 = true → b2 = true → P) : P := k (and1 h).1 (and1 (and1 h).2).1 (and1 (and1 h).2).2
theorem and4 {b0 b1 b2 b3 : Bool} {P : Prop} (h : (b0 && (b1 && (b2 && b3))) = true) (k : b0 = true → b1 = true → b2 = true → b3 = true → P) : P := k (and1 h).1 (and1 (and1 h).2).1 (and1 (and1 (and1 h).2).2).1 (and1 (and1 (and1 h).2).2).2
theorem and5 {b0 b1 b2 b3 b4 : Bool} {P : Prop} (h : (b0 && (b1 && (b2 && (b3 && b4)))) = true) (k : b0 = true → b1 = true → b2 = true → b3 = true → b4 = true → P) : P := k (and1 h).1 (and1 (and1 h).2).1 (and1 (and1 (and1 h).2).2).1 (and1 (and1 (and1 (and1 h).2).2).2).1 (and1 (and1 (and1 (and1 h).2).2).2).2
theorem and6 {b0 b1 b2 b3 b4 b5 : Bool} {P : Prop} (h : (b0 && (b1 && (b2 && (b3 && (b4 && b5))))) = true) (k : b0 = true → b1 = true → b2 = true → b3 = true → b4 = true → b5 = true → P) : P := k (and1 h).1 (and1 (and1 h).2).1 (and1 (and1 (and1 h).2).2).1 (and1 (and1 (and1 (and1 h).2).2).2).1 (and1 (and1 (and1 (and1 (and1 h).2).2).2).2).1 (and1 (and1 (and1 (and1 (and1 h).2).2).2).2).2
theorem and8 {b0 b1 b2 b3 b4 b5 b6 b7 : Bool} {P : Prop} (h : (b0 && (b1 && (b2 && (b3 && (b4 && (b5 && (b6 && b7))))))) = true) (k : b0 = true → b1 = true → b2 = true → b3 = true → b4 = true → b5 = true → b6 = true → b7 = true → P) : P := k (and1 h).1 (and1 (and1 h).2).1 (and1 (and1 (and1 h).2).2).1 (and1 (and1 (and1 (and1 h).2).2).2).1 (and1 (and1 (and1 (and1 (and1 h).2).2).2).2).1 (and1 (and1 (and1 (and1 (and1 (and1 h).2).2).2).2).2).1 (and1 (and1 (and1 (and1 (and1 (and1 (and1 h).2).2).2).2).2).2).1 (and1 (and1 (and1 (and1 (and1 (and1 (and1 h).2).2).2).2).2).2).2
theorem and9 {b0 b1 b2 b3 b4 b5 b6 b7 b8 : Bool} {P : Prop} (h : (b0 && (b1 && (b2 && (b3 && (b4 && (b5 && (b6 && (b7 && b8)))))))) = true) (k : b0 = true → b1 = true → b2 = true → b3 = true → b4 = true → b5 = true → b6 = true → b7 = true → b8 = true → P) : P := k (and1 h).1 (and1 (and1 h).2).1 (and1 (and1 (and1 h).2).2).1 (and1 (and1 (and1 (and1 h).2).2).2).1 (and1 (and1 (and1 (and1 (and1 h).2).2).2).2).1 (and1 (and1 (and1 (and1 (and1 (and1 h).2).2).2).2).2).1 (and1 (and1 (and1 (and1 (and1 (and1 (and1 h).2).2).2).2).2).2).1 (and1 (and1 (and1 (and1 (and1 (and1 (and1 (and1 h).2).2).2).2).2).2).2).1 (and1 (and1 (and1 (and1 (and1 (and1 (and1 (and1 h).2).2).2).2).2).2).2).2
theorem and15 {b0 b1 b2 b3 b4 b5 b6 b7 b8 b9 b10 b11 b12 b13 b14 : Bool} {P : Prop} (h : (b0 && (b1 && (b2 && (b3 && (b4 && (b5 && (b6 && (b7 && (b8 && (b9 && (b10 && (b11 && (b12 && (b13 && b14)))))))))))))) = true) (k : b0 = true → b1 = true → b2 = true → b3 = true → b4 = true → b5 = true → b6 = true → b7 = true → b8 = true → b9 = true → b10 = true → b11 = true → b12 = true → b13 = true → b14 = true → P) : P := k (and1 h).1 (and1 (and1 h).2).1 (and1 (and1 (and1 h).2).2).1 (and1 (and1 (and1 (and1 h).2).2).2).1 (and1 (and1 (and1 (and1 (and1 h).2).2).2).2).1 (and1 (and1 (and1 (and1 (and1 (and1 h).2).2).2).2).2).1 (and1 (and1 (and1 (and1 (and1 (and1 (and1 h).2).2).2).2).2).2).1 (and1 (and1 (and1 (and1 (and1 (and1 (and1 (and1 h).2).2).2).2).2).2).2).1 (and1 (and1 (and1 (and1 (and1 (and1 (and1 (and1 (and1 h).2).2).2).2).2).2).2).2).1 (and1 (and1 (and1 (and1 (and1 (and1 (and1 (and1 (and1 (and1 h).2).2).2).2).2).2).2).2).2).1 (and1 (and1 (and1 (and1 (and1 (and1 (and1 (and1 (and1 (and1 (and1 h).2).2).2).2).2).2).2).2).2).2).1 (and1 (and1 (and1 (and1 (and1 (and1 (and1 (and1 (and1 (and1 (and1 (and1 h).2).2).2).2).2).2).2).2).2).2).2).1 (and1 (and1 (and1 (and1 (and1 (and1 (and1 (and1 (and1 (and1 (and1 (and1 (and1 h).2).2).2).2).2).2).2).2).2).2).2).2).1 (and1 (and1 (and1 (and1 (and1 (and1 (and1 (and1 (and1 (and1 (and1 (and1 (and1 (and1 h).2).2).2).2).2).2).2).2).2).2).2).2).2).1 (and1 (and1 (and1 (and1 (and1 (and1 (and1 (and1 (and1 (and1 (and1 (and1 (and1 (and1 h).2).2).2).2).2).2).2).2).2).2).2).2).2).2

theorem s_int (i : Int) : Sound T X G names (.int i) := fun m c env ls nm Fs H R Q E es l hn hm cv hE h => by
  replace hm := any_some hm
  obtain ⟨e, he, hm⟩ := hm
  cases one_ok he
  replace hm := any_some hm
  obtain ⟨k, hk, hm⟩ := hm
  obtain ⟨_, _, rfl⟩ := asConst_ok hk
  cases cInt_ok hm
  exact WGoal.fin (AE.int h) rfl
theorem s_str (i : Str) : Sound T X G names (.str i) := fun m c env ls nm Fs H R Q E es l hn hm cv hE h => by
  replace hm := any_some hm
  obtain ⟨e, he, hm⟩ := hm
  cases one_ok he
  replace hm := any_some hm
  obtain ⟨k, hk, hm⟩ := hm
  obtain ⟨_, _, rfl⟩ := asConst_ok hk
  cases cStr_ok hm
  exact WGoal.fin (AE.str h) rfl
theorem s_bool (i : Bool) : Sound T X G names (.bool i) := fun m c env ls nm Fs H R Q E es l hn hm cv hE h => by
  replace hm := any_some hm
  obtain ⟨e, he, hm⟩ := hm
  cases one_ok he
  replace hm := any_some hm
  obtain ⟨k, hk, hm⟩ := hm
  obtain ⟨_, _, rfl⟩ := asConst_ok hk
  cases cBool_ok hm
  exact WGoal.fin (AE.bool h) rfl
theorem s_none : Sound T X G names .none := fun m c env ls nm Fs H R Q E es l hn hm cv hE h => by
  replace hm := any_some hm
  obtain ⟨e, he, hm⟩ := hm
  cases one_ok he
  replace hm := any_some hm
  obtain ⟨k, hk, hm⟩ := hm
  obtain ⟨_, _, rfl⟩ := asConst_ok hk
  cases cNone_ok hm
  exact WGoal.fin (AE.none h) rfl
theorem s_var (x : Nat) : Sound T X G names (.var x) := fun m c env ls nm Fs H R Q E es l hn hm cv hE h => by
  replace hm := any_some hm
  obtain ⟨e, he, hm⟩ := hm
  cases one_ok he
  replace hm := any_some hm
  obtain ⟨s, hs, hm⟩ := hm
  obtain ⟨_, rfl⟩ := asName_ok hs
  obtain ⟨h1, h2, h3, h4⟩ := vName_ok hm
  have h : (match lkN x l with
    | some p => wFin T m Q p H
    | Option.none => False) := h
  cases e : lkN x l with
  | none => rw [e] at h; exact h.elim
  | some p =>
    rw [e] at h
    exact WGoal.fin (AE.name hn h2 (cv.get e h1) h h3 h4) rfl
theorem s_glob (GO : GOk T.C G) (p : PV) : Sound T X G names (.glob p) := fun m c env ls nm Fs H R Q E es l hn hm cv hE h => by
  replace hm := any_some hm
  obtain ⟨e, he, hm⟩ := hm
  cases one_ok he
  replace hm := any_some hm
  obtain ⟨s, hs, hm⟩ := hm
  obtain ⟨_, rfl⟩ := asName_ok hs
  obtain ⟨h1, h2⟩ := and1 hm
  exact WGoal.fin (AE.gl (C := T.C) (G := G) hn h1 (gHas_ok GO h2) h) rfl
theorem s_bin (o : Operator) {a b : IE} (Sa : Sound T X G names a) (Sb : Sound T X G names b) : Sound T X G names (.bin o a b) := fun m c env ls nm Fs H R Q E es l hn hm cv hE h => by
  replace hm := any_some hm
  obtain ⟨e, he, hm⟩ := hm
  cases one_ok he
  replace hm := any_some hm
  obtain ⟨x, hx, hm⟩ := hm
  obtain ⟨_, rfl⟩ := asBin_ok hx
  obtain ⟨h1, h2⟩ := and1 hm
  refine and3 h1 fun h1 h3 h4 => ?_
  obtain ⟨h2, h5⟩ := and1 h2
  rw [← eq_of_beq h1]
  exact WGoal.fin (AE.binop (AE.mono (Sa.ae (nL h3) hn h2 cv hE h) fun p H₁ h => AE.mono (Sb.ae (nL h4) hn h5 cv hE h) fun q H₂ h => (wBin_ok h).noE)) rfl
theorem s_un (o : UnaryOp) {a : IE} (Sa : Sound T X G names a) : Sound T X G names (.un o a) := fun m c env ls nm Fs H R Q E es l hn hm cv hE h => by
  replace hm := any_some hm
  obtain ⟨e, he, hm⟩ := hm
  cases one_ok he
  replace hm := any_some hm
  obtain ⟨x, hx, hm⟩ := hm
  obtain ⟨_, rfl⟩ := asUn_ok hx
  obtain ⟨h1, h2⟩ := and1 hm
  obtain ⟨h1, h4⟩ := and1 h1
  rw [← eq_of_beq h1]
  cases m with
  | v =>
    have h : w T X a .v l H R fun p H₁ => wUn T o p H₁ Q := by cases o <;> exact h
    exact AE.unop (AE.mono (Sa.ae (nL h4) hn h2 cv hE h) fun p H₁ h => (wUn_ok h).noE)
  | t =>
    cases o with
    | Not => exact AT.not (AT.mono (Sa.at_ (nL h4) hn h2 cv hE h) fun b H₁ h => h)
    | _ => exact h.elim
  | a => trivial
  | o => trivial
theorem s_cmp (o : CmpOp) {a b : IE} (Sa : Sound T X G names a) (Sb : Sound T X G names b) : Sound T X G names (.cmp o a b) := fun m c env ls nm Fs H R Q E es l hn hm cv hE h => by
  replace hm := any_some hm
  obtain ⟨e, he, hm⟩ := hm
  cases one_ok he
  replace hm := any_some hm
  obtain ⟨x, hx, hm⟩ := hm
  obtain ⟨_, rfl⟩ := asCmp_ok hx
  replace hm := any_some hm
  obtain ⟨op, ho, hm⟩ := hm
  replace hm := any_some hm
  obtain ⟨r, hr, hm⟩ := hm
  rw [one_ok ho, one_ok hr]
  obtain ⟨h1, h2⟩ := and1 hm
  refine and4 h1 fun h1 h3 h4 h5 => ?_
  obtain ⟨h2, h6⟩ := and1 h2
  rw [← eq_of_beq h1]
  cases m with
  | v => exact AE.cmp (AE.mono (Sa.ae (nL h4) hn h2 cv hE h) fun p H₁ h => AE.mono (Sb.ae (nL h5) hn h6 cv hE h) fun q H₂ h => (wCmp_ok h).noE) (marks_ok h3)
  | t => exact AT.cmp (AE.mono (Sa.ae (nL h4) hn h2 cv hE h) fun p H₁ h => AE.mono (Sb.ae (nL h5) hn h6 cv hE h) fun q H₂ h => (wCmp_ok h).noE) (marks_ok h3)
  | a => trivial
  | o => trivial
theorem s_cmp2 (o o' : CmpOp) {a b d : IE} (Sa : Sound T X G names a) (Sb : Sound T X G names b) (Sd : Sound T X G names d) : Sound T X G names (.cmp2 o o' a b d) := fun m c env ls nm Fs H R Q E es l hn hm cv hE h => by
  replace hm := any_some hm
  obtain ⟨e, he, hm⟩ := hm
  cases one_ok he
  replace hm := any_some hm
  obtain ⟨x, hx, hm⟩ := hm
  obtain ⟨_, rfl⟩ := asCmp_ok hx
  replace hm := any_some hm
  obtain ⟨op, ho, hm⟩ := hm
  replace hm := any_some hm
  obtain ⟨r, hr, hm⟩ := hm
  rw [two_ok ho, two_ok hr]
  obtain ⟨h1, h2⟩ := and1 hm
  refine and6 h1 fun h1 k1 k2 k3 k4 k5 => ?_
  refine and3 h2 fun h2 m1 m2 => ?_
  rw [← eq_of_beq h1, ← eq_of_beq k1]
  cases m with
  | t =>
    refine AT.cmp2 (AE.mono (Sa.ae (nL k3) hn h2 cv hE h) fun p H₁ h => AE.mono (Sb.ae (nL k4) hn m1 cv hE h) fun q H₂ h => (ACmp.mono (wCmp_ok h).noE fun b H₃ h => ?_)) (marks_ok k2)
    cases b with
    | true => exact AE.mono (Sd.ae (nL k5) hn m2 cv hE h) fun q' H₄ h => (wCmp_ok h).noE
    | false => exact h
  | v => exact h.elim
  | a => trivial
  | o => trivial
theorem s_boolop (o : BoolOp) {a : IE} (Sa : Sound T X G names a) : Sound T X G names (.boolop o a) := fun m c env ls nm Fs H R Q E es l hn hm cv hE h => by
  replace hm := any_some hm
  obtain ⟨e, he, hm⟩ := hm
  cases one_ok he
  replace hm := any_some hm
  obtain ⟨x, hx, hm⟩ := hm
  obtain ⟨_, rfl⟩ := asBool_ok hx
  obtain ⟨h1, h2⟩ := and1 hm
  obtain ⟨h1, h3⟩ := and1 h1
  rw [← eq_of_beq h1]
  cases m with
  | t =>
    cases o with
    | And =>
      have := Sa .a hn h2 cv hE h
      rw [h3] at this
      exact AT.boolop this.1
    | Or =>
      have := Sa .o hn h2 cv hE h
      rw [h3] at this
      exact AT.boolop this
  | v => cases o <;> exact h.elim
  | a => trivial
  | o => trivial
theorem s_ife {a b d : IE} (Sa : Sound T X G names a) (Sb : Sound T X G names b) (Sd : Sound T X G names d) : Sound T X G names (.ife a b d) := fun m c env ls nm Fs H R Q E es l hn hm cv hE h => by
  replace hm := any_some hm
  obtain ⟨e, he, hm⟩ := hm
  cases one_ok he
  replace hm := any_some hm
  obtain ⟨x, hx, hm⟩ := hm
  obtain ⟨_, rfl⟩ := asIf_ok hx
  obtain ⟨h1, h2⟩ := and1 hm
  refine and3 h1 fun h1 k1 k2 => ?_
  refine and3 h2 fun h2 m1 m2 => ?_
  cases m with
  | v =>
    refine AE.ifexp (AT.mono (Sa.at_ (nL h1) hn h2 cv hE h) fun b' H₁ h => ?_)
    cases b' with
    | true => exact Sb.ae (nL k1) hn m1 cv hE h
    | false => exact Sd.ae (nL k2) hn m2 cv hE h
  | t => exact h.elim
  | a => trivial
  | o => trivial
theorem s_nil : Sound T X G names .nil := fun m c env ls nm Fs H R Q E es l hn hm cv hE h => by
  cases emp_ok hm
  cases m with
  | v => exact AL.nil h
  | a => exact ⟨AAll.and_nil h, fun _ => h⟩
  | o => exact AAll.or_nil h
  | t => trivial
theorem s_cons {a b : IE} (Sa : Sound T X G names a) (Sb : Sound T X G names b) : Sound T X G names (.cons a b) := fun m c env ls nm Fs H R Q E es l hn hm cv hE h => by
  cases es with
  | nil => cases hm
  | cons e r =>
    obtain ⟨h1, h2⟩ := and1 hm
    refine and3 h1 fun h1 k2 k1 => ?_
    obtain ⟨h2, m1⟩ := and1 h2
    cases m with
    | v => exact AL.cons (AE.mono (Sa.ae (nL k2) hn h2 cv hE h) fun p H₁ h => AL.mono (Sb.al k1 hn m1 cv hE h) fun ps H₂ h => h) (starEach_cons_plain h1).1
    | a =>
      refine ⟨AAll.and (AT.mono (Sa.at_ (nL k2) hn h2 cv hE h) fun b' H₁ h => ?_), fun e => ?_⟩
      · cases b' with
        | true =>
          have := Sb .a hn m1 cv hE h
          rw [k1] at this; exact this.1
        | false => exact h
      · subst e
        refine AT.mono (Sa.at_ (nL k2) hn h2 cv hE h) fun b' H₁ h => ?_
        cases b' with
        | true =>
          have := Sb .a hn m1 cv hE h
          rw [k1] at this; exact this.2 rfl
        | false => exact h
    | o =>
      refine AAll.or (AT.mono (Sa.at_ (nL k2) hn h2 cv hE h) fun b' H₁ h => ?_)
      cases b' with
      | true => exact h
      | false =>
        have := Sb .o hn m1 cv hE h
        rw [k1] at this; exact this
    | t => trivial
theorem ble_ok {n : Nat} {A : Prop} (h : cond (Nat.ble n 1000) A False) : n ≤ 1000 ∧ A := by
  cases e : Nat.ble n 1000 with
  | true => rw [e] at h; exact ⟨Nat.le_of_ble_eq_true e, h⟩
  | false => rw [e] at h; exact h.elim
theorem s_tup {a : IE} (Sa : Sound T X G names a) : Sound T X G names (.tup a) := fun m c env ls nm Fs H R Q E es l hn hm cv hE h => by
  replace hm := any_some hm
  obtain ⟨e, he, hm⟩ := hm
  cases one_ok he
  replace hm := any_some hm
  obtain ⟨x, hx, hm⟩ := hm
  obtain ⟨_, _, rfl⟩ := asTup_ok hx
  obtain ⟨h1, h2⟩ := and1 hm
  exact WGoal.fin (AE.tuple (AL.mono (Sa.al h1 hn h2 cv hE h) fun ps H₁ h => ble_ok h)) rfl
theorem s_list {a : IE} (Sa : Sound T X G names a) : Sound T X G names (.list a) := fun m c env ls nm Fs H R Q E es l hn hm cv hE h => by
  replace hm := any_some hm
  obtain ⟨e, he, hm⟩ := hm
  cases one_ok he
  replace hm := any_some hm
  obtain ⟨x, hx, hm⟩ := hm
  obtain ⟨_, rfl⟩ := asList_ok hx
  obtain ⟨h1, h2⟩ := and1 hm
  exact WGoal.fin (AE.list (AL.mono (Sa.al h1 hn h2 cv hE h) fun ps H₁ h => ble_ok h)) rfl
theorem s_dict : Sound T X G names .dict := fun m c env ls nm Fs H R Q E es l hn hm cv hE h => by
  replace hm := any_some hm
  obtain ⟨e, he, hm⟩ := hm
  cases one_ok he
  replace hm := any_some hm
  obtain ⟨x, hx, hm⟩ := hm
  obtain ⟨_, rfl⟩ := asDict_ok hx
  obtain ⟨h1, h2⟩ := and1 hm
  rw [emp_ok h1, emp_ok h2]
  exact WGoal.fin (AE.dictEmpty h) rfl
theorem s_attr (y : Str) {a : IE} (Sa : Sound T X G names a) : Sound T X G names (.attr a y) := fun m c env ls nm Fs H R Q E es l hn hm cv hE h => by
  replace hm := any_some hm
  obtain ⟨e, he, hm⟩ := hm
  cases one_ok he
  replace hm := any_some hm
  obtain ⟨x, hx, hm⟩ := hm
  cases asAttr_ok hx
  obtain ⟨h1, h2⟩ := and1 hm
  refine and3 h1 fun h1 k1 k2 => ?_
  rw [← eq_of_beq h1]
  refine WGoal.fin (AE.attr (base_ok k1) (AE.mono (Sa.ae (nL k2) hn h2 cv hE h) fun p H₁ h => ?_)) rfl
  have h : SGet T y p H₁ (wFin T m Q) := h
  unfold SGet at h; exact (h _).noE
theorem s_sub {a b : IE} (Sa : Sound T X G names a) (Sb : Sound T X G names b) : Sound T X G names (.sub a b) := fun m c env ls nm Fs H R Q E es l hn hm cv hE h => by
  replace hm := any_some hm
  obtain ⟨e, he, hm⟩ := hm
  cases one_ok he
  replace hm := any_some hm
  obtain ⟨x, hx, hm⟩ := hm
  obtain ⟨_, rfl⟩ := asSub_ok hx
  obtain ⟨h1, h2⟩ := and1 hm
  refine and3 h1 fun h1 k1 k2 => ?_
  obtain ⟨h2, m1⟩ := and1 h2
  refine WGoal.fin (AE.sub (AE.mono (Sa.ae (nL k1) hn h2 cv hE h) fun p H₁ h => AE.mono (Sb.ae (nL k2) hn m1 cv hE h) fun q H₂ h => ?_)) rfl
  have h : SSub T p q H₂ (wFin T m Q) := h
  unfold SSub at h; exact (h _ _ _ (idx_ok h1)).noE
theorem s_part {a : IE} (Sa : Sound T X G names a) {c : FK} {env : Env} {ls : Ls} {nm : List (Str × NameKind)} {Fs : List AF} {H : AHeap} {R : AHeap → Prop} {Q : Option Int → AHeap → Prop} {E : Value → Shared → Prop} {e : Option Expr} {l : LN}
    (hL : a.isL = false) (hn : env.scope.names = nm) (hm : (match e with | some e => !a.isNo && mE G names T.hd a nm [e] | none => a.isNo) = true) (cv : Cov names l ls) (hE : ∀ e s, Fly T.C (.fr ⟨c, env, ls⟩ :: Fs) X R e s → E e s)
    (h : w T X a .v l H R fun p H' => wPart a.isNo p fun i => Q i H') : APart T ⟨c, env, ls⟩ Fs H e Q E := by
  cases e with
  | none =>
    have hm : a.isNo = true := hm
    cases a <;> first | exact h | cases hm
  | some e =>
    obtain ⟨h1, h2⟩ := and1 hm
    rw [nL h1] at h
    refine APart.some (AE.mono (Sa.ae hL hn h2 cv hE h) fun p H' h => ?_)
    cases p <;> first | exact ⟨_, rfl, h⟩ | exact h.elim
theorem APart.mono {f : FR} {Fs : List AF} {H : AHeap} {E : Value → Shared → Prop} {e : Option Expr} {Q Q' : Option Int → AHeap → Prop} (h : APart T f Fs H e Q E) (hq : ∀ i H, Q i H → Q' i H) : APart T f Fs H e Q' E := by
  cases e with
  | none => exact hq _ _ h
  | some e => exact AE.mono h fun p H' ⟨i, e, h⟩ => ⟨i, e, hq _ _ h⟩
theorem s_slice {a lo hi : IE} (Sa : Sound T X G names a) (Sl : Sound T X G names lo) (Sh : Sound T X G names hi) : Sound T X G names (.slice a lo hi) := fun m c env ls nm Fs H R Q E es l hn hm cv hE h => by
  replace hm := any_some hm
  obtain ⟨e, he, hm⟩ := hm
  cases one_ok he
  replace hm := any_some hm
  obtain ⟨x, hx, hm⟩ := hm
  obtain ⟨_, rfl⟩ := asSub_ok hx
  replace hm := any_some hm
  obtain ⟨z, hz, hm⟩ := hm
  obtain ⟨_, hz⟩ := asSlice_ok hz
  rw [hz]
  obtain ⟨h1, h2⟩ := and1 hm
  refine and4 h1 fun h1 k1 k2 k3 => ?_
  refine and3 h2 fun h2 m1 m2 => ?_
  rw [oN_ok h1]
  refine WGoal.fin (AE.slice (AE.mono (Sa.ae (nL k1) hn h2 cv hE h) fun p H₁ h => APart.mono (s_part Sl (nL k2) hn m1 cv hE h) fun i H₂ h => APart.mono (s_part Sh (nL k3) hn m2 cv hE h) fun j H₃ h => ?_)) rfl
  have h : SSlice T p i j H₃ (wFin T m Q) := h
  unfold SSlice at h; exact h
theorem s_call (GO : GOk T.C G) (g : PV) {a : IE} (Sa : Sound T X G names a) : Sound T X G names (.call g a) := fun m c env ls nm Fs H R Q E es l hn hm cv hE h => by
  replace hm := any_some hm
  obtain ⟨e, he, hm⟩ := hm
  cases one_ok he
  replace hm := any_some hm
  obtain ⟨x, hx, hm⟩ := hm
  cases asCall_ok hx
  replace hm := any_some hm
  obtain ⟨s, hs, hm⟩ := hm
  obtain ⟨_, hs⟩ := asName_ok hs
  obtain ⟨h1, h2⟩ := and1 hm
  refine and5 h1 fun k1 h1 k2 k3 k4 => ?_
  rw [hs, emp_ok k1]
  have g1 := gHas_ok GO k2
  refine WGoal.fin (AE.call (fun _ => rfl) k3 (AE.gl (C := T.C) (G := G) hn h1 g1 ⟨g1.1 rfl, AL.mono (Sa.al k4 hn h2 cv hE h) fun ps H₁ h => ?_⟩)) rfl
  have h : SCall T X g ps H₁ (wFin T m Q) R := h
  unfold SCall at h; exact h _ _ hE
theorem s_meth (y : Str) {o a : IE} (So : Sound T X G names o) (Sa : Sound T X G names a) : Sound T X G names (.meth o y a) := fun m c env ls nm Fs H R Q E es l hn hm cv hE h => by
  replace hm := any_some hm
  obtain ⟨e, he, hm⟩ := hm
  cases one_ok he
  replace hm := any_some hm
  obtain ⟨x, hx, hm⟩ := hm
  cases asCall_ok hx
  replace hm := any_some hm
  obtain ⟨z, hz, hm⟩ := hm
  obtain ⟨h1, h2⟩ := and1 hm
  refine and8 h1 fun k1 h1 k2 k3 k4 k5 k6 k7 => ?_
  obtain ⟨h2, m1⟩ := and1 h2
  rw [asAttr_ok hz, emp_ok k1, ← eq_of_beq h1]
  refine WGoal.fin (AE.meth (base_ok k2) k3 (Nat.le_of_ble_eq_true k4) k5 (AE.mono (So.ae (nL k7) hn h2 cv hE h) fun p H₁ h => ?_)) rfl
  obtain ⟨g, hg, h⟩ := h
  unfold SMeth at hg
  refine ⟨g, hg.1, hg.2 _, AL.mono (Sa.al k6 hn m1 cv hE h) fun ps H₂ h => ?_⟩
  have h : SCall T X g (p :: ps) H₂ (wFin T m Q) R := h
  unfold SCall at h; exact h _ _ hE
theorem lName_ok {nm : List (Str × NameKind)} {x : Nat} {s : Str} (h : lName names nm x s = true) : names[x]? = some s ∧ nm.lookup s = some .local := by
  obtain ⟨h1, h2⟩ := and1 h
  exact ⟨eq_of_beq h1, eq_of_beq h2⟩
theorem mCT_cases {t : CT} {nm : List (Str × NameKind)} {e : Expr} (h : mCT names nm t e = true) :
    (∃ x s p, t = .one x ∧ e = .Name s p ∧ names[x]? = some s ∧ nm.lookup s = some .local) ∨
    ∃ x y s t' p q k r, t = .many [x, y] ∧ e = .Tuple [.Name s p, .Name t' q] k r ∧ (names[x]? = some s ∧ nm.lookup s = some .local) ∧ names[y]? = some t' ∧ nm.lookup t' = some .local := by
  cases t with
  | one x =>
    obtain ⟨s, hs, hm⟩ := any_some h
    obtain ⟨p, rfl⟩ := asName_ok hs
    obtain ⟨h1, h2⟩ := lName_ok hm
    exact .inl ⟨x, s, p, rfl, rfl, h1, h2⟩
  | many vs =>
    replace h := any_some h
    obtain ⟨v, hv, h⟩ := h
    replace h := any_some h
    obtain ⟨es, he, h⟩ := h
    obtain ⟨k, r, rfl⟩ := asTup_ok he
    replace h := any_some h
    obtain ⟨x, hx, h⟩ := h
    obtain ⟨h1, h2⟩ := and1 h
    obtain ⟨s, hs, h1⟩ := any_some h1
    obtain ⟨t, ht, h2⟩ := any_some h2
    obtain ⟨p, e1⟩ := asName_ok hs
    obtain ⟨q, e2⟩ := asName_ok ht
    refine .inr ⟨v.1, v.2, s, t, p, q, k, r, by rw [two_ok hv], by rw [two_ok hx, e1, e2], lName_ok h1, lName_ok h2⟩
theorem mCT_vars {t : CT} {nm : List (Str × NameKind)} {e : Expr} (h : mCT names nm t e = true) : ∀ v ∈ t.vars, ∃ s, names[v]? = some s ∧ nm.lookup s = some .local := by
  rcases mCT_cases h with ⟨x, s, p, rfl, rfl, h1, h2⟩ | ⟨x, y, s, t, p, q, k, r, rfl, rfl, h1, h2⟩
  · intro v hv; rw [List.mem_singleton.mp hv]; exact ⟨_, h1, h2⟩
  · intro v hv
    rcases List.mem_cons.mp hv with rfl | hv
    · exact ⟨_, h1⟩
    · rw [List.mem_singleton.mp hv]; exact ⟨_, h2⟩
theorem bindCT_two {x y : Nat} {p : PV} {l l' : LN} (hb : bindCT (.many [x, y]) p l = some l') : ∃ p1 p2, p = .tup [p1, p2] ∧ l' = (y, p2) :: (x, p1) :: l := by
  cases p with
  | tup ps =>
    cases ps with
    | nil => cases hb
    | cons a r => cases r with
      | nil => cases hb
      | cons b r => cases r with
        | nil => cases hb; exact ⟨a, b, rfl, rfl⟩
        | cons _ _ => cases hb
  | _ => cases hb
theorem bind_ok (hh : T.hd = false) (nd : names.Nodup) {t : CT} {c : FK} {env : Env} {nm : List (Str × NameKind)} {e : Expr} {ls : Ls} {l l' : LN} {p : PV} {Fs : List AF} {H : AHeap} {Q : Ls → AHeap → Prop} {E : Value → Shared → Prop} (hn : env.scope.names = nm) (h : mCT names nm t e = true) (cv : Cov names l ls) (hb : bindCT t p l = some l')
    (hq : ∀ ls', Cov names l' ls' → (∀ y q, (∀ v ∈ t.vars, names[v]? ≠ some y) → ls.lookup y = some q → ls'.lookup y = some q) → Q ls' H) : AA T ⟨c, env, ls⟩ Fs H e p Q E := by
  rcases mCT_cases h with ⟨x, s, p', rfl, rfl, h1, h2⟩ | ⟨x, y, s, t, p', q, k, r, rfl, rfl, h1, h2⟩
  · cases hb
    exact AA.nameL hn h2 (hq _ (cv.put nd h1) fun y q hy e => lk_next (beq_eq_false_iff_ne.mpr fun e' => hy _ (.head _) (e' ▸ h1)) e)
  · obtain ⟨p1, p2, rfl, rfl⟩ := bindCT_two hb
    refine AA.tup hh rfl rfl (AAs.cons' rfl (AA.nameL hn h1.2 (AAs.cons' rfl (AA.nameL hn h2.2 (AAs.nil' (hq _ ((cv.put nd h1.1).put nd h2.1) fun y q hy e => ?_))))))
    exact lk_next (beq_eq_false_iff_ne.mpr fun e' => hy _ (.tail _ (.head _)) (e' ▸ h2.1)) (lk_next (beq_eq_false_iff_ne.mpr fun e' => hy _ (.head _) (e' ▸ h1.1)) e)
noncomputable def stepC (T : Tr) (X : String) (t : CT) (fs e : IE) (l : LN) (v : PV) (H' : AHeap) (K : Option PV → AHeap → Prop) : Prop := match bindCT t v (dropN t.vars l) with
    | some ls' => w T X fs .a ls' H' noR fun b H₂ => match b with
      | .bool b => cond b (w T X e .v ls' H₂ noR fun r H₃ => K (some r) H₃) (K Option.none H₂)
      | _ => False
    | Option.none => False
theorem comp_turn (hh : T.hd = false) (nd : names.Nodup) {t : CT} {fs e : IE} (Sf : Sound T X G names fs) (Se : Sound T X G names e) {scope : Scope} {nm : List (Str × NameKind)} {target elt : Expr} {ifs : List Expr} {ls : Ls} {l : LN} (cv : Cov names l ls)
    (ho : ownOk names t.vars scope = true) (hmt : mCT names (relN scope.names nm) t target = true) (hlf : fs.isL = true) (hle : e.isL = false) (hmf : mE G names T.hd fs (relN scope.names nm) ifs = true) (hme : mE G names T.hd e (relN scope.names nm) [elt] = true)
    {cenv : Env} (hc : cenv.scope.names = relN scope.names nm) {D : Addr} {post : List AF} {Fs' : List AF} {H' : AHeap} {out : List PV} (hz : out.length ≤ 100000) {v : PV} {K : List PV → AHeap → Prop} (h : stepC T X t fs e l v H' fun r H'' => K (out ++ r.toList) H'') :
    AA T ⟨.cp [], cenv, compLs scope.names ls⟩ Fs' H' target v (fun ls' H₂ => Sub (compLs scope.names ls) ls' ∧ AIfs T ⟨.cp [], cenv, ls'⟩ Fs' H₂ ifs (fun b H₃ => if b then AEmit T ⟨.cp [], cenv, ls'⟩ D post (emitElt elt) H₃ out (fun out' H₄ => out'.length ≤ out.length + 1 ∧ K out' H₄) else K out H₃)) NoE := by
  cases hb : bindCT t v (dropN t.vars l) with
  | none => unfold stepC at h; rw [hb] at h; exact h.elim
  | some l' =>
    unfold stepC at h
    rw [hb] at h
    refine bind_ok hh nd hc hmt (cv.drop nd ho) hb fun ls' cv' keep => ⟨fun y q hy => keep y q (fun v hv ev => ?_) hy, ?_⟩
    · obtain ⟨s, h1, h2⟩ := mCT_vars hmt v hv
      have ey : s = y := Option.some.inj (h1.symm.trans ev)
      subst ey
      rw [relN_lookup] at h2
      have h3 := (compLs_lookup hy).2
      cases q1 : scope.names.lookup s with
      | none => rw [q1] at h2; cases h2
      | some k =>
        rw [q1] at h2 h3
        simp only [Option.map_some, Option.some.injEq] at h2
        split at h2
        · cases h2
        · exact h3 (by rw [h2])
    · have hf := Sf .a (E := NoE) (c := .cp []) (Fs := Fs') (es := ifs) hc hmf cv' (fun _ _ => noFly) h
      rw [hlf] at hf
      refine AIfs.mono (hf.2 rfl) fun b H₂ hb2 => ?_
      cases b with
      | true =>
        rw [if_pos rfl]
        exact AEmit.elt hz fun Fs'' => AE.mono (Se.ae hle hc hme cv' (fun _ _ => noFly) hb2) fun r H₃ h => ⟨by simp, h⟩
      | false =>
        rw [if_neg (by decide)]
        have hb2 : K (out ++ (Option.none : Option PV).toList) H₂ := hb2
        rw [Option.toList_none, List.append_nil] at hb2
        exact hb2
noncomputable def CompIs (T : Tr) (c : FK) (env : Env) (ls : Ls) (nm : List (Str × NameKind)) (Fs : List AF) (H : AHeap) (v : Expr) (P : List PV → AHeap → Prop) (E : Value → Shared → Prop) : Prop :=
  ∃ elt target iter ifs rest scope pos emit, v = .ListComp elt (⟨target, iter, ifs, 0⟩ :: rest) scope pos ∧ T.hd = false ∧ ScopeOk scope nm ∧ (∀ env x, foldedSetIterable iter env x = pure x) ∧ CompShape elt (⟨target, iter, ifs, 0⟩ :: rest) scope pos 0 target ifs emit ∧ CompGives T scope.names nm c env ls Fs H iter target ifs emit P E
noncomputable def newList (Q : PV → AHeap → Prop) (out : List PV) (H : AHeap) : Prop := ∀ a, H a = Option.none → Q (.ref a) (upd H a (.list out))
theorem CompIs.ae {c : FK} {env : Env} {ls : Ls} {nm : List (Str × NameKind)} {Fs : List AF} {H : AHeap} {v : Expr} {Q : PV → AHeap → Prop} {E : Value → Shared → Prop} (hn : env.scope.names = nm) (h : CompIs T c env ls nm Fs H v (newList Q) E) : AE T ⟨c, env, ls⟩ Fs H v Q E := by
  obtain ⟨elt, target, iter, ifs, rest, scope, pos, emit, rfl, hh, sc, hf, sh, h⟩ := h
  exact AE.compG hh hn sc (hf env) sh h
theorem g_comp (nd : names.Nodup) (t : CT) {it fs e : IE} (Si : Sound T X G names it) (Sf : Sound T X G names fs) (Se : Sound T X G names e) {c : FK} {env : Env} {ls : Ls} {nm : List (Str × NameKind)} {Fs : List AF} {H : AHeap} {R : AHeap → Prop} {Q : PV → AHeap → Prop} {E : Value → Shared → Prop} {es : List Expr} {l : LN}
    (hn : env.scope.names = nm) (hm : mE G names T.hd (.comp t it fs e) nm es = true) (cv : Cov names l ls) (hE : ∀ e s, Fly T.C (.fr ⟨c, env, ls⟩ :: Fs) X R e s → E e s) (h : w T X (.comp t it fs e) .v l H R Q) : ∃ v, es = [v] ∧ CompIs T c env ls nm Fs H v (newList Q) E := by
  replace hm := any_some hm
  obtain ⟨ex, he, hm⟩ := hm
  cases one_ok he
  replace hm := any_some hm
  obtain ⟨x, hx, hm⟩ := hm
  obtain ⟨_, rfl⟩ := asComp_ok hx
  replace hm := any_some hm
  obtain ⟨g, hg, hm⟩ := hm
  obtain ⟨h1, h2⟩ := and1 hm
  refine and9 h1 fun h1 k8 k7 k6 k5 k0 k3 k2 k1 => ?_
  refine and3 h2 fun h2 m2 m1 => ?_
  have hh := nL h1
  obtain ⟨target, iter, ifs, as⟩ := g
  cases eq_of_beq k0
  rw [one_ok hg]
  refine ⟨_, rfl, _, _, _, _, _, _, _, _, rfl, hh, sc_ok k8, fun env x => fold_ok k6 env x, shape1, AE.mono (Si.ae (nL k3) hn h2 cv hE h) fun p H₁ h => ?_⟩
  have h : WComp T p H₁ (stepC T X t fs e l) Q := h
  cases h with
  | list a li e1 hl hz J h0 hk turn fin =>
    subst e1
    refine ⟨.list a 0, AIter.list hl, fun n y out H' => ∃ i, y = .list a i ∧ n = li.length - i ∧ i ≤ li.length ∧ out.length ≤ i ∧ J i out H', li.length, ⟨0, rfl, rfl, Nat.zero_le _, Nat.zero_le _, h0⟩, ?_⟩
    rintro cenv D post hc n y out H' ⟨i, rfl, rfl, hle, hlo, hJ⟩
    refine ⟨li, hk i out H' hJ, fun v ev Fs' => ?_, fun ev => ?_⟩
    · have hlt := (List.getElem?_eq_some_iff.mp ev).1
      have hlo' : out.length ≤ 100000 := Nat.le_trans hlo (Nat.le_trans hle hz)
      refine AA.mono (comp_turn hh nd Sf Se cv k7 k5 k2 (nL k1) m2 m1 hc (D := D) (post := post) (Fs' := Fs') hlo' (K := J (i + 1)) (turn i v out H' ev hJ)) fun ls' H₂ ⟨hs, hx⟩ => ⟨hs, AIfs.mono hx fun b H₃ hb => ?_⟩
      cases b with
      | true =>
        rw [if_pos rfl] at hb ⊢
        exact hb.mono fun out' H₄ ⟨hl', hJ'⟩ => ⟨li.length - (i + 1), by omega, i + 1, rfl, rfl, hlt, by omega, hJ'⟩
      | false =>
        rw [if_neg (by decide)] at hb ⊢
        exact ⟨li.length - (i + 1), by omega, i + 1, rfl, rfl, hlt, by omega, hb⟩
    · have : i = li.length := by rw [List.getElem?_eq_none_iff] at ev; omega
      subst this
      exact fin out H' hJ
  | range a n e1 hl hz J h0 turn fin =>
    subst e1
    refine ⟨_, AIter.range hl (by decide) (by decide) (by omega) (by omega), fun k y out H' => ∃ i : Nat, y = .range i (n - i) ∧ k = n - i ∧ i ≤ n ∧ out.length ≤ i ∧ J i out H', n, ⟨0, ?_, rfl, Nat.zero_le _, Nat.zero_le _, h0⟩, ?_⟩
    · congr 1
      split <;> omega
    rintro cenv D post hc k y out H' ⟨i, rfl, rfl, hle, hlo, hJ⟩
    refine ⟨fun hp Fs' => ?_, fun ev => ?_⟩
    · have hlt : i < n := by omega
      have hlo' : out.length ≤ 100000 := by omega
      refine AA.mono (comp_turn hh nd Sf Se cv k7 k5 k2 (nL k1) m2 m1 hc (D := D) (post := post) (Fs' := Fs') hlo' (K := J (i + 1)) (turn i out H' hlt hJ)) fun ls' H₂ ⟨hs, hx⟩ => ⟨hs, AIfs.mono hx fun b H₃ hb => ?_⟩
      have e2 : AIt.range ((i : Int) + 1) (n - i - 1) = .range ((i + 1 : Nat) : Int) (n - (i + 1 : Nat)) := by congr 1; omega
      cases b with
      | true =>
        rw [if_pos rfl] at hb ⊢
        exact hb.mono fun out' H₄ ⟨hl', hJ'⟩ => ⟨n - (i + 1), by omega, i + 1, e2, rfl, hlt, by omega, hJ'⟩
      | false =>
        rw [if_neg (by decide)] at hb ⊢
        exact ⟨n - (i + 1), by omega, i + 1, e2, rfl, hlt, by omega, hb⟩
    · have : i = n := by omega
      subst this
      exact fin out H' hJ
theorem s_comp (nd : names.Nodup) (t : CT) {it fs e : IE} (Si : Sound T X G names it) (Sf : Sound T X G names fs) (Se : Sound T X G names e) : Sound T X G names (.comp t it fs e) := fun m c env ls nm Fs H R Q E es l hn hm cv hE h => by
  obtain ⟨v, rfl, hc⟩ := g_comp nd t Si Sf Se (Q := wFin T m Q) hn hm cv hE h
  obtain ⟨_, _, _, _, _, _, _, _, rfl, _⟩ := id hc
  exact WGoal.fin (hc.ae hn) rfl
end
end
section
open PySem PySem.W PyProof.Rows PySem.Calls
section
variable {T : Tr} {X : String} {G : GT} {names : List Str}
theorem small {G : Prop} (h : ∀ P : Prop, (G → P) → P) : G := h G id
theorem g_compRR (nd : names.Nodup) (x y : Nat) {i1 i2 fs e : IE} (S1 : Sound T X G names i1) (S2 : Sound T X G names i2) (Sf : Sound T X G names fs) (Se : Sound T X G names e) {c : FK} {env : Env} {ls : Ls} {nm : List (Str × NameKind)} {Fs : List AF} {H : AHeap} {R : AHeap → Prop} {Q : PV → AHeap → Prop} {E : Value → Shared → Prop} {es : List Expr} {l : LN}
    (hn : env.scope.names = nm) (hm : mE G names T.hd (.compRR x y i1 i2 fs e) nm es = true) (cv : Cov names l ls) (hE : ∀ e s, Fly T.C (.fr ⟨c, env, ls⟩ :: Fs) X R e s → E e s) (h : w T X (.compRR x y i1 i2 fs e) .v l H R Q) : ∃ v, es = [v] ∧ CompIs T c env ls nm Fs H v (newList Q) E := by
  refine small fun P kk => ?_
  replace hm := any_some hm
  obtain ⟨ex, he, hm⟩ := hm
  have he := one_ok he
  replace hm := any_some hm
  obtain ⟨z, hz, hm⟩ := hm
  obtain ⟨_, hz⟩ := asComp_ok hz
  replace hm := any_some hm
  obtain ⟨g, hg, hm⟩ := hm
  replace hm := any_some hm
  obtain ⟨s, hs, hm⟩ := hm
  replace hm := any_some hm
  obtain ⟨t, ht, hm⟩ := hm
  obtain ⟨h1, h2⟩ := and1 hm
  refine and15 h1 fun h1 k1 k2 k3 k4 k5 k6 k7 k8 k9 ka kb kc kd ke => ?_
  refine and4 h2 fun m1 m2 m3 m4 => ?_
  have hh := nL h1
  clear hm
  obtain ⟨⟨t1, it1, f1, a1⟩, ⟨t2, it2, f2, a2⟩⟩ := g
  have e1 : a1 = 0 := eq_of_beq k8
  have e2 : a2 = 0 := eq_of_beq k9
  obtain ⟨p1, e3⟩ := asName_ok hs
  obtain ⟨p2, e4⟩ := asName_ok ht
  have e3 : t1 = .Name s p1 := e3
  have e4 : t2 = .Name t p2 := e4
  have e5 : f1 = [] := emp_ok ka
  obtain ⟨hx, hxl⟩ := lName_ok k5
  obtain ⟨hy, hyl⟩ := lName_ok k6
  have hst : s ≠ t := bne_iff_ne.mp k7
  refine kk ?_
  subst he hz e1 e2 e3 e4 e5
  rw [two_ok hg]
  obtain ⟨n, k, gg, b1, b2, b3, h⟩ := h
  have cv0 := cv.drop nd k2
  refine ⟨_, rfl, _, _, _, _, _, _, _, _, rfl, hh, sc_ok k1, fun env x => fold_ok k3 env x, shape2a, CompGives.range2 gg hh hxl hyl hst b1 b2 b3 (fun cenv v _ => fold_ok k4 _ v) (AE.mono (S1.ae (nL kb) hn m1 cv hE h) fun p H₁ h => ?_)⟩
  obtain ⟨a, rfl, hl, hi, hj, hf⟩ := h
  refine ⟨a, rfl, hl, fun i cenv Fs' H' hlt hc ex => S2.ae (nL kc) hc m2 (cv0.put nd hx) (fun _ _ => noFly) (hi i H' hlt ex), fun i j h1 h2 cenv Fs' H' hc ex => ?_, hf⟩
  have cv2 := (cv0.put nd hx (p := .int i)).put nd hy (p := .int j)
  have hf := Sf .a (E := NoE) (c := .cp []) (Fs := Fs') (es := f2) hc m3 cv2 (fun _ _ => noFly) (hj i j H' h1 h2 ex)
  rw [kd] at hf
  refine AIfs.mono (hf.2 rfl) fun b H₂ hb => ⟨hb.1, ?_⟩
  cases b with
  | true =>
    obtain ⟨-, r, hr, hb⟩ := hb
    rw [if_pos rfl]
    exact ⟨r, hr, fun Fs'' => Se.ae (nL ke) hc m4 cv2 (fun _ _ => noFly) hb⟩
  | false =>
    rw [if_neg (by decide)]
    exact hb.2

theorem s_compRR (nd : names.Nodup) (x y : Nat) {i1 i2 fs e : IE} (S1 : Sound T X G names i1) (S2 : Sound T X G names i2) (Sf : Sound T X G names fs) (Se : Sound T X G names e) : Sound T X G names (.compRR x y i1 i2 fs e) := fun m c env ls nm Fs H R Q E es l hn hm cv hE h => by
  obtain ⟨v, rfl, hc⟩ := g_compRR nd x y S1 S2 Sf Se (Q := wFin T m Q) hn hm cv hE h
  obtain ⟨_, _, _, _, _, _, _, _, rfl, _⟩ := id hc
  exact WGoal.fin (hc.ae hn) rfl
theorem w_sound (GO : GOk T.C G) (nd : names.Nodup) (ie : IE) : Sound T X G names ie := by
  induction ie with
  | int i => exact s_int i
  | str i => exact s_str i
  | none => exact s_none
  | bool b => exact s_bool b
  | var x => exact s_var x
  | glob p => exact s_glob GO p
  | bin o a b ha hb => exact s_bin o ha hb
  | un o a ha => exact s_un o ha
  | cmp o a b ha hb => exact s_cmp o ha hb
  | cmp2 o o' a b c ha hb hc => exact s_cmp2 o o' ha hb hc
  | boolop o l hl => exact s_boolop o hl
  | ife t a b ht ha hb => exact s_ife ht ha hb
  | nil => exact s_nil
  | cons a b ha hb => exact s_cons ha hb
  | tup l hl => exact s_tup hl
  | list l hl => exact s_list hl
  | dict => exact s_dict
  | attr a x ha => exact s_attr x ha
  | sub a i ha hi => exact s_sub ha hi
  | slice a lo hi h1 h2 h3 => exact s_slice h1 h2 h3
  | call g l hl => exact s_call GO g hl
  | meth o x l ho hl => exact s_meth x ho hl
  | comp t it fs e h1 h2 h3 => exact s_comp nd t h1 h2 h3
  | compRR x y i1 i2 fs e h1 h2 h3 h4 => exact s_compRR nd x y h1 h2 h3 h4
theorem g_any (GO : GOk T.C G) (nd : names.Nodup) {e : IE} {c : FK} {env : Env} {ls : Ls} {nm : List (Str × NameKind)} {Fs : List AF} {H : AHeap} {R : AHeap → Prop} {Q : PV → AHeap → Prop} {E : Value → Shared → Prop} {v : Expr} {l : LN} {x}
    (hc : asComp v = some x) (hl : e.isL = false) (hn : env.scope.names = nm) (hm : mE G names T.hd e nm [v] = true) (cv : Cov names l ls) (hE : ∀ e s, Fly T.C (.fr ⟨c, env, ls⟩ :: Fs) X R e s → E e s) (h : w T X e .v l H R Q) : CompIs T c env ls nm Fs H v (newList Q) E := by
  obtain ⟨p, rfl⟩ := asComp_ok hc
  cases e with
  | comp t it fs e =>
    obtain ⟨v, hv, h⟩ := g_comp nd t (w_sound GO nd it) (w_sound GO nd fs) (w_sound GO nd e) hn hm cv hE h
    cases hv; exact h
  | compRR x y i1 i2 fs e =>
    obtain ⟨v, hv, h⟩ := g_compRR nd x y (w_sound GO nd i1) (w_sound GO nd i2) (w_sound GO nd fs) (w_sound GO nd e) hn hm cv hE h
    cases hv; exact h
  | cons => cases hl
  | _ => cases hm
end
end
section
open PySem PySem.W PyProof.Rows PySem.Calls
noncomputable def IT.isL : IT → Bool
  | .nil => true
  | .cons _ _ => true
  | _ => false
noncomputable def mT (G : GT) (names : List Str) (hd : Bool) (nm : List (Str × NameKind)) : IT → List Expr → Bool
  | .var x, es => (one es).any fun e => (asName e).any (oName names nm x)
  | .tup l, es => (one es).any fun e => (asTup e).any fun vs => (!hd && (l.isL && Nat.beq vs.length l.len)) && mT G names hd nm l vs
  | .tupS t, es => (one es).any fun e => (asTup e).any fun vs => (one vs).any fun v => (!hd && (!t.isL && noStar [v])) && mT G names hd nm t [v]
  | .nil, es => emp es
  | .cons a b, es => match es with
    | e :: r => (noStar (e :: r) && (!a.isL && b.isL)) && (mT G names hd nm a [e] && mT G names hd nm b r)
    | [] => false
  | .attr a y, es => (one es).any fun e => (asAttr e).any fun x => (y == x.2.1 && !a.isL) && mE G names hd a nm [x.1]
  | .sub a i, es => (one es).any fun e => (asSub e).any fun x => (!a.isL && !i.isL) && (mE G names hd a nm [x.1] && mE G names hd i nm [x.2])

noncomputable def TGoal (T : Tr) (env : Env) (ls : Ls) (Fs : List AF) (H : AHeap) (L : Bool) (es : List Expr) (p : PV) (Q : Ls → AHeap → Prop) (E : Value → Shared → Prop) : Prop := match L, es with
  | true, es => noStar es = true ∧ ∀ ps, p = .tup ps → AAs T ⟨.fn, env, ls⟩ Fs H es ps Q E
  | false, [e] => AA T ⟨.fn, env, ls⟩ Fs H e p Q E
  | _, _ => True

section
variable {T : Tr} {X : String} {G : GT} {names : List Str}
theorem assignEach_plain {e : Expr} {es : List Expr} {env : Env} (h : noStar (e :: es) = true) : assignEach (e :: es) env = (false, assign e env) :: assignEach es env := by
  cases e <;> first | rfl | cases h
theorem noStar_tail {e : Expr} {es : List Expr} (h : noStar (e :: es) = true) : noStar es = true := (starEach_cons_plain (env := default) h).2
theorem assignEach_len {env : Env} : ∀ {es : List Expr}, noStar es = true → (assignEach es env).length = es.length ∧ (assignEach es env).findIdx? (·.1) = none
  | [], _ => ⟨rfl, rfl⟩
  | e :: es, h => by
    obtain ⟨h1, h2⟩ := assignEach_len (env := env) (noStar_tail h)
    rw [assignEach_plain h]
    exact ⟨by rw [List.length_cons, List.length_cons, h1], by rw [List.findIdx?_cons, h2]; rfl⟩
theorem Cov.storeH (nd : names.Nodup) {l : LN} {ls : Ls} (cv : Cov names l ls) {x : Nat} {nm : List (Str × NameKind)} {s : Str} {p : PV} (h : oName names nm x s = true) : isOwn (nm.lookup s) = true ∧ Cov names ((x, p) :: l) ((s, p) :: ls) := by
  obtain ⟨h1, h2⟩ := and1 h
  exact ⟨h2, cv.put nd (eq_of_beq h1)⟩
noncomputable def QL (names : List Str) (Q : LN → AHeap → Prop) (ls : Ls) (H : AHeap) : Prop := ∃ l, Cov names l ls ∧ Q l H
theorem wT_sound (GO : GOk T.C G) (nd : names.Nodup) (it : IT) : ∀ {env : Env} {ls : Ls} {nm : List (Str × NameKind)} {Fs : List AF} {H : AHeap} {R : LN → AHeap → Prop} {Q : LN → AHeap → Prop} {E : Value → Shared → Prop} {es : List Expr} {l : LN} {p : PV},
    env.scope.names = nm → mT G names T.hd nm it es = true → Cov names l ls → (∀ l ls e s, Cov names l ls → Fly T.C (.fr ⟨.fn, env, ls⟩ :: Fs) X (R l) e s → E e s) → wT T X it p l H R Q → TGoal T env ls Fs H it.isL es p (QL names Q) E := by
  induction it with
  | var x =>
    intro env ls nm Fs H R Q E es l p hn hm cv hE h
    replace hm := any_some hm
    obtain ⟨e, he, hm⟩ := hm
    cases one_ok he
    replace hm := any_some hm
    obtain ⟨s, hs, hm⟩ := hm
    obtain ⟨_, rfl⟩ := asName_ok hs
    obtain ⟨h1, h2⟩ := cv.storeH nd (p := p) hm
    exact AA.name hn h1 ⟨_, h2, h⟩
  | tup t ih =>
    intro env ls nm Fs H R Q E es l p hn hm cv hE h
    replace hm := any_some hm
    obtain ⟨e, he, hm⟩ := hm
    cases one_ok he
    replace hm := any_some hm
    obtain ⟨vs, hs, hm⟩ := hm
    obtain ⟨_, _, rfl⟩ := asTup_ok hs
    obtain ⟨h1, h2⟩ := and1 hm
    refine and3 h1 fun h1 h3 h4 => ?_
    have h : cond (lenOk p t.len) (wT T X t p l H R Q) False := h
    cases hk : lenOk p t.len with
    | false => rw [hk] at h; exact h.elim
    | true =>
      rw [hk] at h
      have := ih hn h2 cv hE h
      rw [h3] at this
      cases p with
      | tup ps =>
        obtain ⟨q1, q2⟩ := assignEach_len (env := env) this.1
        exact AA.tup (nL h1) (q1.trans ((Nat.eq_of_beq_eq_true h4).trans (Nat.eq_of_beq_eq_true hk).symm)) q2 (this.2 ps rfl)
      | _ => cases hk
  | tupS t ih =>
    intro env ls nm Fs H R Q E es l p hn hm cv hE h
    replace hm := any_some hm
    obtain ⟨e, he, hm⟩ := hm
    cases one_ok he
    replace hm := any_some hm
    obtain ⟨vs, hs, hm⟩ := hm
    obtain ⟨_, _, rfl⟩ := asTup_ok hs
    replace hm := any_some hm
    obtain ⟨v, hv, hm⟩ := hm
    rw [one_ok hv]
    obtain ⟨h1, h2⟩ := and1 hm
    refine and3 h1 fun h1 h3 h4 => ?_
    obtain ⟨a, q, rfl, hH, h⟩ := h
    have := ih hn h2 cv hE h
    rw [nL h3] at this
    exact AA.tupSet (nL h1) hH (assignEach_plain h4) this
  | nil =>
    intro env ls nm Fs H R Q E es l p hn hm cv hE h
    cases emp_ok hm
    cases p with
    | tup ps => cases ps with
      | nil => exact ⟨rfl, fun ps e => by cases e; exact AAs.nil ⟨l, cv, h⟩⟩
      | cons _ _ => exact h.elim
    | _ => exact h.elim
  | cons a b iha ihb =>
    intro env ls nm Fs H R Q E es l p hn hm cv hE h
    cases es with
    | nil => cases hm
    | cons e r =>
      obtain ⟨h1, h2⟩ := and1 hm
      refine and3 h1 fun h1 h3 h4 => ?_
      obtain ⟨h2, h5⟩ := and1 h2
      cases p with
      | tup ps => cases ps with
        | nil => exact h.elim
        | cons q ps =>
          have h : wT T X a q l H R fun l' H' => wT T X b (.tup ps) l' H' R Q := h
          refine ⟨h1, fun ps' e => ?_⟩
          cases e
          have := iha hn h2 cv hE h
          rw [nL h3] at this
          refine AAs.cons' (assignEach_plain h1) (AA.mono this fun ls' H' ⟨l', cv', h'⟩ => ?_)
          have := ihb hn h5 cv' hE h'
          rw [h4] at this
          exact this.2 ps rfl
      | _ => exact h.elim
  | attr a y =>
    intro env ls nm Fs H R Q E es l p hn hm cv hE h
    replace hm := any_some hm
    obtain ⟨e, he, hm⟩ := hm
    cases one_ok he
    replace hm := any_some hm
    obtain ⟨x, hx, hm⟩ := hm
    cases asAttr_ok hx
    obtain ⟨h1, h2⟩ := and1 hm
    obtain ⟨h1, h3⟩ := and1 h1
    rw [← eq_of_beq h1]
    refine AA.attr (AE.mono ((w_sound GO nd a).ae (nL h3) hn h2 cv (fun e s => hE l ls e s cv) h) fun q H₁ h => ?_)
    have h : SSetAttr T y q p H₁ (fun H₂ => Q l H₂) := h
    unfold SSetAttr at h
    exact fun A s v u ok R pv pu => wpAny_mono (h _ A s v u ok R pv pu) (fun _ s' ⟨H', R', k, hq⟩ => ⟨H', R', k, l, cv, hq⟩) fun _ _ x => x.elim
  | sub a i =>
    intro env ls nm Fs H R Q E es l p hn hm cv hE h
    replace hm := any_some hm
    obtain ⟨e, he, hm⟩ := hm
    cases one_ok he
    replace hm := any_some hm
    obtain ⟨x, hx, hm⟩ := hm
    obtain ⟨_, rfl⟩ := asSub_ok hx
    obtain ⟨h1, h2⟩ := and1 hm
    obtain ⟨h1, h3⟩ := and1 h1
    obtain ⟨h2, h4⟩ := and1 h2
    refine AA.sub (AE.mono ((w_sound GO nd a).ae (nL h1) hn h2 cv (fun e s => hE l ls e s cv) h) fun q H₁ h => AE.mono ((w_sound GO nd i).ae (nL h3) hn h4 cv (fun e s => hE l ls e s cv) h) fun j H₂ h => ?_)
    have h : SSetItem T q j p H₂ (fun H₃ => Q l H₃) := h
    unfold SSetItem at h
    exact fun A s v w u ok R pv pw pu => wpAny_mono (h _ A s v w u ok R pv pw pu) (fun _ s' ⟨H', R', k, hq⟩ => ⟨H', R', k, l, cv, hq⟩) fun _ _ x => x.elim
end
end
section
open PySem PySem.W PyProof.Rows PySem.Calls
structure InfS where
  tag : Nat
  ts : List Expr := []
  v : Option Expr := none
  v2 : Option Expr := none
  o : Operator := .Add
  a : List Stmt := []
  b : List Stmt := []
  c : List Stmt := []
  h : List ExceptHandler := []
  p : Pos := ⟨0, 0, 0, 0⟩
noncomputable def infS : Stmt → InfS
  | .Return v p => { tag := 0, v := v, p := p }
  | .Assign ts v p => { tag := 1, ts := ts, v := some v, p := p }
  | .AugAssign t o v p => { tag := 2, ts := [t], o := o, v := some v, p := p }
  | .For t i b e p => { tag := 3, ts := [t], v := some i, a := b, b := e, p := p }
  | .While t b e p => { tag := 4, v := some t, a := b, b := e, p := p }
  | .If t b e p => { tag := 5, v := some t, a := b, b := e, p := p }
  | .Raise e c p => { tag := 6, v := e, v2 := c, p := p }
  | .Try a h b c p => { tag := 7, a := a, b := b, c := c, h := h, p := p }
  | .Expr v p => { tag := 8, v := some v, p := p }
  | .Pass p => { tag := 9, p := p }
  | .Break p => { tag := 10, p := p }
  | .Continue p => { tag := 11, p := p }
  | .FunctionDef .. => { tag := 12 }
  | .AsyncFunctionDef .. => { tag := 12 }
  | .ClassDef .. => { tag := 12 }
  | .Delete .. => { tag := 12 }
  | .TypeAlias .. => { tag := 12 }
  | .AnnAssign .. => { tag := 12 }
  | .AsyncFor .. => { tag := 12 }
  | .With .. => { tag := 12 }
  | .AsyncWith .. => { tag := 12 }
  | .Match .. => { tag := 12 }
  | .TryStar .. => { tag := 12 }
  | .Assert .. => { tag := 12 }
  | .Import .. => { tag := 12 }
  | .ImportFrom .. => { tag := 12 }
  | .Global .. => { tag := 12 }
  | .Nonlocal .. => { tag := 12 }
noncomputable def InfSOk (s : Stmt) (i : InfS) : Prop := match i.tag with
  | 0 => s = .Return i.v i.p
  | 1 => ∃ v, i.v = some v ∧ s = .Assign i.ts v i.p
  | 2 => ∃ t v, i.v = some v ∧ i.ts = [t] ∧ s = .AugAssign t i.o v i.p
  | 3 => ∃ t v, i.v = some v ∧ i.ts = [t] ∧ s = .For t v i.a i.b i.p
  | 4 => ∃ v, i.v = some v ∧ s = .While v i.a i.b i.p
  | 5 => ∃ v, i.v = some v ∧ s = .If v i.a i.b i.p
  | 6 => s = .Raise i.v i.v2 i.p
  | 7 => s = .Try i.a i.h i.b i.c i.p
  | 8 => ∃ v, i.v = some v ∧ s = .Expr v i.p
  | 9 => s = .Pass i.p
  | 10 => s = .Break i.p
  | 11 => s = .Continue i.p
  | _ => True
theorem infS_ok (s : Stmt) : InfSOk s (infS s) := by
  cases s with
  | Return => exact rfl
  | Assign => exact ⟨_, rfl, rfl⟩
  | AugAssign => exact ⟨_, _, rfl, rfl, rfl⟩
  | For => exact ⟨_, _, rfl, rfl, rfl⟩
  | While => exact ⟨_, rfl, rfl⟩
  | If => exact ⟨_, rfl, rfl⟩
  | Raise => exact rfl
  | Try => exact rfl
  | Expr => exact ⟨_, rfl, rfl⟩
  | Pass => exact rfl
  | Break => exact rfl
  | Continue => exact rfl
  | _ => exact trivial
theorem infS_at {s : Stmt} {n : Nat} (h : Nat.beq (infS s).tag n = true) : InfSOk s { infS s with tag := n } := by
  have := infS_ok s
  rw [← Nat.eq_of_beq_eq_true h]; exact this
noncomputable def noComp (e : Expr) : Bool := Nat.blt (inf e).tag 14
theorem swaps_none {v : Expr} (h : noComp v = true) (t : Option Expr) (line : Nat) (env : Env) : swapsWith v t line env = pure false := by
  cases v <;> first | rfl | cases h
noncomputable def noSwap (t v : Expr) : Bool := !(Nat.beq (inf v).tag 7 && (Nat.beq (inf t).tag 7 || Nat.beq (inf t).tag 8))
theorem noSwap_ok {t v : Expr} (h : noSwap t v = true) (env : Env) : swappedStores [t] v env = pure none := by
  cases t <;> first | rfl | (cases v <;> first | rfl | cases h)
noncomputable def swB (scope : Scope) (s : Str) (nm : List (Str × NameKind)) (l1 l2 : Nat) : Bool := nm.lookup s == some .local && (l1 == l2 && !(scope.names.any fun x => x.1 == s && (x.2 == .local || x.2 == .cell)))
noncomputable def endPos : Expr → Pos
  | .ListComp _ _ _ p => p
  | e => e.pos
noncomputable def namePos : Expr → Pos
  | .Name _ p => p
  | e => e.pos
noncomputable def swF (nm : List (Str × NameKind)) (tg v : Expr) : Bool := (asComp v).any fun c => !((asName tg).any fun n => swB c.2.2 n nm (namePos tg).line (endPos v).line)
noncomputable def IS.isSt : IS → Bool
  | .skip => false
  | .seq _ _ => false
  | _ => true
noncomputable def asH : ExceptHandler → Option (Expr × List Stmt)
  | .ExceptHandler (some e) none b _ => some (e, b)
  | _ => none
theorem asH_ok {h : ExceptHandler} {x} (e : asH h = some x) : ∃ p, h = .ExceptHandler (some x.1) none x.2 p := by
  obtain ⟨t, n, b, p⟩ := h
  cases t with
  | none => cases e
  | some t => cases n with
    | none => cases e; exact ⟨p, rfl⟩
    | some _ => cases e

noncomputable def mS (G : GT) (names : List Str) (nm : List (Str × NameKind)) : IS → (hd rz : Bool) → List Stmt → Bool
  | .skip, hd, rz, ss => emp ss
  | .seq a b, hd, rz, ss => match ss with
    | s :: r => a.isSt && (!b.isSt && (mS G names nm a hd rz [s] && mS G names nm b hd rz r))
    | [] => false
  | .cut a, hd, rz, ss => a.isSt && mS G names nm a hd rz ss
  | .expr e, hd, rz, ss => (one ss).any fun s => Nat.beq (infS s).tag 8 && (infS s).v.any fun v => (noComp v && !e.isL) && mE G names hd e nm [v]
  | .assign t e, hd, rz, ss => (one ss).any fun s => Nat.beq (infS s).tag 1 && (one (infS s).ts).any fun tg => (infS s).v.any fun v => (noStar [tg] && (!t.isL && (!e.isL && ((noComp v || swF nm tg v) && noSwap tg v)))) && (mE G names hd e nm [v] && mT G names hd nm t [tg])
  | .assignC x e, hd, rz, ss => (one ss).any fun s => Nat.beq (infS s).tag 1 && (one (infS s).ts).any fun tg => (infS s).v.any fun v => (asName tg).any fun n => (asComp v).any fun c =>
      (oName names nm x n && !e.isL) && (swB c.2.2 n nm (namePos tg).line (endPos v).line && mE G names hd e nm [v])
  | .aug x o e, hd, rz, ss => (one ss).any fun s => Nat.beq (infS s).tag 2 && (one (infS s).ts).any fun tg => (infS s).v.any fun v => (asName tg).any fun n => (o == (infS s).o && (oName names nm x n && (!e.isL && n != "__classdict__"))) && mE G names hd e nm [v]
  | .ite t a b, hd, rz, ss => (one ss).any fun s => Nat.beq (infS s).tag 5 && (infS s).v.any fun v => (!t.isL && (!a.isSt && !b.isSt)) && (mE G names hd t nm [v] && (mS G names nm a hd rz (infS s).a && mS G names nm b hd rz (infS s).b))
  | .ret e, hd, rz, ss => (one ss).any fun s => Nat.beq (infS s).tag 0 && (infS s).v.any fun v => !e.isL && mE G names hd e nm [v]
  | .dead, hd, rz, ss => true
  | .brk, hd, rz, ss => (one ss).any fun s => Nat.beq (infS s).tag 10
  | .cont, hd, rz, ss => (one ss).any fun s => Nat.beq (infS s).tag 11
  | .pass, hd, rz, ss => (one ss).any fun s => Nat.beq (infS s).tag 9
  | .for_ t it b, hd, rz, ss => (one ss).any fun s => Nat.beq (infS s).tag 3 && (one (infS s).ts).any fun tg => (infS s).v.any fun v => (!hd && (emp (infS s).b && (foldOk v && (!t.isL && (!it.isL && !b.isSt))))) && (mE G names hd it nm [v] && (mT G names hd nm t [tg] && mS G names nm b hd false (infS s).a))
  | .while_ t b, hd, rz, ss => (one ss).any fun s => Nat.beq (infS s).tag 4 && (infS s).v.any fun v => (emp (infS s).b && (!t.isL && !b.isSt)) && (mE G names hd t nm [v] && mS G names nm b hd false (infS s).a)
  | .try_ b x Y h, hd, rz, ss => (one ss).any fun s => Nat.beq (infS s).tag 7 && (one (infS s).h).any fun hh => (asH hh).any fun eb => (asName eb.1).any fun n => (x == n && (gName nm n && (gHas G n (.ty Y) false && (emp (infS s).b && (emp (infS s).c && (!emp eb.2 && (!b.isSt && !h.isSt))))))) && (mS G names nm b hd false (infS s).a && mS G names nm h true false eb.2)
  | .raise_ x Y, hd, rz, ss => (one ss).any fun s => Nat.beq (infS s).tag 6 && (infS s).v.any fun v => (asName v).any fun n => rz && (!hd && (oN (infS s).v2 && (x == n && (gName nm n && gHas G n (.ty Y) false))))
end
section
open PySem PySem.W PyProof.Rows PySem.Calls
noncomputable def QS (names : List Str) (Q : AFl → LN → AHeap → Prop) (a : AFl) (ls : Ls) (H : AHeap) : Prop := ∃ l, Cov names l ls ∧ Q a l H
noncomputable def FlyE (C : Cx) (env : Env) (Fs : List AF) (names : List Str) (X : String) (R : LN → AHeap → Prop) (E : Value → Shared → Prop) : Prop := ∀ l ls e s, Cov names l ls → Fly C (.fr ⟨.fn, env, ls⟩ :: Fs) X (R l) e s → E e s
noncomputable def RzE (C : Cx) (env : Env) (Fs : List AF) (names : List Str) (X : String) (R : LN → AHeap → Prop) (E : Value → Shared → Prop) : Prop := ∀ e s, Err C env Fs X (fun ls H => ∃ l, Cov names l ls ∧ R l H) e s → E e s
noncomputable def SGoal (T : Tr) (env : Env) (ls : Ls) (Fs : List AF) (H : AHeap) (st : Bool) (ss : List Stmt) (Q : AFl → Ls → AHeap → Prop) (E : Value → Shared → Prop) : Prop := match st, ss with
  | true, [s] => AS T env Fs ls H s Q E
  | false, ss => AX T env Fs ls H ss Q E
  | _, _ => True
noncomputable def SSound (G : GT) (names : List Str) (is : IS) : Prop := ∀ {T : Tr} {X : String} {rz : Bool} {env : Env} {ls : Ls} {nm : List (Str × NameKind)} {Fs : List AF} {H : AHeap} {R : LN → AHeap → Prop} {Q : AFl → LN → AHeap → Prop} {E : Value → Shared → Prop} {ss : List Stmt} {l : LN},
  GOk T.C G → env.scope.kind = .function → env.scope.names = nm → mS G names nm is T.hd rz ss = true → Cov names l ls → FlyE T.C env Fs names X R E → (rz = true → RzE T.C env Fs names X R E) → wS is X T l H R Q → SGoal T env ls Fs H is.isSt ss (QS names Q) E
theorem noFlyE {C : Cx} {env : Env} {Fs : List AF} {names : List Str} {X : String} {E : Value → Shared → Prop} : FlyE C env Fs names X noRL E := fun l ls e s _ h => by
  obtain ⟨a, H, s₁, B, a0, x1, x2, x3, x4, x5, x6⟩ := h
  exact x5.elim
section
variable {G : GT} {names : List Str}
theorem SSound.ax {is : IS} (S : SSound G names is) {T : Tr} {X : String} {rz : Bool} {env : Env} {ls : Ls} {nm : List (Str × NameKind)} {Fs : List AF} {H : AHeap} {R : LN → AHeap → Prop} {Q : AFl → LN → AHeap → Prop} {E : Value → Shared → Prop} {ss : List Stmt} {l : LN}
    (hL : is.isSt = false) (GO : GOk T.C G) (hk : env.scope.kind = .function) (hn : env.scope.names = nm) (hm : mS G names nm is T.hd rz ss = true) (cv : Cov names l ls) (hE : FlyE T.C env Fs names X R E) (hR : rz = true → RzE T.C env Fs names X R E) (h : wS is X T l H R Q) : AX T env Fs ls H ss (QS names Q) E := by
  have := S GO hk hn hm cv hE hR h
  rw [hL] at this; exact this
theorem SSound.as {is : IS} (S : SSound G names is) {T : Tr} {X : String} {rz : Bool} {env : Env} {ls : Ls} {nm : List (Str × NameKind)} {Fs : List AF} {H : AHeap} {R : LN → AHeap → Prop} {Q : AFl → LN → AHeap → Prop} {E : Value → Shared → Prop} {s : Stmt} {l : LN}
    (hL : is.isSt = true) (GO : GOk T.C G) (hk : env.scope.kind = .function) (hn : env.scope.names = nm) (hm : mS G names nm is T.hd rz [s] = true) (cv : Cov names l ls) (hE : FlyE T.C env Fs names X R E) (hR : rz = true → RzE T.C env Fs names X R E) (h : wS is X T l H R Q) : AS T env Fs ls H s (QS names Q) E := by
  have := S GO hk hn hm cv hE hR h
  rw [hL] at this; exact this

theorem t_skip : SSound G names .skip := fun {T X rz env ls nm Fs H R Q E ss l} GO hk hn hm cv hE hR h => by
  cases emp_ok hm
  exact AX.nil ⟨l, cv, h⟩
theorem t_seq {a b : IS} (Sa : SSound G names a) (Sb : SSound G names b) : SSound G names (.seq a b) := fun {T X rz env ls nm Fs H R Q E ss l} GO hk hn hm cv hE hR h => by
  cases ss with
  | nil => cases hm
  | cons s r =>
    refine and4 hm fun h1 h2 h3 h4 => ?_
    refine AX.cons (AS.mono (Sa.as h1 GO hk hn h3 cv hE hR h) ?_)
    rintro fl ls' H' ⟨l', cv', h'⟩
    cases fl with
    | next => exact Sb.ax (nL h2) GO hk hn h4 cv' hE hR h'
    | _ => exact ⟨l', cv', h'⟩
theorem subN_get : ∀ {l ls : LN}, SubN l ls → ∀ {x : Nat} {p : PV}, lkN x l = some p → lkN x ls = some p
  | [], _, _, _, _, h => by cases h
  | (y, q) :: l, ls, hs, x, p, h => by
    rw [lkN_cons] at h
    split at h
    · cases h; rename_i e; subst e; exact hs.1
    · exact subN_get hs.2 h
theorem Cov.sub {l l' : LN} {ls : Ls} (cv : Cov names l ls) (h : SubN l' l) : Cov names l' ls := fun x p e => cv x p (subN_get h e)
theorem t_cut {a : IS} (Sa : SSound G names a) : SSound G names (.cut a) := fun {T X rz env ls nm Fs H R Q E ss l} GO hk hn hm cv hE hR h => by
  obtain ⟨h1, hm⟩ := and1 hm
  obtain ⟨α, L, P, h, k⟩ := h
  have := Sa GO hk hn hm cv hE hR h
  rw [h1] at this
  cases ss with
  | nil => trivial
  | cons s r => cases r with
    | cons _ _ => trivial
    | nil =>
      refine AS.mono this ?_
      rintro fl ls' H' ⟨l', cv', h'⟩
      cases fl with
      | next =>
        obtain ⟨b, hs, hp⟩ := h'
        exact ⟨L b, cv'.sub hs, k b H' hp⟩
      | _ => exact ⟨l', cv', h'⟩
theorem t_expr (nd : names.Nodup) (e : IE) : SSound G names (.expr e) := fun {T X rz env ls nm Fs H R Q E ss l} GO hk hn hm cv hE hR h => by
  replace hm := any_some hm
  obtain ⟨s, hs, hm⟩ := hm
  cases one_ok hs
  obtain ⟨h1, hm⟩ := and1 hm
  replace hm := any_some hm
  obtain ⟨v, hv, hm⟩ := hm
  obtain ⟨v', hv', hs'⟩ := infS_at h1
  cases hv'.symm.trans hv
  have hs' : s = .Expr v (infS s).p := hs'
  rw [hs']
  obtain ⟨h2, h3⟩ := and1 hm
  obtain ⟨h2, h4⟩ := and1 h2
  exact AS.exp (swaps_none h2 _ _ _) (AE.mono ((w_sound GO nd e).ae (nL h4) hn h3 cv (fun e s => hE l ls e s cv) h) fun p H' h => ⟨l, cv, h⟩)
theorem swF_ok {env : Env} {nm : List (Str × NameKind)} {tg v : Expr} {line : Nat} (hn : env.scope.names = nm) (h : swF nm tg v = true) : swapsWith v (some tg) line env = pure false := by
  replace h := any_some h
  obtain ⟨c, hc, h⟩ := h
  obtain ⟨p, rfl⟩ := asComp_ok hc
  have h := nL h
  cases tg with
  | Name s p' =>
    have h : swB c.2.2 s nm p'.line p.line = false := h
    unfold swapsWith
    dsimp only
    rw [show env.kindOf s = nm.lookup s by rw [← hn]; rfl]
    cases q : (env.blockKind == ScopeKind.function) with
    | false => rfl
    | true =>
      unfold swB at h
      show (pure (nm.lookup s == some .local && p'.line == p.line && !(c.2.2.names.any fun x => x.1 == s && (x.2 == .local || x.2 == .cell))) : Sem Bool) = pure false
      rw [Bool.and_assoc]
      exact congrArg pure h
  | _ => rfl
theorem t_assign (nd : names.Nodup) (t : IT) (e : IE) : SSound G names (.assign t e) := fun {T X rz env ls nm Fs H R Q E ss l} GO hk hn hm cv hE hR h => by
  replace hm := any_some hm
  obtain ⟨s, hs, hm⟩ := hm
  cases one_ok hs
  obtain ⟨h1, hm⟩ := and1 hm
  replace hm := any_some hm
  obtain ⟨tg, ht, hm⟩ := hm
  replace hm := any_some hm
  obtain ⟨v, hv, hm⟩ := hm
  obtain ⟨v', hv', hs'⟩ := infS_at h1
  cases hv'.symm.trans hv
  have hs' : s = .Assign (infS s).ts v (infS s).p := hs'
  rw [one_ok ht] at hs'
  rw [hs']
  obtain ⟨h2, h3⟩ := and1 hm
  refine and5 h2 fun k1 k2 k3 k4 k5 => ?_
  obtain ⟨h3, h4⟩ := and1 h3
  have hsw : swapsWith v (some tg) (infS s).p.line env = pure false := by
    rcases Bool.or_eq_true_iff.mp k4 with k4 | k4
    · exact swaps_none k4 _ _ _
    · exact swF_ok hn k4
  refine AS.assign1 hsw (noSwap_ok k5 env) (assignEach_plain k1) (AE.mono ((w_sound GO nd e).ae (nL k3) hn h3 cv (fun e s => hE l ls e s cv) h) fun p H' h => ?_)
  have := wT_sound GO nd t hn h4 cv hE h
  rw [nL k2] at this
  exact AA.mono this fun ls' H'' h => h
theorem t_assignC (nd : names.Nodup) (x : Nat) (e : IE) : SSound G names (.assignC x e) := fun {T X rz env ls nm Fs H R Q E ss l} GO hk hn hm cv hE hR h => by
  replace hm := any_some hm
  obtain ⟨s, hs, hm⟩ := hm
  cases one_ok hs
  obtain ⟨h1, hm⟩ := and1 hm
  replace hm := any_some hm
  obtain ⟨tg, ht, hm⟩ := hm
  replace hm := any_some hm
  obtain ⟨v, hv, hm⟩ := hm
  replace hm := any_some hm
  obtain ⟨n, hn', hm⟩ := hm
  replace hm := any_some hm
  obtain ⟨c, hc, hm⟩ := hm
  obtain ⟨v', hv', hs'⟩ := infS_at h1
  cases hv'.symm.trans hv
  have hs' : s = .Assign (infS s).ts v (infS s).p := hs'
  rw [one_ok ht] at hs'
  rw [hs']
  obtain ⟨p', rfl⟩ := asName_ok hn'
  obtain ⟨h2, h3⟩ := and1 hm
  obtain ⟨h2, k1⟩ := and1 h2
  obtain ⟨h3, h4⟩ := and1 h3
  refine and3 h3 fun j1 j2 j3 => ?_
  have g := g_any GO nd (Q := fun p H₁ => Q .next ((x, p) :: l) H₁) hc (nL k1) hn h4 cv (fun e s => hE l ls e s cv) h
  obtain ⟨elt, target, iter, ifs, rest, scope, pos, emit, rfl, hh, sc, hf, sh, g⟩ := g
  cases hc
  refine AS.assignCompG hh hn (cv.storeH nd (p := .none) h2).1 sc (hf env) sh (swaps_true hk hn j1 j2 (nL j3)) (AE.mono g ?_)
  rintro p H₁ ⟨y, hy, I, k, hI, ht⟩
  refine ⟨y, hy, I, k, hI, ht.mono fun out H' ⟨H₂, ex, hp⟩ => ⟨H₂, ex, fun a ha => ?_⟩⟩
  exact ⟨_, (cv.storeH nd h2).2, hp a ha⟩
theorem t_aug (nd : names.Nodup) (x : Nat) (o : Operator) (e : IE) : SSound G names (.aug x o e) := fun {T X rz env ls nm Fs H R Q E ss l} GO hk hn hm cv hE hR h => by
  replace hm := any_some hm
  obtain ⟨s, hs, hm⟩ := hm
  cases one_ok hs
  obtain ⟨h1, hm⟩ := and1 hm
  replace hm := any_some hm
  obtain ⟨tg, ht, hm⟩ := hm
  replace hm := any_some hm
  obtain ⟨v, hv, hm⟩ := hm
  replace hm := any_some hm
  obtain ⟨n, hn', hm⟩ := hm
  obtain ⟨t', v', hv', ht', hs'⟩ := infS_at h1
  cases hv'.symm.trans hv
  have ht' : (infS s).ts = [t'] := ht'
  rw [ht'] at ht
  cases ht
  have hs' : s = .AugAssign tg (infS s).o v (infS s).p := hs'
  rw [hs']
  obtain ⟨p', rfl⟩ := asName_ok hn'
  obtain ⟨h2, h3⟩ := and1 hm
  refine and4 h2 fun k1 k2 k3 k4 => ?_
  rw [← eq_of_beq k1]
  have h : (match lkN x l with
    | some old => w T X e .v l H (R l) fun p H₁ => wAug T o old p H₁ fun r H₂ => Q .next ((x, r) :: l) H₂
    | Option.none => False) := h
  cases q : lkN x l with
  | none => rw [q] at h; exact h.elim
  | some old =>
    rw [q] at h
    refine AS.aug hn (cv.storeH nd (p := .none) k2).1 (cv.get q (eq_of_beq (and1 k2).1)) (AE.mono ((w_sound GO nd e).ae (nL k3) hn h3 cv (fun e s => hE l ls e s cv) h) fun p H₁ h => ?_) (beq_eq_false_iff_ne.mpr (bne_iff_ne.mp k4))
    exact fun A s v w ok R pv pw => wpAny_mono (SBin.to h A s v w ok R pv pw) (fun u s' ⟨p', H', pr, R', k, hq⟩ => ⟨p', H', pr, R', k, _, (cv.storeH nd k2).2, hq⟩) fun _ _ x => x.elim
theorem t_ite (nd : names.Nodup) (t : IE) {a b : IS} (Sa : SSound G names a) (Sb : SSound G names b) : SSound G names (.ite t a b) := fun {T X rz env ls nm Fs H R Q E ss l} GO hk hn hm cv hE hR h => by
  replace hm := any_some hm
  obtain ⟨s, hs, hm⟩ := hm
  cases one_ok hs
  obtain ⟨h1, hm⟩ := and1 hm
  replace hm := any_some hm
  obtain ⟨v, hv, hm⟩ := hm
  obtain ⟨v', hv', hs'⟩ := infS_at h1
  cases hv'.symm.trans hv
  have hs' : s = .If v (infS s).a (infS s).b (infS s).p := hs'
  rw [hs']
  obtain ⟨h2, h3⟩ := and1 hm
  refine and3 h2 fun k1 k2 k3 => ?_
  refine and3 h3 fun h3 h4 h5 => ?_
  refine AS.ite (AT.mono ((w_sound GO nd t).at_ (nL k1) hn h3 cv (fun e s => hE l ls e s cv) h) fun c H₁ h => ?_)
  cases c with
  | true => exact Sa.ax (nL k2) GO hk hn h4 cv hE hR h
  | false => exact Sb.ax (nL k3) GO hk hn h5 cv hE hR h
theorem t_ret (nd : names.Nodup) (e : IE) : SSound G names (.ret e) := fun {T X rz env ls nm Fs H R Q E ss l} GO hk hn hm cv hE hR h => by
  replace hm := any_some hm
  obtain ⟨s, hs, hm⟩ := hm
  cases one_ok hs
  obtain ⟨h1, hm⟩ := and1 hm
  replace hm := any_some hm
  obtain ⟨v, hv, hm⟩ := hm
  have hs' : s = .Return (infS s).v (infS s).p := infS_at h1
  rw [hs', hv]
  obtain ⟨h2, h3⟩ := and1 hm
  exact AS.ret (AE.mono ((w_sound GO nd e).ae (nL h2) hn h3 cv (fun e s => hE l ls e s cv) h) fun p H' h => ⟨l, cv, h⟩)
theorem t_brk : SSound G names .brk := fun {T X rz env ls nm Fs H R Q E ss l} GO hk hn hm cv hE hR h => by
  replace hm := any_some hm
  obtain ⟨s, hs, hm⟩ := hm
  cases one_ok hs
  have hs' : s = .Break (infS s).p := infS_at hm
  rw [hs']
  exact AS.brk ⟨l, cv, h⟩
theorem t_dead : SSound G names .dead := fun {T X rz env ls nm Fs H R Q E ss l} GO hk hn hm cv hE hR h => h.elim
theorem t_cont : SSound G names .cont := fun {T X rz env ls nm Fs H R Q E ss l} GO hk hn hm cv hE hR h => by
  replace hm := any_some hm
  obtain ⟨s, hs, hm⟩ := hm
  cases one_ok hs
  have hs' : s = .Continue (infS s).p := infS_at hm
  rw [hs']
  exact AS.cont ⟨l, cv, h⟩
theorem t_pass : SSound G names .pass := fun {T X rz env ls nm Fs H R Q E ss l} GO hk hn hm cv hE hR h => by
  replace hm := any_some hm
  obtain ⟨s, hs, hm⟩ := hm
  cases one_ok hs
  have hs' : s = .Pass (infS s).p := infS_at hm
  rw [hs']
  exact AS.pass ⟨l, cv, h⟩
theorem loop_ok {J : LN → AHeap → Prop} {J' : Ls → AHeap → Prop} {Q : AFl → LN → AHeap → Prop} (hJ : ∀ l ls H, Cov names l ls → J l H → J' ls H) {a : AFl} {ls : Ls} {H : AHeap} (h : QS names (loopK J Q) a ls H) : LoopQ J' (QS names Q) a ls H := by
  obtain ⟨l, cv, h⟩ := h
  cases a with
  | next => exact hJ l ls H cv h
  | cont => exact hJ l ls H cv h
  | brk => exact ⟨l, cv, h⟩
  | ret p => exact ⟨l, cv, h⟩
theorem t_for (nd : names.Nodup) (t : IT) (it : IE) {b : IS} (Sb : SSound G names b) : SSound G names (.for_ t it b) := fun {T X rz env ls nm Fs H R Q E ss l} GO hk hn hm cv hE hR h => by
  replace hm := any_some hm
  obtain ⟨s, hs, hm⟩ := hm
  cases one_ok hs
  obtain ⟨h1, hm⟩ := and1 hm
  replace hm := any_some hm
  obtain ⟨tg, ht, hm⟩ := hm
  replace hm := any_some hm
  obtain ⟨v, hv, hm⟩ := hm
  obtain ⟨t', v', hv', ht', hs'⟩ := infS_at h1
  cases hv'.symm.trans hv
  have ht' : (infS s).ts = [t'] := ht'
  rw [ht'] at ht
  cases ht
  have hs' : s = .For tg v (infS s).a (infS s).b (infS s).p := hs'
  rw [hs']
  obtain ⟨h2, h3⟩ := and1 hm
  refine and6 h2 fun k1 k2 k3 k4 k5 k6 => ?_
  refine and3 h3 fun h3 h4 h5 => ?_
  rw [emp_ok k2]
  have hh := nL k1
  have A0 := (w_sound GO nd it).ae (nL k5) hn h3 cv (fun e s => hE l ls e s cv) h
  have body : ∀ {Fs' : List AF} {v : PV} {l' : LN} {ls' : Ls} {H' : AHeap} {J : LN → AHeap → Prop} {J' : Ls → AHeap → Prop} {Q : AFl → LN → AHeap → Prop}, Cov names l' ls' → (∀ l ls H, Cov names l ls → J l H → J' ls H) →
      wT T X t v l' H' noRL (fun ls'' H'' => wS b X T ls'' H'' noRL (loopK J Q)) → AA T ⟨.fn, env, ls'⟩ Fs' H' tg v (fun ls₁ H₁ => AX T env Fs' ls₁ H₁ (infS s).a (LoopQ J' (QS names Q)) NoE) NoE := by
    intro Fs' v l' ls' H' J J' Q cv' hJ hw
    have := wT_sound GO nd t (Fs := Fs') (E := NoE) hn h4 cv' noFlyE hw
    rw [nL k4] at this
    exact AA.mono this fun ls₁ H₁ ⟨l₁, cv₁, hx⟩ => AX.mono (Sb.ax (nL k6) GO hk hn h5 cv₁ noFlyE (fun e => by cases e) hx) fun a ls₂ H₂ hq => loop_ok hJ hq
  refine AS.forTail (fun x => fold_ok k3 env x) (AE.mono A0 fun p H₁ h => ?_)
  have h : WFor T p l H₁ (fun v ls' H' K => wT T X t v ls' H' noRL fun ls'' H'' => wS b X T ls'' H'' noRL K) Q := h
  cases h with
  | list a li e1 hl α L J b0 s0 h0 hkp turn fin =>
    refine for_tail hh (it_list ⟨a, li, e1, hl, fun i ls H => ∃ b, Cov names (L b) ls ∧ J i b H, ⟨b0, cv.sub s0, h0⟩, ?_, ?_, ?_⟩)
    · rintro i ls' H' ⟨l', -, hJ⟩; exact hkp i l' H' hJ
    · rintro i v ls' H' Fs' ev ⟨l', cv', hJ⟩
      exact body cv' (fun l ls H c ⟨b, hs, hj⟩ => ⟨b, c.sub hs, hj⟩) (turn i v l' H' ev hJ)
    · rintro ls' H' ⟨l', cv', hJ⟩; exact ⟨L l', cv', fin l' H' hJ⟩
  | grow a e1 hl α L J n b0 s0 h0 turn =>
    refine for_tail hh (it_grow ⟨a, e1, hl, fun n i ls H => ∃ b, Cov names (L b) ls ∧ J n i b H, n, ⟨b0, cv.sub s0, h0⟩, ?_⟩)
    rintro n i ls' H' ⟨l', cv', hJ⟩
    obtain ⟨li, x1, x2, x3⟩ := turn n i l' H' hJ
    exact ⟨li, x1, fun v Fs' ev => body (J := KeepN L fun b2 H₂ => ∃ m, m < n ∧ J m (i + 1) b2 H₂) cv' (fun l ls H c ⟨b2, hs, m, hm, hj⟩ => ⟨m, hm, b2, c.sub hs, hj⟩) (x2 v ev), fun hle => ⟨L l', cv', x3 hle⟩⟩
  | range a n e1 hl hz α L J b0 s0 h0 turn fin =>
    refine for_tail hh (it_range ⟨a, n, e1, hl, hz, fun i ls H => ∃ b, Cov names (L b) ls ∧ J i b H, ⟨b0, cv.sub s0, h0⟩, ?_, ?_⟩)
    · rintro i ls' H' Fs' hi ⟨l', cv', hJ⟩
      exact body cv' (fun l ls H c ⟨b, hs, hj⟩ => ⟨b, c.sub hs, hj⟩) (turn i l' H' hi hJ)
    · rintro ls' H' ⟨l', cv', hJ⟩; exact ⟨L l', cv', fin l' H' hJ⟩
  | set a li e1 hl α L J b0 s0 h0 turn fin =>
    refine set_tail hh ⟨a, li, e1, hl, fun l' hp => ⟨fun i ls H => ∃ b, Cov names (L b) ls ∧ J l' i b H, ⟨b0, cv.sub s0, h0 l' hp⟩, ?_, ?_⟩⟩
    · rintro i q ls' H' Fs' ev ⟨l₂, cv', hJ⟩
      exact AA.mono (body (J' := fun ls H => ∃ b, Cov names (L b) ls ∧ J l' (i + 1) b H) cv' (fun l ls H c ⟨b, hs, hj⟩ => ⟨b, c.sub hs, hj⟩) (turn l' i q l₂ H' hp ev hJ)) fun ls₁ H₁ hx => AX.mono hx fun a ls₂ H₂ hq => by
        cases a with
        | next => exact hq
        | cont => exact hq
        | brk => obtain ⟨_, _, h⟩ := hq; exact h.elim
        | ret p => obtain ⟨_, _, h⟩ := hq; exact h.elim
    · rintro ls' H' ⟨l₂, cv', hJ⟩; exact ⟨L l₂, cv', fin l' l₂ H' hp hJ⟩
theorem t_while (nd : names.Nodup) (t : IE) {b : IS} (Sb : SSound G names b) : SSound G names (.while_ t b) := fun {T X rz env ls nm Fs H R Q E ss l} GO hk hn hm cv hE hR h => by
  replace hm := any_some hm
  obtain ⟨s, hs, hm⟩ := hm
  cases one_ok hs
  obtain ⟨h1, hm⟩ := and1 hm
  replace hm := any_some hm
  obtain ⟨v, hv, hm⟩ := hm
  obtain ⟨v', hv', hs'⟩ := infS_at h1
  cases hv'.symm.trans hv
  have hs' : s = .While v (infS s).a (infS s).b (infS s).p := hs'
  rw [hs']
  obtain ⟨h2, h3⟩ := and1 hm
  refine and3 h2 fun k1 k2 k3 => ?_
  obtain ⟨h3, h4⟩ := and1 h3
  rw [emp_ok k1]
  obtain ⟨α, L, I, n, b0, s0, h0, turn⟩ := h
  refine AS.while_ (fun n ls H => ∃ b, Cov names (L b) ls ∧ I n b H) n ⟨b0, cv.sub s0, h0⟩ ?_
  rintro n ls' H' ⟨l', cv', hI⟩
  refine AT.mono ((w_sound GO nd t).at_ (R := noR) (nL k2) hn h3 cv' (fun e s => noFly) (turn n l' H' hI)) fun c H₁ h => ?_
  cases c with
  | true =>
    rw [if_pos rfl]
    exact AX.mono (Sb.ax (nL k3) GO hk hn h4 cv' noFlyE (fun e => by cases e) h) fun a ls₂ H₂ hq => loop_ok (J := KeepN L fun b2 H₂ => ∃ m, m < n ∧ I m b2 H₂) (fun l ls H c ⟨b2, hs, m, hm, hj⟩ => ⟨m, hm, b2, c.sub hs, hj⟩) hq
  | false =>
    rw [if_neg (by decide)]
    exact ⟨L l', cv', h⟩
theorem t_try (x : Str) (Y : String) {b h' : IS} (Sb : SSound G names b) (Sh : SSound G names h') : SSound G names (.try_ b x Y h') := fun {T X rz env ls nm Fs H R Q E ss l} GO hk hn hm cv hE hR h => by
  replace hm := any_some hm
  obtain ⟨s, hs, hm⟩ := hm
  cases one_ok hs
  obtain ⟨h1, hm⟩ := and1 hm
  replace hm := any_some hm
  obtain ⟨hh, hv, hm⟩ := hm
  replace hm := any_some hm
  obtain ⟨eb, he, hm⟩ := hm
  replace hm := any_some hm
  obtain ⟨n, hn', hm⟩ := hm
  have hs' : s = .Try (infS s).a (infS s).h (infS s).b (infS s).c (infS s).p := infS_at h1
  obtain ⟨p', heb⟩ := asName_ok hn'
  obtain ⟨p'', hhe⟩ := asH_ok he
  obtain ⟨h2, h3⟩ := and1 hm
  refine and8 h2 fun k1 k2 k3 k4 k5 k6 k7 k8 => ?_
  obtain ⟨h3, h4⟩ := and1 h3
  rw [hs', one_ok hv, hhe, heb, emp_ok k4, emp_ok k5]
  obtain ⟨q1, q2, q3⟩ := gName_ok k2
  have g1 := (gHas_ok GO k3).2
  obtain ⟨X', QE, ct, hb, hsu⟩ := h
  cases hc : eb.2 with
  | nil => rw [hc] at k6; cases k6
  | cons b₀ suite =>
    rw [hc] at h4
    refine AS.try_ (X := X') (QE := fun ls' H' => ∃ l', Cov names l' ls' ∧ QE l' H') g1.1 hn q1 g1.2 ct.exc ct.tup ct.sub (fun g => ?_) ?_ q2 q3
    · exact Sb.ax (nL k7) GO hk hn h3 cv (fun l' ls' e s cv' hf => ⟨ls', hf.mono fun H' hq => ⟨l', cv', hq⟩⟩) (fun e => by cases e) hb
    · rintro ls' H' ⟨l', cv', hq⟩
      exact Sh.ax (T := T.inH) (nL k8) GO hk hn h4 cv' noFlyE (fun e => by cases e) (hsu l' H' hq)
theorem t_raise (x : Str) (Y : String) : SSound G names (.raise_ x Y) := fun {T X rz env ls nm Fs H R Q E ss l} GO hk hn hm cv hE hR h => by
  replace hm := any_some hm
  obtain ⟨s, hs, hm⟩ := hm
  cases one_ok hs
  obtain ⟨h1, hm⟩ := and1 hm
  replace hm := any_some hm
  obtain ⟨v, hv, hm⟩ := hm
  replace hm := any_some hm
  obtain ⟨n, hn', hm⟩ := hm
  have hs' : s = .Raise (infS s).v (infS s).v2 (infS s).p := infS_at h1
  obtain ⟨p', rfl⟩ := asName_ok hn'
  refine and6 hm fun k1 k2 k3 k4 k5 k6 => ?_
  rw [hs', hv, oN_ok k3]
  obtain ⟨q1, q2, q3⟩ := gName_ok k5
  have g1 := (gHas_ok GO k6).2
  obtain ⟨rfl, ⟨⟨N, I, okc⟩, oks⟩, h⟩ := h
  exact fun A s ok' R' => wpAny_mono (AS.raiseName (QE := fun ls H => ∃ l, Cov names l ls ∧ R l H) (nL k2) okc oks g1.1 hn q1 g1.2 ⟨l, cv, h⟩ q2 q3 A s ok' R') (fun _ _ x => x) (hR k1)
theorem wS_sound (nd : names.Nodup) (is : IS) : SSound G names is := by
  induction is with
  | skip => exact t_skip
  | seq a b ha hb => exact t_seq ha hb
  | cut a ha => exact t_cut ha
  | expr e => exact t_expr nd e
  | assign t e => exact t_assign nd t e
  | assignC x e => exact t_assignC nd x e
  | aug x o e => exact t_aug nd x o e
  | ite t a b ha hb => exact t_ite nd t ha hb
  | ret e => exact t_ret nd e
  | brk => exact t_brk
  | dead => exact t_dead
  | cont => exact t_cont
  | pass => exact t_pass
  | for_ t it b hb => exact t_for nd t it hb
  | while_ t b hb => exact t_while nd t hb
  | try_ b x Y h hb hh => exact t_try x Y hb hh
  | raise_ x Y => exact t_raise x Y
end
end
section
open PySem PySem.W PyProof.Rows PySem.Calls
noncomputable def zipN : Nat → List PV → LN
  | _, [] => []
  | n, p :: ps => (n, p) :: zipN (n + 1) ps
noncomputable def retK (Q : PV → AHeap → Prop) (a : AFl) (_ : LN) (H : AHeap) : Prop := match a with
  | .next => Q .none H
  | .ret p => Q p H
  | _ => False
section
variable {T : Tr} {X : String} {H : AHeap} {R : AHeap → Prop}
theorem zipN_get {names : List Str} : ∀ {ps : List PV} {n x : Nat} {p : PV}, lkN x (zipN n ps) = some p → ∃ i, x = n + i ∧ ps[i]? = some p
  | [], _, _, _, h => by cases h
  | q :: ps, n, x, p, h => by
    have h : lkN x ((n, q) :: zipN (n + 1) ps) = some p := h
    rw [lkN_cons] at h
    split at h
    · cases h; rename_i e; exact ⟨0, e, rfl⟩
    · obtain ⟨i, e, h⟩ := zipN_get (names := names) h
      exact ⟨i + 1, by omega, by simpa using h⟩
theorem lookup_zip {names : List Str} : ∀ {nms : List Str} {ps : List PV} {i : Nat} {s : Str} {p : PV}, nms.Nodup → nms[i]? = some s → ps[i]? = some p → (nms.zip ps).lookup s = some p
  | [], _, _, _, _, _, h, _ => by simp at h
  | _ :: _, [], _, _, _, _, _, h => by simp at h
  | n :: nms, q :: ps, 0, s, p, _, h, h' => by simp at h h'; subst h; subst h'; exact lk_here
  | n :: nms, q :: ps, i + 1, s, p, nd, h, h' => by
    simp at h h'
    obtain ⟨n1, n2⟩ := List.nodup_cons.mp nd
    have hm : s ∈ nms := List.mem_of_getElem? h
    exact lk_next (beq_eq_false_iff_ne.mpr fun e => n1 (e ▸ hm)) (lookup_zip (names := names) n2 h h')
theorem cov_zip {names nms : List Str} {ps : List PV} (nd : names.Nodup) (hp : names.take nms.length = nms) (hl : ps.length = nms.length) : Cov names (zipN 0 ps) (nms.zip ps) := fun x p h => by
  obtain ⟨i, rfl, hi⟩ := zipN_get (names := names) h
  have hlt := (List.getElem?_eq_some_iff.mp hi).1
  rw [hl] at hlt
  refine ⟨nms[i], ?_, lookup_zip (names := names) (hp ▸ nd.sublist (List.take_sublist _ _)) (List.getElem?_eq_getElem hlt) hi⟩
  have e : nms[i]? = names[0 + i]? := by
    rw [Nat.zero_add]
    conv => lhs; rw [← hp]
    rw [List.getElem?_take, if_pos hlt]
  rw [← e]; exact List.getElem?_eq_getElem hlt

@[irreducible] noncomputable def SCode (T : Tr) (X : String) (g : PV) (ps : List PV) (H : AHeap) (Q : PV → AHeap → Prop) (R : AHeap → Prop) : Prop :=
  ∀ Fs E, (∀ e s, Fly T.C Fs X R e s → E e s) → ACode T Fs H g ps Q E
theorem SCode.call {g : PV} {ps : List PV} {Q Q' : PV → AHeap → Prop} (h : SCode T X g ps H Q R) (hq : ∀ p H, Q p H → Q' p H) : SCall T X g ps H Q' R := by
  unfold SCode at h; unfold SCall
  exact fun Fs E hE => (h Fs E hE).call.mono hq
theorem SCode.mono {g : PV} {ps : List PV} {Q Q' : PV → AHeap → Prop} (h : SCode T X g ps H Q R) (hq : ∀ p H, Q p H → Q' p H) : SCode T X g ps H Q' R := by
  unfold SCode at h ⊢
  exact fun Fs E hE => (h Fs E hE).mono hq fun _ _ x => x
theorem SCode.fn {G : GT} {names nms : List Str} {g : Addr} {fd : FuncData} {body : List Stmt} {ir : IS} {ps : List PV} {Q : PV → AHeap → Prop} (GO : GOk T.C G) (nd : names.Nodup) (D : DefAt T.C.K g fd nms body) (hp : names.take nms.length = nms)
    (hm : mS G names fd.scope.names ir false true body = true) (hs : ir.isSt = false) (hh : T.hd = false) (hn : 1 ≤ T.n) (hl : ps.length = nms.length) (h : wS ir X T.down (zipN 0 ps) H (fun _ H => R H) (retK Q)) : SCode T X (.ref g) ps H Q R := by
  unfold SCode
  intro Fs E hE
  refine ACode.fnE (X := X) (QE := fun ls H => ∃ l, Cov names l ls ∧ R H) D hl hn (fun e s hf => hE e s (hf.mono fun H' ⟨ls, l, cv, hr⟩ => hr)) fun env he => ?_
  have hm : mS G names fd.scope.names ir T.down.hd true body = true := by rw [show T.down.hd = T.hd from rfl, hh]; exact hm
  refine AX.mono (SSound.ax (wS_sound nd ir) (E := Err T.C env Fs X fun ls H => ∃ l, Cov names l ls ∧ R H) hs GO (by rw [he]; exact D.kind) (congrArg Scope.names he) hm (cov_zip nd hp hl) (fun l ls e s cv hf => Err.of_fly hf fun H hr => ⟨l, cv, hr⟩) (fun _ e s hx => hx) h) ?_
  rintro a ls H' ⟨l, cv, hq⟩
  cases a <;> exact hq
theorem SCall.of {g : PV} {ps : List PV} {Q : PV → AHeap → Prop} (h : ∀ Fs, ACall T Fs H g ps Q NoE) : SCall T X g ps H Q R := by
  unfold SCall; exact fun Fs E _ => (h Fs).noE
theorem SCmp.of {op : CmpOp} {p q : PV} {Q : Bool → AHeap → Prop} (h : ∀ Fs, ACmp T Fs H op p q Q NoE) : SCmp T op p q H Q := by unfold SCmp; exact h
theorem STr.of {p : PV} {Q : Bool → AHeap → Prop} (h : ∀ Fs, ATr T Fs H p Q NoE) : STr T p H Q := by unfold STr; exact h
theorem SBin.of {op : Value → Value → Sem Value} {p q : PV} {Q : PV → AHeap → Prop} (h : ∀ Fs, ABin T Fs H op p q Q NoE) : SBin T op p q H Q := by unfold SBin; exact h
theorem SSetItem.of {p i q : PV} {Q : AHeap → Prop} (h : ∀ Fs, ASetItem T Fs H p i q Q NoE) : SSetItem T p i q H Q := by unfold SSetItem; exact h
theorem SMeth.of {x : Str} {p g : PV} (hc : callee T.C.K g = true) (h : ∀ Fs, AMeth T Fs H x p g) : SMeth T x p H g := by unfold SMeth; exact ⟨hc, h⟩
theorem SSub.of {p q : PV} {Q : PV → AHeap → Prop} (h : ∀ Fs value slice, (∀ o i, subscripted slice false o i = operate [o, i] (getItem o i)) → ASub T Fs H value slice p q Q NoE) : SSub T p q H Q := by unfold SSub; exact h

theorem SGet.inst {x c d : Addr} {l : Ls} {name : Str} {p : PV} {Q : PV → AHeap → Prop} (hc : ClsOk T.C.K c) (hn : findIn T.C.K (.ref c) name = some none) (hx : H x = some (.inst c d)) (hd : H d = some (.attrs l)) (hl : l.lookup name = some p) (hp : p.handed = true) (h : Q p H) : SGet T name (.ref x) H Q := by
  unfold SGet; exact fun Fs => AGet.inst hc hn hx hd hl hp h
theorem SMeth.own {x c d g : Addr} {l : Ls} {name : Str} (hg : callee T.C.K (.ref g) = true) (hc : ClsOk T.C.K c) (hf : findIn T.C.K (.ref c) name = some (some (.ref g))) (ht : typeIn T.C.K (.ref g) = some (.type "function")) (hx : H x = some (.inst c d)) (hd : H d = some (.attrs l)) (hl : l.lookup name = none) : SMeth T name (.ref x) H (.ref g) :=
  SMeth.of hg fun Fs => AMeth.own hc hf ht hx hd hl
theorem SSetAttr.inst {x c d : Addr} {l : Ls} {name : Str} {p : PV} {Q : AHeap → Prop} (hc : ClsOk T.C.K c) (hn : findIn T.C.K (.ref c) name = some none) (hx : H x = some (.inst c d)) (hd : H d = some (.attrs l)) (hz : l.length ≤ 10000) (h : Q (upd H d (.attrs ((name, p) :: l)))) : SSetAttr T name (.ref x) p H Q := by
  unfold SSetAttr; exact fun Fs => ASetAttr.inst hc hn hx hd hz h
theorem SSub.list {a : Addr} {l : List PV} {k : Int} {p : PV} {Q : PV → AHeap → Prop} (hH : H a = some (.list l)) (h0 : 0 ≤ k) (hk : k < 2 ^ 63) (hx : l[k.toNat]? = some p) (h : Q p H) : SSub T (.ref a) (.int k) H Q :=
  SSub.of fun Fs v s hs => ASub.list hH h0 hk hx h fun u => hs _ _
theorem SSub.tup {l : List PV} {k : Int} {p : PV} {Q : PV → AHeap → Prop} (h0 : 0 ≤ k) (hk : k < 2 ^ 63) (hx : l[k.toNat]? = some p) (h : Q p H) : SSub T (.tup l) (.int k) H Q :=
  SSub.of fun Fs v s hs => ASub.tup h0 hk hx h fun a u => hs _ _
theorem SSub.dict {d : Addr} {l : List (Pt × PV)} {p : Pt} {q : PV} {Q : PV → AHeap → Prop} (hH : H d = some (.pdict l)) (hl : l.lookup p = some q) (h : Q q H) : SSub T (.ref d) (pt p) H Q :=
  SSub.of fun Fs v s hs => ASub.dict hH hl h fun a => hs _ _
theorem SSetItem.list {a : Addr} {l : List PV} {k : Int} {q : PV} {Q : AHeap → Prop} (hH : H a = some (.list l)) (h0 : 0 ≤ k) (hk : k < l.length) (hz : l.length ≤ 100000) (h : Q (upd H a (.list (l.set k.toNat q)))) : SSetItem T (.ref a) (.int k) q H Q := SSetItem.of fun Fs => ASetItem.list hH h0 hk hz h
theorem SSetItem.dict {d : Addr} {l : List (Pt × PV)} {p : Pt} {q : PV} {Q : AHeap → Prop} (hH : H d = some (.pdict l)) (hz : l.length ≤ 10000) (h : Q (upd H d (.pdict (dput l p q)))) : SSetItem T (.ref d) (pt p) q H Q := SSetItem.of fun Fs => ASetItem.dict hH hz h
theorem SSlice.mk {a : Addr} {l : List PV} {lo hi : Option Int} {Q : PV → AHeap → Prop} (hl : LAt T.C H a l) (hz : l.length ≤ 100000) (h : ∀ c, H c = Option.none → Q (.ref c) (upd H c (.list (pslice l lo hi)))) : SSlice T (.ref a) lo hi H Q := by
  unfold SSlice; exact ⟨a, l, rfl, hl, hz, h⟩
theorem SMeth.append {a : Addr} {l : List PV} (hH : H a = some (.list l)) : SMeth T "append" (.ref a) H (.bi "list.append") := SMeth.of rfl fun Fs => AMeth.listAppend hH
theorem SCall.append {a : Addr} {l : List PV} {p : PV} {Q : PV → AHeap → Prop} (hH : H a = some (.list l)) (hz : l.length ≤ 100000) (h : Q .none (upd H a (.list (l ++ [p])))) : SCall T X (.bi "list.append") [.ref a, p] H Q R := SCall.of fun Fs => ACall.listAppend hH hz h
theorem SMeth.add {a : Addr} {l : List Pt} (hH : H a = some (.pset l)) : SMeth T "add" (.ref a) H (.bi "set.add") := SMeth.of rfl fun Fs => AMeth.setAdd hH
theorem SCall.add {a : Addr} {l : List Pt} (p : Pt) {Q : PV → AHeap → Prop} (hH : H a = some (.pset l)) (hb : InBox p) (h : ∀ l', l'.Nodup → (∀ q, q ∈ l' ↔ q = p ∨ q ∈ l) → Q .none (upd H a (.pset l'))) : SCall T X (.bi "set.add") [.ref a, pt p] H Q R := SCall.of fun Fs => ACall.setAdd hH hb h
theorem SMeth.popS {a : Addr} {l : List Pt} (hH : H a = some (.pset l)) : SMeth T "pop" (.ref a) H (.bi "set.pop") := SMeth.of rfl fun Fs => AMeth.setPop hH
theorem SCall.popS {a : Addr} {l : List Pt} {Q : PV → AHeap → Prop} (hH : H a = some (.pset l)) (hne : l ≠ []) (h : ∀ p l', p ∈ l → l'.Nodup → (∀ q, q ∈ l' ↔ q ∈ l ∧ q ≠ p) → l'.length + 1 = l.length → Q (pt p) (upd H a (.pset l'))) : SCall T X (.bi "set.pop") [.ref a] H Q R := SCall.of fun Fs => ACall.setPop hH hne h
theorem SMeth.update {a : Addr} {l : List Pt} (hH : H a = some (.pset l)) : SMeth T "update" (.ref a) H (.bi "set.update") := SMeth.of rfl fun Fs => AMeth.setUpdate hH
theorem SCall.update {a b : Addr} {l m : List Pt} {Q : PV → AHeap → Prop} (hH : H a = some (.pset l)) (hb : H b = some (.pset m)) (hne : a ≠ b) (h : ∀ l', l'.Nodup → (∀ q, q ∈ l' ↔ q ∈ l ∨ q ∈ m) → Q .none (upd H a (.pset l'))) : SCall T X (.bi "set.update") [.ref a, .ref b] H Q R := SCall.of fun Fs => ACall.setUpdate hH hb hne h
theorem SCall.set0 {Q : PV → AHeap → Prop} (h : ∀ a, H a = Option.none → Q (.ref a) (upd H a (.pset []))) : SCall T X (.ty "set") [] H Q R := SCall.of fun Fs => ACall.setNew h
theorem SCall.lenL {a : Addr} {l : List PV} {Q : PV → AHeap → Prop} (hH : LAt T.C H a l) (hz : l.length ≤ 100000) (h : Q (.int l.length) H) : SCall T X (.bi "len") [.ref a] H Q R := SCall.of fun Fs => ACall.lenList hH hz h
theorem SCall.lenS {a : Addr} {l : List Pt} {Q : PV → AHeap → Prop} (hH : H a = some (.pset l)) (h : Q (.int l.length) H) : SCall T X (.bi "len") [.ref a] H Q R := SCall.of fun Fs => ACall.lenSet hH h
theorem SCall.range1 {n : Int} {Q : PV → AHeap → Prop} (h : ∀ c, H c = Option.none → Q (.ref c) (upd H c (.range 0 n))) : SCall T X (.ty "range") [.int n] H Q R := SCall.of fun Fs => ACall.range1 h
theorem SMeth.popD {d : Addr} {l : List (Pt × PV)} (hH : H d = some (.pdict l)) : SMeth T "pop" (.ref d) H (.bi "dict.pop") := SMeth.of rfl fun Fs => AMeth.dictPop hH
theorem SCall.popD {d : Addr} {l : List (Pt × PV)} (p : Pt) {q : PV} {Q : PV → AHeap → Prop} (hH : H d = some (.pdict l)) (hl : l.lookup p = some q) (hz : l.length ≤ 10000) (h : Q q (upd H d (.pdict (ddel l p)))) : SCall T X (.bi "dict.pop") [.ref d, pt p] H Q R := SCall.of fun Fs => ACall.dictPop hH hl hz h
theorem SCall.cls0 {c : Addr} {Q : PV → AHeap → Prop} (hm : makesIn T.C.K c = true) (hi : findIn T.C.K (.ref c) "__init__" = some (some (.builtin "object.__init__"))) (h : ∀ x d, x ≠ d → H x = none → H d = none → Q (.ref x) (upd (upd H d (.attrs [])) x (.inst c d))) : SCall T X (.ref c) [] H Q R :=
  SCall.of fun Fs => ACode.call (ACode.cls0 hm hi h)
theorem SCall.cls {c fI : Addr} {ps : List PV} {Q : PV → AHeap → Prop} (hm : makesIn T.C.K c = true) (hi : findIn T.C.K (.ref c) "__init__" = some (some (.ref fI))) (ht : typeIn T.C.K (.ref fI) = some (.type "function")) (hn : 1 ≤ T.n)
    (h : ∀ x d, x ≠ d → H x = none → H d = none → SCode T.down X (.ref fI) (.ref x :: ps) (upd (upd H d (.attrs [])) x (.inst c d)) (fun p H' => p = .none ∧ Q (.ref x) H') noR) : SCall T X (.ref c) ps H Q R := by
  refine SCall.of fun Fs => ACode.call (ACode.cls hm hi ht hn fun x d hxd hx hd => ?_)
  have := h x d hxd hx hd
  unfold SCode at this
  exact this Fs NoE fun e s => noFly
theorem SCmp.inD {d : Addr} {l : List (Pt × PV)} (p : Pt) {Q : Bool → AHeap → Prop} (hH : H d = some (.pdict l)) (h : Q (l.lookup p).isSome H) : SCmp T .In (pt p) (.ref d) H Q := SCmp.of fun Fs => ACmp.inDict hH h
theorem SCmp.inS {a : Addr} {l : List Pt} (p : Pt) {Q : Bool → AHeap → Prop} (hH : H a = some (.pset l)) (hb : InBox p) (h : Q (decide (p ∈ l)) H) : SCmp T .In (pt p) (.ref a) H Q := SCmp.of fun Fs => ACmp.inSet hH hb h
theorem SCmp.inL {a : Addr} {l : List PV} {p : PV} {ds : List Dat} {d : Dat} {Q : Bool → AHeap → Prop} (hl : LAt T.C H a l) (hds : All2 (HD T.C H 8) l ds) (hp : HD T.C H 8 p d) (h : ∀ b, (b = true ↔ d ∈ ds) → Q b H) : SCmp T .In p (.ref a) H Q := SCmp.of fun Fs => ACmp.inList hl hds hp h
theorem SCmp.eqD {p q : PV} {d e : Dat} {Q : Bool → AHeap → Prop} (hp : HD T.C H 9 p d) (hq : HD T.C H 9 q e) (h : ∀ b, (b = true ↔ d = e) → Q b H) : SCmp T .Eq p q H Q := SCmp.of fun Fs => ACmp.eqData hp hq h
theorem SCmp.neD {p q : PV} {d e : Dat} {Q : Bool → AHeap → Prop} (hp : HD T.C H 9 p d) (hq : HD T.C H 9 q e) (h : ∀ b, (b = true ↔ d ≠ e) → Q b H) : SCmp T .NotEq p q H Q := SCmp.of fun Fs => ACmp.neData hp hq h
theorem SCmp.neB {a b : Bool} {Q : Bool → AHeap → Prop} (h : Q (a != b) H) : SCmp T .NotEq (.bool a) (.bool b) H Q := SCmp.of fun Fs => ACmp.neBool h
theorem SCmp.eqD0 {a b : Addr} {l : List (Pt × PV)} {Q : Bool → AHeap → Prop} (ha : H a = some (.pdict l)) (hb : H b = some (.pdict [])) (h : Q l.isEmpty H) : SCmp T .Eq (.ref a) (.ref b) H Q := SCmp.of fun Fs => ACmp.eqDictNil ha hb h
theorem STr.list {a : Addr} {l : List PV} {Q : Bool → AHeap → Prop} (hH : LAt T.C H a l) (hz : l.length ≤ 100000) (h : Q (!l.isEmpty) H) : STr T (.ref a) H Q := STr.of fun Fs => ATr.list hH hz h
theorem STr.set {a : Addr} {l : List Pt} {Q : Bool → AHeap → Prop} (hH : H a = some (.pset l)) (h : Q (!l.isEmpty) H) : STr T (.ref a) H Q := STr.of fun Fs => ATr.set hH h
theorem SBin.addL {a b : Addr} {l m : List PV} {Q : PV → AHeap → Prop} (hl : LAt T.C H a l) (hm : LAt T.C H b m) (hz : l.length + m.length ≤ 100000) (h : ∀ c, H c = Option.none → Q (.ref c) (upd H c (.list (l ++ m)))) : SBin T (binaryOp .Add) (.ref a) (.ref b) H Q := SBin.of fun Fs => ABin.addList hl hm hz h
theorem SBin.mulL {a : Addr} {p : PV} {n : Int} {Q : PV → AHeap → Prop} (hH : H a = some (.list [p])) (h0 : 0 ≤ n) (hn : n ≤ 100000) (h : ∀ c, H c = Option.none → Q (.ref c) (upd H c (.list (List.replicate n.toNat p)))) : SBin T (binaryOp .Mult) (.ref a) (.int n) H Q := SBin.of fun Fs => ABin.mulList hH h0 hn h
theorem SBin.iaddL {a b : Addr} {l m : List PV} {Q : PV → AHeap → Prop} (hl : H a = some (.list l)) (hm : H b = some (.list m)) (hz : l.length + m.length ≤ 100000) (h : Q (.ref a) (upd H a (.list (l ++ m)))) : SBin T (inplaceOp .Add) (.ref a) (.ref b) H Q := SBin.of fun Fs => ABin.iaddList hl hm hz h
theorem br_dec {φ A B : Prop} [Decidable φ] (h : φ → A) (h' : ¬ φ → B) : cond (decide φ) A B := by
  by_cases hp : φ
  · rw [decide_eq_true hp]; exact h hp
  · rw [decide_eq_false hp]; exact h' hp
theorem br_ndec {φ A B : Prop} [Decidable φ] (h : ¬ φ → A) (h' : φ → B) : cond (!decide φ) A B := by
  by_cases hp : φ
  · rw [decide_eq_true hp]; exact h' hp
  · rw [decide_eq_false hp]; exact h hp
theorem br {b : Bool} {A B : Prop} (h : b = true → A) (h' : b = false → B) : cond b A B := by
  cases b with
  | true => exact h rfl
  | false => exact h' rfl
theorem br_beq {α : Type} [BEq α] [LawfulBEq α] {a b : α} {A B : Prop} (h : a = b → A) (h' : a ≠ b → B) : cond (a == b) A B := br (fun e => h (eq_of_beq e)) fun e => h' (beq_eq_false_iff_ne.mp e)
theorem br_bne {α : Type} [BEq α] [LawfulBEq α] {a b : α} {A B : Prop} (h : a ≠ b → A) (h' : a = b → B) : cond (a != b) A B := br (fun e => h (bne_iff_ne.mp e)) fun e => h' (by
  by_cases q : a = b
  · exact q
  · rw [bne_iff_ne.mpr q] at e; cases e)
theorem M.append {a : Addr} {l : List PV} {p : PV} {Q : PV → AHeap → Prop} (hH : H a = some (.list l)) (hz : l.length ≤ 100000) (h : Q .none (upd H a (.list (l ++ [p])))) : ∃ g, SMeth T "append" (.ref a) H g ∧ SCall T X g [.ref a, p] H Q R := ⟨_, SMeth.append hH, SCall.append hH hz h⟩
theorem M.add {a : Addr} {l : List Pt} (p : Pt) {Q : PV → AHeap → Prop} (hH : H a = some (.pset l)) (hb : InBox p) (h : ∀ l', l'.Nodup → (∀ q, q ∈ l' ↔ q = p ∨ q ∈ l) → Q .none (upd H a (.pset l'))) : ∃ g, SMeth T "add" (.ref a) H g ∧ SCall T X g [.ref a, pt p] H Q R := ⟨_, SMeth.add hH, SCall.add p hH hb h⟩
theorem M.popS {a : Addr} {l : List Pt} {Q : PV → AHeap → Prop} (hH : H a = some (.pset l)) (hne : l ≠ []) (h : ∀ p l', p ∈ l → l'.Nodup → (∀ q, q ∈ l' ↔ q ∈ l ∧ q ≠ p) → l'.length + 1 = l.length → Q (pt p) (upd H a (.pset l'))) : ∃ g, SMeth T "pop" (.ref a) H g ∧ SCall T X g [.ref a] H Q R := ⟨_, SMeth.popS hH, SCall.popS hH hne h⟩
theorem M.popD {d : Addr} {l : List (Pt × PV)} (p : Pt) {q : PV} {Q : PV → AHeap → Prop} (hH : H d = some (.pdict l)) (hl : l.lookup p = some q) (hz : l.length ≤ 10000) (h : Q q (upd H d (.pdict (ddel l p)))) : ∃ g, SMeth T "pop" (.ref d) H g ∧ SCall T X g [.ref d, pt p] H Q R := ⟨_, SMeth.popD hH, SCall.popD p hH hl hz h⟩
theorem M.own {x : PV} {m : Str} {g : PV} {ps : List PV} {Q : PV → AHeap → Prop} (h : SMeth T m x H g) (hc : SCall T X g (x :: ps) H Q R) : ∃ g, SMeth T m x H g ∧ SCall T X g (x :: ps) H Q R := ⟨_, h, hc⟩
end
end
section
open PySem PySem.W PyProof.Rows PySem.Calls
section
variable {T : Tr} {X : String} {H : AHeap} {R : AHeap → Prop}
theorem SSub.pt0 {z : Pt} {Q : PV → AHeap → Prop} (h : Q (.int z.1) H) : SSub T (pt z) (.int 0) H Q := SSub.tup (l := [.int z.1, .int z.2]) (by decide) (by decide) rfl h
theorem SSub.pt1 {z : Pt} {Q : PV → AHeap → Prop} (h : Q (.int z.2) H) : SSub T (pt z) (.int 1) H Q := SSub.tup (l := [.int z.1, .int z.2]) (by decide) (by decide) rfl h
theorem SCmp.inD' {d : Addr} {l : List (Pt × PV)} (p : Pt) (b : Bool) {Q : Bool → AHeap → Prop} (hH : H d = some (.pdict l)) (hb : (l.lookup p).isSome = b) (h : Q b H) : SCmp T .In (pt p) (.ref d) H Q := SCmp.inD p hH (hb ▸ h)
theorem br_str {b : Bool} {s1 s2 : Str} {ls : LN} {Q : PV → AHeap → Prop} (h : ∀ s, s = s1 ∨ s = s2 → Q (.str s) H) : cond b (w T X (.str s1) .v ls H R Q) (w T X (.str s2) .v ls H R Q) := by
  cases b with
  | true => exact h s1 (.inl rfl)
  | false => exact h s2 (.inr rfl)
theorem w_var {x : Nat} {ls : LN} {p : PV} {Q : PV → AHeap → Prop} (h : lkN x ls = some p) (hq : Q p H) : w T X (.var x) .v ls H R Q := by
  show (match lkN x ls with
    | some p => wFin T .v Q p H
    | Option.none => False)
  rw [h]; exact hq
theorem br_var {b : Bool} {x y : Nat} {p1 p2 : PV} {ls : LN} {Q : PV → AHeap → Prop} (h1 : lkN x ls = some p1) (h2 : lkN y ls = some p2) (h : ∀ p, p = cond b p1 p2 → Q p H) : cond b (w T X (.var x) .v ls H R Q) (w T X (.var y) .v ls H R Q) := by
  cases b with
  | true => exact w_var (X := X) (R := R) h1 (h p1 rfl)
  | false => exact w_var (X := X) (R := R) h2 (h p2 rfl)
theorem wS_seq {a b : IS} {ls : LN} {R : LN → AHeap → Prop} {Q : AFl → LN → AHeap → Prop} (h : wS a X T ls H R fun fl ls' H' => match fl with
    | .next => wS b X T ls' H' R Q
    | fl => Q fl ls' H') : wS (.seq a b) X T ls H R Q := h
theorem wS_ite {t : IE} {a b : IS} {ls : LN} {R : LN → AHeap → Prop} {Q : AFl → LN → AHeap → Prop} (h : w T X t .t ls H (R ls) fun p H₁ => match p with
    | .bool c => cond c (wS a X T ls H₁ R Q) (wS b X T ls H₁ R Q)
    | _ => False) : wS (.ite t a b) X T ls H R Q := h
theorem divOk {a : Int} {n : Nat} (h0 : 0 < n) (h5 : n ≤ 1000) : ((n : Int) ≠ 0 ∧ Builtin.divisionGoesByPylong a (n : Int) = false) := ⟨by omega, pylong_small (by omega) (by omega)⟩
theorem law_ax {C : Cx} {G : GT} {names : List Str} {g : Addr} {fd : FuncData} {body : List Stmt} {ir : IS} {X : String} (GO : GOk C G) (nd : names.Nodup) (D : DefAt C.K g fd ["script"] body) (hp : names.take 1 = [("script" : Str)])
    (hm : mS G names fd.scope.names ir false true body = true) (hs : ir.isSt = false) (h : wS ir X ⟨C, 30, false⟩ [(0, .ref C.scA)] (fun _ => Option.none) noRL (fun a _ _ => a = .ret (.bool true))) :
    ∀ env, env.scope = fd.scope → AX ⟨C, 30, false⟩ env [] [("script", .ref C.scA)] (fun _ => Option.none) body (fun a _ _ => a = .ret (.bool true)) NoE := fun env he => by
  refine AX.mono (SSound.ax (wS_sound nd ir) (T := ⟨C, 30, false⟩) (E := NoE) hs GO (by rw [he]; exact D.kind) (congrArg Scope.names he) hm (cov_zip (nms := [("script" : Str)]) (ps := [.ref C.scA]) nd hp rfl) noFlyE (fun _ e s hx => by
    rcases hx with ⟨a, ls, H, s₁, _, _, _, _, ⟨l, cv, hx⟩, _⟩ | ⟨ls, a, H, s₁, B, a0, x1, x2, x3, x4, ⟨l, cv, hx⟩, x6⟩
    · exact hx.elim
    · exact hx.elim) h) ?_
  rintro a ls H' ⟨l, cv, hq⟩
  exact hq
end
end
section
open PySem
noncomputable def inG (n : Nat) (p : Pt) : Prop := (0 ≤ p.1 ∧ p.1 < n) ∧ 0 ≤ p.2 ∧ p.2 < n
noncomputable def nb (p : Pt) : List Pt := [(p.1 - 1, p.2), (p.1 + 1, p.2), (p.1, p.2 - 1), (p.1, p.2 + 1)]
theorem nb_symm {p q : Pt} (h : q ∈ nb p) : p ∈ nb q := by
  obtain ⟨a, b⟩ := p
  have s (x : Int) : x - 1 + 1 = x := Int.sub_add_cancel x 1
  have t (x : Int) : x + 1 - 1 = x := Int.add_sub_cancel x 1
  have one : ∀ {z : Pt} {l : List Pt}, z ∈ l → ∀ y : Pt, y = z → y ∈ l := fun h _ e => e ▸ h
  rcases List.mem_cons.mp h with rfl | h
  · exact one (.tail _ (.head _)) _ (by show (a, b) = (a - 1 + 1, b); rw [s])
  rcases List.mem_cons.mp h with rfl | h
  · exact one (.head _) _ (by show (a, b) = (a + 1 - 1, b); rw [t])
  rcases List.mem_cons.mp h with rfl | h
  · exact one (.tail _ (.tail _ (.tail _ (.head _)))) _ (by show (a, b) = (a, b - 1 + 1); rw [s])
  · rw [List.mem_singleton.mp h]
    exact one (.tail _ (.tail _ (.head _))) _ (by show (a, b) = (a, b + 1 - 1); rw [t])
noncomputable def grid (n : Nat) : List Pt := (List.range n).flatMap fun i : Nat => (List.range n).map fun j : Nat => (((i : Int), (j : Int)) : Pt)
theorem mem_grid {n : Nat} {p : Pt} : p ∈ grid n ↔ inG n p := by
  obtain ⟨a, b⟩ := p
  simp only [grid, inG, List.mem_flatMap, List.mem_map, List.mem_range, Prod.mk.injEq]
  constructor
  · rintro ⟨i, hi, j, hj, rfl, rfl⟩; omega
  · rintro ⟨⟨h1, h2⟩, h3, h4⟩; exact ⟨a.toNat, by omega, b.toNat, by omega, by omega, by omega⟩
theorem grid_length {n : Nat} : (grid n).length = n * n := by
  simp only [grid, List.length_flatMap, List.length_map, List.length_range]
  rw [List.map_const', List.length_range, List.sum_replicate_nat]
theorem filter_lt {l : List Pt} {f g : Pt → Bool} (h : ∀ x, g x = true → f x = true) {q : Pt} (hq : q ∈ l) (h1 : f q = true) (h2 : g q = false) : (l.filter g).length < (l.filter f).length := by
  induction l with
  | nil => cases hq
  | cons y l ih =>
    have le : ∀ l : List Pt, (l.filter g).length ≤ (l.filter f).length := fun l => by
      induction l with
      | nil => simp
      | cons z l ih2 =>
        rw [List.filter_cons, List.filter_cons]
        cases hg : g z
        · rw [if_neg (by decide)]; split
          · rw [List.length_cons]; omega
          · exact ih2
        · rw [if_pos rfl, if_pos (h z hg), List.length_cons, List.length_cons]; omega
    rw [List.filter_cons, List.filter_cons]
    rcases List.mem_cons.mp hq with rfl | hq
    · rw [h1, h2]; have := le l; simp; omega
    · have := ih hq
      cases hg : g y
      · rw [if_neg (by decide)]; split
        · rw [List.length_cons]; omega
        · exact this
      · rw [if_pos rfl, if_pos (h y hg), List.length_cons, List.length_cons]; omega
theorem nodup_le {l m : List Pt} (hn : l.Nodup) (h : ∀ x ∈ l, x ∈ m) : l.length ≤ m.length := by
  induction l generalizing m with
  | nil => simp
  | cons y l ih =>
    obtain ⟨h1, h2⟩ := List.nodup_cons.mp hn
    have hy := h y (.head _)
    have := ih (m := m.erase y) h2 fun x hx => (List.mem_erase_of_ne (fun e : x = y => h1 (e ▸ hx))).mpr (h x (.tail _ hx))
    rw [List.length_erase_of_mem hy] at this
    have : 0 < m.length := List.length_pos_of_mem hy
    simp; omega
noncomputable def left (n : Nat) (P : List Pt) : Nat := ((grid n).filter fun z => !decide (z ∈ P)).length
theorem left_lt {n : Nat} {P P₁ : List Pt} {q : Pt} (hq : inG n q) (h1 : q ∉ P) (h2 : q ∈ P₁) (h3 : ∀ z ∈ P, z ∈ P₁) : left n P₁ < left n P := by
  refine filter_lt (q := q) (fun x hx => ?_) (mem_grid.mpr hq) (by simp [h1]) (by simp [h2])
  simp only [Bool.not_eq_true', decide_eq_false_iff_not] at hx ⊢
  exact fun hp => hx (h3 x hp)

inductive Reach (n : Nat) (G : Pt → Option Str) (c : Str) (p : Pt) : Pt → Prop
  | refl : inG n p → G p = some c → Reach n G c p p
  | step {q z : Pt} : Reach n G c p q → z ∈ nb q → inG n z → G z = some c → Reach n G c p z
section
variable {n : Nat} {G : Pt → Option Str} {c : Str} {p q z : Pt}
theorem Reach.inG (h : Reach n G c p q) : inG n q := by cases h <;> assumption
theorem Reach.col (h : Reach n G c p q) : G q = some c := by cases h <;> assumption
theorem Reach.start (h : Reach n G c p q) : AM.inG n p ∧ G p = some c := by
  induction h with
  | refl a b => exact ⟨a, b⟩
  | step _ _ _ _ ih => exact ih
theorem Reach.trans (h : Reach n G c p q) (h' : Reach n G c q z) : Reach n G c p z := by
  induction h' with
  | refl a b => exact h
  | step _ a b e ih => exact ih.step a b e
theorem Reach.symm (h : Reach n G c p q) : Reach n G c q p := by
  induction h with
  | refl a b => exact .refl a b
  | step h1 a b e ih => exact Reach.trans (.step (.refl b e) (nb_symm a) h1.inG h1.col) ih
noncomputable def Free (n : Nat) (G : Pt → Option Str) (q : Pt) : Prop := ∃ z ∈ nb q, inG n z ∧ G z = none
noncomputable def Surr (n : Nat) (G : Pt → Option Str) (c : Str) (p : Pt) : Prop := ∀ q, Reach n G c p q → ¬ Free n G q

structure MG (n : Nat) (G : Pt → Option Str) (c : Str) (p : Pt) (P W : List Pt) (sur : Bool) : Prop where
  start : p ∈ P ∨ p ∈ W
  reach : ∀ q, q ∈ P ∨ q ∈ W → Reach n G c p q
  closed : ∀ q ∈ P, ∀ z ∈ nb q, AM.inG n z → G z = some c → z ∈ P ∨ z ∈ W
  sur : sur = true ↔ ∀ q ∈ P, ¬ Free n G q
  apart : ∀ q ∈ P, q ∉ W
structure MI (n : Nat) (G : Pt → Option Str) (c : Str) (q : Pt) (P₁ W₁ : List Pt) (sur : Bool) (done : List Pt) (W' : List Pt) (sur' : Bool) : Prop where
  sub : ∀ z ∈ W₁, z ∈ W'
  new : ∀ z ∈ W', z ∈ W₁ ∨ (z ∈ nb q ∧ AM.inG n z ∧ G z = some c ∧ z ∉ P₁)
  all : ∀ z ∈ done, AM.inG n z → G z = some c → z ∈ P₁ ∨ z ∈ W'
  sur : sur' = true ↔ sur = true ∧ ∀ z ∈ done, ¬ (AM.inG n z ∧ G z = none)
variable {P P₁ W W₁ W' W'' : List Pt} {sur sur' : Bool} {dn : List Pt}
theorem MI.nil : MI n G c q P₁ W₁ sur [] W₁ sur := ⟨fun _ h => h, fun _ h => .inl h, fun _ h => by simp at h, by simp⟩
theorem MI.skip (h : MI n G c q P₁ W₁ sur dn W' sur') (hz : AM.inG n z → G z ≠ none ∧ (G z = some c → z ∈ P₁)) : MI n G c q P₁ W₁ sur (dn ++ [z]) W' sur' := by
  refine ⟨h.sub, h.new, fun y hy hg hc => ?_, ?_⟩
  · rcases List.mem_append.mp hy with hy | hy
    · exact h.all y hy hg hc
    · rw [List.mem_singleton.mp hy] at hg hc ⊢; exact .inl ((hz hg).2 hc)
  · rw [h.sur]
    constructor
    · rintro ⟨a, b⟩
      refine ⟨a, fun y hy ⟨hg, hn⟩ => ?_⟩
      rcases List.mem_append.mp hy with hy | hy
      · exact b y hy ⟨hg, hn⟩
      · rw [List.mem_singleton.mp hy] at hg hn; exact (hz hg).1 hn
    · rintro ⟨a, b⟩; exact ⟨a, fun y hy => b y (List.mem_append_left _ hy)⟩
theorem MI.free (h : MI n G c q P₁ W₁ sur dn W' sur') (hg : AM.inG n z) (hn : G z = none) : MI n G c q P₁ W₁ sur (dn ++ [z]) W' false := by
  refine ⟨h.sub, h.new, fun y hy hg hc => ?_, ?_⟩
  · rcases List.mem_append.mp hy with hy | hy
    · exact h.all y hy hg hc
    · rw [List.mem_singleton.mp hy, hn] at hc; cases hc
  · constructor
    · intro q; cases q
    · rintro ⟨a, b⟩; exact absurd ⟨hg, hn⟩ (b z (by simp))
theorem MI.more (h : MI n G c q P₁ W₁ sur dn W' sur') (hb : z ∈ nb q) (hg : AM.inG n z) (hc : G z = some c) (hp : z ∉ P₁) (hw : ∀ y, y ∈ W'' ↔ y = z ∨ y ∈ W') : MI n G c q P₁ W₁ sur (dn ++ [z]) W'' sur' := by
  refine ⟨fun y hy => (hw y).mpr (.inr (h.sub y hy)), fun y hy => ?_, fun y hy hg' hc' => ?_, ?_⟩
  · rcases (hw y).mp hy with rfl | hy
    · exact .inr ⟨hb, hg, hc, hp⟩
    · exact h.new y hy
  · rcases List.mem_append.mp hy with hy | hy
    · exact (h.all y hy hg' hc').imp id fun e => (hw y).mpr (.inr e)
    · exact .inr ((hw y).mpr (.inl (List.mem_singleton.mp hy)))
  · rw [h.sur]
    constructor
    · rintro ⟨a, b⟩
      refine ⟨a, fun y hy ⟨hg', hn⟩ => ?_⟩
      rcases List.mem_append.mp hy with hy | hy
      · exact b y hy ⟨hg', hn⟩
      · rw [List.mem_singleton.mp hy, hc] at hn; cases hn
    · rintro ⟨a, b⟩; exact ⟨a, fun y hy => b y (List.mem_append_left _ hy)⟩
theorem MG.first (hg : AM.inG n p) (hc : G p = some c) (hw : ∀ y, y ∈ W ↔ y = p ∨ y ∈ ([] : List Pt)) : MG n G c p [] W true := by
  have hp : p ∈ W := (hw p).mpr (.inl rfl)
  refine ⟨.inr hp, fun q h => ?_, fun q h => by simp at h, by simp, fun q h => by simp at h⟩
  rcases h with h | h
  · simp at h
  · have := (hw q).mp h
    simp at this; subst this; exact .refl hg hc
theorem MG.turn (h : MG n G c p P W sur) (hq : q ∈ W) (hw : ∀ y, y ∈ W₁ ↔ y ∈ W ∧ y ≠ q) (hp : ∀ y, y ∈ P₁ ↔ y = q ∨ y ∈ P) (hi : MI n G c q P₁ W₁ sur (nb q) W' sur') : MG n G c p P₁ W' sur' := by
  have hr : Reach n G c p q := h.reach q (.inr hq)
  have hp1 : ∀ y ∈ P, y ∈ P₁ := fun y hy => (hp y).mpr (.inr hy)
  have tr : ∀ y, y ∈ P ∨ y ∈ W → y ∈ P₁ ∨ y ∈ W' := fun y hy => by
    rcases hy with hy | hy
    · exact .inl (hp1 y hy)
    · by_cases e : y = q
      · exact .inl ((hp y).mpr (.inl e))
      · exact .inr (hi.sub y ((hw y).mpr ⟨hy, e⟩))
  refine ⟨tr p h.start, fun y hy => ?_, fun y hy z hz hg hc => ?_, ?_, fun y hy hy' => ?_⟩
  · rcases hy with hy | hy
    · rcases (hp y).mp hy with rfl | hy
      · exact hr
      · exact h.reach y (.inl hy)
    · rcases hi.new y hy with hy | ⟨a, b, e, _⟩
      · exact h.reach y (.inr ((hw y).mp hy).1)
      · exact hr.step a b e
  · rcases (hp y).mp hy with rfl | hy
    · exact hi.all z hz hg hc
    · exact tr z (h.closed y hy z hz hg hc)
  · rw [hi.sur, h.sur]
    constructor
    · rintro ⟨a, b⟩ y hy
      rcases (hp y).mp hy with rfl | hy
      · rintro ⟨z, hz, e⟩; exact b z hz e
      · exact a y hy
    · intro a
      refine ⟨fun y hy => a y (hp1 y hy), fun z hz e => a q ((hp q).mpr (.inl rfl)) ⟨z, hz, e⟩⟩
  · rcases hi.new y hy' with hw' | ⟨_, _, _, e⟩
    · obtain ⟨hw', hne⟩ := (hw y).mp hw'
      rcases (hp y).mp hy with rfl | hy
      · exact hne rfl
      · exact h.apart y hy hw'
    · exact e hy
theorem MG.done (h : MG n G c p P [] sur) : (∀ q, q ∈ P ↔ Reach n G c p q) ∧ (sur = true ↔ Surr n G c p) := by
  have h1 : ∀ q, q ∈ P ↔ Reach n G c p q := fun q => by
    refine ⟨fun hq => h.reach q (.inl hq), fun hr => ?_⟩
    induction hr with
    | refl a b => exact h.start.resolve_right (by simp)
    | step _ a b e ih => exact (h.closed _ ih _ a b e).resolve_right (by simp)
  refine ⟨h1, h.sur.trans ?_⟩
  unfold Surr
  exact ⟨fun a q hq => a q ((h1 q).mpr hq), fun a q hq => a q ((h1 q).mp hq)⟩
theorem MG.left_lt (h : MG n G c p P W sur) (hq : q ∈ W) (hp : ∀ y, y ∈ P₁ ↔ y = q ∨ y ∈ P) : left n P₁ < left n P :=
  AM.left_lt (h.reach q (.inr hq)).inG (fun e => h.apart q e hq) ((hp q).mpr (.inl rfl)) fun z hz => (hp z).mpr (.inr hz)
end
end
section
open PySem
section
variable {n : Nat} {G : Pt → Option Str} {c : Str} {p q z : Pt}
theorem Surr.of_reach (h : Surr n G c p) (r : Reach n G c p q) : Surr n G c q := fun y hy => h y (r.trans hy)
structure IsGrp (n : Nat) (G : Pt → Option Str) (z : Pt) (A : Str × List Pt) : Prop where
  inG : AM.inG n z
  col : G z = some A.1
  mem : ∀ q, q ∈ A.2 ↔ Reach n G A.1 z q
  nodup : A.2.Nodup
theorem IsGrp.self {A : Str × List Pt} (h : IsGrp n G z A) : z ∈ A.2 := (h.mem z).mpr (.refl h.inG h.col)
structure FSI (n : Nat) (G : Pt → Option Str) (dn : List Pt) (L : List (Str × List Pt)) (hdl : List Pt) : Prop where
  grp : ∀ A ∈ L, ∃ z ∈ dn, IsGrp n G z A ∧ Surr n G A.1 z
  apart : L.Pairwise fun A B => ∀ q ∈ A.2, q ∉ B.2
  seen : ∀ z ∈ dn, AM.inG n z → G z ≠ none → z ∈ hdl
  from_ : ∀ q ∈ hdl, ∃ c z, z ∈ dn ∧ Reach n G c z q
  closed : ∀ q ∈ hdl, ∀ c z, Reach n G c q z → z ∈ hdl
  sub : ∀ A ∈ L, ∀ q ∈ A.2, q ∈ hdl
  all : ∀ z ∈ dn, AM.inG n z → ∀ c, G z = some c → Surr n G c z → ∃ P, (c, P) ∈ L ∧ z ∈ P
variable {dn : List Pt} {L : List (Str × List Pt)} {hdl hdl' : List Pt}
theorem FSI.nil : FSI n G [] [] [] := ⟨by simp, by simp, by simp, by simp, by simp, by simp, by simp⟩
theorem FSI.skip (h : FSI n G dn L hdl) (hz : AM.inG n z → G z = none) : FSI n G (dn ++ [z]) L hdl := by
  refine ⟨fun A hA => ?_, h.apart, fun y hy hg hn => ?_, fun q hq => ?_, h.closed, h.sub, fun y hy hg c hc hs => ?_⟩
  · obtain ⟨y, hy, e⟩ := h.grp A hA; exact ⟨y, List.mem_append_left _ hy, e⟩
  · rcases List.mem_append.mp hy with hy | hy
    · exact h.seen y hy hg hn
    · rw [List.mem_singleton.mp hy] at hg hn; exact absurd (hz hg) hn
  · obtain ⟨c, y, hy, e⟩ := h.from_ q hq; exact ⟨c, y, List.mem_append_left _ hy, e⟩
  · rcases List.mem_append.mp hy with hy | hy
    · exact h.all y hy hg c hc hs
    · rw [List.mem_singleton.mp hy] at hg hc; rw [hz hg] at hc; cases hc
theorem FSI.again (h : FSI n G dn L hdl) (hz : z ∈ hdl) : FSI n G (dn ++ [z]) L hdl := by
  refine ⟨fun A hA => ?_, h.apart, fun y hy hg hn => ?_, fun q hq => ?_, h.closed, h.sub, fun y hy hg c hc hs => ?_⟩
  · obtain ⟨y, hy, e⟩ := h.grp A hA; exact ⟨y, List.mem_append_left _ hy, e⟩
  · rcases List.mem_append.mp hy with hy | hy
    · exact h.seen y hy hg hn
    · rw [List.mem_singleton.mp hy]; exact hz
  · obtain ⟨c, y, hy, e⟩ := h.from_ q hq; exact ⟨c, y, List.mem_append_left _ hy, e⟩
  · rcases List.mem_append.mp hy with hy | hy
    · exact h.all y hy hg c hc hs
    · rw [List.mem_singleton.mp hy] at hg hc hs ⊢
      obtain ⟨c', y', hy', e⟩ := h.from_ z hz
      have : c = c' := Option.some.inj (hc.symm.trans e.col)
      subst this
      obtain ⟨P, hP, hm⟩ := h.all y' hy' e.start.1 c e.start.2 (hs.of_reach e.symm)
      obtain ⟨w, _, hw, _⟩ := h.grp _ hP
      exact ⟨P, hP, (hw.mem z).mpr (((hw.mem y').mp hm).trans e)⟩
theorem FSI.new {A : Str × List Pt} (h : FSI n G dn L hdl) (hz : z ∉ hdl) (hA : IsGrp n G z A) (sur : Bool) (hs : sur = true ↔ Surr n G A.1 z) (hh : ∀ q, q ∈ hdl' ↔ q ∈ hdl ∨ q ∈ A.2) :
    FSI n G (dn ++ [z]) (if sur then L ++ [A] else L) hdl' := by
  have hm : z ∈ dn ++ [z] := by simp
  refine ⟨fun B hB => ?_, ?_, fun y hy hg hn => ?_, fun q hq => ?_, fun q hq c y hr => ?_, fun B hB q hq => ?_, fun y hy hg c hc hsy => ?_⟩
  · have : B ∈ L ∨ (sur = true ∧ B = A) := by
      cases sur with
      | true => simpa using hB
      | false => exact .inl hB
    rcases this with hB | ⟨hsu, rfl⟩
    · obtain ⟨y, hy, e⟩ := h.grp B hB; exact ⟨y, List.mem_append_left _ hy, e⟩
    · exact ⟨z, hm, hA, hs.mp hsu⟩
  · cases sur with
    | false => exact h.apart
    | true =>
      refine List.pairwise_append.mpr ⟨h.apart, by simp, fun B hB B' hB' q hq hq' => ?_⟩
      rw [List.mem_singleton.mp hB'] at hq'
      exact hz (h.closed q (h.sub B hB q hq) _ z ((hA.mem q).mp hq').symm)
  · rcases List.mem_append.mp hy with hy | hy
    · exact (hh y).mpr (.inl (h.seen y hy hg hn))
    · rw [List.mem_singleton.mp hy]; exact (hh z).mpr (.inr hA.self)
  · rcases (hh q).mp hq with hq | hq
    · obtain ⟨c, y, hy, e⟩ := h.from_ q hq; exact ⟨c, y, List.mem_append_left _ hy, e⟩
    · exact ⟨A.1, z, hm, (hA.mem q).mp hq⟩
  · rcases (hh q).mp hq with hq | hq
    · exact (hh y).mpr (.inl (h.closed q hq c y hr))
    · have r := (hA.mem q).mp hq
      have : c = A.1 := Option.some.inj (hr.start.2.symm.trans r.col)
      subst this
      exact (hh y).mpr (.inr ((hA.mem y).mpr (r.trans hr)))
  · have : B ∈ L ∨ B = A := by
      cases sur with
      | true => simpa using hB
      | false => exact .inl hB
    rcases this with hB | rfl
    · exact (hh q).mpr (.inl (h.sub B hB q hq))
    · exact (hh q).mpr (.inr hq)
  · rcases List.mem_append.mp hy with hy | hy
    · obtain ⟨P, hP, e⟩ := h.all y hy hg c hc hsy
      refine ⟨P, ?_, e⟩
      cases sur with
      | true => simp [hP]
      | false => exact hP
    · rw [List.mem_singleton.mp hy] at hg hc hsy ⊢
      have : c = A.1 := Option.some.inj (hc.symm.trans hA.col)
      subst this
      rw [hs.mpr hsy]
      exact ⟨A.2, by simp, hA.self⟩
end
end
section
open PySem
theorem MI.skip2 {n : Nat} {G : Pt → Option Str} {c : Str} {q z : Pt} {P₁ W₁ W' dn : List Pt} {sur sur' : Bool} (h : MI n G c q P₁ W₁ sur dn W' sur') (hz : AM.inG n z → G z ≠ none ∧ (G z = some c → z ∈ P₁ ∨ z ∈ W')) : MI n G c q P₁ W₁ sur (dn ++ [z]) W' sur' := by
  refine ⟨h.sub, h.new, fun y hy hg hc => ?_, ?_⟩
  · rcases List.mem_append.mp hy with hy | hy
    · exact h.all y hy hg hc
    · rw [List.mem_singleton.mp hy] at hg hc ⊢; exact (hz hg).2 hc
  · rw [h.sur]
    constructor
    · rintro ⟨a, b⟩
      refine ⟨a, fun y hy ⟨hg, hn⟩ => ?_⟩
      rcases List.mem_append.mp hy with hy | hy
      · exact b y hy ⟨hg, hn⟩
      · rw [List.mem_singleton.mp hy] at hg hn; exact (hz hg).1 hn
    · rintro ⟨a, b⟩; exact ⟨a, fun y hy => b y (List.mem_append_left _ hy)⟩
noncomputable def put (G : Pt → Option Str) (p : Pt) (v : Option Str) : Pt → Option Str := fun q => if q = p then v else G q
noncomputable def rm (G : Pt → Option Str) (l : List Pt) : Pt → Option Str := fun q => if q ∈ l then none else G q
theorem rm_nil {G : Pt → Option Str} : rm G [] = G := by funext q; simp [rm]
theorem rm_snoc {G : Pt → Option Str} {l : List Pt} {p : Pt} : put (rm G l) p none = rm G (l ++ [p]) := by
  funext q
  simp only [put, rm, List.mem_append, List.mem_singleton]
  by_cases h1 : q = p <;> by_cases h2 : q ∈ l <;> simp [h1, h2]
theorem rm_append {G : Pt → Option Str} {l m : List Pt} : rm (rm G l) m = rm G (l ++ m) := by
  funext q
  simp only [rm, List.mem_append]
  by_cases h1 : q ∈ m <;> by_cases h2 : q ∈ l <;> simp [h1, h2]
theorem rm_congr {G : Pt → Option Str} {l m : List Pt} (h : ∀ q, q ∈ l ↔ q ∈ m) : rm G l = rm G m := by
  funext q
  simp only [rm, h q]
noncomputable def capOf (opp : Str) (L : List (Str × List Pt)) : List (Str × List Pt) := if L.length = 1 then L else L.filter fun A => A.1 == opp
noncomputable def single : List Pt → Option Pt
  | [q] => some q
  | _ => none
noncomputable def soleOf : List (Str × List Pt) → Option (List Pt)
  | [A] => some A.2
  | _ => none
noncomputable def koOf (col opp : Str) (L : List (Str × List Pt)) : Option Pt := cond (Nat.ble L.length 1) none (((soleOf (L.filter fun A => A.1 == opp)).bind single).bind fun q => ((L.filter fun A => A.1 == col).head?.bind fun A => single A.2).map fun _ => q)
theorem single_none {l : List Pt} (h : l.length ≠ 1) : single l = none := by
  cases l with
  | nil => rfl
  | cons a l => cases l with
    | nil => exact absurd rfl h
    | cons b l => rfl
theorem soleOf_none {l : List (Str × List Pt)} (h : l.length ≠ 1) : soleOf l = none := by
  cases l with
  | nil => rfl
  | cons a l => cases l with
    | nil => exact absurd rfl h
    | cons b l => rfl
theorem koOf_of {col opp : Str} {L : List (Str × List Pt)} (h : (((soleOf (L.filter fun A => A.1 == opp)).bind single).bind fun q => ((L.filter fun A => A.1 == col).head?.bind fun A => single A.2).map fun _ => q) = none) : koOf col opp L = none := by
  unfold koOf
  cases Nat.ble L.length 1 with
  | true => rfl
  | false => exact h
noncomputable def emOf (n : Nat) (L : List (Str × List Pt)) : Bool := match L with
  | [A] => decide (A.2.length = n * n)
  | _ => false
noncomputable def ptsOf (L : List (Str × List Pt)) : List Pt := L.flatMap (·.2)
noncomputable def pvPt : Option Pt → PV
  | none => .none
  | some q => pt q
theorem koOf_a {col opp : Str} {L : List (Str × List Pt)} (h : (L.filter fun A => A.1 == opp).length ≠ 1) : koOf col opp L = none := koOf_of (by rw [soleOf_none h]; rfl)
theorem koOf_b {col opp : Str} {L : List (Str × List Pt)} {A : Str × List Pt} (h : (L.filter fun A => A.1 == opp) = [A]) (h' : A.2.length ≠ 1) : koOf col opp L = none := koOf_of (by
  have e : (soleOf [A]).bind single = none := single_none h'
  rw [h, e]; rfl)
theorem koOf_c {col opp : Str} {L : List (Str × List Pt)} {B : Str × List Pt} {r : List (Str × List Pt)} (hs : (L.filter fun A => A.1 == col) = B :: r) (h' : B.2.length ≠ 1) : koOf col opp L = none := koOf_of (by
  have e : ((B :: r).head?.bind fun A => single A.2) = none := single_none h'
  rw [hs, e]
  cases (soleOf (L.filter fun A => A.1 == opp)).bind single <;> rfl)
theorem koOf_d {col opp o s : Str} {L : List (Str × List Pt)} {q q' : Pt} {r : List (Str × List Pt)} (h2 : 2 ≤ L.length) (h : (L.filter fun A => A.1 == opp) = [(o, [q])]) (hs : (L.filter fun A => A.1 == col) = (s, [q']) :: r) : koOf col opp L = some q := by
  have e : Nat.ble L.length 1 = false := by
    cases hb : Nat.ble L.length 1 with
    | false => rfl
    | true => exact absurd (Nat.le_of_ble_eq_true hb) (by omega)
  unfold koOf
  rw [e, h, hs]; rfl
theorem single_some {l : List Pt} {q : Pt} (h : single l = some q) : l = [q] := by
  cases l with
  | nil => cases h
  | cons a l => cases l with
    | nil => cases h; rfl
    | cons b l => cases h
theorem koOf_some {col opp : Str} {L : List (Str × List Pt)} {q : Pt} (e : koOf col opp L = some q) : ∃ o s r t, (L.filter fun A => A.1 == opp) = [(o, [q])] ∧ (L.filter fun A => A.1 == col) = (s, [r]) :: t := by
  unfold koOf at e
  generalize (L.filter fun A => A.1 == opp) = F at e
  generalize (L.filter fun A => A.1 == col) = F' at e
  cases hb : Nat.ble L.length 1 with
  | true => rw [hb] at e; cases e
  | false =>
    rw [hb] at e
    obtain ⟨y, h1, e⟩ := Option.bind_eq_some_iff.mp e
    obtain ⟨P, h2, h1⟩ := Option.bind_eq_some_iff.mp h1
    obtain ⟨r, h3, e⟩ := Option.map_eq_some_iff.mp e
    obtain ⟨B, h4, h3⟩ := Option.bind_eq_some_iff.mp h3
    subst e
    cases F with
    | nil => cases h2
    | cons A l => cases l with
      | cons _ _ => cases h2
      | nil =>
        obtain ⟨o, P'⟩ := A
        cases h2
        cases F' with
        | nil => cases h4
        | cons C t =>
          obtain ⟨s, P''⟩ := C
          cases h4
          exact ⟨o, s, r, t, by rw [show P' = [y] from single_some h1], by rw [show P'' = [r] from single_some h3]⟩
theorem koOf_le {col opp : Str} {L : List (Str × List Pt)} (h : L.length ≤ 1) : koOf col opp L = none := by
  unfold koOf
  rw [Nat.ble_eq_true_of_le h]; rfl
theorem own_there {col opp : Str} {L : List (Str × List Pt)} (hc : ∀ A ∈ L, A.1 = col ∨ A.1 = opp) (h2 : 2 ≤ L.length) (h1 : (L.filter fun A => A.1 == opp).length = 1) : ∃ A r, (L.filter fun A => A.1 == col) = A :: r := by
  cases e : L.filter (fun A => A.1 == col) with
  | cons A r => exact ⟨A, r, rfl⟩
  | nil =>
    have : L.filter (fun A => A.1 == opp) = L := List.filter_eq_self.mpr fun A hA => by
      rcases hc A hA with q | q
      · have hm : A ∈ L.filter (fun A => A.1 == col) := List.mem_filter.mpr ⟨hA, by simp [q]⟩
        rw [e] at hm; cases hm
      · simp [q]
    rw [this] at h1; omega
end
section
open PySem
theorem conn_line {n : Nat} {S : Pt → Prop} (f : Nat → Pt) (hf : ∀ k, f (k + 1) ∈ nb (f k)) (hS : ∀ p z, S p → z ∈ nb p → inG n z → S z) (k : Nat) : ∀ m : Nat, (∀ i ≤ k + m, inG n (f i)) → (S (f k) ↔ S (f (k + m)))
  | 0, _ => Iff.rfl
  | m + 1, h => (conn_line f hf hS k m fun i hi => h i (Nat.le_succ_of_le hi)).trans ⟨fun s => hS _ _ s (hf _) (h _ (Nat.le_refl _)), fun s => hS _ _ s (nb_symm (hf _)) (h _ (Nat.le_succ _))⟩
theorem conn_le {n : Nat} {S : Pt → Prop} (f : Nat → Pt) (hf : ∀ k, f (k + 1) ∈ nb (f k)) (hS : ∀ p z, S p → z ∈ nb p → inG n z → S z) (hg : ∀ i < n, inG n (f i)) {i j : Nat} (hi : i < n) (hj : j < n) : S (f i) ↔ S (f j) := by
  rcases Nat.le_total i j with h | h
  · obtain ⟨m, rfl⟩ := Nat.exists_eq_add_of_le h
    exact conn_line f hf hS i m fun k hk => hg k (Nat.lt_of_le_of_lt hk hj)
  · obtain ⟨m, rfl⟩ := Nat.exists_eq_add_of_le h
    exact (conn_line f hf hS j m fun k hk => hg k (Nat.lt_of_le_of_lt hk hi)).symm
theorem grid_conn {n : Nat} {S : Pt → Prop} (hS : ∀ p z, S p → z ∈ nb p → inG n z → S z) (p q : Pt) (hp : inG n p) (hq : inG n q) (h : S p) : S q := by
  obtain ⟨a, b⟩ := p
  obtain ⟨c, d⟩ := q
  obtain ⟨⟨p1, p2⟩, p3, p4⟩ := hp
  obtain ⟨⟨q1, q2⟩, q3, q4⟩ := hq
  obtain ⟨a, rfl⟩ := Int.eq_ofNat_of_zero_le p1
  obtain ⟨b, rfl⟩ := Int.eq_ofNat_of_zero_le p3
  obtain ⟨c, rfl⟩ := Int.eq_ofNat_of_zero_le q1
  obtain ⟨d, rfl⟩ := Int.eq_ofNat_of_zero_le q3
  have p2 := Int.ofNat_lt.mp p2
  have p4 := Int.ofNat_lt.mp p4
  have q2 := Int.ofNat_lt.mp q2
  have q4 := Int.ofNat_lt.mp q4
  have g : ∀ i j : Nat, i < n → j < n → inG n ((i : Int), (j : Int)) := fun i j hi hj => ⟨⟨Int.natCast_nonneg _, Int.ofNat_lt.mpr hi⟩, Int.natCast_nonneg _, Int.ofNat_lt.mpr hj⟩
  have h1 : S ((c : Int), (b : Int)) := (conn_le (fun i => ((i : Int), (b : Int))) (fun k => .tail _ (.head _)) hS (fun i hi => g i b hi p4) p2 q2).mp h
  exact (conn_le (fun i => ((c : Int), (i : Int))) (fun k => .tail _ (.tail _ (.tail _ (.head _)))) hS (fun i hi => g c i q2 hi) p4 q4).mp h1
theorem grid_nodup {n : Nat} : (grid n).Nodup := by
  unfold grid
  refine List.nodup_iff_pairwise_ne.mpr ?_
  rw [List.pairwise_flatMap]
  constructor
  · intro i _
    rw [List.pairwise_map]
    exact (List.nodup_iff_pairwise_ne.mp List.nodup_range).imp fun h e => h (by have := congrArg Prod.snd e; exact Int.ofNat.inj (by simpa using this))
  · refine (List.nodup_iff_pairwise_ne.mp List.nodup_range).imp fun h x hx y hy e => ?_
    obtain ⟨i, _, rfl⟩ := List.mem_map.mp hx
    obtain ⟨j, _, rfl⟩ := List.mem_map.mp hy
    exact h (by have := congrArg Prod.fst e; exact Int.ofNat.inj (by simpa using this))
theorem all_of_len {n : Nat} {l : List Pt} (hn : l.Nodup) (hg : ∀ z ∈ l, inG n z) (hl : l.length = n * n) {z : Pt} (hz : inG n z) : z ∈ l := by
  by_cases h : z ∈ l
  · exact h
  · have := nodup_le (l := z :: l) (m := grid n) (List.nodup_cons.mpr ⟨h, hn⟩) fun x hx => by
      rcases List.mem_cons.mp hx with rfl | hx
      · exact mem_grid.mpr hz
      · exact mem_grid.mpr (hg x hx)
    rw [List.length_cons, grid_length] at this
    omega
theorem nodup_one {l : List Pt} {q : Pt} (hn : l.Nodup) (h : ∀ z, z ∈ l ↔ z = q) : l = [q] := by
  match l, hn, h with
  | [], _, h => exact absurd ((h q).mpr rfl) (by simp)
  | [a], _, h => rw [(h a).mp (.head _)]
  | a :: b :: r, hn, h =>
    have e1 := (h a).mp (.head _)
    have e2 := (h b).mp (.tail _ (.head _))
    rw [e1, e2] at hn
    exact absurd (List.mem_cons_self) (List.nodup_cons.mp hn).1

section
variable {n : Nat} {G : Pt → Option Str} {col opp : Str} {p : Pt} {L : List (Str × List Pt)} {hdl : List Pt}
structure Set1 (n : Nat) (G : Pt → Option Str) (col opp : Str) (p : Pt) : Prop where
  hp : inG n p
  hG : G p = some col
  hne : col ≠ opp
  hval : ∀ q s, G q = some s → s = col ∨ s = opp
  hsup : ∀ z, G z ≠ none → inG n z
noncomputable def Tk (n : Nat) (G : Pt → Option Str) (opp : Str) (p q : Pt) : Prop := ∃ z ∈ nb p, inG n z ∧ G z = some opp ∧ Surr n G opp z ∧ Reach n G opp z q
variable (S : Set1 n G col opp p) (F : FSI n G (p :: nb p) L hdl)
theorem mem_ptsOf {q : Pt} : q ∈ ptsOf L ↔ ∃ A ∈ L, q ∈ A.2 := by simp [ptsOf]
include S F in
theorem col_or {A : Str × List Pt} (hA : A ∈ L) : A.1 = col ∨ A.1 = opp := by
  obtain ⟨z, _, hz, _⟩ := F.grp A hA
  exact S.hval z _ hz.col
include S F in
theorem own_self {A : Str × List Pt} (hA : A ∈ L) (hc : A.1 = col) : p ∈ A.2 ∧ Surr n G col p ∧ ∀ q, q ∈ A.2 ↔ Reach n G col p q := by
  obtain ⟨z, hz, g, sr⟩ := F.grp A hA
  have gc := g.col
  rw [hc] at gc sr
  have r : Reach n G col z p := by
    rcases List.mem_cons.mp hz with rfl | hz
    · exact .refl S.hp S.hG
    · exact .step (.refl g.inG gc) (nb_symm hz) S.hp S.hG
  refine ⟨(g.mem p).mpr (hc ▸ r), sr.of_reach r, fun q => ?_⟩
  rw [g.mem q, hc]
  exact ⟨fun h => r.symm.trans h, fun h => r.trans h⟩
include S F in
theorem mem_opp {q : Pt} : q ∈ ptsOf (L.filter fun A => A.1 == opp) ↔ Tk n G opp p q := by
  rw [mem_ptsOf]
  constructor
  · rintro ⟨A, hA, hq⟩
    obtain ⟨hA, hc⟩ := List.mem_filter.mp hA
    have hc : A.1 = opp := by simpa using hc
    obtain ⟨z, hz, g, sr⟩ := F.grp A hA
    have gc := g.col
    rw [hc] at gc sr
    rcases List.mem_cons.mp hz with rfl | hz
    · rw [S.hG] at gc; exact absurd (Option.some.inj gc) S.hne
    · exact ⟨z, hz, g.inG, gc, sr, hc ▸ (g.mem q).mp hq⟩
  · rintro ⟨z, hz, hg, hc, hs, hr⟩
    obtain ⟨P, hP, hm⟩ := F.all z (.tail _ hz) hg opp hc hs
    obtain ⟨w, _, g, _⟩ := F.grp _ hP
    exact ⟨_, List.mem_filter.mpr ⟨hP, by simp⟩, (g.mem q).mpr (((g.mem z).mp hm).trans hr)⟩
include S F in
theorem mem_col {q : Pt} : q ∈ ptsOf (L.filter fun A => A.1 == col) ↔ Surr n G col p ∧ Reach n G col p q := by
  rw [mem_ptsOf]
  constructor
  · rintro ⟨A, hA, hq⟩
    obtain ⟨hA, hc⟩ := List.mem_filter.mp hA
    obtain ⟨_, h2, h3⟩ := own_self S F hA (by simpa using hc)
    exact ⟨h2, (h3 q).mp hq⟩
  · rintro ⟨hs, hr⟩
    obtain ⟨P, hP, hm⟩ := F.all p (.head _) S.hp col S.hG hs
    exact ⟨_, List.mem_filter.mpr ⟨hP, by simp⟩, ((own_self S F hP rfl).2.2 q).mpr hr⟩
theorem pw_one {p : Pt} : ∀ {M : List (Str × List Pt)}, (M.Pairwise fun A B => ∀ q ∈ A.2, q ∉ B.2) → (∀ A ∈ M, p ∈ A.2) → M.length ≤ 1
  | [], _, _ => by simp
  | [A], _, _ => by simp
  | A :: B :: r, hp, h => absurd (h B (.tail _ (.head _))) ((List.pairwise_cons.mp hp).1 B (.head _) p (h A (.head _)))
include S F in
theorem own_le : (L.filter fun A => A.1 == col).length ≤ 1 :=
  pw_one (F.apart.filter (fun A => A.1 == col)) fun A hA => by
    obtain ⟨hA, cA⟩ := List.mem_filter.mp hA
    exact (own_self S F hA (by simpa using cA)).1
theorem one_of_le {M : List (Str × List Pt)} {A : Str × List Pt} (h : M.length ≤ 1) (hA : A ∈ M) : M = [A] := by
  match M, h, hA with
  | [B], _, hA => rw [List.mem_singleton.mp hA]
  | B :: C :: r, h, _ => simp at h
include F in
theorem grp_ne {A : Str × List Pt} (hA : A ∈ L) : ∃ z, z ∈ A.2 := let ⟨z, _, g, _⟩ := F.grp A hA; ⟨z, g.self⟩
include S F in
theorem all_col (h : ∀ q, ¬ Tk n G opp p q) : (L.filter fun A => A.1 == col) = L := List.filter_eq_self.mpr fun A hA => by
  rcases col_or S F hA with q | q
  · simp [q]
  · obtain ⟨z, hz⟩ := grp_ne F hA
    exact absurd ((mem_opp S F).mp (mem_ptsOf.mpr ⟨A, List.mem_filter.mpr ⟨hA, by simp [q]⟩, hz⟩)) (h z)
include S F in
theorem cap_tk {q₀ q : Pt} (h : Tk n G opp p q₀) : q ∈ ptsOf (capOf opp L) ↔ Tk n G opp p q := by
  rw [← mem_opp S F (q := q)]
  have h0 := (mem_opp S F).mpr h
  unfold capOf
  split
  · rename_i hl
    obtain ⟨A, rfl⟩ := List.length_eq_one_iff.mp hl
    obtain ⟨B, hB, _⟩ := mem_ptsOf.mp h0
    obtain ⟨hB, hc⟩ := List.mem_filter.mp hB
    rw [List.mem_singleton.mp hB] at hc
    rw [List.filter_cons, if_pos hc, List.filter_nil]
  · exact Iff.rfl
include S F in
theorem cap_own {q : Pt} (h : ∀ q, ¬ Tk n G opp p q) : q ∈ ptsOf (capOf opp L) ↔ Surr n G col p ∧ Reach n G col p q := by
  rw [← mem_col S F]
  have hc := all_col S F h
  have hl := own_le S F
  rw [hc] at hl ⊢
  unfold capOf
  split
  · exact Iff.rfl
  · have : L = [] := List.length_eq_zero_iff.mp (by omega)
    subst this; exact Iff.rfl

noncomputable def lawCap (tk ow : List Pt) : List Pt := if tk = [] then ow else tk
noncomputable def OwnIs (n : Nat) (G : Pt → Option Str) (col : Str) (p : Pt) (ow : List Pt) : Prop := (¬ Surr n G col p ∧ ow = []) ∨ (Surr n G col p ∧ IsGrp n G p (col, ow))
variable {tk ow : List Pt}
include S F in
theorem cap_eq (ht : ∀ q, q ∈ tk ↔ Tk n G opp p q) (ho : OwnIs n G col p ow) (q : Pt) : q ∈ ptsOf (capOf opp L) ↔ q ∈ lawCap tk ow := by
  unfold lawCap
  split
  · rename_i e
    rw [cap_own S F fun z hz => by have := (ht z).mpr hz; rw [e] at this; cases this]
    rcases ho with ⟨h, rfl⟩ | ⟨h, g⟩
    · simp [h]
    · rw [g.mem q]; simp [h]
  · rename_i e
    obtain ⟨z, hz⟩ := List.exists_mem_of_ne_nil _ e
    rw [cap_tk S F ((ht z).mp hz), ht q]
include S F in
theorem ko_eq (ht : ∀ q, q ∈ tk ↔ Tk n G opp p q) (hn : tk.Nodup) (ho : OwnIs n G col p ow) : koOf col opp L = if tk.length = 1 ∧ ow = [p] then tk.head? else none := by
  have hnd : ∀ A ∈ L, A.2.Nodup := fun A hA => let ⟨z, _, g, _⟩ := F.grp A hA; g.nodup
  split
  · rename_i h
    obtain ⟨h1, rfl⟩ := h
    obtain ⟨q, rfl⟩ := List.length_eq_one_iff.mp h1
    have hs : Surr n G col p ∧ IsGrp n G p (col, [p]) := by
      rcases ho with ⟨_, e⟩ | h
      · cases e
      · exact h
    obtain ⟨P, hP, hm⟩ := F.all p (.head _) S.hp col S.hG hs.1
    have hPp : P = [p] := nodup_one (hnd _ hP) fun z => by
      rw [(own_self S F hP rfl).2.2 z, ← hs.2.mem z]; simp
    subst hPp
    have hc : (L.filter fun A => A.1 == col) = [(col, [p])] := by
      exact one_of_le (own_le S F) (List.mem_filter.mpr ⟨hP, by simp⟩)
    have hq := (mem_opp S F).mpr ((ht q).mp (.head _))
    have hop : ∀ A ∈ L.filter (fun A => A.1 == opp), A = (opp, [q]) := fun A hA => by
      obtain ⟨hA', hc'⟩ := List.mem_filter.mp hA
      have sub : ∀ z ∈ A.2, z = q := fun z hz => List.mem_singleton.mp ((ht z).mpr ((mem_opp S F).mp (mem_ptsOf.mpr ⟨A, hA, hz⟩)))
      obtain ⟨z, hz⟩ := grp_ne F hA'
      have := nodup_one (hnd A hA') (q := q) fun y => ⟨sub y, fun e => by rw [e, ← sub z hz]; exact hz⟩
      exact Prod.ext (by simpa using hc') this
    have ho1 : (L.filter fun A => A.1 == opp) = [(opp, [q])] := by
      refine one_of_le (pw_one (p := q) (F.apart.filter _) fun A hA => ?_) ?_
      · rw [hop A hA]; exact .head _
      · obtain ⟨A, hA, _⟩ := mem_ptsOf.mp hq
        exact hop A hA ▸ hA
    refine koOf_d (q' := p) (s := col) (o := opp) (r := []) ?_ ho1 hc
    match L, hc, ho1 with
    | [], hc, _ => cases hc
    | [A], hc, ho1 =>
      rw [List.filter_cons, List.filter_nil] at hc ho1
      split at hc
      · split at ho1
        · cases hc; simp at ho1; exact absurd ho1.1 S.hne
        · cases ho1
      · cases hc
    | A :: B :: r, _, _ => simp
  · rename_i h
    cases e : koOf col opp L with
    | none => rfl
    | some q =>
      exfalso
      apply h
      obtain ⟨o', s', r', r'', ho1, hc1⟩ := koOf_some e
      have h1 : tk = [q] := nodup_one hn fun z => by
        rw [ht z, ← mem_opp S F, ho1]; simp [ptsOf]
      have hm : (s', [r']) ∈ L.filter fun A => A.1 == col := by rw [hc1]; exact .head _
      obtain ⟨hm, hcc⟩ := List.mem_filter.mp hm
      obtain ⟨o1, o2, o3⟩ := own_self S F hm (by simpa using hcc)
      have hr : r' = p := (List.mem_singleton.mp o1).symm
      subst hr
      refine ⟨by rw [h1]; rfl, ?_⟩
      rcases ho with ⟨x, _⟩ | ⟨_, g⟩
      · exact absurd o2 x
      · exact nodup_one g.nodup fun z => by rw [g.mem z, ← o3 z]; simp
include S F in
theorem em_eq : emOf n L = true ↔ ∀ z, rm G (ptsOf (capOf opp L)) z = none := by
  constructor
  · intro h z
    match L, F, h with
    | [A], F, h =>
      simp only [emOf, decide_eq_true_eq] at h
      obtain ⟨y, _, g, _⟩ := F.grp A (.head _)
      by_cases hz : inG n z
      · have := all_of_len g.nodup (fun x hx => ((g.mem x).mp hx).inG) h hz
        unfold rm
        rw [if_pos (mem_ptsOf.mpr ⟨A, by simp [capOf], this⟩)]
      · unfold rm
        split
        · rfl
        · cases q : G z with
          | none => rfl
          | some c => exact absurd (S.hsup z (by rw [q]; simp)) hz
  · intro h
    have hr : ∀ z, G z ≠ none → z ∈ ptsOf (capOf opp L) := fun z hz => by
      by_cases q : z ∈ ptsOf (capOf opp L)
      · exact q
      · have := h z; unfold rm at this; rw [if_neg q] at this; exact absurd this hz
    have hpc := hr p (by rw [S.hG]; simp)
    have hnt : ∀ q, ¬ Tk n G opp p q := fun q hq => by
      obtain ⟨z, _, _, _, _, hrz⟩ := (cap_tk S F hq).mp hpc
      have := hrz.col
      rw [S.hG] at this; exact S.hne (Option.some.inj this)
    have hs := ((cap_own S F hnt).mp hpc).1
    have hreach : ∀ z, inG n z → Reach n G col p z := fun z hz => by
      refine grid_conn (n := n) (S := fun z => Reach n G col p z) (fun y w hy hw hg => ?_) p z S.hp hz (.refl S.hp S.hG)
      have : G w ≠ none := fun e => hs y hy ⟨w, hw, hg, e⟩
      exact ((cap_own S F hnt).mp (hr w this)).2
    obtain ⟨P, hP, hm⟩ := F.all p (.head _) S.hp col S.hG hs
    have hc := all_col S F hnt
    have hl := own_le S F
    rw [hc] at hl
    have hL : L = [(col, P)] := one_of_le hl hP
    subst hL
    simp only [emOf, decide_eq_true_eq]
    obtain ⟨_, _, g, _⟩ := F.grp _ hP
    have o3 := (own_self S F hP rfl).2.2
    have l1 := nodup_le g.nodup (m := grid n) fun x hx => mem_grid.mpr (((o3 x).mp hx).inG)
    have l2 := nodup_le (grid_nodup (n := n)) (m := P) fun x hx => (o3 x).mpr (hreach x (mem_grid.mp hx))
    rw [grid_length] at l1 l2
    exact Nat.le_antisymm l1 l2
end
noncomputable def DictIs (l : List (Pt × PV)) (G : Pt → Option Str) : Prop := ∀ z, l.lookup z = (G z).map PV.str
theorem lookup_dput {l : List (Pt × PV)} {p : Pt} {q : PV} (z : Pt) : (dput l p q).lookup z = if z = p then some q else l.lookup z := by
  unfold dput
  split
  · rename_i h
    have : ∀ m : List (Pt × PV), (m.map fun e => if e.1 = p then (e.1, q) else e).lookup z = if z = p then (m.lookup p).map (fun _ => q) else m.lookup z := by
      intro m
      induction m with
      | nil => split <;> rfl
      | cons e m ih =>
        obtain ⟨a, b⟩ := e
        rw [List.map_cons]
        by_cases ha : a = p
        · subst ha
          simp only [if_true]
          rw [List.lookup_cons, List.lookup_cons, List.lookup_cons]
          by_cases hz : z = a
          · subst hz; simp
          · simp only [beq_eq_false_iff_ne.mpr hz, hz, if_false]; rw [ih, if_neg hz]
        · simp only [ha, if_false]
          rw [List.lookup_cons, List.lookup_cons, List.lookup_cons]
          by_cases hz : z = a
          · subst hz; simp [ha]
          · simp only [beq_eq_false_iff_ne.mpr hz]
            rw [ih]
            have : (p == a) = false := beq_eq_false_iff_ne.mpr (Ne.symm ha)
            rw [this]
    rw [this]
    split
    · obtain ⟨v, hv⟩ := Option.isSome_iff_exists.mp h
      rw [hv]; rfl
    · rfl
  · rename_i h
    have h : l.lookup p = none := by
      cases q : l.lookup p with
      | none => rfl
      | some v => rw [q] at h; exact absurd rfl h
    have : ∀ m : List (Pt × PV), m.lookup p = none → (m ++ [(p, q)]).lookup z = if z = p then some q else m.lookup z := by
      intro m
      induction m with
      | nil =>
        intro _
        rw [List.nil_append, List.lookup_cons]
        by_cases hz : z = p
        · subst hz; simp
        · simp [beq_eq_false_iff_ne.mpr hz, hz]
      | cons e m ih =>
        obtain ⟨a, b⟩ := e
        intro hm
        rw [List.lookup_cons] at hm
        by_cases ha : p = a
        · subst ha; simp at hm
        · rw [beq_eq_false_iff_ne.mpr ha] at hm
          rw [List.cons_append, List.lookup_cons, List.lookup_cons]
          by_cases hz : z = a
          · subst hz; simp [Ne.symm ha]
          · simp only [beq_eq_false_iff_ne.mpr hz]; exact ih hm
    exact this l h
theorem lookup_ddel {l : List (Pt × PV)} {p : Pt} (z : Pt) : (ddel l p).lookup z = if z = p then none else l.lookup z := by
  unfold ddel
  induction l with
  | nil => split <;> rfl
  | cons e m ih =>
    obtain ⟨a, b⟩ := e
    rw [List.filter_cons]
    by_cases ha : a = p
    · subst ha
      simp only [decide_true, Bool.not_true, Bool.false_eq_true, if_false]
      rw [ih, List.lookup_cons]
      by_cases hz : z = a
      · simp [hz]
      · simp [hz, beq_eq_false_iff_ne.mpr hz]
    · simp only [ha, decide_false, Bool.not_false, if_true]
      rw [List.lookup_cons, List.lookup_cons, ih]
      by_cases hz : z = a
      · subst hz; simp [ha]
      · simp only [beq_eq_false_iff_ne.mpr hz]
theorem DictIs.put {l : List (Pt × PV)} {G : Pt → Option Str} (h : DictIs l G) (p : Pt) (c : Str) : DictIs (dput l p (.str c)) (put G p (some c)) := fun z => by
  rw [lookup_dput]; unfold AM.put
  split
  · rfl
  · exact h z
theorem DictIs.del {l : List (Pt × PV)} {G : Pt → Option Str} (h : DictIs l G) (p : Pt) : DictIs (ddel l p) (AM.put G p none) := fun z => by
  rw [lookup_ddel]; unfold AM.put
  split
  · rfl
  · exact h z
theorem dput_le {l : List (Pt × PV)} {p : Pt} {q : PV} : (dput l p q).length ≤ l.length + 1 := by
  unfold dput; split <;> simp
theorem ddel_le {l : List (Pt × PV)} {p : Pt} : (ddel l p).length ≤ l.length := List.length_filter_le _ _
theorem DictIs.empty {l : List (Pt × PV)} {G : Pt → Option Str} (h : DictIs l G) : l.isEmpty = true ↔ ∀ z, G z = none := by
  constructor
  · intro e z
    have : l = [] := by simpa using e
    subst this
    have := h z
    cases q : G z with
    | none => rfl
    | some c => rw [q] at this; cases this
  · intro e
    cases l with
    | nil => rfl
    | cons x l =>
      have := h x.1
      rw [e x.1, List.lookup_cons] at this
      simp at this
section
variable {n : Nat} {G : Pt → Option Str} {opp : Str} {z : Pt} {dn tk gl : List Pt}
structure TKI (n : Nat) (G : Pt → Option Str) (opp : Str) (dn tk : List Pt) : Prop where
  mem : ∀ q, q ∈ tk ↔ ∃ z ∈ dn, inG n z ∧ G z = some opp ∧ Surr n G opp z ∧ Reach n G opp z q
  nodup : tk.Nodup
theorem TKI.nil : TKI n G opp [] [] := ⟨by simp, List.nodup_nil⟩
theorem TKI.skip (h : TKI n G opp dn tk) (hz : ¬ (G z = some opp ∧ Surr n G opp z)) : TKI n G opp (dn ++ [z]) tk := by
  refine ⟨fun q => (h.mem q).trans ⟨?_, ?_⟩, h.nodup⟩
  · rintro ⟨y, hy, r⟩; exact ⟨y, List.mem_append_left _ hy, r⟩
  · rintro ⟨y, hy, r⟩
    rcases List.mem_append.mp hy with hy | hy
    · exact ⟨y, hy, r⟩
    · rw [List.mem_singleton.mp hy] at r; exact absurd ⟨r.2.1, r.2.2.1⟩ hz
theorem TKI.again (h : TKI n G opp dn tk) (hz : z ∈ tk) : TKI n G opp (dn ++ [z]) tk := by
  refine ⟨fun q => (h.mem q).trans ⟨?_, ?_⟩, h.nodup⟩
  · rintro ⟨y, hy, r⟩; exact ⟨y, List.mem_append_left _ hy, r⟩
  · rintro ⟨y, hy, r⟩
    rcases List.mem_append.mp hy with hy | hy
    · exact ⟨y, hy, r⟩
    · rw [List.mem_singleton.mp hy] at r
      obtain ⟨w, hw, a, b, c, d⟩ := (h.mem z).mp hz
      exact ⟨w, hw, a, b, c, d.trans r.2.2.2⟩
theorem TKI.new (h : TKI n G opp dn tk) (hz : z ∉ tk) (hs : Surr n G opp z) (hg : IsGrp n G z (opp, gl)) : TKI n G opp (dn ++ [z]) (tk ++ gl) := by
  refine ⟨fun q => ?_, List.nodup_append.mpr ⟨h.nodup, hg.nodup, fun a ha b hb e => ?_⟩⟩
  · rw [List.mem_append, h.mem q, hg.mem q]
    constructor
    · rintro (⟨y, hy, r⟩ | r)
      · exact ⟨y, List.mem_append_left _ hy, r⟩
      · exact ⟨z, by simp, hg.inG, hg.col, hs, r⟩
    · rintro ⟨y, hy, r⟩
      rcases List.mem_append.mp hy with hy | hy
      · exact .inl ⟨y, hy, r⟩
      · rw [List.mem_singleton.mp hy] at r; exact .inr r.2.2.2
  · subst e
    obtain ⟨w, hw, x1, x2, x3, x4⟩ := (h.mem a).mp ha
    exact hz ((h.mem z).mpr ⟨w, hw, x1, x2, x3, x4.trans ((hg.mem a).mp hb).symm⟩)
theorem TKI.le (h : TKI n G opp dn tk) : tk.length ≤ n * n := by
  rw [← grid_length]
  exact nodup_le h.nodup fun q hq => let ⟨_, _, _, _, _, r⟩ := (h.mem q).mp hq; mem_grid.mpr r.inG
theorem IsGrp.le {A : Str × List Pt} (h : IsGrp n G z A) : A.2.length ≤ n * n := by
  rw [← grid_length]
  exact nodup_le h.nodup fun q hq => mem_grid.mpr ((h.mem q).mp hq).inG
theorem sq_le (h : n ≤ 5) : n * n ≤ 25 := Nat.mul_le_mul h h
theorem OwnIs.le {col : Str} {p : Pt} {ow : List Pt} (h : OwnIs n G col p ow) : ow.length ≤ n * n := by
  rcases h with ⟨_, rfl⟩ | ⟨_, g⟩
  · simp
  · exact g.le
theorem OwnIs.nodup {col : Str} {p : Pt} {ow : List Pt} (h : OwnIs n G col p ow) : ow.Nodup := by
  rcases h with ⟨_, rfl⟩ | ⟨_, g⟩
  · exact List.nodup_nil
  · exact g.nodup
theorem OwnIs.some {col : Str} {p : Pt} {ow : List Pt} (h : OwnIs n G col p ow) : ∀ q ∈ ow, G q ≠ none := fun q hq => by
  rcases h with ⟨_, rfl⟩ | ⟨_, g⟩
  · cases hq
  · rw [((g.mem q).mp hq).col]; simp
theorem TKI.some (h : TKI n G opp dn tk) : ∀ q ∈ tk, G q ≠ none := fun q hq => by
  obtain ⟨_, _, _, _, _, r⟩ := (h.mem q).mp hq
  rw [r.col]; simp
end
end
section
open PySem PySem.W PyProof.Rows
open PySem PySem.W PyProof.Rows PySem.Calls
noncomputable def tops : List Stmt := PySem.Challenge.rw_md0058_01.row.toRowW.prog.main.body
noncomputable def topAt (i : Nat) : Stmt := (tops[i]?).getD (.Pass ⟨0, 0, 0, 0⟩)
noncomputable def inCls (i j : Nat) : Stmt := match topAt i with
  | .ClassDef _ _ _ b _ _ _ _ _ _ _ => (b[j]?).getD (.Pass ⟨0, 0, 0, 0⟩)
  | _ => .Pass ⟨0, 0, 0, 0⟩
noncomputable def fnBody (st : Stmt) : List Stmt := match st with
  | .FunctionDef _ _ b _ _ _ _ _ _ _ => b
  | _ => []
noncomputable def fnData (st : Stmt) (q m : String) (t c : Nat) : FuncData := match st with
  | .FunctionDef n ps b _ _ _ sc _ _ _ => { name := n, qualname := Str.ofString q, params := ps, body := .stmts b, scope := sc, globals := 3, closure := [], defaults := .none, kwdefaults := .none, pyModule := .str (Str.ofString m) t, code := .ref c }
  | _ => default
noncomputable def fnObj (st : Stmt) (q m : String) (t c : Nat) : Obj := { cls := .type "function", data := .func (fnData st q m t c) }
noncomputable abbrev s (x : String) : Str := Str.ofString x
noncomputable abbrev kh (P : Params) (x : Str) : Int := PyData.keyHash P x
noncomputable def heapK : Params → Frag := fun P => [(2, { cls := Value.none, data := Data.dict #[] }),
  (3, { cls := Value.type "dict", data := Data.dict #[{ hash := kh P (s "__name__"), key := Value.str (s "__name__") 165, val := Value.str (s "law_md0058_01") 372 }, { hash := kh P (s "__doc__"), key := Value.str (s "__doc__") 166, val := Value.none }, { hash := kh P (s "__package__"), key := Value.str (s "__package__") 167, val := Value.none }, { hash := kh P (s "__loader__"), key := Value.str (s "__loader__") 168, val := Value.builtin "__main__.__loader__#opaque" }, { hash := kh P (s "__spec__"), key := Value.str (s "__spec__") 169, val := Value.none }, { hash := kh P (s "__annotations__"), key := Value.str (s "__annotations__") 170, val := Value.ref 6 }, { hash := kh P (s "__builtins__"), key := Value.str (s "__builtins__") 171, val := Value.ref 4 }, { hash := kh P (s "__file__"), key := Value.str (s "__file__") 173, val := Value.str (s "/claim/cut.py") 172 }, { hash := kh P (s "__cached__"), key := Value.str (s "__cached__") 174, val := Value.none }, { hash := kh P (s "_wall"), key := Value.str (s "_wall") 193, val := Value.ref 21 }, { hash := kh P (s "_opponents"), key := Value.str (s "_opponents") 202, val := Value.ref 22 }, { hash := kh P (s "opponent_of"), key := Value.str (s "opponent_of") 209, val := Value.ref 29 }, { hash := kh P (s "_Group"), key := Value.str (s "_Group") 231, val := Value.ref 39 }, { hash := kh P (s "Board"), key := Value.str (s "Board") 371, val := Value.ref 133 }, { hash := kh P (s "_law_group"), key := Value.str (s "_law_group") 387, val := Value.ref 144 }, { hash := kh P (s "law"), key := Value.str (s "law") 393, val := Value.ref 149 }] 16 }),
  (6, { cls := Value.type "dict", data := Data.dict #[] }),
  (20, { cls := Value.type "code", data := Data.fields #[Value.str (s "_wall") 187, Value.str (s "_wall") 188, Value.str (s "/claim/cut.py") 189, Value.int 1 0, Value.int 1 0, Value.int 0 0, Value.int 0 0, Value.int 3 0, Value.ref 15, Value.bool true, Value.int 181 0, Value.ref 16, Value.none, Value.ref 17, Value.ref 18, Value.ref 19, Value.int 191 0, Value.int 1 0, Value.str (s "/claim/cut.py") 192] }),
  (21, fnObj (topAt 0) "_wall" "__main__" 164 20),
  (22, { cls := Value.type "dict", data := Data.dict #[{ hash := kh P (s "b"), key := Value.str (s "b") 196, val := Value.str (s "w") 197 }, { hash := kh P (s "w"), key := Value.str (s "w") 198, val := Value.str (s "b") 199 }] 2 }),
  (28, { cls := Value.type "code", data := Data.fields #[Value.str (s "opponent_of") 203, Value.str (s "opponent_of") 204, Value.str (s "/claim/cut.py") 205, Value.int 6 0, Value.int 1 0, Value.int 0 0, Value.int 0 0, Value.int 3 0, Value.ref 23, Value.bool true, Value.int 181 0, Value.ref 24, Value.none, Value.ref 25, Value.ref 26, Value.ref 27, Value.int 207 0, Value.int 6 0, Value.str (s "/claim/cut.py") 208] }),
  (29, fnObj (topAt 3) "opponent_of" "sgfmill.common" 194 28),
  (38, { cls := Value.type "dict", data := Data.dict #[{ hash := kh P (s "__module__"), key := Value.str (s "__module__") 219, val := Value.str (s "sgfmill.boards") 210 }, { hash := kh P (s "__firstlineno__"), key := Value.str (s "__firstlineno__") 223, val := Value.int 12 222 }, { hash := kh P (s "__static_attributes__"), key := Value.str (s "__static_attributes__") 224, val := Value.ref 37 }, { hash := kh P (s "__dict__"), key := Value.str (s "__dict__") 226, val := Value.ref 40 }, { hash := kh P (s "__weakref__"), key := Value.str (s "__weakref__") 228, val := Value.ref 41 }, { hash := kh P (s "__doc__"), key := Value.str (s "__doc__") 229, val := Value.none }] 4 }),
  (39, { cls := Value.type "type", data := Data.cls { name := s "_Group", bases := [Value.type "object"], mro := [Value.ref 39, Value.type "object"], ns := 38, qualname := s "_Group" }, slots := #[none, none, some (Value.str (s "_Group") 212), some (Value.str (s "_Group") 220), some (Value.builtin "object.__new__"), some (Value.bool true)] }),
  (54, { cls := Value.type "code", data := Data.fields #[Value.str (s "__init__") 244, Value.str (s "Board.__init__") 245, Value.str (s "/claim/cut.py") 246, Value.int 16 0, Value.int 2 0, Value.int 0 0, Value.int 0 0, Value.int 3 0, Value.ref 51, Value.bool true, Value.int 181 0, Value.ref 52, Value.none, Value.none, Value.none, Value.ref 53, Value.int 247 0, Value.int 16 0, Value.str (s "/claim/cut.py") 248] }),
  (55, fnObj (inCls 6 0) "Board.__init__" "sgfmill.boards" 210 54),
  (61, { cls := Value.type "code", data := Data.fields #[Value.str (s "copy") 250, Value.str (s "Board.copy") 251, Value.str (s "/claim/cut.py") 252, Value.int 26 0, Value.int 1 0, Value.int 0 0, Value.int 0 0, Value.int 3 0, Value.ref 56, Value.bool true, Value.int 181 0, Value.ref 57, Value.none, Value.ref 58, Value.ref 59, Value.ref 60, Value.int 254 0, Value.int 26 0, Value.str (s "/claim/cut.py") 255] }),
  (62, fnObj (inCls 6 1) "Board.copy" "sgfmill.boards" 210 61),
  (68, { cls := Value.type "code", data := Data.fields #[Value.str (s "_make_group") 257, Value.str (s "Board._make_group") 258, Value.str (s "/claim/cut.py") 259, Value.int 29 0, Value.int 4 0, Value.int 0 0, Value.int 0 0, Value.int 3 0, Value.ref 63, Value.bool true, Value.int 181 0, Value.ref 64, Value.none, Value.ref 65, Value.ref 66, Value.ref 67, Value.int 275 0, Value.int 29 0, Value.str (s "/claim/cut.py") 276] }),
  (69, fnObj (inCls 6 2) "Board._make_group" "sgfmill.boards" 210 68),
  (75, { cls := Value.type "code", data := Data.fields #[Value.str (s "_make_empty_region") 278, Value.str (s "Board._make_empty_region") 279, Value.str (s "/claim/cut.py") 280, Value.int 54 0, Value.int 3 0, Value.int 0 0, Value.int 0 0, Value.int 3 0, Value.ref 70, Value.bool true, Value.int 181 0, Value.ref 71, Value.none, Value.ref 72, Value.ref 73, Value.ref 74, Value.int 284 0, Value.int 54 0, Value.str (s "/claim/cut.py") 285] }),
  (76, fnObj (inCls 6 3) "Board._make_empty_region" "sgfmill.boards" 210 75),
  (82, { cls := Value.type "code", data := Data.fields #[Value.str (s "_find_surrounded_groups") 287, Value.str (s "Board._find_surrounded_groups") 288, Value.str (s "/claim/cut.py") 289, Value.int 57 0, Value.int 3 0, Value.int 0 0, Value.int 0 0, Value.int 3 0, Value.ref 77, Value.bool true, Value.int 181 0, Value.ref 78, Value.none, Value.ref 79, Value.ref 80, Value.ref 81, Value.int 300 0, Value.int 57 0, Value.str (s "/claim/cut.py") 301] }),
  (83, fnObj (inCls 6 4) "Board._find_surrounded_groups" "sgfmill.boards" 210 82),
  (89, { cls := Value.type "code", data := Data.fields #[Value.str (s "_find_all_surrounded_groups") 303, Value.str (s "Board._find_all_surrounded_groups") 304, Value.str (s "/claim/cut.py") 305, Value.int 75 0, Value.int 1 0, Value.int 0 0, Value.int 0 0, Value.int 3 0, Value.ref 84, Value.bool true, Value.int 181 0, Value.ref 85, Value.none, Value.ref 86, Value.ref 87, Value.ref 88, Value.int 307 0, Value.int 75 0, Value.str (s "/claim/cut.py") 308] }),
  (90, fnObj (inCls 6 5) "Board._find_all_surrounded_groups" "sgfmill.boards" 210 89),
  (96, { cls := Value.type "code", data := Data.fields #[Value.str (s "is_empty") 310, Value.str (s "Board.is_empty") 311, Value.str (s "/claim/cut.py") 312, Value.int 78 0, Value.int 1 0, Value.int 0 0, Value.int 0 0, Value.int 3 0, Value.ref 91, Value.bool true, Value.int 181 0, Value.ref 92, Value.none, Value.ref 93, Value.ref 94, Value.ref 95, Value.int 314 0, Value.int 78 0, Value.str (s "/claim/cut.py") 315] }),
  (97, fnObj (inCls 6 6) "Board.is_empty" "sgfmill.boards" 210 96),
  (103, { cls := Value.type "code", data := Data.fields #[Value.str (s "get") 317, Value.str (s "Board.get") 318, Value.str (s "/claim/cut.py") 319, Value.int 81 0, Value.int 3 0, Value.int 0 0, Value.int 0 0, Value.int 3 0, Value.ref 98, Value.bool true, Value.int 181 0, Value.ref 99, Value.none, Value.ref 100, Value.ref 101, Value.ref 102, Value.int 323 0, Value.int 81 0, Value.str (s "/claim/cut.py") 324] }),
  (104, fnObj (inCls 6 7) "Board.get" "sgfmill.boards" 210 103),
  (108, { cls := Value.type "code", data := Data.fields #[Value.str (s "play") 326, Value.str (s "Board.play") 327, Value.str (s "/claim/cut.py") 328, Value.int 86 0, Value.int 4 0, Value.int 0 0, Value.int 0 0, Value.int 3 0, Value.ref 105, Value.bool true, Value.int 181 0, Value.ref 106, Value.none, Value.none, Value.none, Value.ref 107, Value.int 329 0, Value.int 86 0, Value.str (s "/claim/cut.py") 330] }),
  (109, fnObj (inCls 6 8) "Board.play" "sgfmill.boards" 210 108),
  (115, { cls := Value.type "code", data := Data.fields #[Value.str (s "apply_setup") 332, Value.str (s "Board.apply_setup") 333, Value.str (s "/claim/cut.py") 334, Value.int 112 0, Value.int 4 0, Value.int 0 0, Value.int 0 0, Value.int 3 0, Value.ref 110, Value.bool true, Value.int 181 0, Value.ref 111, Value.none, Value.ref 112, Value.ref 113, Value.ref 114, Value.int 339 0, Value.int 112 0, Value.str (s "/claim/cut.py") 340] }),
  (116, fnObj (inCls 6 9) "Board.apply_setup" "sgfmill.boards" 210 115),
  (122, { cls := Value.type "code", data := Data.fields #[Value.str (s "list_occupied_points") 342, Value.str (s "Board.list_occupied_points") 343, Value.str (s "/claim/cut.py") 344, Value.int 115 0, Value.int 1 0, Value.int 0 0, Value.int 0 0, Value.int 3 0, Value.ref 117, Value.bool true, Value.int 181 0, Value.ref 118, Value.none, Value.ref 119, Value.ref 120, Value.ref 121, Value.int 350 0, Value.int 115 0, Value.str (s "/claim/cut.py") 351] }),
  (123, fnObj (inCls 6 10) "Board.list_occupied_points" "sgfmill.boards" 210 122),
  (129, { cls := Value.type "code", data := Data.fields #[Value.str (s "area_score") 353, Value.str (s "Board.area_score") 354, Value.str (s "/claim/cut.py") 355, Value.int 123 0, Value.int 1 0, Value.int 0 0, Value.int 0 0, Value.int 3 0, Value.ref 124, Value.bool true, Value.int 181 0, Value.ref 125, Value.none, Value.ref 126, Value.ref 127, Value.ref 128, Value.int 357 0, Value.int 123 0, Value.str (s "/claim/cut.py") 358] }),
  (130, fnObj (inCls 6 11) "Board.area_score" "sgfmill.boards" 210 129),
  (132, { cls := Value.type "dict", data := Data.dict #[{ hash := kh P (s "__module__"), key := Value.str (s "__module__") 239, val := Value.str (s "sgfmill.boards") 210 }, { hash := kh P (s "__firstlineno__"), key := Value.str (s "__firstlineno__") 243, val := Value.int 14 242 }, { hash := kh P (s "__init__"), key := Value.str (s "__init__") 249, val := Value.ref 55 }, { hash := kh P (s "copy"), key := Value.str (s "copy") 256, val := Value.ref 62 }, { hash := kh P (s "_make_group"), key := Value.str (s "_make_group") 277, val := Value.ref 69 }, { hash := kh P (s "_make_empty_region"), key := Value.str (s "_make_empty_region") 286, val := Value.ref 76 }, { hash := kh P (s "_find_surrounded_groups"), key := Value.str (s "_find_surrounded_groups") 302, val := Value.ref 83 }, { hash := kh P (s "_find_all_surrounded_groups"), key := Value.str (s "_find_all_surrounded_groups") 309, val := Value.ref 90 }, { hash := kh P (s "is_empty"), key := Value.str (s "is_empty") 316, val := Value.ref 97 }, { hash := kh P (s "get"), key := Value.str (s "get") 325, val := Value.ref 104 }, { hash := kh P (s "play"), key := Value.str (s "play") 331, val := Value.ref 109 }, { hash := kh P (s "apply_setup"), key := Value.str (s "apply_setup") 341, val := Value.ref 116 }, { hash := kh P (s "list_occupied_points"), key := Value.str (s "list_occupied_points") 352, val := Value.ref 123 }, { hash := kh P (s "area_score"), key := Value.str (s "area_score") 359, val := Value.ref 130 }, { hash := kh P (s "__static_attributes__"), key := Value.str (s "__static_attributes__") 364, val := Value.ref 131 }, { hash := kh P (s "__dict__"), key := Value.str (s "__dict__") 366, val := Value.ref 134 }, { hash := kh P (s "__weakref__"), key := Value.str (s "__weakref__") 368, val := Value.ref 135 }, { hash := kh P (s "__doc__"), key := Value.str (s "__doc__") 369, val := Value.none }] 4 }),
  (133, { cls := Value.type "type", data := Data.cls { name := s "Board", bases := [Value.type "object"], mro := [Value.ref 133, Value.type "object"], ns := 132, qualname := s "Board" }, slots := #[none, none, some (Value.str (s "Board") 232), some (Value.str (s "Board") 240), some (Value.builtin "object.__new__"), some (Value.bool true)] }),
  (143, { cls := Value.type "code", data := Data.fields #[Value.str (s "_law_group") 374, Value.str (s "_law_group") 375, Value.str (s "/claim/cut.py") 376, Value.int 126 0, Value.int 3 0, Value.int 0 0, Value.int 0 0, Value.int 3 0, Value.ref 138, Value.bool true, Value.int 181 0, Value.ref 139, Value.none, Value.ref 140, Value.ref 141, Value.ref 142, Value.int 385 0, Value.int 126 0, Value.str (s "/claim/cut.py") 386] }),
  (144, fnObj (topAt 8) "_law_group" "law_md0058_01" 372 143),
  (148, { cls := Value.type "code", data := Data.fields #[Value.str (s "law") 388, Value.str (s "law") 389, Value.str (s "/claim/cut.py") 390, Value.int 137 0, Value.int 1 0, Value.int 0 0, Value.int 0 0, Value.int 3 0, Value.ref 145, Value.bool true, Value.int 181 0, Value.ref 146, Value.none, Value.none, Value.none, Value.ref 147, Value.int 391 0, Value.int 137 0, Value.str (s "/claim/cut.py") 392] }),
  (149, fnObj (topAt 9) "law" "law_md0058_01" 372 148)]
noncomputable def viewQ : Program := { PySem.Challenge.rw_md0058_01.row.toRowW.prog with main := { PySem.Challenge.rw_md0058_01.row.toRowW.prog.main with body := [0, 2, 3, 5, 6, 8, 9].map topAt } }
noncomputable abbrev hookK : Hook := kHook heapK [2, 3, 6, 20, 21, 22, 28, 29, 38, 39, 54, 55, 61, 62, 68, 69, 75, 76, 82, 83, 89, 90, 96, 97, 103, 104, 108, 109, 115, 116, 122, 123, 129, 130, 132, 133, 143, 144, 148, 149] (fun _ => by kernel_rfl)
noncomputable abbrev looseK : List Str := ["_opponents"]
noncomputable abbrev stepsK : Nat := 2066

noncomputable abbrev a_opponent_of : Nat := 29
noncomputable abbrev s_opponent_of : Stmt := (topAt 3)
noncomputable def d_opponent_of : FuncData := fnData (topAt 3) "opponent_of" "sgfmill.common" 194 28
noncomputable abbrev a_init : Nat := 55
noncomputable abbrev s_init : Stmt := (inCls 6 0)
noncomputable def d_init : FuncData := fnData (inCls 6 0) "Board.__init__" "sgfmill.boards" 210 54
noncomputable abbrev a_make_group : Nat := 69
noncomputable abbrev s_make_group : Stmt := (inCls 6 2)
noncomputable def d_make_group : FuncData := fnData (inCls 6 2) "Board._make_group" "sgfmill.boards" 210 68
noncomputable abbrev a_find_surrounded_groups : Nat := 83
noncomputable abbrev s_find_surrounded_groups : Stmt := (inCls 6 4)
noncomputable def d_find_surrounded_groups : FuncData := fnData (inCls 6 4) "Board._find_surrounded_groups" "sgfmill.boards" 210 82
noncomputable abbrev a_is_empty : Nat := 97
noncomputable abbrev s_is_empty : Stmt := (inCls 6 6)
noncomputable def d_is_empty : FuncData := fnData (inCls 6 6) "Board.is_empty" "sgfmill.boards" 210 96
noncomputable abbrev a_play : Nat := 109
noncomputable abbrev s_play : Stmt := (inCls 6 8)
noncomputable def d_play : FuncData := fnData (inCls 6 8) "Board.play" "sgfmill.boards" 210 108
noncomputable abbrev a_list_occupied_points : Nat := 123
noncomputable abbrev s_list_occupied_points : Stmt := (inCls 6 10)
noncomputable def d_list_occupied_points : FuncData := fnData (inCls 6 10) "Board.list_occupied_points" "sgfmill.boards" 210 122
noncomputable abbrev a_law_group : Nat := 144
noncomputable abbrev s_law_group : Stmt := (topAt 8)
noncomputable def d_law_group : FuncData := fnData (topAt 8) "_law_group" "law_md0058_01" 372 143
noncomputable abbrev a_law : Nat := 149
noncomputable abbrev s_law : Stmt := (topAt 9)
noncomputable def d_law : FuncData := fnData (topAt 9) "law" "law_md0058_01" 372 148
noncomputable abbrev a_opponents : Nat := 22
noncomputable abbrev a_Group : Nat := 39
noncomputable abbrev a_Board : Nat := 133
noncomputable abbrev t_w : Nat := 197
noncomputable abbrev t_b : Nat := 199
noncomputable def n_opponent_of : List Str := ["colour"]
noncomputable def i_opponent_of : IS :=
 (.seq (.try_ (.seq (.ret (.sub (.glob (.ref a_opponents)) (.var 0)))
   .skip)
  "KeyError" "KeyError"
  (.seq .dead .skip))
 .skip)
noncomputable def n_init : List Str := ["self", "side", "row", "_row", "_col"]
noncomputable def i_init : IS :=
 (.seq (.assign (.attr (.var 0) "side") (.var 1))
 (.seq (.ite (.cmp .Lt (.var 1) (.int 2))
  (.seq (.raise_ "ValueError" "ValueError")
   .skip)
  .skip)
 (.seq (.assign (.attr (.var 0) "board_points") (.compRR 3 4 (.call (.ty "range") (.cons (.var 1) .nil)) (.call (.ty "range") (.cons (.var 1) .nil)) .nil (.tup (.cons (.var 3) (.cons (.var 4) .nil)))))
 (.seq (.assign (.attr (.var 0) "board") (.list .nil))
 (.seq (.for_ (.var 2) (.call (.ty "range") (.cons (.var 1) .nil))
  (.seq (.expr (.meth (.attr (.var 0) "board") "append" (.cons (.bin .Mult (.list (.cons .none .nil)) (.var 1)) .nil)))
   .skip))
 (.seq (.assign (.attr (.var 0) "_is_empty") (.bool true))
 .skip))))))
noncomputable def n_make_group : List Str := ["self", "row", "col", "colour", "points", "is_surrounded", "to_handle", "group", "point", "neighbour", "r", "c", "neigh_colour", "r1", "c1"]
noncomputable def i_make_group : IS :=
 (.seq (.assign (.var 4) (.call (.ty "set") .nil))
 (.seq (.assign (.var 5) (.bool true))
 (.seq (.assign (.var 6) (.call (.ty "set") .nil))
 (.seq (.expr (.meth (.var 6) "add" (.cons (.tup (.cons (.var 1) (.cons (.var 2) .nil))) .nil)))
 (.seq (.while_ (.var 6)
  (.seq (.assign (.var 8) (.meth (.var 6) "pop" .nil))
   (.seq (.expr (.meth (.var 4) "add" (.cons (.var 8) .nil)))
   (.seq (.assign (.tup (.cons (.var 10) (.cons (.var 11) .nil))) (.var 8))
   (.seq (.for_ (.var 9) (.list (.cons (.tup (.cons (.bin .Sub (.var 10) (.int 1)) (.cons (.var 11) .nil))) (.cons (.tup (.cons (.bin .Add (.var 10) (.int 1)) (.cons (.var 11) .nil))) (.cons (.tup (.cons (.var 10) (.cons (.bin .Sub (.var 11) (.int 1)) .nil))) (.cons (.tup (.cons (.var 10) (.cons (.bin .Add (.var 11) (.int 1)) .nil))) .nil)))))
    (.seq (.assign (.tup (.cons (.var 13) (.cons (.var 14) .nil))) (.var 9))
     (.seq (.ite (.un .Not (.boolop .And (.cons (.cmp2 .LtE .Lt (.int 0) (.var 13) (.attr (.var 0) "side")) (.cons (.cmp2 .LtE .Lt (.int 0) (.var 14) (.attr (.var 0) "side")) .nil))))
      (.seq .cont
       .skip)
      .skip)
     (.seq (.assign (.var 12) (.sub (.sub (.attr (.var 0) "board") (.var 13)) (.var 14)))
     (.seq (.ite (.cmp .Is (.var 12) .none)
      (.seq (.assign (.var 5) (.bool false))
       .skip)
      (.seq (.ite (.cmp .Eq (.var 12) (.var 3))
        (.seq (.ite (.cmp .NotIn (.var 9) (.var 4))
          (.seq (.expr (.meth (.var 6) "add" (.cons (.var 9) .nil)))
           .skip)
          .skip)
         .skip)
        .skip)
       .skip))
     .skip)))))
   .skip)))))
 (.seq (.assign (.var 7) (.call (.ref a_Group) .nil))
 (.seq (.assign (.attr (.var 7) "colour") (.var 3))
 (.seq (.assign (.attr (.var 7) "points") (.var 4))
 (.seq (.assign (.attr (.var 7) "is_surrounded") (.var 5))
 (.seq (.ret (.var 7))
 .skip))))))))))
noncomputable def n_find_surrounded_groups : List Str := ["self", "r", "c", "surrounded", "handled", "row", "col", "colour", "point", "group"]
noncomputable def i_find_surrounded_groups : IS :=
 (.seq (.assign (.var 3) (.list .nil))
 (.seq (.assign (.var 4) (.call (.ty "set") .nil))
 (.seq (.for_ (.tup (.cons (.var 5) (.cons (.var 6) .nil))) (.list (.cons (.tup (.cons (.var 1) (.cons (.var 2) .nil))) (.cons (.tup (.cons (.bin .Sub (.var 1) (.int 1)) (.cons (.var 2) .nil))) (.cons (.tup (.cons (.bin .Add (.var 1) (.int 1)) (.cons (.var 2) .nil))) (.cons (.tup (.cons (.var 1) (.cons (.bin .Sub (.var 2) (.int 1)) .nil))) (.cons (.tup (.cons (.var 1) (.cons (.bin .Add (.var 2) (.int 1)) .nil))) .nil))))))
  (.seq (.ite (.un .Not (.boolop .And (.cons (.cmp2 .LtE .Lt (.int 0) (.var 5) (.attr (.var 0) "side")) (.cons (.cmp2 .LtE .Lt (.int 0) (.var 6) (.attr (.var 0) "side")) .nil))))
    (.seq .cont
     .skip)
    .skip)
   (.seq (.assign (.var 7) (.sub (.sub (.attr (.var 0) "board") (.var 5)) (.var 6)))
   (.seq (.ite (.cmp .Is (.var 7) .none)
    (.seq .cont
     .skip)
    .skip)
   (.seq (.assign (.var 8) (.tup (.cons (.var 5) (.cons (.var 6) .nil))))
   (.seq (.ite (.cmp .In (.var 8) (.var 4))
    (.seq .cont
     .skip)
    .skip)
   (.seq (.assign (.var 9) (.meth (.var 0) "_make_group" (.cons (.var 5) (.cons (.var 6) (.cons (.var 7) .nil)))))
   (.seq (.ite (.attr (.var 9) "is_surrounded")
    (.seq (.expr (.meth (.var 3) "append" (.cons (.var 9) .nil)))
     .skip)
    .skip)
   (.seq (.expr (.meth (.var 4) "update" (.cons (.attr (.var 9) "points") .nil)))
   .skip)))))))))
 (.seq (.ret (.var 3))
 .skip))))
noncomputable def n_is_empty : List Str := ["self"]
noncomputable def i_is_empty : IS :=
 (.seq (.ret (.attr (.var 0) "_is_empty"))
 .skip)
noncomputable def n_play : List Str := ["self", "row", "col", "colour", "opponent", "surrounded", "simple_ko_point", "group", "to_capture", "self_capture", "r", "c"]
noncomputable def i_play : IS :=
 (.seq (.ite (.boolop .Or (.cons (.cmp .Lt (.var 1) (.int 0)) (.cons (.cmp .Lt (.var 2) (.int 0)) .nil)))
  (.seq (.raise_ "IndexError" "IndexError")
   .skip)
  .skip)
 (.seq (.assign (.var 4) (.call (.ref a_opponent_of) (.cons (.var 3) .nil)))
 (.seq (.ite (.cmp .IsNot (.sub (.sub (.attr (.var 0) "board") (.var 1)) (.var 2)) .none)
  (.seq (.raise_ "ValueError" "ValueError")
   .skip)
  .skip)
 (.seq (.assign (.sub (.sub (.attr (.var 0) "board") (.var 1)) (.var 2)) (.var 3))
 (.seq (.assign (.attr (.var 0) "_is_empty") (.bool false))
 (.seq (.assign (.var 5) (.meth (.var 0) "_find_surrounded_groups" (.cons (.var 1) (.cons (.var 2) .nil))))
 (.seq (.assign (.var 6) .none)
 (.seq (.ite (.var 5)
  (.seq (.cut (.ite (.cmp .Eq (.call (.bi "len") (.cons (.var 5) .nil)) (.int 1))
    (.seq (.assign (.var 8) (.var 5))
     (.seq (.ite (.cmp .Eq (.call (.bi "len") (.cons (.attr (.sub (.var 8) (.int 0)) "points") .nil)) (.bin .Mult (.attr (.var 0) "side") (.attr (.var 0) "side")))
      (.seq (.assign (.attr (.var 0) "_is_empty") (.bool true))
       .skip)
      .skip)
     .skip))
    (.seq (.assignC 8 (.comp (.one 7) (.var 5) (.cons (.cmp .Eq (.attr (.var 7) "colour") (.var 4)) .nil) (.var 7)))
     (.seq (.ite (.boolop .And (.cons (.cmp .Eq (.call (.bi "len") (.cons (.var 8) .nil)) (.int 1)) (.cons (.cmp .Eq (.call (.bi "len") (.cons (.attr (.sub (.var 8) (.int 0)) "points") .nil)) (.int 1)) .nil)))
      (.seq (.assignC 9 (.comp (.one 7) (.var 5) (.cons (.cmp .Eq (.attr (.var 7) "colour") (.var 3)) .nil) (.var 7)))
       (.seq (.ite (.cmp .Eq (.call (.bi "len") (.cons (.attr (.sub (.var 9) (.int 0)) "points") .nil)) (.int 1))
        (.seq (.assign (.tupS (.var 6)) (.attr (.sub (.var 8) (.int 0)) "points"))
         .skip)
        .skip)
       .skip))
      .skip)
     .skip))))
   (.seq (.for_ (.var 7) (.var 8)
    (.seq (.for_ (.tup (.cons (.var 10) (.cons (.var 11) .nil))) (.attr (.var 7) "points")
      (.seq (.assign (.sub (.sub (.attr (.var 0) "board") (.var 10)) (.var 11)) .none)
       .skip))
     .skip))
   .skip))
  .skip)
 (.seq (.ret (.var 6))
 .skip)))))))))
noncomputable def n_list_occupied_points : List Str := ["self", "result", "row", "col", "colour"]
noncomputable def i_list_occupied_points : IS :=
 (.seq (.assign (.var 1) (.list .nil))
 (.seq (.for_ (.tup (.cons (.var 2) (.cons (.var 3) .nil))) (.attr (.var 0) "board_points")
  (.seq (.assign (.var 4) (.sub (.sub (.attr (.var 0) "board") (.var 2)) (.var 3)))
   (.seq (.ite (.cmp .IsNot (.var 4) .none)
    (.seq (.expr (.meth (.var 1) "append" (.cons (.tup (.cons (.var 4) (.cons (.tup (.cons (.var 2) (.cons (.var 3) .nil))) .nil))) .nil)))
     .skip)
    .skip)
   .skip)))
 (.seq (.ret (.var 1))
 .skip)))
noncomputable def n_law_group : List Str := ["board", "side", "start", "group", "free", "row", "col", "point"]
noncomputable def i_law_group : IS :=
 (.seq (.assign (.var 3) (.list (.cons (.var 2) .nil)))
 (.seq (.assign (.var 4) (.bool false))
 (.seq (.for_ (.tup (.cons (.var 5) (.cons (.var 6) .nil))) (.var 3)
  (.seq (.for_ (.var 7) (.list (.cons (.tup (.cons (.bin .Sub (.var 5) (.int 1)) (.cons (.var 6) .nil))) (.cons (.tup (.cons (.bin .Add (.var 5) (.int 1)) (.cons (.var 6) .nil))) (.cons (.tup (.cons (.var 5) (.cons (.bin .Sub (.var 6) (.int 1)) .nil))) (.cons (.tup (.cons (.var 5) (.cons (.bin .Add (.var 6) (.int 1)) .nil))) .nil)))))
    (.seq (.ite (.boolop .And (.cons (.cmp2 .LtE .Lt (.int 0) (.sub (.var 7) (.int 0)) (.var 1)) (.cons (.cmp2 .LtE .Lt (.int 0) (.sub (.var 7) (.int 1)) (.var 1)) .nil)))
      (.seq (.ite (.cmp .NotIn (.var 7) (.var 0))
        (.seq (.assign (.var 4) (.bool true))
         .skip)
        (.seq (.ite (.boolop .And (.cons (.cmp .Eq (.sub (.var 0) (.var 7)) (.sub (.var 0) (.var 2))) (.cons (.cmp .NotIn (.var 7) (.var 3)) .nil)))
          (.seq (.expr (.meth (.var 3) "append" (.cons (.var 7) .nil)))
           .skip)
          .skip)
         .skip))
       .skip)
      .skip)
     .skip))
   .skip))
 (.seq (.ret (.ife (.var 4) (.list .nil) (.var 3)))
 .skip))))
noncomputable def n_law : List Str := ["script", "side", "held", "board", "number", "point", "colour", "own", "taken", "other", "one", "due", "stones", "told", "row", "col"]
noncomputable def i_turn : IS :=
 (.seq (.assign (.var 5) (.tup (.cons (.bin .Mod (.var 4) (.var 1)) (.cons (.bin .Mod (.bin .FloorDiv (.var 4) (.var 1)) (.var 1)) .nil))))
   (.seq (.assign (.var 6) (.ife (.cmp .Eq (.bin .Mod (.bin .FloorDiv (.bin .FloorDiv (.var 4) (.var 1)) (.var 1)) (.int 2)) (.int 0)) (.str "b") (.str "w")))
   (.seq (.try_ (.seq (.assign (.var 13) (.meth (.var 2) "play" (.cons (.sub (.var 5) (.int 0)) (.cons (.sub (.var 5) (.int 1)) (.cons (.var 6) .nil)))))
     .skip)
    "ValueError" "ValueError"
    (.seq (.ite (.cmp .NotIn (.var 5) (.var 3))
      (.seq (.ret (.bool false))
       .skip)
      .skip)
     (.seq .cont
     .skip)))
   (.seq (.ite (.cmp .In (.var 5) (.var 3))
    (.seq (.ret (.bool false))
     .skip)
    .skip)
   (.seq (.assign (.sub (.var 3) (.var 5)) (.var 6))
   (.seq (.assign (.var 7) (.call (.ref a_law_group) (.cons (.var 3) (.cons (.var 1) (.cons (.var 5) .nil)))))
   (.seq (.assign (.var 8) (.list .nil))
   (.seq (.for_ (.var 9) (.list (.cons (.tup (.cons (.bin .Sub (.sub (.var 5) (.int 0)) (.int 1)) (.cons (.sub (.var 5) (.int 1)) .nil))) (.cons (.tup (.cons (.bin .Add (.sub (.var 5) (.int 0)) (.int 1)) (.cons (.sub (.var 5) (.int 1)) .nil))) (.cons (.tup (.cons (.sub (.var 5) (.int 0)) (.cons (.bin .Sub (.sub (.var 5) (.int 1)) (.int 1)) .nil))) (.cons (.tup (.cons (.sub (.var 5) (.int 0)) (.cons (.bin .Add (.sub (.var 5) (.int 1)) (.int 1)) .nil))) .nil)))))
    (.seq (.ite (.boolop .And (.cons (.cmp .In (.var 9) (.var 3)) (.cons (.cmp .NotEq (.sub (.var 3) (.var 9)) (.var 6)) (.cons (.cmp .NotIn (.var 9) (.var 8)) .nil))))
      (.seq (.aug 8 .Add (.call (.ref a_law_group) (.cons (.var 3) (.cons (.var 1) (.cons (.var 9) .nil)))))
       .skip)
      .skip)
     .skip))
   (.seq (.for_ (.var 10) (.ife (.var 8) (.var 8) (.var 7))
    (.seq (.expr (.meth (.var 3) "pop" (.cons (.var 10) .nil)))
     .skip))
   (.seq (.cut (.assign (.var 11) (.ife (.boolop .And (.cons (.cmp .Eq (.call (.bi "len") (.cons (.var 8) .nil)) (.int 1)) (.cons (.cmp .Eq (.var 7) (.list (.cons (.var 5) .nil))) .nil))) (.sub (.var 8) (.int 0)) .none)))
   (.seq (.ite (.cmp .NotEq (.var 13) (.var 11))
    (.seq (.ret (.bool false))
     .skip)
    .skip)
   (.seq (.assignC 12 (.compRR 14 15 (.call (.ty "range") (.cons (.var 1) .nil)) (.call (.ty "range") (.cons (.var 1) .nil)) (.cons (.cmp .In (.tup (.cons (.var 14) (.cons (.var 15) .nil))) (.var 3)) .nil) (.tup (.cons (.sub (.var 3) (.tup (.cons (.var 14) (.cons (.var 15) .nil)))) (.cons (.tup (.cons (.var 14) (.cons (.var 15) .nil))) .nil)))))
   (.seq (.ite (.boolop .Or (.cons (.cmp .NotEq (.meth (.var 2) "list_occupied_points" .nil) (.var 12)) (.cons (.cmp .NotEq (.meth (.var 2) "is_empty" .nil) (.cmp .Eq (.var 3) .dict)) .nil)))
    (.seq (.ret (.bool false))
     .skip)
    .skip)
   .skip)))))))))))))
noncomputable def i_law : IS :=
 (.seq (.assign (.var 1) (.bin .Add (.bin .Mod (.sub (.bin .Add (.var 0) (.list (.cons (.int 0) .nil))) (.int 0)) (.int 3)) (.int 3)))
 (.seq (.assign (.var 2) (.call (.ref a_Board) (.cons (.var 1) .nil)))
 (.seq (.assign (.var 3) .dict)
 (.seq (.for_ (.var 4) (.slice (.var 0) (.int 1) (.int 25))
  i_turn)
 (.seq (.ret (.bool true))
 .skip)))))
noncomputable def gAll : GT := [("KeyError", .ty "KeyError", false), ("_opponents", .ref a_opponents, false), ("range", .ty "range", true), ("ValueError", .ty "ValueError", false), ("_Group", .ref a_Group, true), ("set", .ty "set", true), ("len", .bi "len", true), ("opponent_of", .ref a_opponent_of, true), ("IndexError", .ty "IndexError", false), ("_law_group", .ref a_law_group, true), ("Board", .ref a_Board, true)]
structure L1 (C : Cx) : Prop where
  K : C.K = heapK C.w.params
  miss : ∀ x ∈ (["IndexError", "KeyError", "ValueError", "len", "range", "set"] : List Str), C.mg x = none
theorem L1.fd {C : Cx} (h : L1 C) {a : Addr} {x : Str} {v} (e : findIn (heapK C.w.params) (.ref a) x = v) : findIn C.K (.ref a) x = v := by rw [h.K]; exact e
theorem L1.ft {C : Cx} (h : L1 C) {a : Addr} {v} (e : typeIn (heapK C.w.params) (.ref a) = v) : typeIn C.K (.ref a) = v := by rw [h.K]; exact e
theorem L1.cal {C : Cx} (h : L1 C) {g : PV} (e : callee (heapK C.w.params) g = true) : callee C.K g = true := by rw [h.K]; exact e
theorem L1.mks {C : Cx} (h : L1 C) {a : Addr} (e : makesIn (heapK C.w.params) a = true) : makesIn C.K a = true := by rw [h.K]; exact e
theorem L1.ref {C : Cx} (h : L1 C) {x : Str} {a : Addr} {c : Bool} (e : nsIn (heapK C.w.params) mainGlobals x = some (some (.ref a))) (hc : c = true → callee (heapK C.w.params) (.ref a) = true) : GOk1 C x (.ref a) c := ⟨fun q => h.cal (hc q), by rw [h.K]; exact e⟩
theorem L1.ty {C : Cx} (h : L1 C) {x : Str} {n : String} {c : Bool} (e : bootBuiltins x = some (.type n)) (hm : x ∈ (["IndexError", "KeyError", "ValueError", "len", "range", "set"] : List Str)) : GOk1 C x (.ty n) c := ⟨fun _ => rfl, h.miss x hm, e⟩
theorem L1.bi {C : Cx} (h : L1 C) {x : Str} {n : String} {c : Bool} (e : bootBuiltins x = some (.builtin n)) (hm : x ∈ (["IndexError", "KeyError", "ValueError", "len", "range", "set"] : List Str)) : GOk1 C x (.bi n) c := ⟨fun _ => rfl, h.miss x hm, e⟩
theorem GOk.nil {C : Cx} : GOk C [] := fun _ h => by cases h
theorem GOk.cons {C : Cx} {x : Str} {p : PV} {c : Bool} {G : GT} (h : GOk1 C x p c) (t : GOk C G) : GOk C ((x, p, c) :: G) := fun e he => by
  rcases List.mem_cons.mp he with rfl | he
  · exact h
  · exact t e he
theorem L1.go {C : Cx} (h : L1 C) : GOk C gAll := (GOk.cons (h.ty PyProof.Rows.Boot.«KeyError» (by decide +kernel)) (GOk.cons (h.ref (by kernel_rfl) (fun q => by cases q)) (GOk.cons (h.ty PyProof.Rows.Boot.«range» (by decide +kernel)) (GOk.cons (h.ty PyProof.Rows.Boot.«ValueError» (by decide +kernel)) (GOk.cons (h.ref (by kernel_rfl) (fun _ => by kernel_rfl)) (GOk.cons (h.ty PyProof.Rows.Boot.«set» (by decide +kernel)) (GOk.cons (h.bi PyProof.Rows.Boot.«len» (by decide +kernel)) (GOk.cons (h.ref (by kernel_rfl) (fun _ => by kernel_rfl)) (GOk.cons (h.ty PyProof.Rows.Boot.«IndexError» (by decide +kernel)) (GOk.cons (h.ref (by kernel_rfl) (fun _ => by kernel_rfl)) (GOk.cons (h.ref (by kernel_rfl) (fun _ => by kernel_rfl)) GOk.nil)))))))))))
theorem L1.D_opponent_of {C : Cx} (h : L1 C) : DefAt C.K a_opponent_of d_opponent_of ["colour"] (fnBody s_opponent_of) := by
  rw [h.K]; exact ⟨⟨.type "function", none, #[], by kernel_rfl⟩, by kernel_rfl, by kernel_rfl, by kernel_rfl, by kernel_rfl, by kernel_rfl, bind_of1 (fun _ => by kernel_rfl), by decide +kernel, by decide +kernel, by decide +kernel, by decide +kernel, by kernel_rfl, by kernel_rfl, by kernel_rfl⟩
theorem c_opponent_of : mS gAll n_opponent_of d_opponent_of.scope.names i_opponent_of false true (fnBody s_opponent_of) = true := by decide +kernel
theorem u_opponent_of : n_opponent_of.Nodup := by decide +kernel
theorem L1.f_opponent_of {T : Tr} (h : L1 T.C) {X : String} {H : AHeap} {R : AHeap → Prop} {Q : PV → AHeap → Prop} {ps : List PV} (hh : T.hd = false) (hn : 1 ≤ T.n) (hl : ps.length = 1) (e : wS i_opponent_of X T.down (zipN 0 ps) H (fun _ H => R H) (retK Q)) : SCode T X (.ref a_opponent_of) ps H Q R :=
  SCode.fn h.go u_opponent_of h.D_opponent_of rfl c_opponent_of rfl hh hn hl e
theorem L1.D_init {C : Cx} (h : L1 C) : DefAt C.K a_init d_init ["self", "side"] (fnBody s_init) := by
  rw [h.K]; exact ⟨⟨.type "function", none, #[], by kernel_rfl⟩, by kernel_rfl, by kernel_rfl, by kernel_rfl, by kernel_rfl, by kernel_rfl, bind_of2 (fun _ _ => by kernel_rfl), by decide +kernel, by decide +kernel, by decide +kernel, by decide +kernel, by kernel_rfl, by kernel_rfl, by kernel_rfl⟩
theorem c_init : mS gAll n_init d_init.scope.names i_init false true (fnBody s_init) = true := by decide +kernel
theorem u_init : n_init.Nodup := by decide +kernel
theorem L1.f_init {T : Tr} (h : L1 T.C) {X : String} {H : AHeap} {R : AHeap → Prop} {Q : PV → AHeap → Prop} {ps : List PV} (hh : T.hd = false) (hn : 1 ≤ T.n) (hl : ps.length = 2) (e : wS i_init X T.down (zipN 0 ps) H (fun _ H => R H) (retK Q)) : SCode T X (.ref a_init) ps H Q R :=
  SCode.fn h.go u_init h.D_init rfl c_init rfl hh hn hl e
theorem L1.D_make_group {C : Cx} (h : L1 C) : DefAt C.K a_make_group d_make_group ["self", "row", "col", "colour"] (fnBody s_make_group) := by
  rw [h.K]; exact ⟨⟨.type "function", none, #[], by kernel_rfl⟩, by kernel_rfl, by kernel_rfl, by kernel_rfl, by kernel_rfl, by kernel_rfl, bind_of4 (fun _ _ _ _ => by kernel_rfl), by decide +kernel, by decide +kernel, by decide +kernel, by decide +kernel, by kernel_rfl, by kernel_rfl, by kernel_rfl⟩
theorem c_make_group : mS gAll n_make_group d_make_group.scope.names i_make_group false true (fnBody s_make_group) = true := by decide +kernel
theorem u_make_group : n_make_group.Nodup := by decide +kernel
theorem L1.f_make_group {T : Tr} (h : L1 T.C) {X : String} {H : AHeap} {R : AHeap → Prop} {Q : PV → AHeap → Prop} {ps : List PV} (hh : T.hd = false) (hn : 1 ≤ T.n) (hl : ps.length = 4) (e : wS i_make_group X T.down (zipN 0 ps) H (fun _ H => R H) (retK Q)) : SCode T X (.ref a_make_group) ps H Q R :=
  SCode.fn h.go u_make_group h.D_make_group rfl c_make_group rfl hh hn hl e
theorem L1.D_find_surrounded_groups {C : Cx} (h : L1 C) : DefAt C.K a_find_surrounded_groups d_find_surrounded_groups ["self", "r", "c"] (fnBody s_find_surrounded_groups) := by
  rw [h.K]; exact ⟨⟨.type "function", none, #[], by kernel_rfl⟩, by kernel_rfl, by kernel_rfl, by kernel_rfl, by kernel_rfl, by kernel_rfl, bind_of3 (fun _ _ _ => by kernel_rfl), by decide +kernel, by decide +kernel, by decide +kernel, by decide +kernel, by kernel_rfl, by kernel_rfl, by kernel_rfl⟩
theorem c_find_surrounded_groups : mS gAll n_find_surrounded_groups d_find_surrounded_groups.scope.names i_find_surrounded_groups false true (fnBody s_find_surrounded_groups) = true := by decide +kernel
theorem u_find_surrounded_groups : n_find_surrounded_groups.Nodup := by decide +kernel
theorem L1.f_find_surrounded_groups {T : Tr} (h : L1 T.C) {X : String} {H : AHeap} {R : AHeap → Prop} {Q : PV → AHeap → Prop} {ps : List PV} (hh : T.hd = false) (hn : 1 ≤ T.n) (hl : ps.length = 3) (e : wS i_find_surrounded_groups X T.down (zipN 0 ps) H (fun _ H => R H) (retK Q)) : SCode T X (.ref a_find_surrounded_groups) ps H Q R :=
  SCode.fn h.go u_find_surrounded_groups h.D_find_surrounded_groups rfl c_find_surrounded_groups rfl hh hn hl e
theorem L1.D_is_empty {C : Cx} (h : L1 C) : DefAt C.K a_is_empty d_is_empty ["self"] (fnBody s_is_empty) := by
  rw [h.K]; exact ⟨⟨.type "function", none, #[], by kernel_rfl⟩, by kernel_rfl, by kernel_rfl, by kernel_rfl, by kernel_rfl, by kernel_rfl, bind_of1 (fun _ => by kernel_rfl), by decide +kernel, by decide +kernel, by decide +kernel, by decide +kernel, by kernel_rfl, by kernel_rfl, by kernel_rfl⟩
theorem c_is_empty : mS gAll n_is_empty d_is_empty.scope.names i_is_empty false true (fnBody s_is_empty) = true := by decide +kernel
theorem u_is_empty : n_is_empty.Nodup := by decide +kernel
theorem L1.f_is_empty {T : Tr} (h : L1 T.C) {X : String} {H : AHeap} {R : AHeap → Prop} {Q : PV → AHeap → Prop} {ps : List PV} (hh : T.hd = false) (hn : 1 ≤ T.n) (hl : ps.length = 1) (e : wS i_is_empty X T.down (zipN 0 ps) H (fun _ H => R H) (retK Q)) : SCode T X (.ref a_is_empty) ps H Q R :=
  SCode.fn h.go u_is_empty h.D_is_empty rfl c_is_empty rfl hh hn hl e
theorem L1.D_play {C : Cx} (h : L1 C) : DefAt C.K a_play d_play ["self", "row", "col", "colour"] (fnBody s_play) := by
  rw [h.K]; exact ⟨⟨.type "function", none, #[], by kernel_rfl⟩, by kernel_rfl, by kernel_rfl, by kernel_rfl, by kernel_rfl, by kernel_rfl, bind_of4 (fun _ _ _ _ => by kernel_rfl), by decide +kernel, by decide +kernel, by decide +kernel, by decide +kernel, by kernel_rfl, by kernel_rfl, by kernel_rfl⟩
theorem c_play : mS gAll n_play d_play.scope.names i_play false true (fnBody s_play) = true := by decide +kernel
theorem u_play : n_play.Nodup := by decide +kernel
theorem L1.f_play {T : Tr} (h : L1 T.C) {X : String} {H : AHeap} {R : AHeap → Prop} {Q : PV → AHeap → Prop} {ps : List PV} (hh : T.hd = false) (hn : 1 ≤ T.n) (hl : ps.length = 4) (e : wS i_play X T.down (zipN 0 ps) H (fun _ H => R H) (retK Q)) : SCode T X (.ref a_play) ps H Q R :=
  SCode.fn h.go u_play h.D_play rfl c_play rfl hh hn hl e
theorem L1.D_list_occupied_points {C : Cx} (h : L1 C) : DefAt C.K a_list_occupied_points d_list_occupied_points ["self"] (fnBody s_list_occupied_points) := by
  rw [h.K]; exact ⟨⟨.type "function", none, #[], by kernel_rfl⟩, by kernel_rfl, by kernel_rfl, by kernel_rfl, by kernel_rfl, by kernel_rfl, bind_of1 (fun _ => by kernel_rfl), by decide +kernel, by decide +kernel, by decide +kernel, by decide +kernel, by kernel_rfl, by kernel_rfl, by kernel_rfl⟩
theorem c_list_occupied_points : mS gAll n_list_occupied_points d_list_occupied_points.scope.names i_list_occupied_points false true (fnBody s_list_occupied_points) = true := by decide +kernel
theorem u_list_occupied_points : n_list_occupied_points.Nodup := by decide +kernel
theorem L1.f_list_occupied_points {T : Tr} (h : L1 T.C) {X : String} {H : AHeap} {R : AHeap → Prop} {Q : PV → AHeap → Prop} {ps : List PV} (hh : T.hd = false) (hn : 1 ≤ T.n) (hl : ps.length = 1) (e : wS i_list_occupied_points X T.down (zipN 0 ps) H (fun _ H => R H) (retK Q)) : SCode T X (.ref a_list_occupied_points) ps H Q R :=
  SCode.fn h.go u_list_occupied_points h.D_list_occupied_points rfl c_list_occupied_points rfl hh hn hl e
theorem L1.D_law_group {C : Cx} (h : L1 C) : DefAt C.K a_law_group d_law_group ["board", "side", "start"] (fnBody s_law_group) := by
  rw [h.K]; exact ⟨⟨.type "function", none, #[], by kernel_rfl⟩, by kernel_rfl, by kernel_rfl, by kernel_rfl, by kernel_rfl, by kernel_rfl, bind_of3 (fun _ _ _ => by kernel_rfl), by decide +kernel, by decide +kernel, by decide +kernel, by decide +kernel, by kernel_rfl, by kernel_rfl, by kernel_rfl⟩
theorem c_law_group : mS gAll n_law_group d_law_group.scope.names i_law_group false true (fnBody s_law_group) = true := by decide +kernel
theorem u_law_group : n_law_group.Nodup := by decide +kernel
theorem L1.f_law_group {T : Tr} (h : L1 T.C) {X : String} {H : AHeap} {R : AHeap → Prop} {Q : PV → AHeap → Prop} {ps : List PV} (hh : T.hd = false) (hn : 1 ≤ T.n) (hl : ps.length = 3) (e : wS i_law_group X T.down (zipN 0 ps) H (fun _ H => R H) (retK Q)) : SCode T X (.ref a_law_group) ps H Q R :=
  SCode.fn h.go u_law_group h.D_law_group rfl c_law_group rfl hh hn hl e
theorem L1.D_law {C : Cx} (h : L1 C) : DefAt C.K a_law d_law ["script"] (fnBody s_law) := by
  rw [h.K]; exact ⟨⟨.type "function", none, #[], by kernel_rfl⟩, by kernel_rfl, by kernel_rfl, by kernel_rfl, by kernel_rfl, by kernel_rfl, bind_of1 (fun _ => by kernel_rfl), by decide +kernel, by decide +kernel, by decide +kernel, by decide +kernel, by kernel_rfl, by kernel_rfl, by kernel_rfl⟩
theorem c_law : mS gAll n_law d_law.scope.names i_law false true (fnBody s_law) = true := by decide +kernel
theorem u_law : n_law.Nodup := by decide +kernel
end
section
open PySem PySem.W PyProof.Rows PySem.Calls
noncomputable def cell : Option Str → PV
  | none => .none
  | some c => .str c
noncomputable def own5 : List Str := ["__init__", "copy", "_make_group", "_make_empty_region", "_find_surrounded_groups", "_find_all_surrounded_groups", "is_empty", "get", "play", "apply_setup", "list_occupied_points", "area_score"]
structure BdAt (x d bp bd : Addr) (rows : List Addr) (n : Nat) (G : Pt → Option Str) (e : Bool) (H : AHeap) : Prop where
  inst : H x = some (.inst a_Board d)
  attrs : ∃ l, H d = some (.attrs l) ∧ l.length ≤ 5000 ∧ l.lookup ("side" : Str) = some (.int n) ∧ l.lookup ("board_points" : Str) = some (.ref bp) ∧ l.lookup ("board" : Str) = some (.ref bd) ∧ l.lookup ("_is_empty" : Str) = some (.bool e) ∧ ∀ m ∈ own5, l.lookup m = none
  pts : H bp = some (.list (gather2 n n fun i j => some (pt (i, j))))
  board : H bd = some (.list (rows.map .ref))
  len : rows.length = n
  row : ∀ (i : Nat) a, rows[i]? = some a → H a = some (.list ((List.range n).map fun j : Nat => cell (G (i, j))))
  nodup : rows.Nodup
  lo : 2 ≤ n
  five : n ≤ 5
  bpn : bp ∉ rows
  bdn : bd ∉ rows

section
variable {T : Tr} {X : String} {H H₀ : AHeap} {R : AHeap → Prop} {x d bp bd : Addr} {rows : List Addr} {n : Nat} {G : Pt → Option Str} {e : Bool}
theorem BdAt.ext {H' : AHeap} (B : BdAt x d bp bd rows n G e H) (ex : Ext H H') : BdAt x d bp bd rows n G e H' :=
  ⟨ex _ _ B.inst, let ⟨l, a, b⟩ := B.attrs; ⟨l, ex _ _ a, b⟩, ex _ _ B.pts, ex _ _ B.board, B.len, fun i a h => ex _ _ (B.row i a h), B.nodup, B.lo, B.five, B.bpn, B.bdn⟩
theorem L1.clsB {C : Cx} (h : L1 C) : ClsOk C.K a_Board := by rw [h.K]; exact ⟨by kernel_rfl, by kernel_rfl, by kernel_rfl, by kernel_rfl, by kernel_rfl⟩
theorem L1.clsG {C : Cx} (h : L1 C) : ClsOk C.K a_Group := by rw [h.K]; exact ⟨by kernel_rfl, by kernel_rfl, by kernel_rfl, by kernel_rfl, by kernel_rfl⟩
theorem BdAt.gSide {Q : PV → AHeap → Prop} (hL : L1 T.C) (B : BdAt x d bp bd rows n G e H) (h : Q (.int n) H) : SGet T "side" (.ref x) H Q := by
  obtain ⟨l, h1, h2, h3, h4, h5, h6, h7⟩ := B.attrs
  exact SGet.inst hL.clsB (hL.fd (by kernel_rfl)) B.inst h1 h3 rfl h
theorem BdAt.gPts {Q : PV → AHeap → Prop} (hL : L1 T.C) (B : BdAt x d bp bd rows n G e H) (h : Q (.ref bp) H) : SGet T "board_points" (.ref x) H Q := by
  obtain ⟨l, h1, h2, h3, h4, h5, h6, h7⟩ := B.attrs
  exact SGet.inst hL.clsB (hL.fd (by kernel_rfl)) B.inst h1 h4 rfl h
theorem BdAt.gBoard {Q : PV → AHeap → Prop} (hL : L1 T.C) (B : BdAt x d bp bd rows n G e H) (h : Q (.ref bd) H) : SGet T "board" (.ref x) H Q := by
  obtain ⟨l, h1, h2, h3, h4, h5, h6, h7⟩ := B.attrs
  exact SGet.inst hL.clsB (hL.fd (by kernel_rfl)) B.inst h1 h5 rfl h
theorem BdAt.gEmpty {Q : PV → AHeap → Prop} (hL : L1 T.C) (B : BdAt x d bp bd rows n G e H) (h : Q (.bool e) H) : SGet T "_is_empty" (.ref x) H Q := by
  obtain ⟨l, h1, h2, h3, h4, h5, h6, h7⟩ := B.attrs
  exact SGet.inst hL.clsB (hL.fd (by kernel_rfl)) B.inst h1 h6 rfl h
theorem BdAt.meth {g : Addr} {m : Str} (hL : L1 T.C) (B : BdAt x d bp bd rows n G e H) (hm : m ∈ own5) (hf : findIn (heapK T.C.w.params) (.ref a_Board) m = some (some (.ref g))) (ht : typeIn (heapK T.C.w.params) (.ref g) = some (.type "function")) (hg : callee (heapK T.C.w.params) (.ref g) = true) : SMeth T m (.ref x) H (.ref g) := by
  obtain ⟨l, h1, h2, h3, h4, h5, h6, h7⟩ := B.attrs
  exact SMeth.own (hL.cal hg) hL.clsB (hL.fd hf) (hL.ft ht) B.inst h1 (h7 m hm)
theorem BdAt.rowAt (B : BdAt x d bp bd rows n G e H) {i : Int} (h0 : 0 ≤ i) (h1 : i < n) : ∃ a, rows[i.toNat]? = some a ∧ H a = some (.list ((List.range n).map fun j : Nat => cell (G (i, j)))) := by
  have hlt : i.toNat < rows.length := by rw [B.len]; omega
  refine ⟨rows[i.toNat], List.getElem?_eq_getElem hlt, ?_⟩
  have := B.row i.toNat _ (List.getElem?_eq_getElem hlt)
  rw [Int.toNat_of_nonneg h0] at this
  exact this
theorem sub2 {a : Addr} {i j : Int} {Q : PV → AHeap → Prop} (hH : H a = some (.list ((List.range n).map fun j : Nat => cell (G (i, j))))) (h0 : 0 ≤ j) (h1 : j < n) (hn : n ≤ 5) (h : Q (cell (G (i, j))) H) : SSub T (.ref a) (.int j) H Q := by
  refine SSub.list hH h0 (by omega) (p := cell (G (i, j))) ?_ h
  rw [List.getElem?_map, List.getElem?_range (by omega)]
  simp only [Option.map_some]
  rw [Int.toNat_of_nonneg h0]
theorem BdAt.at1 {i : Int} {Q : PV → AHeap → Prop} (B : BdAt x d bp bd rows n G e H) (h0 : 0 ≤ i) (h1 : i < n) (h : ∀ a, rows[i.toNat]? = some a → H a = some (.list ((List.range n).map fun j : Nat => cell (G (i, j)))) → Q (.ref a) H) : SSub T (.ref bd) (.int i) H Q := by
  obtain ⟨a, ha, hH⟩ := B.rowAt h0 h1
  exact SSub.list B.board h0 (by have := B.five; omega) (p := .ref a) (by rw [List.getElem?_map, ha]; rfl) (h a ha hH)
theorem is_empty_spec (hL : L1 T.C) (hn : 1 ≤ T.n) (hh : T.hd = false) (B : BdAt x d bp bd rows n G e H) : SCode T X (.ref a_is_empty) [.ref x] H (fun p H' => p = .bool e ∧ H' = H) R :=
  hL.f_is_empty hh hn rfl (B.gEmpty hL ⟨rfl, rfl⟩)
end
end
section
open PySem PySem.W PyProof.Rows PySem.Calls
structure GrpAt (g dg ps : Addr) (col : Str) (P : List Pt) (sur : Bool) (H : AHeap) : Prop where
  inst : H g = some (.inst a_Group dg)
  attrs : ∃ l, H dg = some (.attrs l) ∧ l.lookup ("colour" : Str) = some (.str col) ∧ l.lookup ("points" : Str) = some (.ref ps) ∧ l.lookup ("is_surrounded" : Str) = some (.bool sur)
  pts : H ps = some (.pset P)
inductive MGPost (n : Nat) (G : Pt → Option Str) (r c : Int) (col : Str) (H : AHeap) (p : PV) (H' : AHeap) : Prop
  | mk (g dg ps : Addr) (P : List Pt) (sur : Bool) (e : p = .ref g) (ex : Ext H H') (n1 : H g = none) (n2 : H dg = none) (n3 : H ps = none) (at_ : GrpAt g dg ps col P sur H') (mem : ∀ q, q ∈ P ↔ Reach n G col (r, c) q) (sr : sur = true ↔ Surr n G col (r, c)) (nd : P.Nodup) : MGPost n G r c col H p H'
inductive MGI (n : Nat) (G : Pt → Option Str) (col : Str) (s : Pt) (a1 a2 : Addr) (H : AHeap) (m : Nat) (sur : Bool) (H' : AHeap) : Prop
  | mk (P W : List Pt) (e : m = left n P) (mg : MG n G col s P W sur) (nP : P.Nodup) (nW : W.Nodup) (hP : H' a1 = some (.pset P)) (hW : H' a2 = some (.pset W)) (ex : Ext H H') : MGI n G col s a1 a2 H m sur H'
inductive MGJ (n : Nat) (G : Pt → Option Str) (col : Str) (q : Pt) (P₁ W₁ : List Pt) (sur : Bool) (a1 a2 a3 : Addr) (H : AHeap) (i : Nat) (sur' : Bool) (H' : AHeap) : Prop
  | mk (W' : List Pt) (mi : MI n G col q P₁ W₁ sur ((nb q).take i) W' sur') (nW' : W'.Nodup) (k1 : H' a1 = some (.pset P₁)) (k2 : H' a2 = some (.pset W')) (k3 : H' a3 = some (.list ((nb q).map pt))) (ex : Ext H H') : MGJ n G col q P₁ W₁ sur a1 a2 a3 H i sur' H'
theorem map_get {α : Type} {f : α → PV} {l : List α} {i : Nat} {v : PV} (h : (l.map f)[i]? = some v) : ∃ z, l[i]? = some z ∧ v = f z := by
  rw [List.getElem?_map] at h
  obtain ⟨z, hz, e⟩ := Option.map_eq_some_iff.mp h
  exact ⟨z, hz, e.symm⟩
theorem take_snoc {α : Type} {l : List α} {i : Nat} {z : α} (h : l[i]? = some z) : l.take (i + 1) = l.take i ++ [z] := by rw [List.take_add_one, h]; rfl
section
variable {T : Tr} {X : String} {H : AHeap} {R : AHeap → Prop} {x d bp bd : Addr} {rows : List Addr} {n : Nat} {G : Pt → Option Str} {e : Bool}
theorem BdAt.box (B : BdAt x d bp bd rows n G e H) {q : Pt} (hq : inG n q) : InBox q := by
  have := B.five; obtain ⟨⟨q1, q2⟩, q3, q4⟩ := hq
  exact ⟨by omega, by omega, by omega, by omega⟩
theorem make_group_spec (hL : L1 T.C) (hn : 3 ≤ T.n) (hh : T.hd = false) (B : BdAt x d bp bd rows n G e H) {r c : Int} {col : Str} (hg : inG n (r, c)) (hc : G (r, c) = some col) :
    SCode T X (.ref a_make_group) [.ref x, .int r, .int c, .str col] H (MGPost n G r c col H) R := by
  refine hL.f_make_group hh (by omega) rfl ?_
  refine SCall.set0 fun a1 h1 => ?_
  refine SCall.set0 fun a2 h2 => ?_
  have h12 : a2 ≠ a1 := fun e => by rw [e, upd_same] at h2; cases h2
  have h2' : H a2 = none := by rw [upd_ne h12] at h2; exact h2
  refine M.add (r, c) upd_same (B.box hg) fun l0 n0 m0 => ?_
  refine Exists.intro Bool (Exists.intro (fun b => [(0, .ref x), (3, .str col), (4, .ref a1), (6, .ref a2), (5, .bool b)]) (Exists.intro (MGI n G col (r, c) a1 a2 H) (Exists.intro (left n []) (Exists.intro true (And.intro ⟨rfl, rfl, rfl, rfl, rfl, trivial⟩ (And.intro ?_ ?_))))))
  · refine ⟨[], l0, rfl, MG.first hg hc m0, List.nodup_nil, n0, ?_, upd_same, Ext.upd (Ext.upd (Ext.upd (Ext.refl _) h1) h2') h2'⟩
    rw [upd_ne h12.symm, upd_ne h12.symm, upd_same]
  rintro m sur H' ⟨P, W, rfl, mg, nP, nW, hP, hW, ex⟩
  refine STr.set hW ?_
  cases W with
  | nil =>
    obtain ⟨d1, d2⟩ := mg.done
    refine SCall.cls0 (hL.mks (by kernel_rfl)) (hL.fd (by kernel_rfl)) fun g dg hne hg1 hg2 => ?_
    refine SSetAttr.inst hL.clsG (hL.fd (by kernel_rfl)) upd_same (by rw [upd_ne hne.symm]; exact upd_same) (by simp) ?_
    refine SSetAttr.inst hL.clsG (hL.fd (by kernel_rfl)) (by rw [upd_ne hne]; exact upd_same) upd_same (by simp) ?_
    refine SSetAttr.inst hL.clsG (hL.fd (by kernel_rfl)) (by rw [upd_ne hne, upd_ne hne]; exact upd_same) upd_same (by simp) ?_
    have ga : g ≠ a1 := fun q => by rw [q, hP] at hg1; cases hg1
    have da : dg ≠ a1 := fun q => by rw [q, hP] at hg2; cases hg2
    refine MGPost.mk g dg a1 P sur rfl ?_ (ex.none hg1) (ex.none hg2) h1 ⟨?_, ⟨_, upd_same, ?_, ?_, ?_⟩, ?_⟩ d1 d2 nP
    · exact Ext.upd (Ext.upd (Ext.upd (Ext.upd (Ext.upd ex (ex.none hg2)) (ex.none hg1)) (ex.none hg2)) (ex.none hg2)) (ex.none hg2)
    · rw [upd_ne hne, upd_ne hne, upd_ne hne]; exact upd_same
    · exact lk_next (by decide +kernel) (lk_next (by decide +kernel) lk_here)
    · exact lk_next (by decide +kernel) lk_here
    · exact lk_here
    · rw [upd_ne da.symm, upd_ne da.symm, upd_ne da.symm, upd_ne ga.symm, upd_ne da.symm]; exact hP
  | cons w0 W0 =>
  refine M.popS hW (by simp) fun q W₁ hq nW₁ mW₁ _ => ?_
  have hP2 : upd H' a2 (.pset W₁) a1 = some (.pset P) := by rw [upd_ne h12.symm]; exact hP
  have hqg := (mg.reach q (.inr hq)).inG
  refine M.add q hP2 (B.box hqg) fun P₁ nP₁ mP₁ => ?_
  intro a3 h3
  have h31 : a3 ≠ a1 := fun e => by rw [e, upd_same] at h3; cases h3
  rw [upd_ne h31] at h3
  have h32 : a3 ≠ a2 := fun e => by rw [e, upd_same] at h3; cases h3
  rw [upd_ne h32] at h3
  have h3' : H a3 = none := ex.none h3
  refine WFor.list a3 ((nb q).map pt) rfl upd_same Bool (fun b => [(0, .ref x), (3, .str col), (4, .ref a1), (6, .ref a2), (5, .bool b)]) (MGJ n G col q P₁ W₁ sur a1 a2 a3 H) sur ⟨rfl, rfl, rfl, rfl, rfl, trivial⟩ ?_ (fun i b H'' hj => by obtain ⟨_, _, _, _, _, k3, _⟩ := hj; exact k3) ?_ ?_
  · refine ⟨W₁, MI.nil, nW₁, ?_, ?_, upd_same, Ext.upd (Ext.upd (Ext.upd ex h2') h1) h3'⟩
    · rw [upd_ne h31.symm, upd_same]
    · rw [upd_ne h32.symm, upd_ne h12, upd_same]
  · rintro i p sur' H'' hp ⟨W', mi, nW', k1, k2, k3, ex'⟩
    obtain ⟨z, hz, rfl⟩ := map_get hp
    have hzm : z ∈ nb q := List.mem_of_getElem? hz
    have htk := take_snoc hz
    have B' := B.ext ex'
    have out : ¬ inG n z → MGJ n G col q P₁ W₁ sur a1 a2 a3 H (i + 1) sur' H'' := fun hzg => ⟨W', by rw [htk]; exact mi.skip fun h => absurd h hzg, nW', k1, k2, k3, ex'⟩
    have keep : SubN [(0, .ref x), (3, .str col), (4, .ref a1), (6, .ref a2), (5, .bool sur')] [(14, .int z.2), (13, .int z.1), (9, pt z), (0, .ref x), (3, .str col), (4, .ref a1), (6, .ref a2), (5, .bool sur')] := ⟨rfl, rfl, rfl, rfl, rfl, trivial⟩
    refine br_dec (fun z1 => ?_) (fun z1 => ⟨sur', keep, out (fun h => z1 h.1.1)⟩)
    refine B'.gSide hL ?_
    refine br_dec (fun z2 => ?_) (fun z2 => ⟨sur', keep, out (fun h => z2 h.1.2)⟩)
    refine br_dec (fun z3 => ?_) (fun z3 => ⟨sur', keep, out (fun h => z3 h.2.1)⟩)
    refine B'.gSide hL ?_
    refine br_dec (fun z4 => ?_) (fun z4 => ⟨sur', keep, out (fun h => z4 h.2.2)⟩)
    have hzg : inG n z := ⟨⟨z1, z2⟩, z3, z4⟩
    refine B'.gBoard hL ?_
    refine B'.at1 z1 z2 fun ra _ hra => ?_
    refine sub2 hra z3 z4 B.five ?_
    cases hG : G (z.1, z.2) with
    | none => exact ⟨false, ⟨rfl, rfl, rfl, rfl, rfl, trivial⟩, W', by rw [htk]; exact mi.free hzg hG, nW', k1, k2, k3, ex'⟩
    | some c' =>
      refine br_beq (fun hcc => ?_) (fun hcc => ?_)
      · subst hcc
        refine SCmp.inS z k1 (B.box hzg) ?_
        refine br_ndec (fun hin => ?_) (fun hin => ?_)
        · refine M.add z k2 (B.box hzg) fun W₂ nW₂ mW₂ => ?_
          exact ⟨sur', ⟨rfl, rfl, rfl, rfl, rfl, trivial⟩, W₂, by rw [htk]; exact mi.more hzm hzg hG hin mW₂, nW₂, by rw [upd_ne h12.symm]; exact k1, upd_same, by rw [upd_ne h32]; exact k3, Ext.upd ex' h2'⟩
        · exact ⟨sur', ⟨rfl, rfl, rfl, rfl, rfl, trivial⟩, W', by rw [htk]; exact mi.skip fun _ => ⟨by rw [show G z = some c' from hG]; simp, fun _ => hin⟩, nW', k1, k2, k3, ex'⟩
      · exact ⟨sur', ⟨rfl, rfl, rfl, rfl, rfl, trivial⟩, W', by rw [htk]; exact mi.skip fun _ => ⟨by rw [show G z = some c' from hG]; simp, fun q => by rw [show G z = some c' from hG] at q; exact absurd (Option.some.inj q) hcc⟩, nW', k1, k2, k3, ex'⟩
  · rintro sur' H'' ⟨W', mi, nW', k1, k2, k3, ex'⟩
    rw [List.length_map, List.take_length] at mi
    exact ⟨sur', ⟨rfl, rfl, rfl, rfl, rfl, trivial⟩, left n P₁, mg.left_lt hq mP₁, P₁, W', rfl, mg.turn hq mW₁ mP₁ mi, nP₁, nW', k1, k2, ex'⟩
end
end
section
open PySem PySem.W PyProof.Rows PySem.Calls
structure GR where
  g : Addr
  dg : Addr
  ps : Addr
  col : Str
  P : List Pt
noncomputable def GR.cp (x : GR) : Str × List Pt := (x.col, x.P)
noncomputable def GR.At (x : GR) (H : AHeap) : Prop := GrpAt x.g x.dg x.ps x.col x.P true H
structure GR.New (y : GR) (H H' : AHeap) : Prop where
  at_ : y.At H'
  ng : H y.g = none
  nd : H y.dg = none
  np : H y.ps = none
section
variable {T : Tr} {X : String} {H : AHeap} {R : AHeap → Prop} {x d bp bd : Addr} {rows : List Addr} {n : Nat} {G : Pt → Option Str} {e : Bool} {g dg ps : Addr} {col : Str} {P : List Pt} {sur : Bool}
theorem GrpAt.gCol {Q : PV → AHeap → Prop} (hL : L1 T.C) (B : GrpAt g dg ps col P sur H) (h : Q (.str col) H) : SGet T "colour" (.ref g) H Q := by
  obtain ⟨l, h1, h2, h3, h4⟩ := B.attrs
  exact SGet.inst hL.clsG (hL.fd (by kernel_rfl)) B.inst h1 h2 rfl h
theorem GrpAt.gPts {Q : PV → AHeap → Prop} (hL : L1 T.C) (B : GrpAt g dg ps col P sur H) (h : Q (.ref ps) H) : SGet T "points" (.ref g) H Q := by
  obtain ⟨l, h1, h2, h3, h4⟩ := B.attrs
  exact SGet.inst hL.clsG (hL.fd (by kernel_rfl)) B.inst h1 h3 rfl h
theorem GrpAt.gSur {Q : PV → AHeap → Prop} (hL : L1 T.C) (B : GrpAt g dg ps col P sur H) (h : Q (.bool sur) H) : SGet T "is_surrounded" (.ref g) H Q := by
  obtain ⟨l, h1, h2, h3, h4⟩ := B.attrs
  exact SGet.inst hL.clsG (hL.fd (by kernel_rfl)) B.inst h1 h4 rfl h
theorem GrpAt.ext {H' : AHeap} (B : GrpAt g dg ps col P sur H) (ex : Ext H H') : GrpAt g dg ps col P sur H' :=
  ⟨ex _ _ B.inst, let ⟨l, a, b⟩ := B.attrs; ⟨l, ex _ _ a, b⟩, ex _ _ B.pts⟩
theorem GrpAt.updList {a : Addr} {l m : List PV} (B : GrpAt g dg ps col P sur H) (ha : H a = some (.list l)) : GrpAt g dg ps col P sur (upd H a (.list m)) := by
  have h1 : g ≠ a := fun q => by have := B.inst; rw [q, ha] at this; cases this
  have h3 : ps ≠ a := fun q => by have := B.pts; rw [q, ha] at this; cases this
  obtain ⟨l, b1, b2⟩ := B.attrs
  have h2 : dg ≠ a := fun q => by rw [q, ha] at b1; cases b1
  exact ⟨by rw [upd_ne h1]; exact B.inst, ⟨l, by rw [upd_ne h2]; exact b1, b2⟩, by rw [upd_ne h3]; exact B.pts⟩
theorem GrpAt.updSet {a : Addr} {l m : List Pt} (B : GrpAt g dg ps col P sur H) (ha : H a = some (.pset l)) (h3 : ps ≠ a) : GrpAt g dg ps col P sur (upd H a (.pset m)) := by
  have h1 : g ≠ a := fun q => by have := B.inst; rw [q, ha] at this; cases this
  obtain ⟨l, b1, b2⟩ := B.attrs
  have h2 : dg ≠ a := fun q => by rw [q, ha] at b1; cases b1
  exact ⟨by rw [upd_ne h1]; exact B.inst, ⟨l, by rw [upd_ne h2]; exact b1, b2⟩, by rw [upd_ne h3]; exact B.pts⟩
theorem GR.New.ext {y : GR} {H₁ H₂ : AHeap} (h : y.New H H₁) (ex : Ext H₁ H₂) : y.New H H₂ := ⟨GrpAt.ext h.at_ ex, h.ng, h.nd, h.np⟩
inductive FPost (n : Nat) (G : Pt → Option Str) (pts : List Pt) (H : AHeap) (p : PV) (H' : AHeap) : Prop
  | mk (a : Addr) (gs : List GR) (hdl : List Pt) (e : p = .ref a) (ex : Ext H H') (na : H a = none) (ka : H' a = some (.list (gs.map fun y => .ref y.g))) (kg : ∀ y ∈ gs, y.New H H') (le : gs.length ≤ pts.length) (fs : FSI n G pts (gs.map GR.cp) hdl) : FPost n G pts H p H'
inductive FI (n : Nat) (G : Pt → Option Str) (pts : List Pt) (a1 a2 a3 : Addr) (H : AHeap) (i : Nat) (u : Unit) (H' : AHeap) : Prop
  | mk (gs : List GR) (hdl : List Pt) (fs : FSI n G (pts.take i) (gs.map GR.cp) hdl) (nd : hdl.Nodup) (lg : gs.length ≤ i) (k1 : H' a1 = some (.list (gs.map fun y => .ref y.g))) (k2 : H' a2 = some (.pset hdl)) (k3 : H' a3 = some (.list (pts.map pt)))
      (kg : ∀ y ∈ gs, y.New H H' ∧ y.ps ≠ a2) (ex : Ext H H') : FI n G pts a1 a2 a3 H i u H'
theorem FI.new {pts : List Pt} {a1 a2 a3 : Addr} {i : Nat} {u : Unit} {H' H₂ : AHeap} {gs : List GR} {hdl : List Pt} {z : Pt} {c' : Str} (h12 : a2 ≠ a1) (h31 : a3 ≠ a1) (h32 : a3 ≠ a2) (h1 : H a1 = none) (h2 : H a2 = none) (hz : pts[i]? = some z)
    (fs : FSI n G (pts.take i) (gs.map GR.cp) hdl) (lg : gs.length ≤ i) (kg : ∀ y ∈ gs, y.New H H' ∧ y.ps ≠ a2) (k1 : H' a1 = some (.list (gs.map fun y => .ref y.g))) (k2 : H' a2 = some (.pset hdl)) (k3 : H' a3 = some (.list (pts.map pt))) (ex : Ext H H') (hin : z ∉ hdl)
    (ex2 : Ext H' H₂) (q1 : H' g = none) (q2 : H' dg = none) (q3 : H' ps = none) (gr : GrpAt g dg ps c' P sur H₂) (hA : IsGrp n G z (c', P)) (gsur : sur = true ↔ Surr n G c' z) {hdl' : List Pt} (nd' : hdl'.Nodup) (mh : ∀ q, q ∈ hdl' ↔ q ∈ hdl ∨ q ∈ P) :
    FI n G pts a1 a2 a3 H (i + 1) u (upd (cond sur (upd H₂ a1 (.list (gs.map (fun y => PV.ref y.g) ++ [PV.ref g]))) H₂) a2 (.pset hdl')) := by
  have hps : ps ≠ a2 := fun q => by rw [q, k2] at q3; cases q3
  have k1' := ex2 _ _ k1
  have k2' := ex2 _ _ k2
  have k3' := ex2 _ _ k3
  have htk := take_snoc hz
  have kg' : ∀ y ∈ gs, y.New H H₂ ∧ y.ps ≠ a2 := fun y hy => ⟨(kg y hy).1.ext ex2, (kg y hy).2⟩
  cases sur with
  | true =>
    have k2'' : upd H₂ a1 (.list (gs.map (fun y => PV.ref y.g) ++ [PV.ref g])) a2 = some (.pset hdl) := by rw [upd_ne h12]; exact k2'
    have gr' := GrpAt.updList (m := gs.map (fun y => PV.ref y.g) ++ [PV.ref g]) gr k1'
    refine ⟨gs ++ [⟨g, dg, ps, c', P⟩], hdl', ?_, nd', by simp; omega, ?_, upd_same, ?_, ?_, Ext.upd (Ext.upd (ex.trans ex2) h1) h2⟩
    · rw [htk, List.map_append]; exact fs.new hin hA true gsur mh
    · rw [upd_ne h12.symm, cond_true, upd_same, List.map_append]; rfl
    · rw [upd_ne h32, cond_true, upd_ne h31]; exact k3'
    · intro y hy
      rcases List.mem_append.mp hy with hy | hy
      · obtain ⟨a, b⟩ := kg' y hy
        exact ⟨⟨GrpAt.updSet (GrpAt.updList a.at_ k1') k2'' b, a.ng, a.nd, a.np⟩, b⟩
      · rw [List.mem_singleton.mp hy]
        exact ⟨⟨GrpAt.updSet gr' k2'' hps, ex.none q1, ex.none q2, ex.none q3⟩, hps⟩
  | false =>
    refine ⟨gs, hdl', ?_, nd', by omega, ?_, upd_same, ?_, ?_, Ext.upd (ex.trans ex2) h2⟩
    · rw [htk]; exact fs.new hin hA false gsur mh
    · rw [upd_ne h12.symm]; exact k1'
    · rw [upd_ne h32]; exact k3'
    · intro y hy
      obtain ⟨a, b⟩ := kg' y hy
      exact ⟨⟨GrpAt.updSet a.at_ k2' b, a.ng, a.nd, a.np⟩, b⟩
theorem find_spec (hL : L1 T.C) (hn : 4 ≤ T.n) (hh : T.hd = false) (B : BdAt x d bp bd rows n G e H) {r c : Int} :
    SCode T X (.ref a_find_surrounded_groups) [.ref x, .int r, .int c] H (FPost n G ((r, c) :: nb (r, c)) H) R := by
  refine hL.f_find_surrounded_groups hh (by omega) rfl ?_
  intro a1 h1
  refine SCall.set0 fun a2 h2 => ?_
  have h12 : a2 ≠ a1 := fun e => by rw [e, upd_same] at h2; cases h2
  have h2' : H a2 = none := by rw [upd_ne h12] at h2; exact h2
  intro a3 h3
  have h32 : a3 ≠ a2 := fun e => by rw [e, upd_same] at h3; cases h3
  have h3 := h3
  rw [upd_ne h32] at h3
  have h31 : a3 ≠ a1 := fun e => by rw [e, upd_same] at h3; cases h3
  rw [upd_ne h31] at h3
  refine WFor.list a3 (((r, c) :: nb (r, c)).map pt) rfl upd_same Unit (fun _ => [(0, .ref x), (3, .ref a1), (4, .ref a2)]) (FI n G ((r, c) :: nb (r, c)) a1 a2 a3 H) () ⟨rfl, rfl, rfl, trivial⟩ ?_ (fun i b H'' hj => by obtain ⟨_, _, _, _, _, _, _, k3, _, _⟩ := hj; exact k3) ?_ ?_
  · refine ⟨[], [], FSI.nil, List.nodup_nil, Nat.zero_le _, ?_, ?_, upd_same, by simp, Ext.upd (Ext.upd (Ext.upd (Ext.refl _) h1) h2') h3⟩
    · rw [upd_ne h31.symm, upd_ne h12.symm]; exact upd_same
    · rw [upd_ne h32.symm]; exact upd_same
  · rintro i p u H'' hp ⟨gs, hdl, fs, nd, lg, k1, k2, k3, kg, ex'⟩
    obtain ⟨z, hz, rfl⟩ := map_get hp
    have htk := take_snoc hz
    have B' := B.ext ex'
    have out : (inG n z → G z = none) → FI n G ((r, c) :: nb (r, c)) a1 a2 a3 H (i + 1) () H'' := fun hzg => ⟨gs, hdl, by rw [htk]; exact fs.skip hzg, nd, by omega, k1, k2, k3, kg, ex'⟩
    have keep : SubN [(0, .ref x), (3, .ref a1), (4, .ref a2)] [(6, .int z.2), (5, .int z.1), (0, .ref x), (3, .ref a1), (4, .ref a2)] := ⟨rfl, rfl, rfl, trivial⟩
    refine br_dec (fun z1 => ?_) (fun z1 => ⟨(), keep, out (fun h => absurd h.1.1 z1)⟩)
    refine B'.gSide hL ?_
    refine br_dec (fun z2 => ?_) (fun z2 => ⟨(), keep, out (fun h => absurd h.1.2 z2)⟩)
    refine br_dec (fun z3 => ?_) (fun z3 => ⟨(), keep, out (fun h => absurd h.2.1 z3)⟩)
    refine B'.gSide hL ?_
    refine br_dec (fun z4 => ?_) (fun z4 => ⟨(), keep, out (fun h => absurd h.2.2 z4)⟩)
    have hzg : inG n z := ⟨⟨z1, z2⟩, z3, z4⟩
    refine B'.gBoard hL ?_
    refine B'.at1 z1 z2 fun ra _ hra => ?_
    refine sub2 hra z3 z4 B.five ?_
    cases hG : G (z.1, z.2) with
    | none => exact ⟨(), ⟨rfl, rfl, rfl, trivial⟩, out (fun _ => hG)⟩
    | some c' =>
      refine SCmp.inS z k2 (B.box hzg) ?_
      refine br_dec (fun hin => ?_) (fun hin => ?_)
      · exact ⟨(), ⟨rfl, rfl, rfl, trivial⟩, gs, hdl, by rw [htk]; exact fs.again hin, nd, by omega, k1, k2, k3, kg, ex'⟩
      · refine M.own (B'.meth hL (by decide +kernel) (by kernel_rfl) (by kernel_rfl) (by kernel_rfl)) (SCode.call (make_group_spec (T := T.down) (col := c') hL (by show 3 ≤ T.n - 1; omega) hh B' hzg hG) fun p H₂ h => ?_)
        obtain ⟨g, dg, ps, P, sur, rfl, ex2, q1, q2, q3, gr, gm, gsur, gnd⟩ := h
        have hps : ps ≠ a2 := fun q => by rw [q, k2] at q3; cases q3
        have fin : ∀ hdl' : List Pt, hdl'.Nodup → (∀ q, q ∈ hdl' ↔ q ∈ hdl ∨ q ∈ P) → FI n G ((r, c) :: nb (r, c)) a1 a2 a3 H (i + 1) () (upd (cond sur (upd H₂ a1 (.list (gs.map (fun y => PV.ref y.g) ++ [PV.ref g]))) H₂) a2 (.pset hdl')) :=
          fun hdl' nd' mh => FI.new h12 h31 h32 h1 h2' hz fs lg kg k1 k2 k3 ex' hin ex2 q1 q2 q3 gr ⟨hzg, hG, gm, gnd⟩ gsur nd' mh
        refine GrpAt.gSur hL gr ?_
        cases sur with
        | true =>
          refine M.append (ex2 _ _ k1) (by rw [List.length_map]; have := (List.getElem?_eq_some_iff.mp hz).1; simp [nb] at this; omega) ?_
          have gr' := GrpAt.updList (m := gs.map (fun y => PV.ref y.g) ++ [PV.ref g]) gr (ex2 _ _ k1)
          have k2'' : upd H₂ a1 (.list (gs.map (fun y => PV.ref y.g) ++ [PV.ref g])) a2 = some (.pset hdl) := by rw [upd_ne h12]; exact ex2 _ _ k2
          refine Exists.intro _ (And.intro (SMeth.update k2'') (GrpAt.gPts hL gr' (SCall.update k2'' gr'.pts hps.symm fun hdl' nd' mh => ?_)))
          exact ⟨(), ⟨rfl, rfl, rfl, trivial⟩, fin hdl' nd' mh⟩
        | false =>
          refine Exists.intro _ (And.intro (SMeth.update (ex2 _ _ k2)) (GrpAt.gPts hL gr (SCall.update (ex2 _ _ k2) gr.pts hps.symm fun hdl' nd' mh => ?_)))
          exact ⟨(), ⟨rfl, rfl, rfl, trivial⟩, fin hdl' nd' mh⟩
  · rintro u H'' ⟨gs, hdl, fs, nd, lg, k1, k2, k3, kg, ex'⟩
    rw [List.length_map] at lg fs
    rw [List.take_length] at fs
    exact ⟨a1, gs, hdl, rfl, ex', h1, k1, fun y hy => (kg y hy).1, lg, fs⟩
end
end
section
open PySem PySem.W PyProof.Rows PySem.Calls
section
variable {H : AHeap} {x d bp bd : Addr} {rows : List Addr} {n : Nat} {G : Pt → Option Str} {e : Bool}
noncomputable def Keep (H : AHeap) (d : Addr) (rows : List Addr) (H' : AHeap) : Prop := ∀ a o, H a = some o → a ≠ d → a ∉ rows → H' a = some o
theorem Keep.refl : Keep H d rows H := fun _ _ e _ _ => e
theorem Keep.ext {H₁ H₂ H₃ : AHeap} (a : Keep H₁ d rows H₂) (b : Ext H₂ H₃) : Keep H₁ d rows H₃ := fun x o e h1 h2 => b x o (a x o e h1 h2)
theorem Keep.row {H₁ H₂ : AHeap} {a : Addr} {o : AO} (k : Keep H₁ d rows H₂) (ha : a ∈ rows) : Keep H₁ d rows (upd H₂ a o) := fun b ob e h1 h2 => by
  rw [upd_ne (fun q : b = a => h2 (by rw [q]; exact ha))]; exact k b ob e h1 h2
theorem Keep.dict {H₁ H₂ : AHeap} {o : AO} (k : Keep H₁ d rows H₂) : Keep H₁ d rows (upd H₂ d o) := fun b ob e h1 h2 => by
  rw [upd_ne h1]; exact k b ob e h1 h2
theorem Keep.new {H₁ H₂ : AHeap} {a : Addr} {o : AO} (k : Keep H₁ d rows H₂) (ha : H₁ a = none) : Keep H₁ d rows (upd H₂ a o) := fun b ob e h1 h2 => by
  rw [upd_ne (fun q => by rw [q, ha] at e; cases e)]; exact k b ob e h1 h2
theorem Keep.remNew {H₁ H₂ : AHeap} {a : Addr} (k : Keep H₁ d rows H₂) (ha : H₁ a = none) : Keep H₁ d rows (rem H₂ a) := fun b ob e h1 h2 => by
  have : b ≠ a := fun q => by rw [q, ha] at e; cases e
  unfold rem; rw [if_neg this]; exact k b ob e h1 h2
theorem GrpAt.updAttrs {g dg ps : Addr} {col : Str} {P : List Pt} {sur : Bool} {a : Addr} {l m : Ls} (B : GrpAt g dg ps col P sur H) (ha : H a = some (.attrs l)) (hne : dg ≠ a) : GrpAt g dg ps col P sur (upd H a (.attrs m)) := by
  have h1 : g ≠ a := fun q => by have := B.inst; rw [q, ha] at this; cases this
  have h3 : ps ≠ a := fun q => by have := B.pts; rw [q, ha] at this; cases this
  obtain ⟨l, b1, b2⟩ := B.attrs
  exact ⟨by rw [upd_ne h1]; exact B.inst, ⟨l, by rw [upd_ne hne]; exact b1, b2⟩, by rw [upd_ne h3]; exact B.pts⟩
theorem nodup_inj : ∀ {l : List Addr} {i j : Nat} {a : Addr}, l.Nodup → l[i]? = some a → l[j]? = some a → i = j
  | [], i, j, a, _, h, _ => by simp at h
  | b :: l, 0, 0, a, _, _, _ => rfl
  | b :: l, 0, j + 1, a, hn, h1, h2 => by
    simp at h1 h2; subst h1
    exact absurd (List.mem_of_getElem? h2) (List.nodup_cons.mp hn).1
  | b :: l, i + 1, 0, a, hn, h1, h2 => by
    simp at h1 h2; subst h2
    exact absurd (List.mem_of_getElem? h1) (List.nodup_cons.mp hn).1
  | b :: l, i + 1, j + 1, a, hn, h1, h2 => by
    simp at h1 h2
    rw [nodup_inj (List.nodup_cons.mp hn).2 h1 h2]
theorem row_put {i j : Int} {v : Option Str} (h0 : 0 ≤ j) (h1 : j < n) : (((List.range n).map fun k : Nat => cell (G (i, k))).set j.toNat (cell v)) = (List.range n).map fun k : Nat => cell (put G (i, j) v (i, k)) := by
  apply List.ext_getElem?
  intro k
  rw [List.getElem?_set]
  split
  · rename_i hk
    subst hk
    have : j.toNat < n := by omega
    simp only [List.length_map, List.length_range, this, if_true, List.getElem?_map, List.getElem?_range this, Option.map_some]
    rw [Int.toNat_of_nonneg h0]; simp [put]
  · rename_i hk
    rw [List.getElem?_map, List.getElem?_map]
    by_cases hkn : k < n
    · rw [List.getElem?_range hkn]
      simp only [Option.map_some, put]
      rw [if_neg]
      intro q
      have := (Prod.mk.injEq _ _ _ _).mp q
      omega
    · rw [List.getElem?_eq_none (by simpa using hkn)]; rfl
theorem BdAt.put {i j : Int} {a : Addr} {v : Option Str} (B : BdAt x d bp bd rows n G e H) (h2 : 0 ≤ i) (h0 : 0 ≤ j) (h1 : j < n) (hra : rows[i.toNat]? = some a) :
    BdAt x d bp bd rows n (AM.put G (i, j) v) e (upd H a (.list (((List.range n).map fun k : Nat => cell (G (i, k))).set j.toNat (cell v)))) := by
  have ham := List.mem_of_getElem? hra
  have hH := B.row _ _ hra
  have hx : x ≠ a := fun q => by have := B.inst; rw [q, hH] at this; cases this
  obtain ⟨l, b1, b2⟩ := B.attrs
  have hd : d ≠ a := fun q => by rw [q, hH] at b1; cases b1
  have hbp : bp ≠ a := fun q => B.bpn (q ▸ ham)
  have hbd : bd ≠ a := fun q => B.bdn (q ▸ ham)
  refine ⟨by rw [upd_ne hx]; exact B.inst, ⟨l, by rw [upd_ne hd]; exact b1, b2⟩, by rw [upd_ne hbp]; exact B.pts, by rw [upd_ne hbd]; exact B.board, B.len, fun k b hb => ?_, B.nodup, B.lo, B.five, B.bpn, B.bdn⟩
  by_cases hk : k = i.toNat
  · subst hk
    rw [hra] at hb; cases hb
    rw [upd_same, row_put h0 h1, Int.toNat_of_nonneg h2]
  · have hne : b ≠ a := fun q => by
      subst q
      have l1 := (List.getElem?_eq_some_iff.mp hb).1
      have l2 := (List.getElem?_eq_some_iff.mp hra).1
      exact hk (nodup_inj B.nodup hb hra)
    rw [upd_ne hne, B.row k b hb]
    congr 2
    apply List.map_congr_left
    intro m _
    simp only [AM.put]
    rw [if_neg]
    intro q
    have := (Prod.mk.injEq _ _ _ _).mp q
    omega
theorem BdAt.mark {l : Ls} {e' : Bool} (B : BdAt x d bp bd rows n G e H) (hd : H d = some (.attrs l)) (hz : l.length ≤ 4990) : BdAt x d bp bd rows n G e' (upd H d (.attrs (("_is_empty", .bool e') :: l))) := by
  obtain ⟨l', b1, b2, b3, b4, b5, b6, b7⟩ := B.attrs
  rw [hd] at b1; cases b1
  have hx : x ≠ d := fun q => by have := B.inst; rw [q, hd] at this; cases this
  have hbp : bp ≠ d := fun q => by have := B.pts; rw [q, hd] at this; cases this
  have hbd : bd ≠ d := fun q => by have := B.board; rw [q, hd] at this; cases this
  refine ⟨by rw [upd_ne hx]; exact B.inst, ⟨_, upd_same, by simp; omega, lk_next (by decide +kernel) b3, lk_next (by decide +kernel) b4, lk_next (by decide +kernel) b5, lk_here, fun m hm => ?_⟩, by rw [upd_ne hbp]; exact B.pts, by rw [upd_ne hbd]; exact B.board, B.len, fun k b hb => ?_, B.nodup, B.lo, B.five, B.bpn, B.bdn⟩
  · refine lk_none ?_ (b7 m hm)
    revert m
    decide +kernel
  · have : b ≠ d := fun q => by have := B.row k b hb; rw [q, hd] at this; cases this
    rw [upd_ne this]; exact B.row k b hb
theorem BdAt.rem {a : Addr} {l : List Pt} (B : BdAt x d bp bd rows n G e H) (ha : H a = some (.pset l)) : BdAt x d bp bd rows n G e (AM.rem H a) := by
  have kp : ∀ b o, H b = some o → (∀ m, o ≠ .pset m) → AM.rem H a b = some o := fun b o h hk => by
    have : b ≠ a := fun q => by rw [q, ha] at h; cases h; exact hk _ rfl
    unfold AM.rem; rw [if_neg this]; exact h
  obtain ⟨l', b1, b2⟩ := B.attrs
  exact ⟨kp _ _ B.inst (by intro m q; cases q), ⟨l', kp _ _ b1 (by intro m q; cases q), b2⟩, kp _ _ B.pts (by intro m q; cases q), kp _ _ B.board (by intro m q; cases q), B.len, fun k b hb => kp _ _ (B.row k b hb) (by intro m q; cases q), B.nodup, B.lo, B.five, B.bpn, B.bdn⟩
end
end
section
open PySem PySem.W PyProof.Rows PySem.Calls
section
variable {T : Tr} {X : String} {H : AHeap} {R : AHeap → Prop} {x d bp bd : Addr} {rows : List Addr} {n : Nat} {G : Pt → Option Str} {e : Bool}
theorem catchV : CatchOk "ValueError" "ValueError" := ⟨by rw [isSubtype_type]; kernel_rfl, by rw [isSubtype_type]; kernel_rfl, by rw [isSubtype_type]; kernel_rfl⟩
theorem catchK : CatchOk "KeyError" "KeyError" := ⟨by rw [isSubtype_type]; kernel_rfl, by rw [isSubtype_type]; kernel_rfl, by rw [isSubtype_type]; kernel_rfl⟩
theorem raiseV : RaiseOk "ValueError" := ⟨⟨_, _, excClass_ValueError⟩, by rw [isSubtype_type]; kernel_rfl⟩
noncomputable def Cols (c o : Str) : Prop := (c = "b" ∧ o = "w") ∨ (c = "w" ∧ o = "b")
theorem Cols.ne {c o : Str} (h : Cols c o) : c ≠ o := by rcases h with ⟨rfl, rfl⟩ | ⟨rfl, rfl⟩ <;> decide +kernel
theorem opp_at (hL : L1 T.C) {c o : Str} (hco : Cols c o) {Q : PV → AHeap → Prop} (h : Q (.str o) H) : SSub T (.ref a_opponents) (.str c) H Q := SSub.of fun Fs v s hs => by
  have hl : (heapK T.C.w.params).lookup a_opponents = some _ := rfl
  rw [← hL.K] at hl
  rcases hco with ⟨rfl, rfl⟩ | ⟨rfl, rfl⟩
  · exact ASub.topStr (tk := t_w) hl ⟨⟨_, _, rfl, rfl⟩, ⟨_, _, rfl, rfl⟩, trivial⟩ (by rw [hL.K]; kernel_rfl) h fun _ => hs _ _
  · exact ASub.topStr (tk := t_b) hl ⟨⟨_, _, rfl, rfl⟩, ⟨_, _, rfl, rfl⟩, trivial⟩ (by rw [hL.K]; kernel_rfl) h fun _ => hs _ _
theorem opponent_spec (hL : L1 T.C) (hn : 1 ≤ T.n) (hh : T.hd = false) {c o : Str} (hco : Cols c o) :
    SCode T X (.ref a_opponent_of) [.str c] H (fun p H' => p = .str o ∧ H' = H) R := by
  refine hL.f_opponent_of hh hn rfl ?_
  refine Exists.intro "KeyError" (Exists.intro (fun _ _ => False) (And.intro catchK (And.intro ?_ (fun _ _ h => h.elim))))
  refine opp_at (T := T.down) hL hco ?_
  exact ⟨rfl, rfl⟩
theorem filter_snoc {gs : List GR} {i : Nat} {y : GR} {f : GR → Bool} (h : gs[i]? = some y) : ((gs.take (i + 1)).filter f).map (fun y => PV.ref y.g) = ((gs.take i).filter f).map (fun y => PV.ref y.g) ++ (cond (f y) (some (PV.ref y.g)) none).toList := by
  rw [take_snoc h, List.filter_append, List.map_append]
  congr 1
  cases e : f y <;> simp [e]
inductive PlayPost (n : Nat) (G : Pt → Option Str) (z : Pt) (col opp : Str) (x d bp bd : Addr) (rows : List Addr) (H : AHeap) (p : PV) (H' : AHeap) : Prop
  | mk (L : List (Str × List Pt)) (hdl : List Pt) (l l' : Ls) (g0 : G z = none) (fs : FSI n (AM.put G z (some col)) (z :: nb z) L hdl) (l5 : L.length ≤ 5) (e : p = pvPt (koOf col opp L)) (at_ : BdAt x d bp bd rows n (rm (AM.put G z (some col)) (ptsOf (capOf opp L))) (emOf n L) H') (kp : Keep H d rows H') (hl : H d = some (.attrs l)) (hl' : H' d = some (.attrs l')) (le : l'.length ≤ l.length + 2) : PlayPost n G z col opp x d bp bd rows H p H'
inductive PCut (n : Nat) (G₁ : Pt → Option Str) (opp : Str) (gs : List GR) (x d bp bd : Addr) (rows : List Addr) (k : Nat) (H H2 : AHeap) (ta : Addr) (H' : AHeap) : Prop
  | mk (tc : List GR) (l : Ls) (cap : tc.map GR.cp = capOf opp (gs.map GR.cp)) (sub : ∀ y ∈ tc, y ∈ gs) (hta : H' ta = some (.list (tc.map fun y => .ref y.g))) (htr : ta ∉ rows) (kg : ∀ y ∈ gs, y.New H2 H') (at_ : BdAt x d bp bd rows n G₁ (emOf n (gs.map GR.cp)) H') (kp : Keep H d rows H') (hl : H' d = some (.attrs l)) (le : l.length ≤ k) : PCut n G₁ opp gs x d bp bd rows k H H2 ta H'
structure PL1 (n : Nat) (G₁ : Pt → Option Str) (e : Bool) (tc : List GR) (x d bp bd : Addr) (rows : List Addr) (l : Ls) (H : AHeap) (ta : Addr) (i : Nat) (u : Unit) (H' : AHeap) : Prop where
  at_ : BdAt x d bp bd rows n (rm G₁ (ptsOf ((tc.take i).map GR.cp))) e H'
  hta : H' ta = some (.list (tc.map fun y => .ref y.g))
  kg : ∀ y ∈ tc.drop i, y.At H'
  kp : Keep H d rows H'
  hl : H' d = some (.attrs l)
structure PL2 (n : Nat) (G₂ : Pt → Option Str) (e : Bool) (tc : List GR) (x d bp bd : Addr) (rows : List Addr) (l : Ls) (H : AHeap) (ta ps : Addr) (i : Nat) (l' : List Pt) (j : Nat) (u : Unit) (H' : AHeap) : Prop where
  at_ : BdAt x d bp bd rows n (rm G₂ (l'.take j)) e H'
  hta : H' ta = some (.list (tc.map fun y => .ref y.g))
  kg : ∀ y ∈ tc.drop (i + 1), y.At H'
  kp : Keep H d rows H'
  hl : H' d = some (.attrs l)
  hp : H' ps = none
theorem list_notrow {H : AHeap} {a : Addr} (B : BdAt x d bp bd rows n G e H) (ha : H a = none) : a ∉ rows := fun h => by
  obtain ⟨i, hi⟩ := List.getElem?_of_mem h
  have := B.row i _ hi
  rw [ha] at this; cases this
theorem PL1.first {G₁ : Pt → Option Str} {tc : List GR} {l : Ls} {H' : AHeap} {ta : Addr} {i : Nat} {y : GR} {l' : List Pt} (j : PL1 n G₁ e tc x d bp bd rows l H ta i () H') (hy : tc[i]? = some y) (hyd : tc.drop i = y :: tc.drop (i + 1)) (hn : H y.ps = none) (hps : ∀ w ∈ tc.drop (i + 1), w.ps ≠ y.ps) :
    PL2 n (rm G₁ (ptsOf ((tc.take i).map GR.cp))) e tc x d bp bd rows l H ta y.ps i l' 0 () (rem H' y.ps) := by
  obtain ⟨b1, b2, b3, b4, b5⟩ := j
  have ya : y.At H' := b3 y (by rw [hyd]; exact .head _)
  have kr : ∀ b o, H' b = some o → b ≠ y.ps → rem H' y.ps b = some o := fun b o h hne => by unfold rem; rw [if_neg hne]; exact h
  refine ⟨by rw [List.take_zero, rm_nil]; exact b1.rem ya.pts, kr _ _ b2 (fun q => by rw [q, ya.pts] at b2; cases b2), fun w hw => ?_, b4.remNew hn, kr _ _ b5 (fun q => by rw [q, ya.pts] at b5; cases b5), by unfold rem; rw [if_pos rfl]⟩
  have wa : w.At H' := b3 w (by rw [hyd]; exact .tail _ hw)
  obtain ⟨wl, w1, w2⟩ := wa.attrs
  exact ⟨kr _ _ wa.inst (fun q => by have := wa.inst; rw [q, ya.pts] at this; cases this), ⟨wl, kr _ _ w1 (fun q => by rw [q, ya.pts] at w1; cases w1), w2⟩, kr _ _ wa.pts (hps w hw)⟩
theorem PL2.turn {G₂ : Pt → Option Str} {tc : List GR} {l : Ls} {H' : AHeap} {ta ps : Addr} {i j : Nat} {q : Pt} {l' : List Pt} {rb : Addr} (h : PL2 n G₂ e tc x d bp bd rows l H ta ps i l' j () H') (hq : l'[j]? = some q) (qg : inG n q) (htr : ta ∉ rows) (hb1 : rows[q.1.toNat]? = some rb) (hrb : H' rb = some (.list ((List.range n).map fun k : Nat => cell (rm G₂ (l'.take j) (q.1, k))))) :
    PL2 n G₂ e tc x d bp bd rows l H ta ps i l' (j + 1) () (upd H' rb (.list (((List.range n).map fun k : Nat => cell (rm G₂ (l'.take j) (q.1, k))).set q.2.toNat .none))) := by
  obtain ⟨c1, c2, c3, c4, c5, c6⟩ := h
  have hrm : rb ∈ rows := List.mem_of_getElem? hb1
  refine ⟨?_, ?_, fun w hw => GrpAt.updList (c3 w hw) hrb, c4.row hrm, ?_, ?_⟩
  · rw [take_snoc hq, ← rm_snoc]
    exact c1.put (v := none) qg.1.1 qg.2.1 qg.2.2 hb1
  · rw [upd_ne (fun w : ta = rb => htr (by rw [w]; exact hrm))]; exact c2
  · rw [upd_ne (fun w => by rw [w, hrb] at c5; cases c5)]; exact c5
  · rw [upd_ne (fun w => by rw [w, hrb] at c6; cases c6)]; exact c6
theorem PL2.fin {G₁ : Pt → Option Str} {tc : List GR} {l : Ls} {H' : AHeap} {ta : Addr} {i : Nat} {y : GR} {l' : List Pt} (h : PL2 n (rm G₁ (ptsOf ((tc.take i).map GR.cp))) e tc x d bp bd rows l H ta y.ps i l' l'.length () H') (hy : tc[i]? = some y) (hp : l'.Perm y.P) :
    PL1 n G₁ e tc x d bp bd rows l H ta (i + 1) () (upd H' y.ps (.pset y.P)) := by
  obtain ⟨c1, c2, c3, c4, c5, c6⟩ := h
  rw [List.take_length] at c1
  have ex6 : Ext H' (upd H' y.ps (.pset y.P)) := Ext.upd (Ext.refl _) c6
  refine ⟨?_, ex6 _ _ c2, fun w hw => GrpAt.ext (c3 w hw) ex6, c4.ext ex6, ex6 _ _ c5⟩
  have e1 : ptsOf ((tc.take (i + 1)).map GR.cp) = ptsOf ((tc.take i).map GR.cp) ++ y.P := by
    rw [take_snoc hy, List.map_append]
    simp [ptsOf, GR.cp]
  rw [e1, ← rm_append, ← rm_congr (G := rm G₁ (ptsOf ((tc.take i).map GR.cp))) (fun q => hp.mem_iff (a := q))]
  exact c1.ext ex6
theorem play_spec (hL : L1 T.C) (hn : 6 ≤ T.n) (hh : T.hd = false) (B : BdAt x d bp bd rows n G e H) {r c : Int} (hg : inG n (r, c)) {col opp : Str} (hco : Cols col opp) (hval : ∀ q s, G q = some s → s = col ∨ s = opp)
    (hz : ∃ l, H d = some (.attrs l) ∧ l.length ≤ 1000) (hX : X = "ValueError") (hR : G (r, c) ≠ none → R H) :
    SCode T X (.ref a_play) [.ref x, .int r, .int c, .str col] H (PlayPost n G (r, c) col opp x d bp bd rows H) R := by
  obtain ⟨l0, hd0, hz0⟩ := hz
  have g1 : 0 ≤ r := hg.1.1
  have g2 : r < n := hg.1.2
  have g3 : 0 ≤ c := hg.2.1
  have g4 : c < n := hg.2.2
  refine hL.f_play hh (by omega) rfl ?_
  refine br_dec (fun q => absurd q (by omega)) fun _ => ?_
  refine br_dec (fun q => absurd q (by omega)) fun _ => ?_
  refine SCode.call (opponent_spec (T := T.down) hL (by show 1 ≤ T.n - 1; omega) hh hco) fun p H' h => ?_
  obtain ⟨rfl, rfl⟩ := h
  refine B.gBoard hL ?_
  refine B.at1 g1 g2 fun ra hr1 hra => ?_
  refine sub2 hra g3 g4 B.five ?_
  cases hG : G (r, c) with
  | some c' => exact ⟨hX, raiseV, hR (by rw [hG]; simp)⟩
  | none =>
  refine B.gBoard hL ?_
  refine B.at1 g1 g2 fun ra' hr1' hra' => ?_
  rw [hr1] at hr1'; cases hr1'
  refine SSetItem.list hra g3 (by simpa using g4) (by simp; have := B.five; omega) ?_
  have B1 := B.put (v := some col) g1 g3 g4 hr1
  have hram : ra ∈ rows := List.mem_of_getElem? hr1
  have hdra : d ≠ ra := fun q => by rw [q, hra] at hd0; cases hd0
  have K1 : Keep H' d rows (upd H' ra (.list (((List.range n).map fun k : Nat => cell (G (r, k))).set c.toNat (cell (some col))))) := Keep.refl.row hram
  have hd1 : upd H' ra (.list (((List.range n).map fun k : Nat => cell (G (r, k))).set c.toNat (cell (some col)))) d = some (.attrs l0) := by rw [upd_ne hdra]; exact hd0
  refine SSetAttr.inst hL.clsB (hL.fd (by kernel_rfl)) B1.inst hd1 (by omega) ?_
  have B2 := B1.mark (e' := false) hd1 (by omega)
  have K2 := K1.dict (o := .attrs (("_is_empty", .bool false) :: l0))
  have hd2 : upd (upd H' ra (.list (((List.range n).map fun k : Nat => cell (G (r, k))).set c.toNat (cell (some col))))) d (.attrs (("_is_empty", .bool false) :: l0)) d = some (.attrs (("_is_empty", .bool false) :: l0)) := upd_same
  change w _ _ _ _ _ (upd (upd H' ra (.list (((List.range n).map fun k : Nat => cell (G (r, k))).set c.toNat (cell (some col))))) d (.attrs (("_is_empty", .bool false) :: l0))) _ _
  generalize upd (upd H' ra (.list (((List.range n).map fun k : Nat => cell (G (r, k))).set c.toNat (cell (some col))))) d (.attrs (("_is_empty", .bool false) :: l0)) = H2 at B2 K2 hd2 ⊢
  clear B1 K1 hd1
  refine M.own (B2.meth hL (by decide +kernel) (by kernel_rfl) (by kernel_rfl) (by kernel_rfl)) (SCode.call (find_spec (T := T.down) hL (by show 4 ≤ T.n - 1; omega) hh B2) fun p H3 h => ?_)
  obtain ⟨sa, gs, hdl, rfl, ex3, hsa, ksa, kg, lg, fs⟩ := h
  have lg : gs.length ≤ 5 := lg
  have B3 := B2.ext ex3
  have K3 := K2.ext ex3
  have hd3 := ex3 _ _ hd2
  have hLlen : (gs.map GR.cp).length = gs.length := List.length_map _
  have hcol : ∀ A ∈ gs.map GR.cp, A.1 = col ∨ A.1 = opp := fun A hA => by
    obtain ⟨z, _, hz, _⟩ := fs.grp A hA
    have := hz.col
    unfold AM.put at this
    split at this
    · exact .inl (Option.some.inj this).symm
    · exact hval z _ this
  have hgl : (gs.map fun y => PV.ref y.g).length ≤ 100000 := by rw [List.length_map]; omega
  refine STr.list (.inl ksa) hgl ?_
  by_cases hnil : gs = []
  · subst hnil
    exact ⟨[], hdl, l0, _, hG, fs, by simp, rfl, by rw [show ptsOf (capOf opp []) = [] from rfl, rm_nil]; exact B3, K3, hd0, hd3, by simp⟩
  have hemp : (gs.map fun y => PV.ref y.g).isEmpty = false := by simpa using hnil
  rw [hemp]
  have hsr := list_notrow B2 hsa
  refine Exists.intro Addr (Exists.intro (fun ta => [(0, .ref x), (8, .ref ta), (6, pvPt (koOf col opp (gs.map GR.cp)))]) (Exists.intro (PCut n (AM.put G (r, c) (some col)) opp gs x d bp bd rows (l0.length + 2) H' H2) (And.intro ?_ ?_)))
  · refine SCall.lenL (.inl ksa) hgl ?_
    refine br_dec (fun h1 => ?_) (fun h1 => ?_)
    · have hl1 : gs.length = 1 := by rw [List.length_map] at h1; omega
      obtain ⟨y, rfl⟩ := List.length_eq_one_iff.mp hl1
      have ya := (kg y (.head _)).at_
      refine SSub.list ksa (by decide) (by decide) rfl ?_
      refine GrpAt.gPts hL ya ?_
      refine SCall.lenS ya.pts ?_
      refine B3.gSide hL ?_
      refine B3.gSide hL ?_
      refine And.intro (mulOk5 B.five) ?_
      have hcap : List.map GR.cp [y] = capOf opp (List.map GR.cp [y]) := rfl
      refine br_dec (fun h2 => ?_) (fun h2 => ?_)
      · refine SSetAttr.inst hL.clsB (hL.fd (by kernel_rfl)) B3.inst hd3 (by simp; omega) ?_
        have hem : emOf n (List.map GR.cp [y]) = true := by simp only [List.map_cons, List.map_nil, emOf, GR.cp]; simp; exact_mod_cast h2
        refine ⟨sa, ⟨rfl, rfl, rfl, trivial⟩, [y], _, hcap, fun _ h => h, ?_, hsr, ?_, ?_, K3.dict, upd_same, by simp⟩
        · rw [upd_ne (fun q => by rw [q, hd3] at ksa; cases ksa)]; exact ksa
        · intro z hz
          have k := kg z hz
          exact ⟨GrpAt.updAttrs k.at_ hd3 (fun q => by have := k.nd; rw [q, hd2] at this; cases this), k.ng, k.nd, k.np⟩
        · rw [hem]; exact B3.mark hd3 (by simp; omega)
      · have hem : emOf n (List.map GR.cp [y]) = false := by simp only [List.map_cons, List.map_nil, emOf, GR.cp]; simp; intro q; exact h2 (by exact_mod_cast q)
        exact ⟨sa, ⟨rfl, rfl, rfl, trivial⟩, [y], _, hcap, fun _ h => h, ksa, hsr, kg, by rw [hem]; exact B3, K3, hd3, by simp⟩
    · have hl2 : 2 ≤ gs.length := by
        have : gs.length ≠ 0 := fun q => hnil (List.length_eq_zero_iff.mp q)
        rw [List.length_map] at h1; omega
      refine WComp.list sa _ rfl ksa hgl (fun i out H' => H' = H3 ∧ out = ((gs.take i).filter fun y => y.col == opp).map fun y => PV.ref y.g) ⟨rfl, rfl⟩ (fun i out H'' h => h.1 ▸ ksa) (fun i v out H'' hv h => ?_) (fun out H'' h => ?_)
      · obtain ⟨rfl, rfl⟩ := h
        obtain ⟨y, hy, rfl⟩ := map_get hv
        refine GrpAt.gCol hL (kg y (List.mem_of_getElem? hy)).at_ ?_
        refine br (fun q => ⟨rfl, ?_⟩) (fun q => ⟨rfl, ?_⟩)
        · rw [filter_snoc hy, q]; rfl
        · rw [filter_snoc hy, q]; rfl
      obtain ⟨rfl, rfl⟩ := h
      refine ⟨H'', Ext.refl _, fun ta hta => ?_⟩
      rw [List.length_map, List.take_length]
      have hsrt : ta ∉ rows := list_notrow B3 hta
      have htcp : (gs.filter fun y => y.col == opp).map GR.cp = (gs.map GR.cp).filter fun A => A.1 == opp := by rw [List.filter_map]; rfl
      have hcap : (gs.filter fun y => y.col == opp).map GR.cp = capOf opp (gs.map GR.cp) := by
        rw [htcp]; unfold capOf; rw [if_neg (by rw [hLlen]; omega)]
      have hscp : (gs.filter fun y => y.col == col).map GR.cp = (gs.map GR.cp).filter fun A => A.1 == col := by rw [List.filter_map]; rfl
      have hem : emOf n (gs.map GR.cp) = false := by
        match gs, hl2 with
        | a :: b :: r, _ => rfl
      generalize htc : (gs.filter fun y => y.col == opp) = tc at htcp hcap ⊢
      have hsub : ∀ y ∈ tc, y ∈ gs := fun y hy => by rw [← htc] at hy; exact (List.mem_filter.mp hy).1
      have htcl : (tc.map fun y => PV.ref y.g).length ≤ 100000 := by rw [List.length_map, ← htc]; exact Nat.le_trans (List.length_filter_le _ _) (by omega)
      have ex4 : Ext H'' (upd H'' ta (.list (tc.map fun y => PV.ref y.g))) := Ext.upd (Ext.refl _) hta
      have hta4 : upd H'' ta (.list (tc.map fun y => PV.ref y.g)) ta = some (.list (tc.map fun y => PV.ref y.g)) := upd_same
      change w _ _ _ _ _ (upd H'' ta (.list (tc.map fun y => PV.ref y.g))) _ _
      generalize upd H'' ta (.list (tc.map fun y => PV.ref y.g)) = H4 at ex4 hta4 ⊢
      have B4 := B3.ext ex4
      have K4 := K3.ext ex4
      have hd4 := ex4 _ _ hd3
      have ksa4 := ex4 _ _ ksa
      have kg4 : ∀ y ∈ gs, y.New H2 H4 := fun y hy => (kg y hy).ext ex4
      have fin : ∀ H5 : AHeap, Ext H4 H5 → PCut n (AM.put G (r, c) (some col)) opp gs x d bp bd rows (l0.length + 2) H' H2 ta H5 := fun H5 ex =>
        ⟨tc, _, hcap, hsub, ex _ _ hta4, hsrt, fun y hy => (kg4 y hy).ext ex, by rw [hem]; exact B4.ext ex, K4.ext ex, ex _ _ hd4, by simp⟩
      have nko : koOf col opp (gs.map GR.cp) = none → SubN [(0, PV.ref x), (8, PV.ref ta), (6, pvPt (koOf col opp (gs.map GR.cp)))] [(8, .ref ta), (6, .none), (5, .ref sa), (4, .str opp), (0, .ref x), (1, .int r), (2, .int c), (3, .str col)] := fun q => by rw [q]; exact ⟨rfl, rfl, rfl, trivial⟩
      refine SCall.lenL (.inl hta4) htcl ?_
      refine br_dec (fun h3 => ?_) (fun h3 => ⟨ta, nko (koOf_a (by rw [← htcp, List.length_map]; intro q; apply h3; rw [List.length_map, q]; rfl)), fin _ (Ext.refl _)⟩)
      obtain ⟨y, hy1⟩ := List.length_eq_one_iff.mp (show tc.length = 1 by rw [List.length_map] at h3; omega)
      subst hy1
      have ya := (kg4 y (hsub y (.head _))).at_
      refine SSub.list hta4 (by decide) (by decide) rfl ?_
      refine GrpAt.gPts hL ya ?_
      refine SCall.lenS ya.pts ?_
      refine br_dec (fun h4 => ?_) (fun h4 => ⟨ta, nko (koOf_b htcp.symm (by intro q; apply h4; simp only [GR.cp] at q; simp [q])), fin _ (Ext.refl _)⟩)
      obtain ⟨kq, hkq⟩ := List.length_eq_one_iff.mp (show y.P.length = 1 by omega)
      refine WComp.list sa _ rfl ksa4 hgl (fun i out H' => H' = H4 ∧ out = ((gs.take i).filter fun y => y.col == col).map fun y => PV.ref y.g) ⟨rfl, rfl⟩ (fun i out H'' h => h.1 ▸ ksa4) (fun i v out H'' hv h => ?_) (fun out H'' h => ?_)
      · obtain ⟨rfl, rfl⟩ := h
        obtain ⟨y, hy, rfl⟩ := map_get hv
        refine GrpAt.gCol hL (kg4 y (List.mem_of_getElem? hy)).at_ ?_
        refine br (fun q => ⟨rfl, ?_⟩) (fun q => ⟨rfl, ?_⟩)
        · rw [filter_snoc hy, q]; rfl
        · rw [filter_snoc hy, q]; rfl
      obtain ⟨rfl, rfl⟩ := h
      refine ⟨H'', Ext.refl _, fun sc hsc => ?_⟩
      rw [List.length_map, List.take_length]
      obtain ⟨A0, r0, hA0⟩ := own_there hcol (by rw [hLlen]; omega) (by rw [← htcp]; rfl)
      rw [← hscp] at hA0
      have hss : ∀ y ∈ (gs.filter fun y => y.col == col), y ∈ gs := fun y hy => (List.mem_filter.mp hy).1
      generalize (gs.filter fun y => y.col == col) = ss at hA0 hscp hss ⊢
      cases ss with
      | nil => cases hA0
      | cons y' ss' =>
      have ex5 : Ext H'' (upd H'' sc (.list ((y' :: ss').map fun y => PV.ref y.g))) := Ext.upd (Ext.refl _) hsc
      have ksc : upd H'' sc (.list ((y' :: ss').map fun y => PV.ref y.g)) sc = some (.list ((y' :: ss').map fun y => PV.ref y.g)) := upd_same
      change w _ _ _ _ _ (upd H'' sc (.list ((y' :: ss').map fun y => PV.ref y.g))) _ _
      generalize upd H'' sc (.list ((y' :: ss').map fun y => PV.ref y.g)) = H5 at ex5 ksc ⊢
      have ya' : y'.At H5 := ((kg4 y' (hss y' (.head _))).ext ex5).at_
      refine SSub.list ksc (by decide) (by decide) rfl ?_
      refine GrpAt.gPts hL ya' ?_
      refine SCall.lenS ya'.pts ?_
      refine br_dec (fun h5 => ?_) (fun h5 => ⟨ta, by rw [koOf_c (B := y'.cp) (r := ss'.map GR.cp) hscp.symm (by intro q; apply h5; simp only [GR.cp] at q; simp [q])]; exact ⟨rfl, rfl, rfl, trivial⟩, fin _ ex5⟩)
      obtain ⟨kq', hkq'⟩ := List.length_eq_one_iff.mp (show y'.P.length = 1 by omega)
      refine SSub.list (ex5 _ _ hta4) (by decide) (by decide) rfl ?_
      have ya5 : y.At H5 := GrpAt.ext ya ex5
      refine GrpAt.gPts hL ya5 ?_
      refine ⟨y.ps, kq, rfl, by have := ya5.pts; rw [hkq] at this; exact this, ta, ?_, fin _ ex5⟩
      rw [koOf_d (q := kq) (q' := kq') (o := y.col) (s := y'.col) (r := ss'.map GR.cp) (by rw [hLlen]; omega) (by rw [← htcp]; simp [GR.cp, hkq]) (by rw [← hscp]; simp [GR.cp, hkq'])]
      exact ⟨rfl, rfl, rfl, trivial⟩
  · rintro ta Hc ⟨tc, l, htc, hsub, hta, htr, kg', B', K', hdl', hll⟩
    have hnew : ∀ a, H2 a = none → H' a = none := fun a ha => by
      cases q : H' a with
      | none => rfl
      | some o =>
        have h1 : a ≠ d := fun w => by rw [w, hd2] at ha; cases ha
        have := K2 a o q h1 (list_notrow B2 ha)
        rw [ha] at this; cases this
    have hpw : (tc.map GR.cp).Pairwise fun A B => ∀ q ∈ A.2, q ∉ B.2 := by
      rw [htc]; unfold capOf; split
      · exact fs.apart
      · exact fs.apart.filter _
    refine WFor.list ta _ rfl hta Unit (fun _ => [(0, .ref x), (6, pvPt (koOf col opp (gs.map GR.cp)))]) (PL1 n (AM.put G (r, c) (some col)) (emOf n (gs.map GR.cp)) tc x d bp bd rows l H' ta) () ⟨rfl, rfl, trivial⟩ ?_ (fun i b H'' h => h.hta) ?_ ?_
    · exact ⟨by rw [show ptsOf (List.map GR.cp (tc.take 0)) = [] from rfl, rm_nil]; exact B', hta, fun y hy => (kg' y (hsub y hy)).at_, K', hdl'⟩
    · rintro i p u H'' hp hpl
      obtain ⟨y, hy, rfl⟩ := map_get hp
      have hilt := (List.getElem?_eq_some_iff.mp hy).1
      have hyd : tc.drop i = y :: tc.drop (i + 1) := by rw [List.drop_eq_getElem_cons hilt, (List.getElem?_eq_some_iff.mp hy).2]
      have ya : y.At H'' := hpl.kg y (by rw [hyd]; exact .head _)
      have hyg := hsub y (List.mem_of_getElem? hy)
      obtain ⟨z0, _, hz0g, _⟩ := fs.grp y.cp (List.mem_map.mpr ⟨y, hyg, rfl⟩)
      have hyn := hnew _ (kg' y hyg).np
      have hps : ∀ w ∈ tc.drop (i + 1), w.ps ≠ y.ps := fun w hw q => by
        have wa : w.At H'' := hpl.kg w (by rw [hyd]; exact .tail _ hw)
        have e1 := wa.pts
        rw [q, ya.pts] at e1
        have e2 : y.P = w.P := by injection e1 with e1; injection e1
        have hp2 := hpw
        rw [← List.take_append_drop i tc, hyd, List.map_append, List.map_cons] at hp2
        have := (List.pairwise_cons.mp (List.pairwise_append.mp hp2).2.1).1 w.cp (List.mem_map.mpr ⟨w, hw, rfl⟩) z0 hz0g.self
        exact this (by show z0 ∈ w.P; rw [← e2]; exact hz0g.self)
      refine GrpAt.gPts hL ya ?_
      refine WFor.set y.ps y.P rfl ya.pts Unit (fun _ => [(0, .ref x), (6, pvPt (koOf col opp (gs.map GR.cp)))]) (PL2 n (rm (AM.put G (r, c) (some col)) (ptsOf ((tc.take i).map GR.cp))) (emOf n (gs.map GR.cp)) tc x d bp bd rows l H' ta y.ps i) () ⟨rfl, rfl, trivial⟩ ?_ ?_ ?_
      · exact fun l' hperm => hpl.first hy hyd hyn hps
      · intro l' j q u H3 hperm hq hp2
        have hqg : inG n q := ((hz0g.mem q).mp ((hperm.mem_iff).mp (List.mem_of_getElem? hq))).inG
        refine hp2.at_.gBoard hL ?_
        refine hp2.at_.at1 hqg.1.1 hqg.1.2 fun rb hb1 hrb => ?_
        refine SSetItem.list hrb hqg.2.1 (by simpa using hqg.2.2) (by simp; have := B.five; omega) ?_
        exact ⟨(), ⟨rfl, rfl, trivial⟩, hp2.turn hq hqg htr hb1 hrb⟩
      · intro l' u H3 hperm hp2
        exact ⟨(), ⟨rfl, rfl, trivial⟩, hp2.fin hy hperm⟩
    · rintro u H'' ⟨b1, b2, b3, b4, b5⟩
      rw [List.length_map, List.take_length, htc] at b1
      exact ⟨gs.map GR.cp, hdl, l0, l, hG, fs, by rw [hLlen]; exact lg, rfl, b1, b4, hd0, b5, hll⟩
end
end
section
open PySem PySem.W PyProof.Rows PySem.Calls
inductive InitPost (n : Nat) (x d : Addr) (H : AHeap) (p : PV) (H' : AHeap) : Prop
  | mk (bp bd : Addr) (rows : List Addr) (l : Ls) (e : p = .none) (at_ : BdAt x d bp bd rows n (fun _ => none) true H') (hl : H' d = some (.attrs l)) (le : l.length ≤ 10) (kp : Keep H d [] H') (np : H bp = none) (nb : H bd = none) (nr : ∀ a ∈ rows, H a = none) : InitPost n x d H p H'
structure InitI (n : Nat) (x d bp bd : Addr) (H : AHeap) (i : Nat) (u : Unit) (H' : AHeap) : Prop where
  rows : ∃ rows : List Addr, (rows.length = i ∧ rows.Nodup) ∧ (bp ∉ rows ∧ bd ∉ rows) ∧ H' bd = some (.list (rows.map .ref)) ∧ ∀ a ∈ rows, H' a = some (.list (List.replicate n .none)) ∧ H a = none
  hx : H' x = some (.inst a_Board d)
  hd : H' d = some (.attrs [("board", .ref bd), ("board_points", .ref bp), ("side", .int n)])
  hbp : H' bp = some (.list (gather2 n n fun i j => some (pt (i, j))))
  kp : Keep H d [] H'
section
variable {T : Tr} {X : String} {H : AHeap} {R : AHeap → Prop} {x d bp bd : Addr} {rows : List Addr} {n : Nat} {G : Pt → Option Str} {e : Bool}
theorem Keep.none {H' : AHeap} {a : Addr} (k : Keep H d [] H') (ha : H' a = none) (hd : H' d ≠ none) : H a = none := by
  cases q : H a with
  | none => rfl
  | some o =>
    have := k a o q (fun w => hd (by rw [← w]; exact ha)) (by simp)
    rw [ha] at this; cases this
theorem InitI.turn {H' H7 : AHeap} {i : Nat} {c : Addr} (h : InitI n x d bp bd H i () H') (hbdd : bd ≠ d) (hbdp : bd ≠ bp) (hbn : H bd = none) (ex7 : Ext H' H7) (hcn : H' c = none) (hc7 : H7 c = some (.list (List.replicate n PV.none))) :
    ∃ rows : List Addr, rows.length = i ∧ H7 bd = some (.list (rows.map .ref)) ∧ InitI n x d bp bd H (i + 1) () (upd H7 bd (.list (rows.map .ref ++ [.ref c]))) := by
  obtain ⟨⟨rows, ⟨r1, r2⟩, ⟨r3, r4⟩, r8, r9⟩, r5, r6, r7, r10⟩ := h
  have hne : ∀ b o, H' b = some o → b ≠ c := fun b o hb q => by rw [q, hcn] at hb; cases hb
  have hcr : c ∉ rows := fun h => hne c _ (r9 c h).1 rfl
  have kn : ∀ b, b ≠ bd → upd H7 bd (.list (List.map PV.ref rows ++ [PV.ref c])) b = H7 b := fun b hb => upd_ne hb
  have hbx : x ≠ bd := fun q => by rw [q, r8] at r5; cases r5
  refine ⟨rows, r1, ex7 _ _ r8, ⟨rows ++ [c], ⟨by simp [r1], ?_⟩, ⟨?_, ?_⟩, ?_, ?_⟩, ?_, ?_, ?_, ?_⟩
  · exact List.nodup_append.mpr ⟨r2, by simp, fun a ha b hb q => hcr (by rw [List.mem_singleton.mp hb] at q; rw [← q]; exact ha)⟩
  · intro h
    rcases List.mem_append.mp h with h | h
    · exact r3 h
    · exact hne bp _ r7 (List.mem_singleton.mp h)
  · intro h
    rcases List.mem_append.mp h with h | h
    · exact r4 h
    · exact hne bd _ r8 (List.mem_singleton.mp h)
  · rw [upd_same, List.map_append]; rfl
  · intro b hb
    rcases List.mem_append.mp hb with hb | hb
    · rw [kn b (fun q => r4 (q ▸ hb))]; exact ⟨ex7 _ _ (r9 b hb).1, (r9 b hb).2⟩
    · rw [List.mem_singleton.mp hb, kn c (fun q => hne bd _ r8 q.symm)]; exact ⟨hc7, r10.none hcn (by rw [r6]; simp)⟩
  · rw [kn x hbx]; exact ex7 _ _ r5
  · rw [kn d hbdd.symm]; exact ex7 _ _ r6
  · rw [kn bp hbdp.symm]; exact ex7 _ _ r7
  · exact (r10.ext ex7).new hbn
theorem InitI.fin {H' : AHeap} (h : InitI n x d bp bd H n () H') (hxd : x ≠ d) (hbpd : bp ≠ d) (hbdd : bd ≠ d) (h3 : 2 ≤ n) (h5 : n ≤ 5) (np : H bp = none) (nb : H bd = none) :
    InitPost n x d H .none (upd H' d (.attrs [("_is_empty", .bool true), ("board", .ref bd), ("board_points", .ref bp), ("side", .int n)])) := by
  obtain ⟨⟨rows, ⟨r1, r2⟩, ⟨r3, r4⟩, r8, r9⟩, r5, r6, r7, r10⟩ := h
  refine ⟨bp, bd, rows, _, rfl, ⟨by rw [upd_ne hxd]; exact r5, ⟨_, upd_same, by simp, ?_, ?_, ?_, ?_, ?_⟩, by rw [upd_ne hbpd]; exact r7, by rw [upd_ne hbdd]; exact r8, r1, ?_, r2, h3, h5, r3, r4⟩, upd_same, by simp, r10.dict, np, nb, fun a ha => (r9 a ha).2⟩
  · exact lk_next (by decide +kernel) (lk_next (by decide +kernel) (lk_next (by decide +kernel) lk_here))
  · exact lk_next (by decide +kernel) (lk_next (by decide +kernel) lk_here)
  · exact lk_next (by decide +kernel) lk_here
  · exact lk_here
  · intro m hm
    refine lk_none ?_ (lk_none ?_ (lk_none ?_ (lk_none ?_ rfl))) <;> (revert m; decide +kernel)
  · intro i b hb
    have hbr := List.mem_of_getElem? hb
    rw [upd_ne (fun q => by have := (r9 b hbr).1; rw [q, r6] at this; cases this), (r9 b hbr).1]
    congr 2
    apply List.ext_getElem?
    intro k
    rw [List.getElem?_map]
    by_cases hk : k < n
    · rw [List.getElem?_range hk, List.getElem?_replicate, if_pos hk]; rfl
    · rw [List.getElem?_eq_none (by simpa using hk), List.getElem?_eq_none (by simpa using hk)]; rfl
theorem init_spec (hL : L1 T.C) (hn : 3 ≤ T.n) (hh : T.hd = false) (hx : H x = some (.inst a_Board d)) (hd0 : H d = some (.attrs [])) (h3 : 2 ≤ n) (h5 : n ≤ 5) :
    SCode T X (.ref a_init) [.ref x, .int n] H (InitPost n x d H) R := by
  refine hL.f_init hh (by omega) rfl ?_
  have hxd : x ≠ d := fun q => by rw [q, hd0] at hx; cases hx
  refine SSetAttr.inst hL.clsB (hL.fd (by kernel_rfl)) hx hd0 (by simp) ?_
  have hx1 : upd H d (.attrs [("side", .int n)]) x = some (.inst a_Board d) := by rw [upd_ne hxd]; exact hx
  have hd1 : upd H d (.attrs [("side", .int n)]) d = some (.attrs [("side", .int n)]) := upd_same
  have K1 : Keep H d [] (upd H d (.attrs [("side", .int n)])) := Keep.refl.dict
  change cond _ (wS _ _ _ _ (upd H d (.attrs [("side", .int n)])) _ _) (wS _ _ _ _ (upd H d (.attrs [("side", .int n)])) _ _)
  generalize upd H d (.attrs [("side", .int n)]) = H1 at hx1 hd1 K1 ⊢
  refine br_dec (fun q => absurd q (by omega)) fun _ => ?_
  refine Exists.intro n (Exists.intro n (Exists.intro (fun i j => some (pt (i, j))) (And.intro (by have : n * n ≤ 5 * 5 := Nat.mul_le_mul h5 h5; omega) (And.intro (by omega) (And.intro (by omega) (SCall.range1 fun a hra => Exists.intro a (And.intro rfl (And.intro upd_same (And.intro ?_ (And.intro ?_ ?_)))))))) ))
  · intro i H' hi ex
    exact SCall.range1 fun b hb => ⟨b, rfl, upd_same, Ext.upd ex (ex.none hb)⟩
  · intro i j H' hi hj ex
    exact ⟨ex, _, rfl, rfl, ex⟩
  intro bp hbp
  have hbpd : bp ≠ d := fun q => by
    rw [q] at hbp
    have : upd H1 a (.range 0 n) d = some (.attrs [("side", .int n)]) := Ext.upd (Ext.refl _) hra _ _ hd1
    rw [this] at hbp; cases hbp
  have ex2 : Ext H1 (upd (upd H1 a (.range 0 n)) bp (.list (gather2 n n fun i j => some (pt (i, j))))) := fun b o hb => Ext.upd (Ext.refl _) hbp _ _ (Ext.upd (Ext.refl _) hra _ _ hb)
  have hbp2 : upd (upd H1 a (.range 0 n)) bp (.list (gather2 n n fun i j => some (pt (i, j)))) bp = some (.list (gather2 n n fun i j => some (pt (i, j)))) := upd_same
  have hx2 := ex2 _ _ hx1
  have hd2 := ex2 _ _ hd1
  have K2 := K1.ext ex2
  have np : H bp = none := K1.none (Ext.none (Ext.upd (Ext.refl _) hra) hbp) (by rw [hd1]; simp)
  change SSetAttr _ _ _ _ (upd (upd H1 a (.range 0 n)) bp (.list (gather2 n n fun i j => some (pt (i, j))))) _
  generalize upd (upd H1 a (.range 0 n)) bp (.list (gather2 n n fun i j => some (pt (i, j)))) = H2 at ex2 hbp2 hx2 hd2 K2 ⊢
  refine SSetAttr.inst hL.clsB (hL.fd (by kernel_rfl)) hx2 hd2 (by simp) ?_
  have hx3 : upd H2 d (.attrs [("board_points", .ref bp), ("side", .int n)]) x = some (.inst a_Board d) := by rw [upd_ne hxd]; exact hx2
  have hd3 : upd H2 d (.attrs [("board_points", .ref bp), ("side", .int n)]) d = some (.attrs [("board_points", .ref bp), ("side", .int n)]) := upd_same
  have hbp3 : upd H2 d (.attrs [("board_points", .ref bp), ("side", .int n)]) bp = some (.list (gather2 n n fun i j => some (pt (i, j)))) := by rw [upd_ne hbpd]; exact hbp2
  have K3 : Keep H d [] (upd H2 d (.attrs [("board_points", .ref bp), ("side", .int n)])) := K2.dict
  intro bd hbd
  change upd H2 d (.attrs [("board_points", .ref bp), ("side", .int n)]) bd = none at hbd
  change SSetAttr _ _ _ _ (upd (upd H2 d (.attrs [("board_points", .ref bp), ("side", .int n)])) bd (.list [])) _
  generalize upd H2 d (.attrs [("board_points", .ref bp), ("side", .int n)]) = H3 at hx3 hd3 hbp3 K3 hbd ⊢
  have hbdd : bd ≠ d := fun q => by rw [q, hd3] at hbd; cases hbd
  have hbdp : bd ≠ bp := fun q => by rw [q, hbp3] at hbd; cases hbd
  have ex4 : Ext H3 (upd H3 bd (.list [])) := Ext.upd (Ext.refl _) hbd
  have hbd4 : upd H3 bd (.list []) bd = some (.list []) := upd_same
  have hbdn : H bd = none := K3.none hbd (by rw [hd3]; simp)
  have hx4 := ex4 _ _ hx3
  have hd4 := ex4 _ _ hd3
  have hbp4 := ex4 _ _ hbp3
  have K4 := K3.ext ex4
  generalize upd H3 bd (.list []) = H4 at ex4 hbd4 hx4 hd4 hbp4 K4 ⊢
  refine SSetAttr.inst hL.clsB (hL.fd (by kernel_rfl)) hx4 hd4 (by simp) ?_
  refine SCall.range1 fun ra hra => ?_
  change upd H4 d (.attrs [("board", .ref bd), ("board_points", .ref bp), ("side", .int n)]) ra = none at hra
  have exr := Ext.upd (o := .range 0 n) (Ext.refl _) hra
  refine WFor.range ra n rfl upd_same (by omega) Unit (fun _ => [(0, .ref x), (1, .int n)]) (InitI n x d bp bd H) () ⟨rfl, rfl, trivial⟩ ?_ ?_ ?_
  · refine ⟨⟨[], ⟨rfl, List.nodup_nil⟩, ⟨by simp, by simp⟩, exr _ _ (by rw [upd_ne hbdd]; exact hbd4), by simp⟩, exr _ _ (by rw [upd_ne hxd]; exact hx4), exr _ _ upd_same, exr _ _ (by rw [upd_ne hbpd]; exact hbp4), K4.dict.ext exr⟩
  · rintro i u H' hi hI
    refine SGet.inst hL.clsB (hL.fd (by kernel_rfl)) hI.hx hI.hd (p := .ref bd) lk_here rfl ?_
    obtain ⟨rows0, -, -, r8, -⟩ := hI.rows
    refine Exists.intro _ (And.intro (SMeth.append r8) ?_)
    intro la hla
    refine SBin.mulL upd_same (by omega) (by omega) fun c hc => ?_
    have ex7 : Ext H' (upd (upd H' la (.list [PV.none])) c (.list (List.replicate (n : Int).toNat PV.none))) := fun b o hb => Ext.upd (Ext.refl _) hc _ _ (Ext.upd (Ext.refl _) hla _ _ hb)
    have hcn : H' c = none := Ext.none (Ext.upd (Ext.refl _) hla) hc
    obtain ⟨rows, r1, r8', hI'⟩ := hI.turn hbdd hbdp hbdn ex7 hcn upd_same
    refine SCall.append r8' (by rw [List.length_map]; omega) ?_
    exact ⟨(), ⟨rfl, rfl, trivial⟩, hI'⟩
  · rintro u H' hI
    refine SSetAttr.inst hL.clsB (hL.fd (by kernel_rfl)) hI.hx hI.hd (by simp) ?_
    exact hI.fin hxd hbpd hbdd h3 h5 np hbdn
end
end
section
open PySem PySem.W PyProof.Rows PySem.Calls
section
theorem gather_aux {m : Nat} {f : Pt → Option PV} : ∀ l : List Nat, (l.flatMap fun i : Nat => (List.range m).filterMap fun j : Nat => f ((i : Int), (j : Int))) = (l.flatMap fun i : Nat => (List.range m).map fun j : Nat => (((i : Int), (j : Int)) : Pt)).filterMap f
  | [] => rfl
  | i :: l => by
    rw [List.flatMap_cons, List.flatMap_cons, List.filterMap_append, gather_aux l]
    congr 1
    rw [List.filterMap_map]; rfl
theorem gather_grid {n : Nat} {f : Pt → Option PV} : gather2 n n (fun i j => f ((i : Int), (j : Int))) = (grid n).filterMap f := gather_aux (List.range n)
theorem gather_pts {n : Nat} : gather2 n n (fun i j => some (pt ((i : Int), (j : Int)))) = (grid n).map pt := by
  rw [gather_grid (f := fun z => some (pt z))]
  rw [List.filterMap_eq_map']
noncomputable def occ (n : Nat) (G : Pt → Option Str) : List PV := (grid n).filterMap fun z => (G z).map fun c => PV.tup [.str c, pt z]
theorem grid_le {n : Nat} (h : n ≤ 5) : (grid n).length ≤ 25 := by
  rw [grid_length]; exact Nat.mul_le_mul h h
noncomputable def dpt (z : Pt) : Dat := .tuple [.int z.1, .int z.2]
theorem dpt_inj {z y : Pt} (h : dpt z = dpt y) : z = y := by
  obtain ⟨a, b⟩ := z; obtain ⟨c, d⟩ := y
  simp only [dpt, Dat.tuple.injEq, List.cons.injEq, Dat.int.injEq, and_true] at h
  rw [h.1, h.2]
theorem hd_pt {C : Cx} {H : AHeap} {k : Nat} {z : Pt} : HD C H (k + 2) (pt z) (dpt z) := HD.tup' (All2.mk HD.int' (All2.mk HD.int' rfl))
theorem hd_pts {C : Cx} {H : AHeap} {k : Nat} : ∀ gl : List Pt, All2 (HD C H (k + 2)) (gl.map pt) (gl.map dpt)
  | [] => rfl
  | z :: gl => ⟨_, _, rfl, hd_pt, hd_pts gl⟩
theorem mem_dpts {z : Pt} {gl : List Pt} : dpt z ∈ gl.map dpt ↔ z ∈ gl := by
  rw [List.mem_map]
  exact ⟨fun ⟨y, hy, e⟩ => dpt_inj e ▸ hy, fun h => ⟨z, h, rfl⟩⟩
theorem fmod_rng {m : Int} {n : Nat} (h : 0 < n) : 0 ≤ m.fmod n ∧ m.fmod n < n := ⟨Int.fmod_nonneg_of_pos _ (by omega), Int.fmod_lt_of_pos _ (by omega)⟩
noncomputable def dko : Option Pt → Dat
  | none => .none
  | some q => dpt q
theorem hd_ko {C : Cx} {H : AHeap} {k : Nat} : ∀ o : Option Pt, HD C H (k + 2) (pvPt o) (dko o)
  | none => HD.none'
  | some q => hd_pt
noncomputable def docc (n : Nat) (G : Pt → Option Str) : List Dat := (grid n).filterMap fun z => (G z).map fun c => Dat.tuple [.str c, dpt z]
theorem hd_occ_aux {C : Cx} {H : AHeap} {k : Nat} {G : Pt → Option Str} (hv : ∀ z c, G z = some c → PyData.strOk c = true) : ∀ gl : List Pt, All2 (HD C H (k + 3)) (gl.filterMap fun z => (G z).map fun c => PV.tup [.str c, pt z]) (gl.filterMap fun z => (G z).map fun c => Dat.tuple [.str c, dpt z])
  | [] => rfl
  | z :: gl => by
    rw [List.filterMap_cons, List.filterMap_cons]
    cases hz : G z with
    | none => exact hd_occ_aux hv gl
    | some c =>
      refine ⟨_, _, rfl, ?_, hd_occ_aux hv gl⟩
      exact HD.tup' (All2.mk (HD.str' (hv z c hz)) (All2.mk hd_pt rfl))
theorem hd_occ {C : Cx} {H : AHeap} {a : Addr} {n : Nat} {G : Pt → Option Str} (hv : ∀ z c, G z = some c → PyData.strOk c = true) (hl : H a = some (.list (occ n G))) : HD C H 9 (.ref a) (.list (docc n G)) := HD.list' (.inl hl) (hd_occ_aux (k := 5) hv _)
theorem hd_ptl {C : Cx} {H : AHeap} {a : Addr} {gl : List Pt} (hl : H a = some (.list (gl.map pt))) : HD C H 9 (.ref a) (.list (gl.map dpt)) := HD.list' (.inl hl) (hd_pts (k := 6) _)
theorem dpts_inj : ∀ {l m : List Pt}, l.map dpt = m.map dpt → l = m
  | [], [], _ => rfl
  | [], _ :: _, h => by cases h
  | _ :: _, [], h => by cases h
  | a :: l, b :: m, h => by
    rw [List.map_cons, List.map_cons] at h
    injection h with h1 h2
    rw [dpt_inj h1, dpts_inj h2]
theorem BdAt.exc {H : AHeap} {x d bp bd : Addr} {rows : List Addr} {n : Nat} {G : Pt → Option Str} {e : Bool} {b0 : Addr} {l : List (Pt × PV)} {o : AO} (B : BdAt x d bp bd rows n G e H) (hb : H b0 = some (.pdict l)) : BdAt x d bp bd rows n G e (upd H b0 o) := by
  obtain ⟨la, b1, b2⟩ := B.attrs
  have kn : ∀ a ob, H a = some ob → (∀ m, ob ≠ .pdict m) → upd H b0 o a = some ob := fun a ob h hk => by
    rw [upd_ne (fun q => by rw [q, hb] at h; cases h; exact hk _ rfl)]; exact h
  exact ⟨kn _ _ B.inst (by intro m q; cases q), ⟨la, kn _ _ b1 (by intro m q; cases q), b2⟩, kn _ _ B.pts (by intro m q; cases q), kn _ _ B.board (by intro m q; cases q), B.len, fun i a h => kn _ _ (B.row i a h) (by intro m q; cases q), B.nodup, B.lo, B.five, B.bpn, B.bdn⟩
end
structure OccI (n : Nat) (G : Pt → Option Str) (a1 : Addr) (H : AHeap) (k : Nat) (u : Unit) (H' : AHeap) : Prop where
  k1 : H' a1 = some (.list (((grid n).take k).filterMap fun z => (G z).map fun c => PV.tup [.str c, pt z]))
  ex : Ext H H'
inductive OccPost (n : Nat) (G : Pt → Option Str) (H : AHeap) (p : PV) (H' : AHeap) : Prop
  | mk (a : Addr) (e : p = .ref a) (ex : Ext H H') (na : H a = none) (ka : H' a = some (.list (occ n G))) : OccPost n G H p H'
section
variable {T : Tr} {X : String} {H : AHeap} {R : AHeap → Prop} {x d bp bd : Addr} {rows : List Addr} {n : Nat} {G : Pt → Option Str} {e : Bool}
theorem occupied_spec (hL : L1 T.C) (hn : 3 ≤ T.n) (hh : T.hd = false) (B : BdAt x d bp bd rows n G e H) :
    SCode T X (.ref a_list_occupied_points) [.ref x] H (OccPost n G H) R := by
  refine hL.f_list_occupied_points hh (by omega) rfl ?_
  intro a1 h1
  have ex1 : Ext H (upd H a1 (.list [])) := Ext.upd (Ext.refl _) h1
  refine (B.ext ex1).gPts hL ?_
  have hbp := B.pts
  rw [gather_pts] at hbp
  refine WFor.list bp ((grid n).map pt) rfl (ex1 _ _ hbp) Unit (fun _ => [(0, .ref x), (1, .ref a1)]) (OccI n G a1 H) () ⟨rfl, rfl, trivial⟩ ⟨upd_same, ex1⟩ (fun i b H' h => h.ex _ _ hbp) ?_ ?_
  · rintro k p u H' hp hI
    obtain ⟨z, hz, rfl⟩ := map_get hp
    have hzg := mem_grid.mp (List.mem_of_getElem? hz)
    have htk := take_snoc hz
    have B' := B.ext hI.ex
    refine B'.gBoard hL ?_
    refine B'.at1 hzg.1.1 hzg.1.2 fun ra _ hra => ?_
    refine sub2 hra hzg.2.1 hzg.2.2 B.five ?_
    cases hG : G (z.1, z.2) with
    | none =>
      have hG : G z = none := hG
      refine ⟨(), ⟨rfl, rfl, trivial⟩, ?_, hI.ex⟩
      rw [htk, List.filterMap_append]; simp only [List.filterMap_cons, hG, Option.map_none, List.filterMap_nil, List.append_nil]; exact hI.k1
    | some c =>
      have hG : G z = some c := hG
      refine M.append hI.k1 ?_ ?_
      · have h1 := List.length_filterMap_le (fun z => (G z).map fun c => PV.tup [.str c, pt z]) ((grid n).take k)
        have h3 := grid_le B.five
        have h4 : ((grid n).take k).length ≤ (grid n).length := by rw [List.length_take]; exact Nat.min_le_right _ _
        exact Nat.le_trans h1 (Nat.le_trans h4 (Nat.le_trans h3 (by decide)))
      refine ⟨(), ⟨rfl, rfl, trivial⟩, ?_, Ext.upd hI.ex h1⟩
      rw [upd_same, htk, List.filterMap_append]; simp only [List.filterMap_cons, hG, Option.map_some, List.filterMap_nil]; rfl
  · rintro u H' hI
    have k1 := hI.k1
    rw [List.length_map, List.take_length] at k1
    exact ⟨a1, rfl, hI.ex, h1, k1⟩
end
end
section
open PySem PySem.W PyProof.Rows PySem.Calls
inductive LGPost (n : Nat) (G : Pt → Option Str) (p : Pt) (c : Str) (H : AHeap) (q : PV) (H' : AHeap) : Prop
  | mk (a : Addr) (gl : List Pt) (e : q = .ref a) (ex : Ext H H') (na : H a = none) (ka : H' a = some (.list (gl.map pt))) (own : OwnIs n G c p gl) : LGPost n G p c H q H'
structure LGI (n : Nat) (G : Pt → Option Str) (c : Str) (p : Pt) (ga : Addr) (H : AHeap) (gl : List Pt) (m i : Nat) (sur : Bool) (H' : AHeap) : Prop where
  e : m = left n (gl.take i)
  il : i ≤ gl.length
  mg : MG n G c p (gl.take i) (gl.drop i) sur
  nd : gl.Nodup
  k1 : H' ga = some (.list (gl.map pt))
  ex : Ext H H'
structure LGJ (n : Nat) (G : Pt → Option Str) (c : Str) (q : Pt) (P₁ W₁ : List Pt) (sur : Bool) (i : Nat) (ga a3 : Addr) (H : AHeap) (gl' : List Pt) (k : Nat) (sur' : Bool) (H' : AHeap) : Prop where
  mi : MI n G c q P₁ W₁ sur ((nb q).take k) (gl'.drop i) sur'
  le : i ≤ gl'.length
  tk : gl'.take i = P₁
  nd : gl'.Nodup
  gr : ∀ y ∈ gl', inG n y
  j1 : H' ga = some (.list (gl'.map pt))
  j2 : H' a3 = some (.list ((nb q).map pt))
  ex : Ext H H'
section
variable {T : Tr} {X : String} {H : AHeap} {R : AHeap → Prop} {n : Nat} {G : Pt → Option Str}
theorem LGJ.more {c : Str} {q z : Pt} {P₁ W₁ : List Pt} {sur sur' : Bool} {i k : Nat} {ga a3 : Addr} {gl' : List Pt} {H' : AHeap} (h : LGJ n G c q P₁ W₁ sur i ga a3 H gl' k sur' H') (hz : (nb q)[k]? = some z) (hzg : inG n z) (hG : G z = some c) (hin : z ∉ gl') (hga : H ga = none) (h3g : a3 ≠ ga) : LGJ n G c q P₁ W₁ sur i ga a3 H (gl' ++ [z]) (k + 1) sur' (upd H' ga (.list (gl'.map pt ++ [pt z]))) := by
  obtain ⟨mi, le, tk, nd, gr, j1, j2, ex⟩ := h
  have hd' : (gl' ++ [z]).drop i = gl'.drop i ++ [z] := List.drop_append_of_le_length le
  refine ⟨?_, by simp; omega, by rw [List.take_append_of_le_length le]; exact tk, ?_, ?_, ?_, ?_, Ext.upd ex hga⟩
  · rw [take_snoc hz, hd']
    exact mi.more (List.mem_of_getElem? hz) hzg hG (fun h => hin (by rw [← List.take_append_drop i gl', tk]; exact List.mem_append_left _ h)) (fun y => by simp [or_comm])
  · exact List.nodup_append.mpr ⟨nd, by simp, fun a ha b hb' e => hin (by rw [List.mem_singleton.mp hb'] at e; rw [← e]; exact ha)⟩
  · intro y hy
    rcases List.mem_append.mp hy with hy | hy
    · exact gr y hy
    · rw [List.mem_singleton.mp hy]; exact hzg
  · rw [upd_same, List.map_append]; rfl
  · rw [upd_ne h3g]; exact j2
theorem LGJ.skip {c : Str} {q z : Pt} {P₁ W₁ : List Pt} {sur sur' : Bool} {i k : Nat} {ga a3 : Addr} {gl' : List Pt} {H' : AHeap} (h : LGJ n G c q P₁ W₁ sur i ga a3 H gl' k sur' H') (hz : (nb q)[k]? = some z) (hs : inG n z → G z ≠ none ∧ (G z = some c → z ∈ gl')) : LGJ n G c q P₁ W₁ sur i ga a3 H gl' (k + 1) sur' H' := by
  obtain ⟨mi, le, tk, nd, gr, j1, j2, ex⟩ := h
  refine ⟨?_, le, tk, nd, gr, j1, j2, ex⟩
  rw [take_snoc hz]
  refine mi.skip2 fun hg => ⟨(hs hg).1, fun e => ?_⟩
  have := (hs hg).2 e
  rw [← List.take_append_drop i gl', tk] at this
  exact List.mem_append.mp this
theorem LGJ.free {c : Str} {q z : Pt} {P₁ W₁ : List Pt} {sur sur' : Bool} {i k : Nat} {ga a3 : Addr} {gl' : List Pt} {H' : AHeap} (h : LGJ n G c q P₁ W₁ sur i ga a3 H gl' k sur' H') (hz : (nb q)[k]? = some z) (hzg : inG n z) (hG : G z = none) : LGJ n G c q P₁ W₁ sur i ga a3 H gl' (k + 1) false H' := by
  obtain ⟨mi, le, tk, nd, gr, j1, j2, ex⟩ := h
  exact ⟨by rw [take_snoc hz]; exact mi.free hzg hG, le, tk, nd, gr, j1, j2, ex⟩
theorem law_group_spec (hL : L1 T.C) (hn : 3 ≤ T.n) (hh : T.hd = false) {bd : Addr} {l : List (Pt × PV)} (hH : H bd = some (.pdict l)) (hD : DictIs l G) (h5 : n ≤ 5) {p : Pt} {c : Str} (hg : inG n p) (hc : G p = some c) :
    SCode T X (.ref a_law_group) [.ref bd, .int n, pt p] H (LGPost n G p c H) R := by
  refine hL.f_law_group hh (by omega) rfl ?_
  intro ga hga
  refine WFor.grow ga rfl ⟨_, upd_same⟩ Bool (fun sur => [(0, .ref bd), (1, .int n), (2, pt p), (3, .ref ga), (4, .bool (!sur))]) (fun m i sur H' => ∃ gl, LGI n G c p ga H gl m i sur H') (left n []) true ⟨rfl, rfl, rfl, rfl, rfl, trivial⟩ ?_ ?_
  · exact ⟨[p], rfl, Nat.zero_le _, MG.first hg hc (by simp), by simp, upd_same, Ext.upd (Ext.refl _) hga⟩
  rintro m i sur H' ⟨gl, rfl, hil, mg, nd, k1, ex⟩
  refine ⟨_, k1, fun v hp' => ?_, fun hle => ?_⟩
  · obtain ⟨q, hq, rfl⟩ := map_get hp'
    have hilt := (List.getElem?_eq_some_iff.mp hq).1
    have hdr : gl.drop i = q :: gl.drop (i + 1) := by rw [List.drop_eq_getElem_cons hilt, (List.getElem?_eq_some_iff.mp hq).2]
    have htk := take_snoc hq
    have nd1 : (q :: gl.drop (i + 1)).Nodup := by rw [← hdr]; exact nd.sublist (List.drop_sublist _ _)
    have hqW : q ∈ gl.drop i := by rw [hdr]; exact .head _
    have hmW : ∀ y, y ∈ gl.drop (i + 1) ↔ y ∈ gl.drop i ∧ y ≠ q := fun y => by
      rw [hdr]
      constructor
      · intro h; exact ⟨.tail _ h, fun e => (List.nodup_cons.mp nd1).1 (e ▸ h)⟩
      · rintro ⟨h, hne⟩
        rcases List.mem_cons.mp h with h | h
        · exact absurd h hne
        · exact h
    have hmP : ∀ y, y ∈ gl.take (i + 1) ↔ y = q ∨ y ∈ gl.take i := fun y => by rw [htk]; simp [or_comm]
    intro a3 h3
    have h3g : a3 ≠ ga := fun e => by rw [e, k1] at h3; cases h3
    have h3' := ex.none h3
    refine WFor.list a3 ((nb q).map pt) rfl upd_same Bool (fun sur => [(0, .ref bd), (1, .int n), (2, pt p), (3, .ref ga), (4, .bool (!sur))]) (fun k sur' H'' => ∃ gl', LGJ n G c q (gl.take (i + 1)) (gl.drop (i + 1)) sur (i + 1) ga a3 H gl' k sur' H'') sur ⟨rfl, rfl, rfl, rfl, rfl, trivial⟩ ?_ (fun i b H'' ⟨gl', h⟩ => h.j2) ?_ ?_
    · refine ⟨gl, MI.nil, hilt, rfl, nd, fun y hy => ?_, ?_, upd_same, Ext.upd ex h3'⟩
      · rw [← List.take_append_drop i gl] at hy
        exact (mg.reach y (List.mem_append.mp hy)).inG
      · rw [upd_ne h3g.symm]; exact k1
    · rintro k v sur' H'' hv ⟨gl', J⟩
      obtain ⟨z, hz, rfl⟩ := map_get hv
      have out : ¬ inG n z → KeepN (fun sur => [(0, PV.ref bd), (1, .int n), (2, pt p), (3, .ref ga), (4, .bool (!sur))]) (fun sur' H'' => ∃ gl', LGJ n G c q (gl.take (i + 1)) (gl.drop (i + 1)) sur (i + 1) ga a3 H gl' (k + 1) sur' H'') [(7, pt z), (0, .ref bd), (1, .int n), (2, pt p), (3, .ref ga), (4, .bool (!sur'))] H'' := fun hzg => ⟨sur', ⟨rfl, rfl, rfl, rfl, rfl, trivial⟩, gl', J.skip hz fun h => absurd h hzg⟩
      refine SSub.pt0 ?_
      refine br_dec (fun z1 => ?_) (fun z1 => out fun h => z1 h.1.1)
      refine br_dec (fun z2 => ?_) (fun z2 => out fun h => z2 h.1.2)
      refine SSub.pt1 ?_
      refine br_dec (fun z3 => ?_) (fun z3 => out fun h => z3 h.2.1)
      refine br_dec (fun z4 => ?_) (fun z4 => out fun h => z4 h.2.2)
      have hzg : inG n z := ⟨⟨z1, z2⟩, z3, z4⟩
      cases hG : G z with
      | none =>
        refine SCmp.inD' z false (J.ex _ _ hH) (by rw [hD z, hG]; rfl) ?_
        exact ⟨false, ⟨rfl, rfl, rfl, rfl, rfl, trivial⟩, gl', J.free hz hzg hG⟩
      | some c' =>
        refine SCmp.inD' z true (J.ex _ _ hH) (by rw [hD z, hG]; rfl) ?_
        refine SSub.dict (J.ex _ _ hH) (by rw [hD z, hG]; rfl) ?_
        refine SSub.dict (J.ex _ _ hH) (by rw [hD p, hc]; rfl) ?_
        refine br_beq (fun hcc => ?_) (fun hcc => ?_)
        · subst hcc
          refine SCmp.inL (.inl J.j1) (hd_pts gl') hd_pt fun b hb => ?_
          rw [mem_dpts] at hb
          cases b with
          | true => exact ⟨sur', ⟨rfl, rfl, rfl, rfl, rfl, trivial⟩, gl', J.skip hz fun _ => ⟨by rw [hG]; simp, fun _ => hb.mp rfl⟩⟩
          | false =>
            have hin : z ∉ gl' := fun h => by have := hb.mpr h; cases this
            have hlen : gl'.length ≤ 25 := Nat.le_trans (nodup_le J.nd fun y hy => mem_grid.mpr (J.gr y hy)) (grid_le h5)
            refine M.append J.j1 (by rw [List.length_map]; omega) ?_
            exact ⟨sur', ⟨rfl, rfl, rfl, rfl, rfl, trivial⟩, gl' ++ [z], J.more hz hzg hG hin hga h3g⟩
        · exact ⟨sur', ⟨rfl, rfl, rfl, rfl, rfl, trivial⟩, gl', J.skip hz fun _ => ⟨by rw [hG]; simp, fun e => by rw [hG] at e; exact absurd (Option.some.inj e) hcc⟩⟩
    · rintro sur' H'' ⟨gl', mi, hle, htk', nd', hgr, j1, j2, ex'⟩
      rw [List.length_map, List.take_length] at mi
      exact ⟨sur', ⟨rfl, rfl, rfl, rfl, rfl, trivial⟩, left n (gl'.take (i + 1)), by rw [htk']; exact mg.left_lt hqW hmP, gl', rfl, hle, by rw [htk']; exact mg.turn hqW hmW hmP mi, nd', j1, ex'⟩
  · rw [List.length_map] at hle
    have hie : i = gl.length := by omega
    subst hie
    rw [List.take_length, List.drop_length] at mg
    obtain ⟨d1, d2⟩ := mg.done
    cases sur with
    | true => exact ⟨ga, gl, rfl, ex, hga, k1, .inr ⟨d2.mp rfl, hg, hc, d1, nd⟩⟩
    | false =>
      intro a4 h4
      exact ⟨a4, [], rfl, Ext.upd ex (ex.none h4), ex.none h4, upd_same, .inl ⟨fun h => (by have := d2.mpr h; cases this), rfl⟩⟩
end
end
section
open PySem PySem.W PyProof.Rows PySem.Calls
theorem w_ne_ko {T : Tr} {X : String} {H : AHeap} {R : AHeap → Prop} {x y : Nat} {ls : LN} {o o' : Option Pt} {Q : PV → AHeap → Prop} (h1 : lkN x ls = some (pvPt o)) (h2 : lkN y ls = some (pvPt o')) (h : ∀ b : Bool, (b = true ↔ o ≠ o') → Q (.bool b) H) : w T X (.cmp .NotEq (.var x) (.var y)) .t ls H R Q := by
  refine w_var (X := X) (R := R) h1 (w_var (X := X) (R := R) h2 ?_)
  have key : SCmp T .NotEq (pvPt o) (pvPt o') H fun b H' => Q (.bool b) H' := SCmp.neD (hd_ko (k := 7) _) (hd_ko (k := 7) _) fun b hb => h b (hb.trans (not_congr ⟨fun e => (by
    cases o <;> cases o'
    · rfl
    · cases e
    · cases e
    · exact congrArg some (dpt_inj e)), fun e => by rw [e]⟩))
  cases o <;> cases o' <;> exact key
inductive LI (n : Nat) (x d bp bd : Addr) (rows : List Addr) (b0 sa : Addr) (ks : List Int) (i : Nat) (u : Unit) (H : AHeap) : Prop
  | mk (G : Pt → Option Str) (l : List (Pt × PV)) (e : Bool) (la : Ls) (B : BdAt x d bp bd rows n G e H) (hd : H d = some (.attrs la)) (hla : la.length ≤ 10 + 2 * i) (hi : i ≤ 24) (hb : H b0 = some (.pdict l)) (hD : DictIs l G) (hll : l.length ≤ i) (hsup : ∀ z, G z ≠ none → inG n z) (hval : ∀ q s, G q = some s → s = "b" ∨ s = "w") (hs : H sa = some (.list (ks.map PV.int))) : LI n x d bp bd rows b0 sa ks i u H
structure TKJ (n : Nat) (G1 : Pt → Option Str) (opp : Str) (z : Pt) (ta na : Addr) (H5 : AHeap) (tk : List Pt) (k : Nat) (H' : AHeap) : Prop where
  ti : TKI n G1 opp ((nb z).take k) tk
  ht : H' ta = some (.list (tk.map pt))
  hn : H' na = some (.list ((nb z).map pt))
  ex : Ext H5 H'
structure PopI (G1 : Pt → Option Str) (cap : List Pt) (b0 : Addr) (m : Nat) (H6 : AHeap) (l3 : List (Pt × PV)) (k : Nat) (H' : AHeap) : Prop where
  k1 : H' b0 = some (.pdict l3)
  k2 : DictIs l3 (rm G1 (cap.take k))
  k3 : l3.length ≤ m
  k4 : ∀ a o, H6 a = some o → a ≠ b0 → H' a = some o
section
variable {T : Tr} {X : String}
theorem law_turn (hL : L1 T.C) (hn : 12 ≤ T.n) (hh : T.hd = false) {n : Nat} (n3 : 2 ≤ n) (n5 : n ≤ 5) {x d bp bd : Addr} {rows : List Addr} {b0 sa : Addr} {ks : List Int} (hsr : sa ∉ rows) (hbs : b0 ≠ sa) {i : Nat} {m : Int} (hik : i < 24) {H : AHeap} (hI : LI n x d bp bd rows b0 sa ks i () H) {K : AFl → LN → AHeap → Prop}
    (hK : ∀ ls H', SubN [(1, .int n), (2, .ref x), (3, .ref b0)] ls → LI n x d bp bd rows b0 sa ks (i + 1) () H' → K .next ls H' ∧ K .cont ls H') : wS i_turn X T [(4, .int m), (1, .int n), (2, .ref x), (3, .ref b0)] H noRL K := by
  obtain ⟨G, l, e, la, B, hd, hla, hi, hb, hD, hll, hsup, hval, hs⟩ := hI
  obtain ⟨r1, r2⟩ := @fmod_rng m n (by omega)
  obtain ⟨c1, c2⟩ := @fmod_rng (m.fdiv n) n (by omega)
  refine And.intro (by omega) ?_
  refine And.intro (divOk (by omega) (by omega)) ?_
  refine And.intro (by omega) ?_
  change wS _ _ _ [(5, pt (m.fmod n, (m.fdiv n).fmod n)), (4, .int m), (1, .int n), (2, .ref x), (3, .ref b0)] _ _ _
  generalize m.fmod n = r at r1 r2 ⊢
  generalize hq1 : (m.fdiv n).fmod n = c at c1 c2 ⊢
  have hg : inG n (r, c) := ⟨⟨r1, r2⟩, c1, c2⟩
  refine And.intro (divOk (by omega) (by omega)) ?_
  refine And.intro (divOk (by omega) (by omega)) ?_
  refine And.intro (by decide) ?_
  refine br_str fun col hcol => ?_
  obtain ⟨opp, hco⟩ : ∃ opp : Str, Cols col opp := by
    rcases hcol with rfl | rfl
    · exact ⟨"w", .inl ⟨rfl, rfl⟩⟩
    · exact ⟨"b", .inr ⟨rfl, rfl⟩⟩
  have hvo : ∀ q s, G q = some s → s = col ∨ s = opp := fun q s h => by
    rcases hval q s h with rfl | rfl <;> rcases hco with ⟨rfl, rfl⟩ | ⟨rfl, rfl⟩ <;> simp
  refine Exists.intro "ValueError" (Exists.intro (fun ls'' H'' => H'' = H ∧ G (r, c) ≠ none ∧ ls'' = [(6, .str col), (5, pt (r, c)), (4, .int m), (1, .int n), (2, .ref x), (3, .ref b0)]) (And.intro catchV (And.intro ?_ ?_)))
  case refine_2 =>
    rintro ls'' H'' ⟨rfl, hG, rfl⟩
    refine SCmp.inD' (r, c) true hb (by rw [hD]; cases q : G (r, c) with
      | none => exact absurd q hG
      | some v => rfl) ?_
    exact (hK _ _ ⟨rfl, rfl, rfl, trivial⟩ ⟨G, l, e, la, B, hd, by omega, by omega, hb, hD, by omega, hsup, hval, hs⟩).2
  refine Exists.intro (.ref a_play) (And.intro (B.meth hL (by decide +kernel) (by kernel_rfl) (by kernel_rfl) (by kernel_rfl)) ?_)
  refine SSub.pt0 (z := (r, c)) (SSub.pt1 (z := (r, c)) (SCode.call (play_spec (T := T) hL (by omega) hh B hg hco hvo ⟨la, hd, by omega⟩ rfl fun q => ⟨rfl, q, rfl⟩) fun told H3 h => ?_))
  obtain ⟨L, hdl, l1, l2, hG0, fs, hL5, rfl, B3, K3, hl1, hl2, hl12⟩ := h
  rw [hd] at hl1; cases hl1
  have hbd : b0 ≠ d := fun q => by rw [q, hd] at hb; cases hb
  have hbr : b0 ∉ rows := fun h => by
    obtain ⟨i, hi⟩ := List.getElem?_of_mem h
    have := B.row i _ hi
    rw [hb] at this; cases this
  have hb3 := K3 _ _ hb hbd hbr
  have hs3 := K3 _ _ hs (fun q => by rw [q, hd] at hs; cases hs) hsr
  refine SCmp.inD' (r, c) false hb3 (by rw [hD, hG0]; rfl) ?_
  have hne : col ≠ opp := hco.ne
  refine SSetItem.dict (p := (r, c)) hb3 (by omega) ?_
  have S1 : Set1 n (put G (r, c) (some col)) col opp (r, c) := by
    refine ⟨hg, by simp [put], hne, fun q s h => ?_, fun z h => ?_⟩
    · unfold put at h
      split at h
      · exact .inl (Option.some.inj h).symm
      · exact hvo q s h
    · unfold put at h
      split at h
      · rename_i q; rw [q]; exact hg
      · exact hsup z h
  have hD1 := hD.put (r, c) col
  have hl1 : (dput l (r, c) (.str col)).length ≤ i + 1 := Nat.le_trans dput_le (by omega)
  generalize put G (r, c) (some col) = G1 at fs B3 S1 hD1
  change wS _ _ _ _ (upd H3 b0 (.pdict (dput l (r, c) (.str col)))) _ _
  generalize dput l (r, c) (PV.str col) = l1 at hD1 hl1 ⊢
  have B4 := B3.exc (l := l) (o := .pdict l1) hb3
  have hb4 : upd H3 b0 (.pdict l1) b0 = some (.pdict l1) := upd_same
  have hd4 : upd H3 b0 (.pdict l1) d = some (.attrs l2) := by rw [upd_ne hbd.symm]; exact hl2
  have hs4 : upd H3 b0 (.pdict l1) sa = some (.list (ks.map PV.int)) := by rw [upd_ne hbs.symm]; exact hs3
  generalize upd H3 b0 (.pdict l1) = H4 at B4 hb4 hd4 hs4 ⊢
  clear hb3 hs3 K3 B3 hl2
  refine SCode.call (law_group_spec (p := (r, c)) hL (by omega) hh hb4 hD1 n5 hg S1.hG) fun _ H5 h => ?_
  obtain ⟨oa, ow, rfl, ex5, hoa, ho5, how⟩ := h
  intro ta hta
  have hot : oa ≠ ta := fun q => by rw [q, hta] at ho5; cases ho5
  refine SSub.pt0 (z := (r, c)) (SSub.pt1 (z := (r, c)) (SSub.pt0 (z := (r, c)) (SSub.pt1 (z := (r, c)) (SSub.pt0 (z := (r, c)) (SSub.pt1 (z := (r, c)) (SSub.pt0 (z := (r, c)) (SSub.pt1 (z := (r, c)) ?_)))))))
  intro na hna
  have hnt : na ≠ ta := fun q => by rw [q, upd_same] at hna; cases hna
  have hna5 : H5 na = none := by rw [upd_ne hnt] at hna; exact hna
  refine WFor.list na ((nb (r, c)).map pt) rfl upd_same Unit (fun _ => [(1, .int n), (2, .ref x), (3, .ref b0), (5, pt (r, c)), (6, .str col), (13, pvPt (koOf col opp L)), (7, .ref oa), (8, .ref ta)]) (fun k _ H' => ∃ tk, TKJ n G1 opp (r, c) ta na H5 tk k H') () ⟨rfl, rfl, rfl, rfl, rfl, rfl, rfl, rfl, trivial⟩ ?_ (fun k u H' ⟨tk, h⟩ => h.hn) ?_ ?_
  · exact ⟨[], TKI.nil, by rw [upd_ne hnt.symm]; exact upd_same, upd_same, (Ext.upd (Ext.refl _) hta).trans (Ext.upd (Ext.refl _) hna)⟩
  · rintro k p u H6 hp ⟨tk, ti, ht6, hn6, ex6⟩
    obtain ⟨z, hz, rfl⟩ := map_get hp
    clear hp
    have htk := take_snoc hz
    have hb6 := ex6 _ _ (ex5 _ _ hb4)
    have keep : ∀ H', (∃ tk, TKJ n G1 opp (r, c) ta na H5 tk (k + 1) H') → KeepN (fun _ : Unit => [(1, .int n), (2, .ref x), (3, .ref b0), (5, pt (r, c)), (6, .str col), (13, pvPt (koOf col opp L)), (7, .ref oa), (8, .ref ta)]) (fun _ H' => ∃ tk, TKJ n G1 opp (r, c) ta na H5 tk (k + 1) H') [(9, pt z), (1, .int n), (2, .ref x), (3, .ref b0), (5, pt (r, c)), (6, .str col), (13, pvPt (koOf col opp L)), (7, .ref oa), (8, .ref ta)] H' := fun H' h => ⟨(), ⟨rfl, rfl, rfl, rfl, rfl, rfl, rfl, rfl, trivial⟩, h⟩
    cases hGz : G1 z with
    | none =>
      refine SCmp.inD' z false hb6 (by rw [hD1 z, hGz]; rfl) ?_
      exact keep _ ⟨tk, by rw [htk]; exact ti.skip (by rw [hGz]; simp), ht6, hn6, ex6⟩
    | some c' =>
      refine SCmp.inD' z true hb6 (by rw [hD1 z, hGz]; rfl) ?_
      refine SSub.dict hb6 (by rw [hD1 z, hGz]; rfl) ?_
      refine br_bne (fun hcc => ?_) (fun hcc => ?_)
      case refine_2 => exact keep _ ⟨tk, by rw [htk]; exact ti.skip (by rw [hGz, hcc]; simp [hne]), ht6, hn6, ex6⟩
      have hco' : c' = opp := (S1.hval z c' hGz).resolve_left hcc
      subst hco'
      refine SCmp.inL (.inl ht6) (hd_pts tk) hd_pt fun b hb' => ?_
      rw [mem_dpts] at hb'
      cases b with
      | true => exact keep _ ⟨tk, by rw [htk]; exact ti.again (hb'.mp rfl), ht6, hn6, ex6⟩
      | false =>
        have hin : z ∉ tk := fun h => by have := hb'.mpr h; cases this
        refine SCode.call (law_group_spec (p := z) hL (by omega) hh hb6 hD1 n5 (S1.hsup z (by rw [hGz]; simp)) hGz) fun _ H7 h => ?_
        obtain ⟨ga, gl, rfl, ex7, hga, hg7, hgr⟩ := h
        have hglen : gl.length ≤ 25 := by
          rcases hgr with ⟨_, rfl⟩ | ⟨_, g⟩
          · simp
          · exact Nat.le_trans g.le (sq_le n5)
        have htl : tk.length ≤ 25 := Nat.le_trans ti.le (sq_le n5)
        refine SBin.iaddL (ex7 _ _ ht6) hg7 (by simp; omega) ?_
        refine ⟨(), ⟨rfl, rfl, rfl, rfl, rfl, rfl, rfl, rfl, trivial⟩, tk ++ gl, ?_, by rw [upd_same, List.map_append], by rw [upd_ne hnt]; exact ex7 _ _ hn6, Ext.upd (ex6.trans ex7) hta⟩
        rw [htk]
        rcases hgr with ⟨hs', rfl⟩ | ⟨hs', g⟩
        · rw [List.append_nil]; exact ti.skip (fun q => hs' q.2)
        · exact ti.new hin hs' g
  rintro u H6 ⟨tk, ti, ht6, hn6, ex6⟩
  rw [List.length_map, List.take_length] at ti
  have ho6 := ex6 _ _ ho5
  have hb6 := ex6 _ _ (ex5 _ _ hb4)
  have htl : tk.length ≤ 25 := Nat.le_trans ti.le (sq_le n5)
  have hol : ow.length ≤ 25 := Nat.le_trans how.le (sq_le n5)
  refine STr.list (.inl ht6) (by simp; omega) ?_
  refine br_var rfl rfl fun p hp => ?_
  obtain ⟨ca, rfl, hca6, hcb⟩ : ∃ ca, p = .ref ca ∧ H6 ca = some (.list ((lawCap tk ow).map pt)) ∧ ca ≠ b0 := by
    unfold lawCap
    cases tk with
    | nil => exact ⟨oa, hp, ho6, fun q => by rw [q, hb6] at ho6; cases ho6⟩
    | cons a l => exact ⟨ta, hp, by rw [if_neg (by simp)]; exact ht6, fun q => by rw [q, hb6] at ht6; cases ht6⟩
  have hlcn : (lawCap tk ow).Nodup := by unfold lawCap; split <;> first | exact how.nodup | exact ti.nodup
  have hlcs : ∀ q ∈ lawCap tk ow, G1 q ≠ none := by unfold lawCap; split <;> first | exact how.some | exact ti.some
  refine WFor.list ca _ rfl hca6 Unit (fun _ => [(1, .int n), (2, .ref x), (3, .ref b0), (5, pt (r, c)), (13, pvPt (koOf col opp L)), (7, .ref oa), (8, .ref ta)]) (fun k _ H' => ∃ l3, PopI G1 (lawCap tk ow) b0 (i + 1) H6 l3 k H') () ⟨rfl, rfl, rfl, rfl, rfl, rfl, rfl, trivial⟩ ?_ (fun k u H' ⟨l3, h⟩ => h.k4 _ _ hca6 hcb) ?_ ?_
  · exact ⟨l1, hb6, by rw [List.take_zero, rm_nil]; exact hD1, hl1, fun a o h _ => h⟩
  · rintro k p u H7 hp ⟨l3, k1, k2, k3, k4⟩
    obtain ⟨z, hz, rfl⟩ := map_get hp
    clear hp
    have htk := take_snoc hz
    have hzn : z ∉ (lawCap tk ow).take k := fun h => by
      have nd : ((lawCap tk ow).take (k + 1)).Nodup := hlcn.sublist (List.take_sublist _ _)
      rw [htk] at nd
      exact (List.nodup_append.mp nd).2.2 z h z (by simp) rfl
    obtain ⟨cz, hcz⟩ := Option.ne_none_iff_exists'.mp (hlcs z (List.mem_of_getElem? hz))
    refine M.popD z k1 (q := .str cz) (by rw [k2 z]; unfold rm; rw [if_neg hzn, hcz]; rfl) (by omega) ?_
    exact ⟨(), ⟨rfl, rfl, rfl, rfl, rfl, rfl, rfl, trivial⟩, ddel l3 z, upd_same, by rw [htk, ← rm_snoc]; exact k2.del z, Nat.le_trans ddel_le k3, fun a o h hne' => by rw [upd_ne hne']; exact k4 a o h hne'⟩
  rintro u H7 ⟨l3, k1, k2, k3, k4⟩
  rw [List.length_map, List.take_length] at k2
  have hrm : rm G1 (ptsOf (capOf opp L)) = rm G1 (lawCap tk ow) := rm_congr (cap_eq S1 fs ti.mem how)
  have hko := ko_eq S1 fs ti.mem ti.nodup how
  have hem := em_eq S1 fs
  rw [hrm] at B4 hem
  have B6 : BdAt x d bp bd rows n (rm G1 (lawCap tk ow)) (emOf n L) H7 := by
    have e1 := (B4.ext (ex5.trans ex6)).exc (o := .pdict l3) hb6
    refine e1.ext fun a o h => ?_
    by_cases q : a = b0
    · subst q; rw [upd_same] at h; rw [k1]; exact h
    · rw [upd_ne q] at h; exact k4 a o h q
  have hs7 := k4 _ _ (ex6 _ _ (ex5 _ _ hs4)) hbs.symm
  have hd7 := k4 _ _ (ex6 _ _ (ex5 _ _ hd4)) hbd.symm
  have ht7 := k4 _ _ ht6 (fun q => by rw [q, hb6] at ht6; cases ht6)
  have ho7 := k4 _ _ ho6 (fun q => by rw [q, hb6] at ho6; cases ho6)
  have hsup2 : ∀ z, rm G1 (lawCap tk ow) z ≠ none → inG n z := fun z h => S1.hsup z fun q => h (by unfold rm; split <;> first | exact rfl | exact q)
  have hval2 : ∀ q s, rm G1 (lawCap tk ow) q = some s → s = "b" ∨ s = "w" := fun q s h => by
    unfold rm at h
    split at h
    · cases h
    · rcases S1.hval q s h with rfl | rfl <;> rcases hco with ⟨rfl, rfl⟩ | ⟨rfl, rfl⟩ <;> simp
  generalize rm G1 (lawCap tk ow) = G2 at B6 k2 hem hsup2 hval2
  refine Exists.intro Unit (Exists.intro (fun _ => [(1, .int n), (2, .ref x), (3, .ref b0), (13, pvPt (koOf col opp L)), (11, pvPt (koOf col opp L))]) (Exists.intro (fun _ H8 => Ext H7 H8) (And.intro ?_ ?_)))
  · refine SCall.lenL (.inl ht7) (by simp; omega) ?_
    have nk : koOf col opp L = none → SubN [(1, .int n), (2, .ref x), (3, .ref b0), (13, pvPt (koOf col opp L)), (11, pvPt (koOf col opp L))] [(11, .none), (1, .int n), (2, .ref x), (3, .ref b0), (5, pt (r, c)), (13, pvPt (koOf col opp L)), (7, .ref oa), (8, .ref ta)] := fun q => by rw [q]; exact ⟨rfl, rfl, rfl, rfl, rfl, trivial⟩
    refine br_dec (fun q1 => ?_) (fun q1 => ⟨(), nk (hko.trans (if_neg fun q => q1 (by rw [List.length_map]; exact_mod_cast q.1))), Ext.refl _⟩)
    have q1 : tk.length = 1 := by rw [List.length_map] at q1; exact_mod_cast q1
    obtain ⟨q, rfl⟩ := List.length_eq_one_iff.mp q1
    intro pa hpa
    have ex8 : Ext H7 (upd H7 pa (.list [pt (r, c)])) := Ext.upd (Ext.refl _) hpa
    refine SCmp.eqD (hd_ptl (ex8 _ _ ho7)) (hd_ptl (gl := [(r, c)]) upd_same) fun b hb => ?_
    have hb : b = true ↔ ow = [(r, c)] := hb.trans ⟨fun h => dpts_inj (Dat.list.inj h), fun h => by rw [h]⟩
    cases b with
    | true =>
      have how1 := hb.mp rfl
      refine SSub.list (ex8 _ _ ht7) (by decide) (by decide) (p := pt q) rfl ?_
      refine ⟨(), ?_, ex8⟩
      rw [hko.trans (if_pos ⟨rfl, how1⟩)]
      exact ⟨rfl, rfl, rfl, rfl, rfl, trivial⟩
    | false => exact ⟨(), nk (hko.trans (if_neg fun q => by have := hb.mpr q.2; cases this)), ex8⟩
  intro u H8 ex8
  refine wS_seq (wS_ite (w_ne_ko rfl rfl fun b hb => ?_))
  have hb : b = false := by
    cases b with
    | false => rfl
    | true => exact absurd rfl (hb.mp rfl)
  subst hb
  have B8 := B6.ext ex8
  have hb8 := ex8 _ _ k1
  have hs8 := ex8 _ _ hs7
  have hd8 := ex8 _ _ hd7
  refine Exists.intro n (Exists.intro n (Exists.intro (fun i j => (G2 (i, j)).map fun c => PV.tup [.str c, pt (i, j)]) (And.intro (by have := sq_le n5; omega) (And.intro (by omega) (And.intro (by omega) (SCall.range1 fun ra hra => Exists.intro ra (And.intro rfl (And.intro upd_same (And.intro ?_ (And.intro ?_ ?_)))))))) ))
  · intro i H' hi ex
    exact SCall.range1 fun b hb => ⟨b, rfl, upd_same, Ext.upd ex (ex.none hb)⟩
  · intro i j H' hi hj ex
    have hb9 := ex _ _ (Ext.upd (Ext.refl _) hra _ _ hb8)
    cases hGz : G2 ((i : Int), (j : Int)) with
    | none =>
      refine SCmp.inD' ((i : Int), (j : Int)) false hb9 (by rw [k2, hGz]; rfl) ?_
      refine And.intro ex ?_
      show Option.map _ (G2 ((i : Int), (j : Int))) = none
      rw [hGz]; rfl
    | some cz =>
      refine SCmp.inD' ((i : Int), (j : Int)) true hb9 (by rw [k2, hGz]; rfl) ?_
      refine And.intro ex (Exists.intro (PV.tup [.str cz, pt (i, j)]) (And.intro (by show Option.map _ (G2 ((i : Int), (j : Int))) = _; rw [hGz]; rfl) ?_))
      refine SSub.dict (p := ((i : Int), (j : Int))) hb9 (by rw [k2, hGz]; rfl) ?_
      exact ⟨rfl, ex⟩
  intro st hst
  rw [gather_grid (f := fun z => (G2 z).map fun c => PV.tup [.str c, pt z])]
  change wS _ _ _ _ (upd (upd H8 ra (AO.range 0 n)) st (AO.list (occ n G2))) _ _
  have ex9 : Ext H8 (upd (upd H8 ra (AO.range 0 n)) st (AO.list (occ n G2))) := fun a o h => Ext.upd (Ext.refl _) hst _ _ (Ext.upd (Ext.refl _) hra _ _ h)
  have hst9 : upd (upd H8 ra (AO.range 0 n)) st (AO.list (occ n G2)) st = some (.list (occ n G2)) := upd_same
  generalize upd (upd H8 ra (AO.range 0 n)) st (AO.list (occ n G2)) = H9 at ex9 hst9 ⊢
  have B9 := B8.ext ex9
  have hstr : ∀ z c, G2 z = some c → PyData.strOk c = true := fun z c h => by
    rcases hval2 z c h with rfl | rfl <;> decide +kernel
  refine M.own (B9.meth hL (by decide +kernel) (by kernel_rfl) (by kernel_rfl) (by kernel_rfl)) (SCode.call (occupied_spec hL (by omega) hh B9) fun _ H10 h => ?_)
  obtain ⟨oc, rfl, ex10, hoc, hoc10⟩ := h
  have B10 := B9.ext ex10
  refine SCmp.neD (hd_occ hstr hoc10) (hd_occ hstr (ex10 _ _ hst9)) fun b hb => ?_
  have hb : b = false := by
    cases b with
    | false => rfl
    | true => exact absurd rfl (hb.mp rfl)
  subst hb
  refine M.own (B10.meth hL (by decide +kernel) (by kernel_rfl) (by kernel_rfl) (by kernel_rfl)) (SCode.call (is_empty_spec hL (by omega) hh B10) fun _ H11 h => ?_)
  obtain ⟨rfl, rfl⟩ := h
  intro ec hec
  have ex11 := Ext.upd (o := .pdict []) (Ext.refl _) hec
  refine SCmp.eqD0 (l := l3) (ex11 _ _ (ex10 _ _ (ex9 _ _ hb8))) upd_same ?_
  have heq : emOf n L = l3.isEmpty := by
    have h1 := hem.trans k2.empty.symm
    cases ha : emOf n L <;> cases hb : l3.isEmpty <;> simp [ha, hb] at h1 <;> rfl
  refine SCmp.neB ?_
  refine br_bne (fun q => absurd heq q) fun _ => ?_
  have exA := (ex9.trans ex10).trans ex11
  exact (hK _ _ ⟨rfl, rfl, rfl, trivial⟩ ⟨G2, l3, _, l2, B10.ext ex11, exA _ _ hd8, by omega, by omega, exA _ _ hb8, k2, k3, hsup2, hval2, exA _ _ hs8⟩).1
theorem law_spec (hL : L1 T.C) (hn : 12 ≤ T.n) (hh : T.hd = false) {xs : List Int} (hsc : T.C.scL = xs.map PV.int) (hlen : xs.length ≤ 63) :
    wS i_law X T [(0, .ref T.C.scA)] (fun _ => none) noRL (fun a _ _ => a = .ret (.bool true)) := by
  intro a1 h1
  refine SBin.addL (.inr ⟨rfl, hsc.symm⟩) (.inl upd_same) (by simp; omega) fun a2 h2 => ?_
  refine SSub.list upd_same (by decide) (by decide) (p := .int (xs.headD 0)) (by cases xs <;> rfl) ?_
  obtain ⟨n, hnn, n3, n5⟩ : ∃ n : Nat, (xs.headD 0).fmod 3 + 3 = (n : Int) ∧ 3 ≤ n ∧ n ≤ 5 := by
    have : 0 ≤ (xs.headD 0).fmod 3 ∧ (xs.headD 0).fmod 3 < 3 := @fmod_rng (xs.headD 0) 3 (by decide)
    exact ⟨((xs.headD 0).fmod 3 + 3).toNat, by omega, by omega, by omega⟩
  refine And.intro (by decide) ?_
  change wS _ _ _ [(1, .int ((xs.headD 0).fmod 3 + 3)), (0, .ref T.C.scA)] (upd (upd (fun _ => none) a1 (AO.list [PV.int 0])) a2 (AO.list (List.map PV.int xs ++ [PV.int 0]))) _ _
  rw [hnn]
  have hsa : (upd (upd (fun _ => none) a1 (AO.list [PV.int 0])) a2 (AO.list (List.map PV.int xs ++ [PV.int 0])) : AHeap) = upd (upd (fun _ => none) a1 (AO.list [PV.int 0])) a2 (AO.list (List.map PV.int xs ++ [PV.int 0])) := rfl
  generalize upd (upd (fun _ => none) a1 (AO.list [PV.int 0])) a2 (AO.list (List.map PV.int xs ++ [PV.int 0])) = H1
  refine SCall.cls (hL.mks (by kernel_rfl)) (hL.fd (by kernel_rfl)) (hL.ft (by kernel_rfl)) (by omega) fun x d hxd hx hd => SCode.mono (init_spec (T := T.down) (n := n) hL (by show 3 ≤ T.n - 1; omega) hh upd_same (by rw [upd_ne hxd.symm]; exact upd_same) (by omega) n5) fun p H2 h => ?_
  obtain ⟨bp, bd, rows, l0, rfl, B0, hd0, hl0, -⟩ := h
  refine And.intro rfl ?_
  intro b0 hb0
  have ex0 : Ext H2 (upd H2 b0 (.pdict [])) := Ext.upd (Ext.refl _) hb0
  refine SSlice.mk (.inr ⟨rfl, hsc.symm⟩) (by simp; omega) fun sa hsa => ?_
  rw [pslice_both _ (by decide) (by decide)]
  rw [← List.map_take, ← List.map_drop]
  generalize hks : (xs.take (25 : Int).toNat).drop (1 : Int).toNat = ks
  have hkl : ks.length ≤ 24 := by rw [← hks]; simp; omega
  have hsr : sa ∉ rows := list_notrow (B0.ext ex0) hsa
  have ex1 : Ext H2 (upd (upd H2 b0 (.pdict [])) sa (.list (ks.map PV.int))) := ex0.trans (Ext.upd (Ext.refl _) hsa)
  have hbs : b0 ≠ sa := fun q => by rw [← q, upd_same] at hsa; cases hsa
  refine WFor.list sa _ rfl upd_same Unit (fun _ => [(1, .int n), (2, .ref x), (3, .ref b0)]) (LI n x d bp bd rows b0 sa ks) () ⟨rfl, rfl, rfl, trivial⟩ ?_ (fun i u H' h => by obtain ⟨_, _, _, _, _, _, _, _, _, _, _, _, _, h⟩ := h; exact h) ?_ ?_
  · exact ⟨fun _ => none, [], true, l0, B0.ext ex1, ex1 _ _ hd0, by omega, by omega, by rw [upd_ne hbs]; exact upd_same, fun z => rfl, by simp, fun z h => absurd rfl h, fun q s h => (by cases h), upd_same⟩
  · rintro i v u H hv hI
    obtain ⟨m, hm, rfl⟩ := map_get hv
    exact law_turn hL hn hh (by omega) n5 hsr hbs (by have := (List.getElem?_eq_some_iff.mp hm).1; omega) hI fun ls H' s h => ⟨⟨(), s, h⟩, ⟨(), s, h⟩⟩
  · rintro u H' -
    rfl
end
end
end AM
theorem PySem.Challenge.cw_md0058_01_holds : PySem.Challenge.rw_md0058_01.Holds := by
  w_on; refine holds_law (by decide +kernel) fun said => ?_
  refine holds_open (q := AM.viewQ) (loose := AM.looseK) (Xt := fun s => xlAt AM.viewQ [] s && recOk (RowW.records (PySem.Challenge.rw_md0058_01.row.toRowW)) s) (XP := XL AM.viewQ []) (Yf := Hook.obs AM.hookK) (Ya := Hook.val AM.hookK) (YP := Hook.says AM.hookK) (N := AM.stepsK) ?hl (Hook.of AM.hookK) (Hook.keeps AM.hookK) (fun s e => xl_of s (Bool.and_eq_true_iff.mp e).1) XL.keeps (by rfl) (by rfl) (by rfl) (fun s e => recFacts_of (Bool.and_eq_true_iff.mp e).2) (by rfl) (by assumption) (by decide +kernel) ⟨rfl, rfl, rfl, rfl, rfl, by decide +kernel⟩ ?hw ?hc
  case hl => refine LeftO.of_split "special-get-raises" ?_; intro w; kernel_rfl
  case hw => exact ⟨[.list []], by decide +kernel, by decide +kernel⟩
  generalize hvq : AM.viewQ = vq
  generalize hlk : AM.looseK = lk
  k_go0
  rename_i w s₀ s₁ mg mb G Y fa o pm cd doc ho hcd hg KX X V T B D TE TW _ _ M xs hs hlay0 hL0 hr1 hl2 _ _ scA vs _ hL ra w1 r0 hI hr hc1 hc2 K0 hD h₁ tk F o1 o2 left right N0 X0
  subst hvq hlk
  clear Y G B D TE TW M hcd hD K0 ra r0 hr X V left right
  have okC : AM.Cx.Ok { prog := rw_md0058_01.row.prog, w := w, K := AM.heapK w.params, h₀ := s₁.heap, os := s₁.os, view := AM.viewQ, loose := looseW AM.viewQ [Str.ofString "_opponents"], mg := mg, mb := mb, scA := scA, scL := xs.map AM.PV.int } :=
    ⟨KX, topRead_of T, AM.script_at w1 hL hI⟩
  have L : AM.L1 { prog := rw_md0058_01.row.prog, w := w, K := AM.heapK w.params, h₀ := s₁.heap, os := s₁.os, view := AM.viewQ, loose := looseW AM.viewQ [Str.ofString "_opponents"], mg := mg, mb := mb, scA := scA, scL := xs.map AM.PV.int } :=
    ⟨rfl, AM.miss_of T (by decide +kernel)⟩
  have hlaw := AM.law_ax L.go AM.u_law L.D_law rfl AM.c_law rfl (AM.law_spec (T := ⟨_, 30, false⟩) (X := "ValueError") L (by show 12 ≤ 30; decide) rfl (xs := xs) rfl (by omega))
  refine AM.law_end (s₁ := s₁) rfl rfl rfl (by show 1 + claimMargin + 1 ≤ 400; decide) (by show 4 + 3 ≤ 100; decide) rfl (AM.law_rep okC (d := 0) rfl rfl hg F rfl N0 X0 rfl rfl rfl) (hlaw _ rfl) ?_
  intro s' h1 h2 h3
  exact ⟨.inl ⟨_, _, [], rfl, fun _ => rfl, ReadsW.bool true, (by first | rfl | wrow_post), fun _ => ⟨List.nodup_nil, fun _ hm => (nomatch hm)⟩⟩, h1, h2, h3⟩
