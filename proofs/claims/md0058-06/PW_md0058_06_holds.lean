import PyProof.Rows.All
import Wide.All
import OpenK.AllK
import Wide.FinOn
import PyProof.SetKind
import PyProof.TupleKey
import PyProof.SetRoads
import PyProof.Rows.TupIter
import PyProof.StationsW
import PyProof.DictIter
import PyProof.Laws
import PyProof.Rows.StrRules
import PyProof.ListRange
import PySem.Challenge.RW_md0058_06
open PySem PySem.W PyProof.Rows
set_option Elab.async false
set_option maxRecDepth 100000
set_option linter.unusedSimpArgs false
set_option linter.unusedVariables false
set_option maxHeartbeats 8000000
set_option genInjectivity false
set_option genSizeOfSpec false
set_option genSizeOf false
set_option genCtorIdx false
set_option compiler.extract_closed false
set_option bootstrap.genMatcherCode false
local macro_rules | `(tactic| omega) => `(tactic| first | lia | omega (config := {}))
namespace AM
set_option autoImplicit false
set_option maxHeartbeats 8000000
theorem qa2 {A B Q : Prop} (h : A /\ B) (k : A -> B -> Q) : Q := k h.1 h.2
theorem qa3 {A B C Q : Prop} (h : A /\ B /\ C) (k : A -> B -> C -> Q) : Q := k h.1 h.2.1 h.2.2
theorem qa4 {A B C D Q : Prop} (h : A /\ B /\ C /\ D) (k : A -> B -> C -> D -> Q) : Q := k h.1 h.2.1 h.2.2.1 h.2.2.2
theorem qa5 {A B C D E Q : Prop} (h : A /\ B /\ C /\ D /\ E) (k : A -> B -> C -> D -> E -> Q) : Q := k h.1 h.2.1 h.2.2.1 h.2.2.2.1 h.2.2.2.2
theorem qa6 {A B C D E F Q : Prop} (h : A /\ B /\ C /\ D /\ E /\ F) (k : A -> B -> C -> D -> E -> F -> Q) : Q := k h.1 h.2.1 h.2.2.1 h.2.2.2.1 h.2.2.2.2.1 h.2.2.2.2.2
theorem qa7 {A B C D E F I Q : Prop} (h : A /\ B /\ C /\ D /\ E /\ F /\ I) (k : A -> B -> C -> D -> E -> F -> I -> Q) : Q := k h.1 h.2.1 h.2.2.1 h.2.2.2.1 h.2.2.2.2.1 h.2.2.2.2.2.1 h.2.2.2.2.2.2
theorem qa8 {A B C D E F I J Q : Prop} (h : A /\ B /\ C /\ D /\ E /\ F /\ I /\ J) (k : A -> B -> C -> D -> E -> F -> I -> J -> Q) : Q := k h.1 h.2.1 h.2.2.1 h.2.2.2.1 h.2.2.2.2.1 h.2.2.2.2.2.1 h.2.2.2.2.2.2.1 h.2.2.2.2.2.2.2
theorem qa9 {A B C D E F I J K Q : Prop} (h : A /\ B /\ C /\ D /\ E /\ F /\ I /\ J /\ K) (k : A -> B -> C -> D -> E -> F -> I -> J -> K -> Q) : Q := k h.1 h.2.1 h.2.2.1 h.2.2.2.1 h.2.2.2.2.1 h.2.2.2.2.2.1 h.2.2.2.2.2.2.1 h.2.2.2.2.2.2.2.1 h.2.2.2.2.2.2.2.2
theorem qa10 {A B C D E F I J K L Q : Prop} (h : A /\ B /\ C /\ D /\ E /\ F /\ I /\ J /\ K /\ L) (k : A -> B -> C -> D -> E -> F -> I -> J -> K -> L -> Q) : Q := k h.1 h.2.1 h.2.2.1 h.2.2.2.1 h.2.2.2.2.1 h.2.2.2.2.2.1 h.2.2.2.2.2.2.1 h.2.2.2.2.2.2.2.1 h.2.2.2.2.2.2.2.2.1 h.2.2.2.2.2.2.2.2.2
theorem qa11 {A B C D E F I J K L M Q : Prop} (h : A /\ B /\ C /\ D /\ E /\ F /\ I /\ J /\ K /\ L /\ M) (k : A -> B -> C -> D -> E -> F -> I -> J -> K -> L -> M -> Q) : Q := k h.1 h.2.1 h.2.2.1 h.2.2.2.1 h.2.2.2.2.1 h.2.2.2.2.2.1 h.2.2.2.2.2.2.1 h.2.2.2.2.2.2.2.1 h.2.2.2.2.2.2.2.2.1 h.2.2.2.2.2.2.2.2.2.1 h.2.2.2.2.2.2.2.2.2.2
theorem qa12 {A B C D E F I J K L M N Q : Prop} (h : A /\ B /\ C /\ D /\ E /\ F /\ I /\ J /\ K /\ L /\ M /\ N) (k : A -> B -> C -> D -> E -> F -> I -> J -> K -> L -> M -> N -> Q) : Q := k h.1 h.2.1 h.2.2.1 h.2.2.2.1 h.2.2.2.2.1 h.2.2.2.2.2.1 h.2.2.2.2.2.2.1 h.2.2.2.2.2.2.2.1 h.2.2.2.2.2.2.2.2.1 h.2.2.2.2.2.2.2.2.2.1 h.2.2.2.2.2.2.2.2.2.2.1 h.2.2.2.2.2.2.2.2.2.2.2
theorem qx1.{u0} {T0 : Sort u0} {P : T0 -> Prop} {Q : Prop} (h : ∃ x0,P x0) (k : ∀ x0,P x0 -> Q) : Q := h.elim k
theorem qx2.{u0,u1} {T0 : Sort u0} {T1 : Sort u1} {P : T0 -> T1 -> Prop} {Q : Prop} (h : ∃ x0 x1,P x0 x1) (k : ∀ x0 x1,P x0 x1 -> Q) : Q := h.elim λ a h => qx1 h (k a)
theorem qx3.{u0,u1,u2} {T0 : Sort u0} {T1 : Sort u1} {T2 : Sort u2} {P : T0 -> T1 -> T2 -> Prop} {Q : Prop} (h : ∃ x0 x1 x2,P x0 x1 x2) (k : ∀ x0 x1 x2,P x0 x1 x2 -> Q) : Q := h.elim λ a h => qx2 h (k a)
theorem qx4.{u0,u1,u2,u3} {T0 : Sort u0} {T1 : Sort u1} {T2 : Sort u2} {T3 : Sort u3} {P : T0 -> T1 -> T2 -> T3 -> Prop} {Q : Prop} (h : ∃ x0 x1 x2 x3,P x0 x1 x2 x3) (k : ∀ x0 x1 x2 x3,P x0 x1 x2 x3 -> Q) : Q := h.elim λ a h => qx3 h (k a)
theorem qx5.{u0,u1,u2,u3,u4} {T0 : Sort u0} {T1 : Sort u1} {T2 : Sort u2} {T3 : Sort u3} {T4 : Sort u4} {P : T0 -> T1 -> T2 -> T3 -> T4 -> Prop} {Q : Prop} (h : ∃ x0 x1 x2 x3 x4,P x0 x1 x2 x3 x4) (k : ∀ x0 x1 x2 x3 x4,P x0 x1 x2 x3 x4 -> Q) : Q := h.elim λ a h => qx4 h (k a)
theorem qx6.{u0,u1,u2,u3,u4,u5} {T0 : Sort u0} {T1 : Sort u1} {T2 : Sort u2} {T3 : Sort u3} {T4 : Sort u4} {T5 : Sort u5} {P : T0 -> T1 -> T2 -> T3 -> T4 -> T5 -> Prop} {Q : Prop} (h : ∃ x0 x1 x2 x3 x4 x5,P x0 x1 x2 x3 x4 x5) (k : ∀ x0 x1 x2 x3 x4 x5,P x0 x1 x2 x3 x4 x5 -> Q) : Q := h.elim λ a h => qx5 h (k a)
open Lean in
local macro_rules
 | `(tactic| obtain ⟨$ps,*⟩ := $h:term) => do
  let ps := ps.getElems
  let n := ps.size
  let fb <- `(tacticSeq| rcases $h:term with ⟨$ps,*⟩)
  if n < 3 then return <- `(tactic| ($fb))
  let cl <- if h.raw.isIdent then `(tacticSeq| try clear $(⟨h.raw⟩):ident) else `(tacticSeq| skip)
  let mut alts : Array (TSyntax `Lean.Parser.Tactic.tacticSeq) := #[]
  for d in [:6] do
   let m := 6 - d
   if m < n then
    let a : Array (TSyntax `rcasesPat) <- (ps.extract 0 m).mapM λ p => `(rcasesPat| ($p))
    let r := ps.extract m n
    let e := mkIdent (Name.mkStr2 "AM" s!"qx{m}")
    if r.size == 1 then
     let b : TSyntax `rcasesPat <- `(rcasesPat| ($(r[0]!)))
     let a := a.push b
     alts := alts.push (<- `(tacticSeq| (refine $e $h ?_; ($cl); rintro $[$a:rcasesPat]*)))
    else
     alts := alts.push (<- `(tacticSeq| (refine $e $h ?_; ($cl); rintro $[$a:rcasesPat]* hh; obtain ⟨$r,*⟩ := hh)))
  for d in [:n - 1] do
   let k := n - d
   if k <= 12 then
    let e := mkIdent (Name.mkStr2 "AM" s!"qa{k}")
    if k == n then
     let a : Array (TSyntax `rcasesPat) <- ps.mapM λ p => `(rcasesPat| ($p))
     alts := alts.push (<- `(tacticSeq| (refine $e $h ?_; ($cl); rintro $[$a:rcasesPat]*)))
    else
     let a : Array (TSyntax `rcasesPat) <- (ps.extract 0 (k - 1)).mapM λ p => `(rcasesPat| ($p))
     let r := ps.extract (k - 1) n
     alts := alts.push (<- `(tacticSeq| (refine $e $h ?_; ($cl); rintro $[$a:rcasesPat]* hh; obtain ⟨$r,*⟩ := hh)))
  alts := alts.push fb
  `(tactic| first $[| $alts:tacticSeq]*)
section
theorem sub_lt_of {m i N : Nat} (h : m + i = N) (h' : i + 1 <= N) : N - (i + 1) < m := by
 subst h
 rw [Nat.add_comm m i,Nat.add_sub_add_left]
 exact Nat.sub_lt (Nat.lt_of_add_lt_add_left (Nat.add_comm m i ▸ h' : i + 0 < i + m)) (by decide)
theorem room2 {x S : Nat} (h : x * 2 < S) (h0 : 0 < x) : x * 5 < (S - 1) * 3 := by
 have h1 : x * 2 * 3 <= (S - 1) * 3 := Nat.mul_le_mul_right 3 (Nat.le_sub_one_of_lt h)
 rw [Nat.mul_assoc] at h1
 exact Nat.lt_of_lt_of_le (Nat.mul_lt_mul_of_pos_left (by decide : 5 < 2 * 3) h0) h1
theorem room_line {x S L : Nat} (h : x * 5 < (S - 1) * 3) (h' : ¬ S > L) : x <= L := by omega
theorem sub_step {i m : Nat} (h : i < m) : m - (i + 1) < m - i := Nat.sub_lt_sub_left h (Nat.lt_succ_self i)
namespace Tab
theorem mid {lo hi : Nat} (h : lo < hi) : lo <= (lo + hi) / 2 /\ (lo + hi) / 2 < hi := by omega
theorem below_step {xs : Array Nat} {j f lo hi : Nat} : SetTable.below.go xs j (f + 1) lo hi = if lo < hi then (if xs.getD ((lo + hi) / 2) j < j then SetTable.below.go xs j f ((lo + hi) / 2 + 1) hi else SetTable.below.go xs j f lo ((lo + hi) / 2)) else lo := rfl
theorem below_go (xs : Array Nat) (j : Nat) (hs : xs.toList.Pairwise (· < ·)) (fuel : Nat) : ∀ (lo hi : Nat),hi <= xs.size -> lo <= hi -> hi <= lo + fuel ->
  (∀ i (h : i < xs.size),i < lo -> xs[i] < j) -> (∀ i (h : i < xs.size),hi <= i -> j <= xs[i]) ->
  let p := SetTable.below.go xs j fuel lo hi
  p <= xs.size /\ (∀ i (h : i < xs.size),i < p -> xs[i] < j) /\ (∀ i (h : i < xs.size),p <= i -> j <= xs[i]) := by
 induction fuel with
 | zero =>
  intro lo hi h1 h2 h3 h4 h5
  have : lo = hi := Nat.le_antisymm h2 h3
  subst this
  exact ⟨h1,h4,h5⟩
 | succ fuel ih =>
  intro lo hi h1 h2 h3 h4 h5
  have mono : ∀ a b (ha : a < xs.size) (hb : b < xs.size),a < b -> xs[a] < xs[b] := λ a b ha hb hab => List.pairwise_iff_getElem.mp hs a b ha hb hab
  rw [below_step]
  by_cases hl : lo < hi
  ·obtain ⟨m1,m2⟩ := mid hl
   rw [if_pos hl]
   generalize (lo + hi) / 2 = m at m1 m2 ⊢
   have hm : m < xs.size := Nat.lt_of_lt_of_le m2 h1
   have hg : xs.getD m j = xs[m] := dif_pos hm
   dsimp only
   rw [hg]
   by_cases hc : xs[m] < j
   ·rw [if_pos hc]
    exact ih _ _ h1 m2 (Nat.le_trans h3 (by rw [Nat.add_right_comm m 1 fuel]; exact Nat.succ_le_succ (Nat.add_le_add_right m1 fuel))) (λ i h hi' => (Nat.lt_or_eq_of_le (Nat.le_of_lt_succ hi')).elim (λ q => Nat.lt_trans (mono i _ h hm q) hc) (λ q => by subst q; exact hc)) h5
   ·rw [if_neg hc]
    exact ih _ _ (Nat.le_of_lt hm) m1 (Nat.le_of_lt_succ (Nat.lt_of_lt_of_le m2 h3)) h4 λ i h hi' => (Nat.lt_or_eq_of_le hi').elim (λ q => Nat.le_trans (Nat.le_of_not_lt hc) (Nat.le_of_lt (mono _ i hm h q))) (λ q => by subst q; exact Nat.le_of_not_lt hc)
  ·rw [if_neg hl]
   have : lo = hi := Nat.le_antisymm h2 (Nat.le_of_not_lt hl)
   subst this
   exact ⟨h1,h4,h5⟩
theorem below_spec {xs : Array Nat} (hs : xs.toList.Pairwise (· < ·)) (j : Nat) :
  SetTable.below xs j <= xs.size /\ (∀ i (h : i < xs.size),i < SetTable.below xs j -> xs[i] < j) /\ (∀ i (h : i < xs.size),SetTable.below xs j <= i -> j <= xs[i]) :=
 below_go xs j hs xs.size 0 xs.size (Nat.le_refl _) (Nat.zero_le _) (by omega) (λ i h hi => by omega) (λ i h hi => by omega)
theorem below_at {xs : Array Nat} (hs : xs.toList.Pairwise (· < ·)) {i j : Nat} (h : xs[i]? = some j) : SetTable.below xs j = i := by
 obtain ⟨hi,e⟩ := Array.getElem?_eq_some_iff.mp h
 obtain ⟨h1,h2,h3⟩ := below_spec hs j
 have mono : ∀ a b (ha : a < xs.size) (hb : b < xs.size),a < b -> xs[a] < xs[b] := by
  intro a b ha hb hab
  have := List.pairwise_iff_getElem.mp hs a b (by simpa using ha) (by simpa using hb) hab
  simpa using this
 rcases Nat.lt_trichotomy (SetTable.below xs j) i with q | q | q
 ·have hb : SetTable.below xs j < xs.size := by omega
  have := h3 _ hb (Nat.le_refl _)
  have := mono _ _ hb hi q
  omega
 ·exact q
 ·have := h2 i hi q
  omega
theorem has_iff {xs : Array Nat} (hs : xs.toList.Pairwise (· < ·)) (j : Nat) : SetTable.has xs j = true ↔ j ∈ xs.toList := by
 unfold SetTable.has
 constructor
 ·intro h
  have h' := eq_of_beq h
  exact Array.mem_toList_iff.mpr (Array.mem_of_getElem? h')
 ·intro h
  obtain ⟨i,hi⟩ := Array.getElem?_of_mem (Array.mem_toList_iff.mp h)
  rw [below_at hs hi,hi]
  simp
theorem toList_insertAt_sorted {xs : Array Nat} (hs : xs.toList.Pairwise (· < ·)) {j : Nat} (hj : j ∉ xs.toList) :
  (SetTable.insertAt xs (SetTable.below xs j) j).toList.Pairwise (· < ·) := by
 rw [SetTable.toList_insertAt]
 obtain ⟨h1,h2,h3⟩ := below_spec hs j
 rw [List.pairwise_append]
 refine ⟨hs.sublist (List.take_sublist _ _),?_,?_⟩
 ·rw [List.pairwise_cons]
  refine ⟨λ y hy => ?_,hs.sublist (List.drop_sublist _ _)⟩
  obtain ⟨i,hi,e⟩ := List.mem_iff_getElem.mp hy
  rw [List.getElem_drop] at e
  have hlt : SetTable.below xs j + i < xs.size := by simp at hi; omega
  have := h3 _ hlt (by omega)
  have e' : xs[SetTable.below xs j + i] = y := by simpa using e
  rw [e'] at this
  have hne : j ≠ y := by
   intro q; subst q
   exact hj (List.mem_of_mem_drop hy)
  omega
 ·intro a ha b hb
  obtain ⟨i,hi,e⟩ := List.mem_iff_getElem.mp ha
  rw [List.getElem_take] at e
  have hi' : i < SetTable.below xs j := by simp at hi; omega
  have hlt : i < xs.size := by omega
  have haj : a < j := by
   have := h2 i hlt hi'
   have e' : xs[i] = a := by simpa using e
   omega
  rcases List.mem_cons.mp hb with q | q
  ·omega
  ·obtain ⟨k,hk,e2⟩ := List.mem_iff_getElem.mp q
   rw [List.getElem_drop] at e2
   have hlt2 : SetTable.below xs j + k < xs.size := by simp at hk; omega
   have := h3 _ hlt2 (by omega)
   have e' : xs[SetTable.below xs j + k] = b := by simpa using e2
   omega
theorem toList_eraseAt {α : Type} (xs : Array α) (p : Nat) : (SetTable.eraseAt xs p).toList = xs.toList.eraseIdx p := by
 unfold SetTable.eraseAt
 rw [Array.toList_append,Array.toList_extract,Array.toList_extract,List.eraseIdx_eq_take_drop_succ]
 simp only [List.extract,List.drop_zero,Nat.sub_zero]
 rw [List.take_of_length_le (l := List.drop (p + 1) xs.toList) (by simp)]
structure Ok (t : SetTable) : Prop where
 sp : t.place.toList.Pairwise (· < ·)
 sd : t.dummies.toList.Pairwise (· < ·)
 bp : ∀ j ∈ t.place.toList,j <= t.mask
 bd : ∀ j ∈ t.dummies.toList,j <= t.mask
 dj : ∀ j ∈ t.place.toList,j ∉ t.dummies.toList
theorem slot_live {t : SetTable} (o : Ok t) {i j : Nat} : t.slot j = .live i ↔ t.place[i]? = some j := by
 unfold SetTable.slot
 dsimp only
 constructor
 ·intro h
  split at h
  ·rename_i e; cases h; exact eq_of_beq e
  ·split at h <;> cases h
 ·intro h
  rw [below_at o.sp h,h]
  simp
theorem slot_dummy {t : SetTable} (o : Ok t) {j : Nat} : t.slot j = .dummy ↔ j ∈ t.dummies.toList := by
 unfold SetTable.slot
 dsimp only
 constructor
 ·intro h
  split at h
  ·cases h
  ·split at h
   ·rename_i e; exact (has_iff o.sd j).mp e
   ·cases h
 ·intro h
  rw [if_neg,if_pos ((has_iff o.sd j).mpr h)]
  intro e
  exact o.dj j (Array.mem_toList_iff.mpr (Array.mem_of_getElem? (eq_of_beq e))) h
theorem slot_empty {t : SetTable} (o : Ok t) {j : Nat} : t.slot j = .empty ↔ j ∉ t.place.toList /\ j ∉ t.dummies.toList := by
 constructor
 ·intro h
  refine ⟨λ hm => ?_,λ hm => ?_⟩
  ·obtain ⟨i,hi⟩ := Array.getElem?_of_mem (Array.mem_toList_iff.mp hm)
   rw [(slot_live o).mpr hi] at h; cases h
  ·rw [(slot_dummy o).mpr hm] at h; cases h
 ·intro ⟨h1,h2⟩
  cases h : t.slot j with
  | empty => rfl
  | dummy => exact absurd ((slot_dummy o).mp h) h2
  | live i => exact absurd (Array.mem_toList_iff.mpr (Array.mem_of_getElem? ((slot_live o).mp h))) h1
end Tab
end
section
namespace Tab
noncomputable def GoodMask (m : Nat) : Prop := m = 7 \/ m = 15 \/ m = 31 \/ m = 63 \/ m = 127
noncomputable def lcg (m i : Nat) : Nat := (i * 5 + 1) % (m + 1)
noncomputable def lcgN (m : Nat) : Nat -> Nat -> Nat
 | 0,i => i
 | n + 1,i => lcg m (lcgN m n i)
theorem lcgN_add (m a b i : Nat) : lcgN m (a + b) i = lcgN m a (lcgN m b i) := by
 induction a with
 | zero => rw [Nat.zero_add]; rfl
 | succ a ih => rw [Nat.succ_add]; exact congrArg (lcg m) ih
noncomputable def orbit (m : Nat) : Nat -> Nat -> List Nat
 | 0,_ => []
 | n + 1,i => i :: orbit m n (lcg m i)
theorem lcgN_lcg (m n i : Nat) : lcgN m n (lcg m i) = lcg m (lcgN m n i) := by
 induction n with
 | zero => rfl
 | succ n ih => exact congrArg (lcg m) ih
theorem mem_orbit (m n : Nat) : ∀ i j,j ∈ orbit m n i -> ∃ k,k < n /\ lcgN m k i = j := by
 induction n with
 | zero => exact λ _ _ h => nomatch h
 | succ n ih =>
  intro i j h
  rcases List.mem_cons.mp h with e | h
  ·exact ⟨0,Nat.succ_pos n,e.symm⟩
  ·obtain ⟨k,hk,e⟩ := ih _ j h
   exact ⟨k + 1,Nat.succ_lt_succ hk,(lcgN_lcg m k i).symm.trans e⟩
noncomputable def coversAll (m : Nat) : Bool := let l := orbit m (m + 1) 0; ((List.range (m + 1)).all λ j => l.contains j) && lcgN m (m + 1) 0 == 0
theorem covers7 : coversAll 7 = true := by decide +kernel
theorem covers15 : coversAll 15 = true := by decide +kernel
theorem covers31 : coversAll 31 = true := by decide +kernel
theorem covers63 : coversAll 63 = true := by decide +kernel
theorem covers127 : coversAll 127 = true := by decide +kernel
theorem covers {m : Nat} (g : GoodMask m) {i j : Nat} (hi : i <= m) (hj : j <= m) : ∃ k,k <= m /\ lcgN m k i = j := by
 have h : coversAll m = true := by
  rcases g with rfl | rfl | rfl | rfl | rfl
  ·exact covers7
  ·exact covers15
  ·exact covers31
  ·exact covers63
  ·exact covers127
 unfold coversAll at h
 obtain ⟨h,hp⟩ := Bool.and_eq_true_iff.mp h
 have hp : lcgN m (m + 1) 0 = 0 := eq_of_beq hp
 have hc : ∀ x,x <= m -> ∃ k,k < m + 1 /\ lcgN m k 0 = x := λ x hx => by
  have h2 := List.all_eq_true.mp h x (List.mem_range.mpr (by omega))
  exact mem_orbit m _ _ _ (List.contains_iff_mem.mp h2)
 obtain ⟨a,ha,ea⟩ := hc i hi
 obtain ⟨b,hb,eb⟩ := hc j hj
 by_cases q : a <= b
 ·refine ⟨b - a,by omega,?_⟩
  rw [<- ea,<- lcgN_add,Nat.sub_add_cancel q]
  exact eb
 ·refine ⟨b + (m + 1) - a,by omega,?_⟩
  rw [<- ea,<- lcgN_add,Nat.sub_add_cancel (by omega),lcgN_add,hp]
  exact eb
noncomputable def blk (m : Nat) (h : Int) : Nat -> Nat × Nat
 | 0 => (SetTable.bits h % (m + 1),SetTable.bits h)
 | n + 1 => SetTable.leap m (blk m h n).1 (blk m h n).2
noncomputable def len (m i : Nat) : Nat := SetTable.runEnd m i - i
theorem blk_le (m : Nat) (h : Int) (n : Nat) : (blk m h n).1 <= m := by
 cases n with
 | zero => exact Nat.le_of_lt_succ (Nat.mod_lt _ (Nat.succ_pos _))
 | succ n => exact Nat.le_of_lt_succ (Nat.mod_lt _ (Nat.succ_pos _))
theorem len_le (m i : Nat) : len m i <= 9 := by
 unfold len SetTable.runEnd
 split <;> omega
theorem at_le {m i k : Nat} (hi : i <= m) (hk : k <= len m i) : i + k <= m := by
 unfold len SetTable.runEnd at hk
 split at hk <;> omega
theorem blk_perturb (m : Nat) (h : Int) (n : Nat) : (blk m h n).2 = SetTable.bits h / 32 ^ n := by
 induction n with
 | zero => exact (Nat.div_one _).symm
 | succ n ih =>
  show (blk m h n).2 / 32 = _
  rw [ih,Nat.div_div_eq_div_mul,Nat.pow_succ]
theorem bits_lt (h : Int) : SetTable.bits h < 2 ^ 64 := by
 unfold SetTable.bits
 have h1 := Int.emod_nonneg h (b := (2 ^ 64 : Int)) (by decide)
 have h2 := Int.emod_lt_of_pos h (b := (2 ^ 64 : Int)) (by decide)
 omega
theorem blk_late (m : Nat) (h : Int) (n : Nat) : (blk m h (12 + n)).1 = lcgN m n (blk m h 12).1 := by
 induction n with
 | zero => rfl
 | succ n ih =>
  have e : blk m h (12 + (n + 1)) = SetTable.leap m (blk m h (12 + n)).1 (blk m h (12 + n)).2 := rfl
  have hz : (blk m h (12 + n)).2 / 32 = 0 := by
   rw [blk_perturb,Nat.div_div_eq_div_mul]
   have := bits_lt h
   refine Nat.div_eq_of_lt (Nat.lt_of_lt_of_le this ?_)
   have : (32 : Nat) ^ (12 + n) * 32 = 32 ^ 13 * 32 ^ n := by
    rw [<- Nat.pow_succ,<- Nat.pow_add]; congr 1; omega
   rw [this]
   have h1 : (2 : Nat) ^ 64 <= 32 ^ 13 := by decide
   exact Nat.le_trans h1 (Nat.le_mul_of_pos_right _ (Nat.pos_of_ne_zero (by simp)))
  rw [e]
  show ((blk m h (12 + n)).1 * 5 + 1 + (blk m h (12 + n)).2 / 32) % (m + 1) = lcg m (lcgN m n (blk m h 12).1)
  rw [hz,<- ih]
  rfl
theorem blk_covers {m : Nat} (g : GoodMask m) (h : Int) {j : Nat} (hj : j <= m) : ∃ n,n <= m + 12 /\ (blk m h n).1 = j := by
 obtain ⟨k,hk,e⟩ := covers g (blk_le m h 12) hj
 exact ⟨12 + k,by omega,by rw [blk_late]; exact e⟩
noncomputable def P (m : Nat) (h : Int) (n k : Nat) (d : Option Nat) : SetTable.Probe :=
 { j := (blk m h n).1 + k,more := len m (blk m h n).1 - k,i := (blk m h n).1,perturb := (blk m h n).2,dummy := d }
theorem probeStart_P (t : SetTable) (h : Int) : t.probeStart h = P t.mask h 0 0 none := by
 simp [SetTable.probeStart,P,blk,len]
theorem advance_in {t : SetTable} {h : Int} {n k : Nat} {d : Option Nat} (hk : k < len t.mask (blk t.mask h n).1) : t.advance (P t.mask h n k d) = P t.mask h n (k + 1) d := by
 unfold SetTable.advance P
 rw [if_pos (by show _ > 0; simp only; omega)]
 simp only [SetTable.Probe.mk.injEq,and_true,true_and]
 omega
theorem advance_out {t : SetTable} {h : Int} {n k : Nat} {d : Option Nat} (hk : ¬ k < len t.mask (blk t.mask h n).1) : t.advance (P t.mask h n k d) = P t.mask h (n + 1) 0 d := by
 unfold SetTable.advance P
 rw [if_neg (by show ¬ _ > 0; simp only; omega)]
 simp only [SetTable.Probe.mk.injEq,and_true,true_and,Nat.add_zero,Nat.sub_zero,blk,len]
noncomputable def Ahead (n k n' k' : Nat) : Prop := n < n' \/ (n = n' /\ k < k')
noncomputable def On (m : Nat) (h : Int) (n k : Nat) : Prop := k <= len m (blk m h n).1
noncomputable def at' (m : Nat) (h : Int) (n k : Nat) : Nat := (blk m h n).1 + k
inductive Meets (t : SetTable) (hashAt : Nat -> Int) (h : Int) (n k : Nat) (d : Option Nat) : SetTable.Met -> Prop
 | empty (n' k' : Nat) (d' : Option Nat) (on : On t.mask h n' k') (e : t.slot (at' t.mask h n' k') = .empty) (ge : ¬ Ahead n' k' n k)
   (bef : ∀ a b,On t.mask h a b -> ¬ Ahead a b n k -> Ahead a b n' k' -> t.slot (at' t.mask h a b) ≠ .empty /\ ∀ i,t.slot (at' t.mask h a b) = .live i -> hashAt i ≠ h)
   (dum : d' = d \/ ∃ a b,On t.mask h a b /\ ¬ Ahead a b n k /\ Ahead a b n' k' /\ d' = some (at' t.mask h a b) /\ t.slot (at' t.mask h a b) = .dummy) :
   Meets t hashAt h n k d (.empty (at' t.mask h n' k') d')
 | cand (n' k' i : Nat) (next : SetTable.Probe) (on : On t.mask h n' k') (e : t.slot (at' t.mask h n' k') = .live i) (hh : hashAt i = h) (ge : ¬ Ahead n' k' n k)
   (bef : ∀ a b,On t.mask h a b -> ¬ Ahead a b n k -> Ahead a b n' k' -> t.slot (at' t.mask h a b) ≠ .empty /\ ∀ i,t.slot (at' t.mask h a b) = .live i -> hashAt i ≠ h) :
   Meets t hashAt h n k d (.candidate (at' t.mask h n' k') i next)
theorem Ahead.trans {a b c d e f : Nat} (h : Ahead a b c d) (h' : Ahead c d e f) : Ahead a b e f := by
 rcases h with h | ⟨rfl,h⟩
 ·rcases h' with h' | ⟨rfl,h'⟩
  ·exact .inl (Nat.lt_trans h h')
  ·exact .inl h
 ·rcases h' with h' | ⟨rfl,h'⟩
  ·exact .inl h'
  ·exact .inr ⟨rfl,Nat.lt_trans h h'⟩
theorem Ahead.irrefl {a b : Nat} (h : Ahead a b a b) : False := by
 rcases h with h | ⟨_,h⟩
 ·exact Nat.lt_irrefl _ h
 ·exact Nat.lt_irrefl _ h
theorem Ahead.total {a b c d : Nat} (h : ¬ Ahead c d a b) : Ahead a b c d \/ (a = c /\ b = d) := by
 rcases Nat.lt_trichotomy a c with q | q | q
 ·exact .inl (.inl q)
 ·subst q
  rcases Nat.lt_trichotomy b d with q | q | q
  ·exact .inl (.inr ⟨rfl,q⟩)
  ·exact .inr ⟨rfl,q⟩
  ·exact absurd (.inr ⟨rfl,q⟩) h
 ·exact absurd (.inl q) h
theorem Ahead.next {a b c d e f : Nat} (h : Ahead a b c d) (h' : ¬ Ahead e f c d) : Ahead a b e f := by
 rcases Ahead.total h' with q | ⟨rfl,rfl⟩
 ·exact h.trans q
 ·exact h
theorem Meets.before {t : SetTable} {hashAt : Nat -> Int} {h : Int} {n k n1 k1 : Nat} {d d1 : Option Nat} {met : SetTable.Met} (on : On t.mask h n k)
  (nx : ∀ a b,On t.mask h a b -> ¬ Ahead a b n k -> (a = n /\ b = k) \/ ¬ Ahead a b n1 k1) (ad : Ahead n k n1 k1)
  (ne : t.slot (at' t.mask h n k) ≠ .empty /\ ∀ i,t.slot (at' t.mask h n k) = .live i -> hashAt i ≠ h)
  (hd : d1 = d \/ (d1 = some (at' t.mask h n k) /\ t.slot (at' t.mask h n k) = .dummy)) (m : Meets t hashAt h n1 k1 d1 met) : Meets t hashAt h n k d met := by
 cases m with
 | empty n' k' d' on' e ge bef dum =>
  refine .empty n' k' d' on' e (λ q => ge (q.trans ad)) (λ a b ho hn ha => ?_) ?_
  ·rcases nx a b ho hn with ⟨rfl,rfl⟩ | q
   ·exact ne
   ·exact bef a b ho q ha
  ·rcases dum with rfl | ⟨a,b,x1,x2,x3,x4,x5⟩
   ·rcases hd with rfl | ⟨rfl,y⟩
    ·exact .inl rfl
    ·exact .inr ⟨n,k,on,Ahead.irrefl,ad.next ge,rfl,y⟩
   ·exact .inr ⟨a,b,x1,λ q => x2 (q.trans ad),x3,x4,x5⟩
 | cand n' k' i next on' e hh ge bef =>
  refine .cand n' k' i next on' e hh (λ q => ge (q.trans ad)) (λ a b ho hn ha => ?_)
  ·rcases nx a b ho hn with ⟨rfl,rfl⟩ | q
   ·exact ne
   ·exact bef a b ho q ha
theorem gm0 {N n k : Nat} (h : k <= 9) (hn : n < N \/ (n = N /\ k = 0)) (hf : 10 * N + 1 <= 0 + k + 10 * n) : False := by
 rcases hn with q | ⟨rfl,rfl⟩
 ·have h1 : 10 * n + 10 <= 10 * N := Nat.mul_le_mul_left 10 q
  have h2 := Nat.le_trans (Nat.succ_le_succ h1) hf
  rw [Nat.zero_add,Nat.add_comm k] at h2
  exact absurd (Nat.le_of_add_le_add_left (a := 10 * n) (b := 11) h2) (Nat.not_le.mpr (Nat.lt_of_le_of_lt h (by decide)))
 ·rw [Nat.add_zero,Nat.zero_add] at hf
  exact absurd hf (Nat.not_succ_le_self _)
theorem gm2 {N n k f : Nat} (h : k <= 9) (hf : 10 * N + 1 <= f + 1 + k + 10 * n) : 10 * N + 1 <= f + 0 + 10 * (n + 1) := by
 omega
theorem nx_in {n k : Nat} {a b : Nat} (h : ¬ Ahead a b n k) : (a = n /\ b = k) \/ ¬ Ahead a b n (k + 1) :=
 (Ahead.total h).elim (λ q => .inr λ h' => h'.elim (λ x => q.elim (λ y => Nat.lt_asymm x y) λ y => Nat.ne_of_lt x y.1.symm) λ x => q.elim (λ y => Nat.ne_of_lt y x.1.symm) λ y => absurd x.2 (Nat.not_lt.mpr y.2)) λ q => .inl ⟨q.1.symm,q.2.symm⟩
theorem nx_out {n k L : Nat} {a b : Nat} (hk : L <= k) (ho : a = n -> b <= L) (h : ¬ Ahead a b n k) : (a = n /\ b = k) \/ ¬ Ahead a b (n + 1) 0 :=
 (Ahead.total h).elim (λ q => q.elim (λ x => .inr λ h' => h'.elim (λ y => Nat.lt_irrefl _ (Nat.lt_of_lt_of_le x (Nat.le_of_lt_succ y))) λ y => Nat.not_lt_zero _ y.2) λ y => absurd (Nat.le_trans (ho y.1.symm) hk) (Nat.not_le.mpr y.2)) λ q => .inl ⟨q.1.symm,q.2.symm⟩
theorem go_step {t : SetTable} {hashAt : Nat -> Int} {h : Int} {f : Nat} {p : SetTable.Probe} : SetTable.probe.go t hashAt h (f + 1) p = SetTable.instReprSlot.repr.match_1 (λ _ => Option SetTable.Met) (t.slot p.j) (λ _ => some (.empty p.j p.dummy)) (λ _ => SetTable.probe.go t hashAt h f (t.advance { p with dummy := some p.j })) (λ i => if (hashAt i == h) = true then some (.candidate p.j i (t.advance p)) else SetTable.probe.go t hashAt h f (t.advance p)) := rfl
theorem go_meets {t : SetTable} {hashAt : Nat -> Int} {h : Int} {N : Nat} (hN : t.slot (blk t.mask h N).1 = .empty) (f : Nat) :
  ∀ (n k : Nat) (d : Option Nat),On t.mask h n k -> (n < N \/ (n = N /\ k = 0)) -> 10 * N + 1 <= f + k + 10 * n ->
   ∃ met,SetTable.probe.go t hashAt h f (P t.mask h n k d) = some met /\ Meets t hashAt h n k d met := by
 induction f with
 | zero => exact λ n k d on hn hf => (gm0 (Nat.le_trans on (len_le t.mask (blk t.mask h n).1)) hn hf).elim
 | succ f ih =>
  intro n k d on hn hf
  have l9 := Nat.le_trans on (len_le t.mask (blk t.mask h n).1)
  have step : ∀ d1,(t.slot (at' t.mask h n k) ≠ .empty /\ ∀ i,t.slot (at' t.mask h n k) = .live i -> hashAt i ≠ h) -> (d1 = d \/ (d1 = some (at' t.mask h n k) /\ t.slot (at' t.mask h n k) = .dummy)) ->
    ∃ met,SetTable.probe.go t hashAt h f (t.advance (P t.mask h n k d1)) = some met /\ Meets t hashAt h n k d met := by
   intro d1 ne hd
   have hlt : n < N := hn.elim id λ q => absurd hN (by obtain ⟨rfl,rfl⟩ := q; exact ne.1)
   by_cases hk : k < len t.mask (blk t.mask h n).1
   ·rw [advance_in hk]
    obtain ⟨met,e,m⟩ := ih n (k + 1) d1 hk (.inl hlt) (by rw [Nat.add_right_comm f 1 k] at hf; exact hf)
    exact ⟨met,e,m.before on (λ a b ho hna => nx_in hna) (.inr ⟨rfl,Nat.lt_succ_self k⟩) ne hd⟩
   ·rw [advance_out hk]
    obtain ⟨met,e,m⟩ := ih (n + 1) 0 d1 (Nat.zero_le _) ((Nat.lt_or_eq_of_le hlt).imp id λ q => ⟨q,rfl⟩) (gm2 l9 hf)
    exact ⟨met,e,m.before on (λ a b ho hna => nx_out (Nat.le_of_not_lt hk) (λ q => by subst q; exact ho) hna) (.inl (Nat.lt_succ_self n)) ne hd⟩
  have irr : ¬ Ahead n k n k := Ahead.irrefl
  rw [go_step]
  rw [show (P t.mask h n k d).j = at' t.mask h n k from rfl]
  cases hs : t.slot (at' t.mask h n k) with
  | empty => exact ⟨_,rfl,.empty n k d on hs irr (λ a b _ h1 h2 => absurd h2 h1) (.inl rfl)⟩
  | dummy => exact step (some (at' t.mask h n k)) ⟨by rw [hs]; exact (λ q => by cases q),λ i e => by rw [hs] at e; cases e⟩ (.inr ⟨rfl,hs⟩)
  | live i =>
   dsimp only
   by_cases hh : hashAt i = h
   ·rw [if_pos (by rw [hh]; exact beq_self_eq_true _)]
    exact ⟨_,rfl,.cand n k i _ on hs hh irr (λ a b _ h1 h2 => absurd h2 h1)⟩
   ·rw [if_neg (by intro q; exact hh (eq_of_beq q))]
    exact step d ⟨by rw [hs]; exact (λ q => by cases q),λ i' e => by rw [hs] at e; cases e; exact hh⟩ (.inl rfl)
theorem probe_meets {t : SetTable} {hashAt : Nat -> Int} {h : Int} (g : GoodMask t.mask) {e : Nat} (he : e <= t.mask) (hs : t.slot e = .empty) :
  ∃ met,t.probe hashAt h (t.probeStart h) = some met /\ Meets t hashAt h 0 0 none met := by
 obtain ⟨N,hN,eN⟩ := blk_covers g h he
 rw [probeStart_P]
 unfold SetTable.probe SetTable.turns
 refine go_meets (N := N) (by rw [eN]; exact hs) _ 0 0 none (Nat.zero_le _) (by omega) (by omega)
end Tab
end
section
namespace Tab
theorem nodup_le {α : Type} [DecidableEq α] : ∀ (l l' : List α),l.Nodup -> (∀ a ∈ l,a ∈ l') -> l.length <= l'.length := by
 intro l
 induction l with
 | nil => intro _ _ _; exact Nat.zero_le _
 | cons a l ih =>
  intro l' hn hs
  have ha : a ∈ l' := hs a (List.mem_cons.mpr (Or.inl rfl))
  have hn' := List.nodup_cons.mp hn
  have h1 := ih (l'.erase a) hn'.2 λ b hb => by
   have hne : b ≠ a := λ e => hn'.1 (e ▸ hb)
   exact (List.mem_erase_of_ne hne).mpr (hs b (List.mem_cons.mpr (Or.inr hb)))
  have h2 := List.length_erase_of_mem ha
  have h3 : 0 < l'.length := List.length_pos_of_mem ha
  rw [List.length_cons]; omega
theorem pigeon (l : List Nat) (m : Nat) (h : l.length <= m) : ∃ e,e <= m /\ e ∉ l := by
 cases hq : (List.range (m + 1)).find? (λ e => decide (e ∉ l)) with
 | some e =>
  have h1 := List.mem_range.mp (List.mem_of_find?_eq_some hq)
  have h2 := List.find?_some hq
  exact ⟨e,by omega,by simpa using h2⟩
 | none =>
  exfalso
  have := List.find?_eq_none.mp hq
  have h2 := nodup_le (List.range (m + 1)) l List.nodup_range λ a ha => by
   have := this a ha
   simpa using this
  rw [List.length_range] at h2
  omega
noncomputable def Reached (t : SetTable) (h : Int) (j : Nat) : Prop :=
 ∃ n k,On t.mask h n k /\ at' t.mask h n k = j /\ ∀ a b,On t.mask h a b -> Ahead a b n k -> t.slot (at' t.mask h a b) ≠ .empty
structure Inv0 (t : SetTable) (hs : List Int) : Prop extends Ok t where
 size : t.place.size = hs.length
 mask : GoodMask t.mask
 nodup : hs.Nodup
 reach : ∀ (i j : Nat) (h : Int),t.place[i]? = some j -> hs[i]? = some h -> Reached t h j
structure Inv (t : SetTable) (hs : List Int) : Prop extends Inv0 t hs where
 room : t.fill * 5 < t.mask * 3
theorem Inv0.free {t : SetTable} {hs : List Int} (_ : Inv0 t hs) (hf : t.fill <= t.mask) : ∃ e,e <= t.mask /\ e ∉ t.place.toList /\ e ∉ t.dummies.toList := by
 obtain ⟨e,he,hn⟩ := pigeon (t.place.toList ++ t.dummies.toList) t.mask (by
  rw [List.length_append,Array.length_toList,Array.length_toList]; exact hf)
 rw [List.mem_append,not_or] at hn
 exact ⟨e,he,hn⟩
noncomputable def hashIn (hs : List Int) (i : Nat) : Int := (hs[i]?).getD 0
theorem Inv.fillLe {t : SetTable} {hs : List Int} (I : Inv t hs) : t.fill <= t.mask := by
 have := I.room; omega
theorem search_there {t : SetTable} {hs : List Int} (I : Inv t hs) {i : Nat} {h : Int} (hi : hs[i]? = some h) :
  ∃ j next,t.probe (hashIn hs) h (t.probeStart h) = some (.candidate j i next) /\ t.place[i]? = some j := by
 obtain ⟨e,he,hn⟩ := I.toInv0.free I.fillLe
 obtain ⟨met,hm,M⟩ := probe_meets (hashAt := hashIn hs) (h := h) I.mask he ((slot_empty I.toOk).mpr hn)
 have hlt : i < t.place.size := by rw [I.size]; exact (List.getElem?_eq_some_iff.mp hi).1
 obtain ⟨n0,k0,on0,a0,b0⟩ := I.reach i t.place[i] h (Array.getElem?_eq_getElem hlt) hi
 have hl0 : t.slot (at' t.mask h n0 k0) = .live i := by rw [a0]; exact (slot_live I.toOk).mpr (Array.getElem?_eq_getElem hlt)
 cases M with
 | empty n' k' d' on e' ge bef dum =>
  exfalso
  rcases Nat.lt_trichotomy n' n0 with q | q | q
  ·exact b0 n' k' on (.inl q) e'
  ·subst q
   rcases Nat.lt_trichotomy k' k0 with q | q | q
   ·exact b0 n' k' on (.inr ⟨rfl,q⟩) e'
   ·subst q; rw [hl0] at e'; cases e'
   ·exact (bef n' k0 on0 (by unfold Ahead; omega) (.inr ⟨rfl,q⟩)).2 i hl0 (by simp [hashIn,hi])
  ·exact (bef n0 k0 on0 (by unfold Ahead; omega) (.inl q)).2 i hl0 (by simp [hashIn,hi])
 | cand n' k' i' next on e' hh ge bef =>
  have hp := (slot_live I.toOk).mp e'
  have hlt' : i' < hs.length := by rw [<- I.size]; exact (Array.getElem?_eq_some_iff.mp hp).1
  have : i' = i := by
   have h1 : hs[i']? = some h := by
    have := hh
    unfold hashIn at this
    rw [List.getElem?_eq_getElem hlt'] at this ⊢
    exact congrArg some this
   exact (List.getElem?_inj hlt' I.nodup).mp (h1.trans hi.symm)
  subst this
  exact ⟨_,next,hm,hp⟩
structure FreeAt (t : SetTable) (h : Int) (s : Nat) (wd : Bool) : Prop where
 slot : t.slot s = if wd then .dummy else .empty
 le : s <= t.mask
 reach : Reached t h s
theorem search_absent {t : SetTable} {hs : List Int} (I : Inv t hs) {h : Int} (hn : h ∉ hs) :
  ∃ j d,t.probe (hashIn hs) h (t.probeStart h) = some (.empty j d) /\ FreeAt t h (d.getD j) d.isSome := by
 obtain ⟨e,he,hn'⟩ := I.toInv0.free I.fillLe
 obtain ⟨met,hm,M⟩ := probe_meets (hashAt := hashIn hs) (h := h) I.mask he ((slot_empty I.toOk).mpr hn')
 cases M with
 | empty n' k' d' on e' ge bef dum =>
  refine ⟨_,d',hm,?_⟩
  rcases dum with rfl | ⟨a,b,x1,x2,x3,rfl,x5⟩
  ·exact ⟨e',at_le (blk_le _ _ _) on,n',k',on,rfl,λ a b ho ha => (bef a b ho (by unfold Ahead; omega) ha).1⟩
  ·exact ⟨x5,at_le (blk_le _ _ _) x1,a,b,x1,rfl,λ a' b' ho ha => (bef a' b' ho (by unfold Ahead; omega) (by unfold Ahead at *; omega)).1⟩
 | cand n' k' i' next on e' hh ge bef =>
  exfalso
  have hp := (slot_live I.toOk).mp e'
  have hlt' : i' < hs.length := by rw [<- I.size]; exact (Array.getElem?_eq_some_iff.mp hp).1
  unfold hashIn at hh
  rw [List.getElem?_eq_getElem hlt'] at hh
  exact hn (hh ▸ List.getElem_mem hlt')
theorem Reached.mono {t t' : SetTable} {h : Int} {j : Nat} (hm : t'.mask = t.mask) (k : ∀ x,t.slot x ≠ .empty -> t'.slot x ≠ .empty) (r : Reached t h j) : Reached t' h j := by
 obtain ⟨n,kk,on,e,b⟩ := r
 unfold Reached
 rw [hm]
 exact ⟨n,kk,on,e,λ a c ho ha => k _ (b a c ho ha)⟩
theorem getElem?_insert {α : Type} (l : List α) (p : Nat) (x : α) (hp : p <= l.length) (i : Nat) :
  (l.take p ++ x :: l.drop p)[i]? = if i < p then l[i]? else if i = p then some x else l[i - 1]? := by
 have hlen : (l.take p).length = p := by rw [List.length_take]; omega
 rw [List.getElem?_append,hlen]
 by_cases h : i < p
 ·simp only [h,if_true]; rw [List.getElem?_take]; simp [h]
 ·simp only [h,if_false]
  by_cases h2 : i = p
  ·subst h2; simp
  ·simp only [h2,if_false]
   rw [List.getElem?_cons]
   rw [if_neg (by omega),List.getElem?_drop]
   congr 1; omega
theorem put_eq (t : SetTable) (s : Nat) : t.put s = ({ t with place := SetTable.insertAt t.place (SetTable.below t.place s) s,dummies := if SetTable.has t.dummies s then SetTable.eraseAt t.dummies (SetTable.below t.dummies s) else t.dummies },SetTable.below t.place s) := rfl
theorem mem_eraseAt {xs : Array Nat} (hs : xs.toList.Pairwise (· < ·)) {j : Nat} (hj : j ∈ xs.toList) (y : Nat) :
  y ∈ (SetTable.eraseAt xs (SetTable.below xs j)).toList ↔ y ∈ xs.toList /\ y ≠ j := by
 rw [toList_eraseAt]
 obtain ⟨i,hi⟩ := Array.getElem?_of_mem (Array.mem_toList_iff.mp hj)
 rw [below_at hs hi]
 have hnd : xs.toList.Nodup := hs.imp (λ h => Nat.ne_of_lt h)
 have hi' : xs.toList[i]? = some j := by simpa using hi
 constructor
 ·intro h
  refine ⟨List.mem_of_mem_eraseIdx h,λ e => ?_⟩
  subst e
  rw [List.mem_eraseIdx_iff_getElem?] at h
  obtain ⟨k,hk,e⟩ := h
  exact hk ((List.getElem?_inj (List.getElem?_eq_some_iff.mp e).1 hnd).mp (e.trans hi'.symm))
 ·intro ⟨h1,h2⟩
  rw [List.mem_eraseIdx_iff_getElem?]
  obtain ⟨k,hk⟩ := List.mem_iff_getElem?.mp h1
  refine ⟨k,λ e => h2 ?_,hk⟩
  subst e
  rw [hi'] at hk; exact (Option.some.inj hk).symm
theorem mem_insertAt {xs : Array Nat} (p j y : Nat) : y ∈ (SetTable.insertAt xs p j).toList ↔ y = j \/ y ∈ xs.toList := by
 have := (SetTable.insertAt_perm xs p j).mem_iff (a := y)
 rw [this]
 simp [or_comm]
theorem put_inv {t : SetTable} {hs : List Int} (I : Inv t hs) {h : Int} (hn : h ∉ hs) {s : Nat} {wd : Bool} (F : FreeAt t h s wd) :
  Inv0 (t.put s).1 (hs.take (t.put s).2 ++ h :: hs.drop (t.put s).2) /\ (t.put s).1.fill = (if wd then t.fill else t.fill + 1) /\ (t.put s).2 <= hs.length /\ (t.put s).1.mask = t.mask /\
   (t.put s).1.led = t.led /\ (t.put s).1.plain = t.plain := by
 have hsp : s ∉ t.place.toList := by
  intro hm
  obtain ⟨i,hi⟩ := Array.getElem?_of_mem (Array.mem_toList_iff.mp hm)
  have := F.slot
  rw [(slot_live I.toOk).mpr hi] at this
  cases wd <;> cases this
 have hbl := (below_spec I.sp s).1
 have hple : SetTable.below t.place s <= hs.length := by rw [<- I.size]; exact hbl
 have hdm : ∀ y,y ∈ (t.put s).1.dummies.toList ↔ y ∈ t.dummies.toList /\ y ≠ s := by
  intro y
  rw [put_eq]
  dsimp only
  by_cases q : SetTable.has t.dummies s = true
  ·rw [if_pos q]; exact mem_eraseAt I.sd ((has_iff I.sd s).mp q) y
  ·rw [if_neg q]
   refine ⟨λ h => ⟨h,λ e => q ((has_iff I.sd s).mpr (e ▸ h))⟩,λ h => h.1⟩
 have hpm : ∀ y,y ∈ (t.put s).1.place.toList ↔ y = s \/ y ∈ t.place.toList := λ y => by rw [put_eq]; exact mem_insertAt _ _ _
 have ok' : Ok (t.put s).1 := by
  refine ⟨?_,?_,?_,?_,?_⟩
  ·rw [put_eq]; exact toList_insertAt_sorted I.sp hsp
  ·rw [put_eq]; dsimp only
   split
   ·rw [toList_eraseAt]; exact I.sd.sublist (List.eraseIdx_sublist _ _)
   ·exact I.sd
  ·intro j hj
   rcases (hpm j).mp hj with rfl | q
   ·exact F.le
   ·exact I.bp j q
  ·intro j hj; exact I.bd j ((hdm j).mp hj).1
  ·intro j hj hd
   obtain ⟨d1,d2⟩ := (hdm j).mp hd
   rcases (hpm j).mp hj with q | q
   ·exact d2 q
   ·exact I.dj j q d1
 have ne' : ∀ x,t.slot x ≠ .empty -> (t.put s).1.slot x ≠ .empty := by
  intro x hx he
  obtain ⟨e1,e2⟩ := (slot_empty ok').mp he
  refine hx ((slot_empty I.toOk).mpr ⟨λ q => e1 ((hpm x).mpr (.inr q)),λ q => ?_⟩)
  by_cases hxs : x = s
  ·exact e1 ((hpm x).mpr (.inl hxs))
  ·exact e2 ((hdm x).mpr ⟨q,hxs⟩)
 have hgp : ∀ i,(t.put s).1.place[i]? = if i < (t.put s).2 then t.place[i]? else if i = (t.put s).2 then some s else t.place[i - 1]? := by
  intro i
  have h1 : (t.put s).1.place[i]? = (t.place.toList.take (t.put s).2 ++ s :: t.place.toList.drop (t.put s).2)[i]? := by
   have : (t.put s).1.place.toList = t.place.toList.take (t.put s).2 ++ s :: t.place.toList.drop (t.put s).2 := by
    rw [put_eq]; exact SetTable.toList_insertAt _ _ _
   rw [<- this]; simp
  rw [h1,getElem?_insert _ _ _ (by rw [Array.length_toList]; exact hbl)]
  simp
 refine ⟨⟨ok',?_,I.mask,?_,?_⟩,?_,hple,rfl,rfl,rfl⟩
 ·have h1 : (t.put s).1.place.size = t.place.size + 1 := by
   have := (SetTable.insertAt_perm t.place (SetTable.below t.place s) s).length_eq
   rw [put_eq]; simpa using this
  rw [h1,I.size]
  have : (t.put s).2 <= hs.length := hple
  simp only [List.length_append,List.length_take,List.length_cons,List.length_drop]
  omega
 ·have hp : (hs.take (t.put s).2 ++ h :: hs.drop (t.put s).2).Perm (h :: hs) := by
   refine List.perm_middle.trans ?_
   rw [List.take_append_drop]
  exact hp.nodup_iff.mpr (List.nodup_cons.mpr ⟨hn,I.nodup⟩)
 ·intro i j h' hj hh
  rw [hgp] at hj
  rw [getElem?_insert _ _ _ (show (t.put s).2 <= hs.length from hple)] at hh
  by_cases q : i < (t.put s).2
  ·rw [if_pos q] at hj hh
   exact Reached.mono (t := t) (t' := (t.put s).1) rfl ne' (I.reach i j h' hj hh)
  ·rw [if_neg q] at hj hh
   by_cases q2 : i = (t.put s).2
   ·rw [if_pos q2] at hj hh
    cases hj; cases hh
    exact Reached.mono (t := t) (t' := (t.put s).1) rfl ne' F.reach
   ·rw [if_neg q2] at hj hh
    exact Reached.mono (t := t) (t' := (t.put s).1) rfl ne' (I.reach _ j h' hj hh)
 ·have h1 : (t.put s).1.place.size = t.place.size + 1 := by
   have := (SetTable.insertAt_perm t.place (SetTable.below t.place s) s).length_eq
   rw [put_eq]; simpa using this
  unfold SetTable.fill
  rw [h1]
  cases wd with
  | true =>
   have hsd : s ∈ t.dummies.toList := (slot_dummy I.toOk).mp F.slot
   have : (t.put s).1.dummies.size = t.dummies.size - 1 := by
    rw [put_eq]; dsimp only
    rw [if_pos ((has_iff I.sd s).mpr hsd),<- Array.length_toList,toList_eraseAt,List.length_eraseIdx]
    obtain ⟨i,hi⟩ := Array.getElem?_of_mem (Array.mem_toList_iff.mp hsd)
    rw [below_at I.sd hi,if_pos (by simpa using (Array.getElem?_eq_some_iff.mp hi).1)]
    simp
   have hpos : 0 < t.dummies.size := by
    rw [<- Array.length_toList]; exact List.length_pos_of_mem hsd
   simp only [if_true]
   rw [this]; omega
  | false =>
   have hsd : s ∉ t.dummies.toList := ((slot_empty I.toOk).mp F.slot).2
   have : (t.put s).1.dummies = t.dummies := by
    rw [put_eq]; dsimp only
    rw [if_neg (λ q => hsd ((has_iff I.sd s).mp q))]
   rw [this]
   simp only [Bool.false_eq_true,if_false]; omega
theorem drop_inv {t : SetTable} {hs : List Int} (I : Inv t hs) {i : Nat} (hi : i < hs.length) :
  Inv (t.drop i) (hs.eraseIdx i) /\ (t.drop i).mask = t.mask /\ (t.drop i).fill = t.fill /\ (t.drop i).led = t.led /\ (t.drop i).plain = t.plain := by
 have hlt : i < t.place.size := by rw [I.size]; exact hi
 have hpj : t.place[i]? = some t.place[i] := Array.getElem?_eq_getElem hlt
 have hde : t.drop i = { t with place := SetTable.eraseAt t.place i,dummies := SetTable.insertAt t.dummies (SetTable.below t.dummies t.place[i]) t.place[i] } := by
  unfold SetTable.drop
  rw [hpj]
 have hjd : t.place[i] ∉ t.dummies.toList := I.dj _ (by simp)
 have hdm : ∀ y,y ∈ (t.drop i).dummies.toList ↔ y = t.place[i] \/ y ∈ t.dummies.toList := λ y => by rw [hde]; exact mem_insertAt _ _ _
 have hpm : ∀ y,y ∈ (t.drop i).place.toList ↔ y ∈ t.place.toList /\ y ≠ t.place[i] := λ y => by
  have := mem_eraseAt I.sp (j := t.place[i]) (by simp) y
  rw [below_at I.sp hpj] at this
  rw [hde]; exact this
 have ok' : Ok (t.drop i) := by
  refine ⟨?_,?_,?_,?_,?_⟩
  ·rw [hde]; dsimp only; rw [toList_eraseAt]; exact I.sp.sublist (List.eraseIdx_sublist _ _)
  ·rw [hde]; exact toList_insertAt_sorted I.sd hjd
  ·intro j hj; rw [hde]; exact I.bp j ((hpm j).mp hj).1
  ·intro j hj
   rw [hde]
   rcases (hdm j).mp hj with rfl | q
   ·exact I.bp _ (by simp)
   ·exact I.bd j q
  ·intro j hj hd
   obtain ⟨p1,p2⟩ := (hpm j).mp hj
   rcases (hdm j).mp hd with q | q
   ·exact p2 q
   ·exact I.dj j p1 q
 have ne' : ∀ x,t.slot x ≠ .empty -> (t.drop i).slot x ≠ .empty := by
  intro x hx he
  obtain ⟨e1,e2⟩ := (slot_empty ok').mp he
  refine hx ((slot_empty I.toOk).mpr ⟨λ q => ?_,λ q => e2 ((hdm x).mpr (.inr q))⟩)
  by_cases hxs : x = t.place[i]
  ·exact e2 ((hdm x).mpr (.inl hxs))
  ·exact e1 ((hpm x).mpr ⟨q,hxs⟩)
 have hmk : (t.drop i).mask = t.mask := by rw [hde]
 have hfl : (t.drop i).fill = t.fill := by
  unfold SetTable.fill
  have h1 : (t.drop i).place.size = t.place.size - 1 := by
   rw [hde]; dsimp only; rw [<- Array.length_toList,toList_eraseAt,List.length_eraseIdx,if_pos (by simpa using hlt)]; simp
  have h2 : (t.drop i).dummies.size = t.dummies.size + 1 := by
   have := (SetTable.insertAt_perm t.dummies (SetTable.below t.dummies t.place[i]) t.place[i]).length_eq
   rw [hde]; simpa using this
  omega
 refine ⟨⟨⟨ok',?_,by rw [hmk]; exact I.mask,?_,?_⟩,by rw [hmk,hfl]; exact I.room⟩,hmk,hfl,by rw [hde],by rw [hde]⟩
 ·rw [hde]; dsimp only
  rw [<- Array.length_toList,toList_eraseAt,List.length_eraseIdx,List.length_eraseIdx,if_pos (by simpa using hlt),if_pos hi,Array.length_toList,I.size]
 ·exact I.nodup.sublist (List.eraseIdx_sublist _ _)
 ·intro q j h' hj hh
  have hj' : (t.place.toList.eraseIdx i)[q]? = some j := by
   rw [<- toList_eraseAt]
   rw [hde] at hj
   simpa using hj
  rw [List.getElem?_eraseIdx] at hj' hh
  have hq : ∀ z : Nat,t.place.toList[z]? = t.place[z]? := λ z => Array.getElem?_toList
  split at hj'
  ·rename_i c
   rw [if_pos c] at hh
   rw [hq] at hj'
   exact (I.reach q j h' hj' hh).mono hmk ne'
  ·rename_i c
   rw [if_neg c] at hh
   rw [hq] at hj'
   exact (I.reach _ j h' hj' hh).mono hmk ne'
end Tab
end
section
namespace Tab
noncomputable abbrev Owner := Array (Option Nat)
noncomputable def occ (ow : Owner) (j : Nat) : Prop := ∃ k,ow[j]? = some (some k)
structure Lays (m : Nat) (hs : List Int) (ow : Owner) (k : Nat) : Prop where
 size : ow.size = m + 1
 lt : ∀ (j i : Nat),ow[j]? = some (some i) -> i < k
 inj : ∀ (j j' i : Nat),ow[j]? = some (some i) -> ow[j']? = some (some i) -> j = j'
 all : ∀ i : Nat,i < k -> ∃ j : Nat,ow[j]? = some (some i)
 reach : ∀ (j i : Nat) (h : Int),ow[j]? = some (some i) -> hs[i]? = some h -> ∃ n b,On m h n b /\ at' m h n b = j /\ ∀ a c,On m h a c -> Ahead a c n b -> occ ow (at' m h a c)
theorem occ_of {m : Nat} {h : Int} {ow : Owner} (hsz : ow.size = m + 1) {n c : Nat} (hc : c <= len m (blk m h n).1) : (ow.getD ((blk m h n).1 + c) (some 0)).isNone = true \/ occ ow (at' m h n c) := by
 have hlt : (blk m h n).1 + c < ow.size := by rw [hsz]; exact Nat.lt_succ_of_le (at_le (blk_le m h n) hc)
 rw [show ow.getD ((blk m h n).1 + c) (some 0) = ow[(blk m h n).1 + c] from dif_pos hlt]
 cases q : ow[(blk m h n).1 + c] with
 | none => exact .inl rfl
 | some k => exact .inr ⟨k,by unfold at'; rw [Array.getElem?_eq_getElem hlt,q]⟩
theorem run_len (m a : Nat) : SetTable.runEnd m a + 1 - a = len m a + 1 := by
 unfold len SetTable.runEnd; split <;> omega
theorem free_step {m f i p : Nat} {ow : Owner} : SetTable.layClean.free m ow (f + 1) i p = SetTable.drop.match_1 (λ _ => Option Nat) ((List.range (SetTable.runEnd m i + 1 - i)).find? (λ k => (ow.getD (i + k) (some 0)).isNone)) (λ k => some (i + k)) (λ _ => SetTable.advance.match_1 (λ _ => Option Nat) (SetTable.leap m i p) λ i p => SetTable.layClean.free m ow f i p) := rfl
theorem free_spec {m : Nat} {h : Int} {ow : Owner} (hsz : ow.size = m + 1) {N : Nat} (hN : ¬ occ ow (blk m h N).1) (f : Nat) :
  ∀ (n : Nat),n <= N -> N < f + n -> (∀ a c,On m h a c -> a < n -> occ ow (at' m h a c)) ->
   ∃ j,SetTable.layClean.free m ow f (blk m h n).1 (blk m h n).2 = some j /\ j <= m /\ ow[j]? = some none /\
    ∃ n' b,On m h n' b /\ at' m h n' b = j /\ ∀ a c,On m h a c -> Ahead a c n' b -> occ ow (at' m h a c) := by
 induction f with
 | zero => exact λ n hn hf _ => absurd (Nat.zero_add n ▸ hf) (Nat.not_lt.mpr hn)
 | succ f ih =>
  intro n hn hf hb
  rw [free_step,run_len]
  cases hfd : (List.range (len m (blk m h n).1 + 1)).find? (λ k => (ow.getD ((blk m h n).1 + k) (some 0)).isNone) with
  | some c =>
   have hc : c <= len m (blk m h n).1 := Nat.le_of_lt_succ (List.mem_range.mp (List.mem_of_find?_eq_some hfd))
   have h2 := List.find?_some hfd
   have hle := at_le (blk_le m h n) hc
   have hlt : (blk m h n).1 + c < ow.size := by rw [hsz]; exact Nat.lt_succ_of_le hle
   refine ⟨_,rfl,hle,?_,n,c,hc,rfl,λ a c' ho ha => ha.elim (hb a c' ho) λ q => ?_⟩
   ·rw [show ow.getD ((blk m h n).1 + c) (some 0) = ow[(blk m h n).1 + c] from dif_pos hlt,Option.isNone_iff_eq_none] at h2
    rw [Array.getElem?_eq_getElem hlt,h2]
   ·obtain ⟨rfl,hlc⟩ := q
    refine (occ_of hsz (Nat.le_trans (Nat.le_of_lt hlc) hc)).elim (λ q => ?_) id
    obtain ⟨_,i,hi',e,hbef⟩ := List.find?_eq_some_iff_getElem.mp hfd
    rw [List.getElem_range] at e
    subst e
    have := hbef c' hlc
    rw [List.getElem_range,q] at this
    cases this
  | none =>
   have hno := List.find?_eq_none.mp hfd
   have hall : ∀ c,c <= len m (blk m h n).1 -> occ ow (at' m h n c) := λ c hc =>
    (occ_of hsz hc).elim (λ q => absurd q (hno c (List.mem_range.mpr (Nat.lt_succ_of_le hc)))) id
   have hlt : n < N := (Nat.lt_or_eq_of_le hn).elim id λ q => by subst q; exact absurd (hall 0 (Nat.zero_le _)) hN
   exact ih (n + 1) hlt (by rw [Nat.add_right_comm] at hf; exact hf) λ a c ho ha => (Nat.lt_or_eq_of_le (Nat.le_of_lt_succ ha)).elim (hb a c ho) λ q => by subst q; exact hall c ho
noncomputable def layStep (m : Nat) (acc : Option (Owner × Nat)) (h : Int) : Option (Owner × Nat) := do
 let (owner,k) <- acc
 let j <- SetTable.layClean.free m owner (SetTable.turns m) (SetTable.bits h % (m + 1)) (SetTable.bits h)
 pure (owner.setIfInBounds j (some k),k + 1)
theorem layClean_eq (m : Nat) (hashes : Array Int) : SetTable.layClean m hashes = (hashes.toList.foldl (layStep m) (some (Array.replicate (m + 1) none,0))).map (·.1) := by
 unfold SetTable.layClean
 rw [<- Array.foldl_toList]
 rfl
theorem Lays.free_slot {m : Nat} {hs : List Int} {ow : Owner} {k : Nat} (L : Lays m hs ow k) (hk : k <= m) : ∃ e,e <= m /\ ¬ occ ow e := by
 by_cases hq : ∃ e,e <= m /\ ¬ occ ow e
 ·exact hq
 ·exfalso
  let g : Nat -> Nat := λ e => ((ow[e]?).getD none).getD 0
  have hg : ∀ e,e < m + 1 -> ow[e]? = some (some (g e)) := λ e he => by
   obtain ⟨i,hi⟩ : occ ow e := Classical.byContradiction λ h => hq ⟨e,Nat.le_of_lt_succ he,h⟩
   show _ = some (some (((ow[e]?).getD none).getD 0))
   rw [hi]; rfl
  have hnd : ((List.range (m + 1)).map g).Nodup := by
   unfold List.Nodup
   rw [List.pairwise_map]
   refine List.Pairwise.imp_of_mem ?_ (List.nodup_range (n := m + 1))
   intro a b ha hb hab e
   have h1 := hg a (List.mem_range.mp ha)
   have h2 := hg b (List.mem_range.mp hb)
   rw [<- e] at h2
   exact hab (L.inj _ _ _ h1 h2)
  have := nodup_le _ (List.range k) hnd λ x hx => by
   obtain ⟨e,he,rfl⟩ := List.mem_map.mp hx
   exact List.mem_range.mpr (L.lt _ _ (hg e (List.mem_range.mp he)))
  simp at this
  omega
theorem Lays.step {m : Nat} (g : GoodMask m) {hs : List Int} {ow : Owner} {k : Nat} (L : Lays m hs ow k) (hk : k <= m) {h : Int} (hh : hs[k]? = some h) :
  ∃ ow',layStep m (some (ow,k)) h = some (ow',k + 1) /\ Lays m hs ow' (k + 1) := by
 obtain ⟨e,he,hne⟩ := L.free_slot hk
 obtain ⟨N,hN,eN⟩ := blk_covers g h he
 obtain ⟨j,hj,hjm,hjn,hr⟩ := free_spec (h := h) L.size (N := N) (by rw [eN]; exact hne) (SetTable.turns m) 0 (Nat.zero_le _) (by unfold SetTable.turns; omega) (λ a c _ ha => by omega)
 refine ⟨ow.setIfInBounds j (some k),?_,?_⟩
 ·unfold layStep
  have : SetTable.layClean.free m ow (SetTable.turns m) (SetTable.bits h % (m + 1)) (SetTable.bits h) = some j := hj
  simp only [Option.bind_eq_bind,Option.bind_some,this,Option.pure_def]
 ·have hjs : j < ow.size := by rw [L.size]; omega
  have hget : ∀ x : Nat,(ow.setIfInBounds j (some k))[x]? = if j = x then some (some k) else ow[x]? := by
   intro x
   rw [Array.getElem?_setIfInBounds]
   split
   ·first | rfl | rw [if_pos hjs]
   ·rfl
  have hocc : ∀ x,occ ow x -> occ (ow.setIfInBounds j (some k)) x := λ x ⟨i,hi⟩ => by
   by_cases q : j = x
   ·exact ⟨k,by rw [hget,if_pos q]⟩
   ·exact ⟨i,by rw [hget,if_neg q]; exact hi⟩
  refine ⟨by rw [Array.size_setIfInBounds]; exact L.size,?_,?_,?_,?_⟩
  ·intro x i hx
   rw [hget] at hx
   split at hx
   ·cases hx; omega
   ·have := L.lt x i hx; omega
  ·intro x y i hx hy
   rw [hget] at hx hy
   split at hx <;> split at hy
   ·rename_i a b; omega
   ·cases hx; have := L.lt y _ hy; omega
   ·cases hy; have := L.lt x _ hx; omega
   ·exact L.inj x y i hx hy
  ·intro i hi
   rcases Nat.lt_or_eq_of_le (Nat.le_of_lt_succ hi) with q | rfl
   ·obtain ⟨x,hx⟩ := L.all i q
    refine ⟨x,?_⟩
    rw [hget,if_neg]
    ·exact hx
    ·intro e'; subst e'; rw [hjn] at hx; cases hx
   ·exact ⟨j,by rw [hget,if_pos rfl]⟩
  ·intro x i h' hx hi
   rw [hget] at hx
   split at hx
   ·rename_i e'
    cases hx
    subst e'
    rw [hh] at hi; cases hi
    obtain ⟨n,b,o1,o2,o3⟩ := hr
    exact ⟨n,b,o1,o2,λ a c ho ha => hocc _ (o3 a c ho ha)⟩
   ·obtain ⟨n,b,o1,o2,o3⟩ := L.reach x i h' hx hi
    exact ⟨n,b,o1,o2,λ a c ho ha => hocc _ (o3 a c ho ha)⟩
theorem Lays.run {m : Nat} (g : GoodMask m) (hs rest : List Int) : ∀ (k : Nat) (ow : Owner),Lays m hs ow k -> hs.drop k = rest -> k + rest.length <= m ->
  ∃ ow',rest.foldl (layStep m) (some (ow,k)) = some (ow',k + rest.length) /\ Lays m hs ow' (k + rest.length) := by
 induction rest with
 | nil => exact λ k ow L _ _ => ⟨ow,rfl,L⟩
 | cons h rest ih =>
  intro k ow L hd hl
  have hh : hs[k]? = some h := by rw [<- Nat.add_zero k,<- List.getElem?_drop,hd]; rfl
  have e : k + (h :: rest).length = k + 1 + rest.length := (Nat.add_right_comm k 1 rest.length).symm
  rw [e] at hl ⊢
  obtain ⟨ow1,e1,L1⟩ := L.step g (Nat.le_trans (Nat.le_add_right k 1) (Nat.le_trans (Nat.le_add_right _ _) hl)) hh
  obtain ⟨ow2,e2,L2⟩ := ih (k + 1) ow1 L1 (by rw [<- List.drop_drop,hd]; rfl) hl
  exact ⟨ow2,by rw [List.foldl_cons,e1,e2],L2⟩
theorem Lays.start (m : Nat) (hs : List Int) : Lays m hs (Array.replicate (m + 1) none) 0 := by
 have hno : ∀ (j i : Nat),(Array.replicate (m + 1) (none : Option Nat))[j]? ≠ some (some i) := by
  intro j i e
  rw [Array.getElem?_replicate] at e
  split at e <;> simp at e
 refine ⟨by simp,?_,?_,?_,?_⟩
 ·intro j i h; exact absurd h (hno j i)
 ·intro j j' i h; exact absurd h (hno j i)
 ·intro i h; omega
 ·intro j i h e; exact absurd e (hno j i)
end Tab
end
section
namespace Tab
theorem filterMap_all_some {α β : Type} (f : α -> Option β) (l : List α) : (∀ a ∈ l,(f a).isSome = true) -> ∀ q : Nat,(l.filterMap f)[q]? = (l[q]?).bind f := by
 induction l with
 | nil => exact λ _ _ => rfl
 | cons a l ih =>
  intro h q
  obtain ⟨b,hb⟩ := Option.isSome_iff_exists.mp (h a (.head _))
  rw [List.filterMap_cons_some hb]
  cases q with
  | zero => exact hb.symm
  | succ q => exact ih (λ x hx => h x (.tail _ hx)) q
theorem laid_ok {m : Nat} (finger moves : Nat) (led plain : Bool) {hashes : Array Int} (g : GoodMask m) (hn : hashes.toList.Nodup) (hroom : hashes.size <= m) :
  ∃ t order,SetTable.laid m finger moves led plain hashes = some (t,order) /\ order.toList.Perm (List.range hashes.size) /\ t.mask = m /\ t.led = led /\ t.plain = plain /\ t.dummies = #[] /\
   t.fill = hashes.size /\ Inv0 t (order.toList.filterMap λ i => hashes.toList[i]?) := by
 obtain ⟨ow,e,L⟩ := Lays.run g hashes.toList hashes.toList 0 _ (Lays.start m hashes.toList) rfl (by simpa using hroom)
 have L : Lays m hashes.toList ow hashes.size := by simpa using L
 have hlc : SetTable.layClean m hashes = some ow := by rw [layClean_eq,e]; rfl
 let live := (List.range (m + 1)).filterMap λ j => (ow.getD j none).map (j,·)
 have hmem : ∀ j i,(j,i) ∈ live ↔ ow[j]? = some (some i) := by
  intro j i
  show (j,i) ∈ (List.range (m + 1)).filterMap _ ↔ _
  rw [List.mem_filterMap]
  constructor
  ·rintro ⟨x,hx,hy⟩
   have hlt : x < ow.size := by rw [L.size]; exact List.mem_range.mp hx
   cases q : ow[x] with
   | none => simp [Array.getD,hlt,q] at hy
   | some k =>
    simp [Array.getD,hlt,q] at hy
    obtain ⟨rfl,rfl⟩ := hy
    rw [Array.getElem?_eq_getElem hlt,q]
  ·intro h
   have hlt := (Array.getElem?_eq_some_iff.mp h).1
   refine ⟨j,List.mem_range.mpr (by rw [L.size] at hlt; exact hlt),?_⟩
   simp [Array.getD,hlt]
   exact (Array.getElem?_eq_some_iff.mp h).2
 have hsorted : (live.map (·.1)).Pairwise (· < ·) := by
  rw [List.pairwise_map]
  show ((List.range (m + 1)).filterMap _).Pairwise _
  rw [List.pairwise_filterMap]
  refine List.Pairwise.imp ?_ (List.pairwise_lt_range (n := m + 1))
  intro a b hab x hx y hy
  obtain ⟨i,_,rfl⟩ := Option.map_eq_some_iff.mp hx
  obtain ⟨i',_,rfl⟩ := Option.map_eq_some_iff.mp hy
  exact hab
 have hordnd : (live.map (·.2)).Nodup := by
  unfold List.Nodup
  rw [List.pairwise_map]
  rw [List.pairwise_map] at hsorted
  refine List.Pairwise.imp_of_mem ?_ hsorted
  intro a b ha hb hab e'
  obtain ⟨a1,a2⟩ := a; obtain ⟨b1,b2⟩ := b
  have e' : a2 = b2 := e'
  subst e'
  exact Nat.ne_of_lt hab (L.inj _ _ _ ((hmem _ _).mp ha) ((hmem _ _).mp hb))
 have hperm : (live.map (·.2)).Perm (List.range hashes.size) := by
  refine (List.perm_ext_iff_of_nodup hordnd List.nodup_range).mpr λ i => ?_
  rw [List.mem_map,List.mem_range]
  constructor
  ·rintro ⟨⟨j,i'⟩,h,rfl⟩
   exact L.lt _ _ ((hmem _ _).mp h)
  ·intro h
   obtain ⟨j,hj⟩ := L.all i h
   exact ⟨(j,i),(hmem _ _).mpr hj,rfl⟩
 have hlen : live.length = hashes.size := by
  have := hperm.length_eq
  simpa using this
 refine ⟨{ mask := m,place := (live.map (·.1)).toArray,dummies := #[],finger,led,moves,plain },(live.map (·.2)).toArray,?_,by simpa using hperm,rfl,rfl,rfl,rfl,?_,?_⟩
 ·unfold SetTable.laid
  rw [hlc]
  rfl
 ·show (live.map (·.1)).toArray.size + 0 = _
  simpa using hlen
 ·have hok : Ok { mask := m,place := (live.map (·.1)).toArray,dummies := #[],finger := finger,led := led,moves := moves,plain := plain } := by
   refine ⟨hsorted,by simp,?_,by simp,by simp⟩
   intro j hj
   obtain ⟨⟨j',i⟩,h,rfl⟩ := List.mem_map.mp hj
   have := (Array.getElem?_eq_some_iff.mp ((hmem _ _).mp h)).1
   rw [L.size] at this
   exact Nat.le_of_lt_succ this
  have hall : ∀ i ∈ live.map (·.2),(hashes.toList[i]?).isSome = true := by
   intro i hi
   have := List.mem_range.mp (hperm.mem_iff.mp hi)
   rw [List.getElem?_eq_getElem (by simpa using this)]; rfl
  refine ⟨hok,?_,g,?_,?_⟩
  ·have h1 : ((live.map (·.2)).filterMap λ i => hashes.toList[i]?).Perm ((List.range hashes.size).filterMap λ i => hashes.toList[i]?) := hperm.filterMap _
   have h2 := List.filterMap_getElem?_range_length hashes.toList
   rw [Array.length_toList] at h2
   rw [h2] at h1
   have := h1.length_eq
   simp only [List.size_toArray,List.length_map,Array.length_toList] at this ⊢
   rw [hlen]; exact this.symm
  ·have h1 : ((live.map (·.2)).filterMap λ i => hashes.toList[i]?).Perm ((List.range hashes.size).filterMap λ i => hashes.toList[i]?) := hperm.filterMap _
   have h2 := List.filterMap_getElem?_range_length hashes.toList
   rw [Array.length_toList] at h2
   rw [h2] at h1
   exact h1.nodup_iff.mpr hn
  ·intro q j h hj hh
   have hj' : (live.map (·.1))[q]? = some j := by simpa using hj
   have hh' : ((live.map (·.2)).filterMap λ i => hashes.toList[i]?)[q]? = some h := hh
   rw [filterMap_all_some _ _ hall] at hh'
   rw [List.getElem?_map] at hj' hh'
   obtain ⟨⟨j',i⟩,hx,rfl⟩ := Option.map_eq_some_iff.mp hj'
   rw [hx] at hh'
   have hh2 : hashes.toList[i]? = some h := by simpa using hh'
   obtain ⟨n,b,o1,o2,o3⟩ := L.reach _ i h ((hmem _ _).mp (List.mem_of_getElem? hx)) hh2
   refine ⟨n,b,o1,o2,λ a c ho ha he => ?_⟩
   obtain ⟨i',hi'⟩ := o3 a c ho ha
   have := ((slot_empty hok).mp he).1
   exact this (List.mem_map.mpr ⟨_,(hmem _ _).mpr hi',rfl⟩)
theorem sizeAbove_ok : ∀ n,n < 128 -> GoodMask (SetTable.sizeAbove n - 1) /\ n < SetTable.sizeAbove n := by
 have h : (List.range 128).all (λ n => (SetTable.sizeAbove n - 1 == 7 || SetTable.sizeAbove n - 1 == 15 || SetTable.sizeAbove n - 1 == 31 || SetTable.sizeAbove n - 1 == 63 || SetTable.sizeAbove n - 1 == 127) && decide (n < SetTable.sizeAbove n)) = true := by decide +kernel
 intro n hn
 have := List.all_eq_true.mp h n (List.mem_range.mpr hn)
 obtain ⟨h1,h2⟩ := Bool.and_eq_true_iff.mp this
 refine ⟨?_,of_decide_eq_true h2⟩
 generalize SetTable.sizeAbove n - 1 = m at h1
 rcases (Bool.or_eq_true _ _).mp h1 with h1 | h1
 ·rcases (Bool.or_eq_true _ _).mp h1 with h1 | h1
  ·rcases (Bool.or_eq_true _ _).mp h1 with h1 | h1
   ·rcases (Bool.or_eq_true _ _).mp h1 with h1 | h1
    ·exact .inl (eq_of_beq h1)
    ·exact .inr (.inl (eq_of_beq h1))
   ·exact .inr (.inr (.inl (eq_of_beq h1)))
  ·exact .inr (.inr (.inr (.inl (eq_of_beq h1))))
 ·exact .inr (.inr (.inr (.inr (eq_of_beq h1))))
theorem sizeAbove_line : ∀ n,n < 128 -> ¬ SetTable.sizeAbove n > sizeLine := by
 have h : (List.range 128).all (λ n => decide (SetTable.sizeAbove n <= 128)) = true := by decide +kernel
 intro n hn
 have := List.all_eq_true.mp h n (List.mem_range.mpr hn)
 have h1 : SetTable.sizeAbove n <= 128 := of_decide_eq_true this
 have h2 : sizeLine = 2 ^ 24 := rfl
 have h3 : (2 : Nat) ^ 24 = 16777216 := by decide
 omega
end Tab
end
section
noncomputable abbrev Pt := Int × Int
noncomputable def InBox (p : Pt) : Prop := 0 <= p.1 /\ p.1 < 5 /\ 0 <= p.2 /\ p.2 < 5
noncomputable def ptHash (p : Pt) : Int := reduceHash (Builtin.Tuple.tupleHashOf [hashInt p.1,hashInt p.2])
noncomputable def boxPts : List Pt := [0,1,2,3,4].flatMap λ r => [0,1,2,3,4].map λ c => ((r : Int),(c : Int))
theorem mem_boxPts {p : Pt} (h : InBox p) : p ∈ boxPts := by
 obtain ⟨r,c⟩ := p
 obtain ⟨h1,h2,h3,h4⟩ := h
 simp only at h1 h2 h3 h4
 obtain ⟨i,rfl⟩ := Int.eq_ofNat_of_zero_le h1
 obtain ⟨j,rfl⟩ := Int.eq_ofNat_of_zero_le h3
 have k : ∀ i < 5,((i : Nat) : Int) ∈ ([0,1,2,3,4] : List Int) := by decide +kernel
 exact List.mem_flatMap.mpr ⟨_,k i (Int.ofNat_lt.mp h2),List.mem_map.mpr ⟨_,k j (Int.ofNat_lt.mp h4),rfl⟩⟩
theorem boxHash_inj : (boxPts.map ptHash).Nodup := by decide +kernel
theorem ptHash_inj {p q : Pt} (hp : InBox p) (hq : InBox q) (h : ptHash p = ptHash q) : p = q := by
 obtain ⟨i,hi⟩ := List.mem_iff_getElem?.mp (mem_boxPts hp)
 obtain ⟨j,hj⟩ := List.mem_iff_getElem?.mp (mem_boxPts hq)
 have h1 : (boxPts.map ptHash)[i]? = some (ptHash p) := by rw [List.getElem?_map,hi]; rfl
 have h2 : (boxPts.map ptHash)[j]? = some (ptHash p) := by rw [List.getElem?_map,hj,h]; rfl
 have := (List.getElem?_inj (List.getElem?_eq_some_iff.mp h1).1 boxHash_inj).mp (h1.trans h2.symm)
 subst this
 rw [hi] at hj; exact Option.some.inj hj
noncomputable def IsPt (h : Heap) (p : Pt) (v : Value) : Prop :=
 ∃ a o n t u,v = .ref a /\ h.get? a = some o /\ o.cls = .type "tuple" /\ o.dict = none /\ o.data = .seq #[.int p.1 t,.int p.2 u] n
theorem IsPt.key {prog : Program} {w : World} {h : Heap} {p : Pt} {v : Value} (x : IsPt h p v) : ∃ a,v = .ref a /\ IsTupleKey (intKind prog w) h [p.1,p.2] a := by
 obtain ⟨a,o,n,t,u,rfl,ho,hc,_,hd⟩ := x
 refine ⟨a,rfl,o,_,n,ho,hc,hd,?_⟩
 exact .cons (by simp [intKind,Value.isInt]) (.cons (by simp [intKind,Value.isInt]) .nil)
theorem IsPt.keep {h h' : Heap} {p : Pt} {v : Value} (x : IsPt h p v) (k : ∀ b o,h.get? b = some o -> o.cls = .type "tuple" -> (∃ vs n,o.data = .seq vs n) -> ∃ sl,h'.get? b = some { o with slots := sl }) : IsPt h' p v := by
 obtain ⟨a,o,n,t,u,rfl,ho,hc,hd,hs⟩ := x
 obtain ⟨sl,e⟩ := k a o ho hc ⟨_,_,hs⟩
 exact ⟨a,_,n,t,u,rfl,e,hc,hd,hs⟩
structure Els (h : Heap) (l : List Pt) (es : List (Int × Value)) : Prop where
 hash : es.map (·.1) = l.map ptHash
 pts : ∀ (i : Nat) (p : Pt) (e : Int × Value),l[i]? = some p -> es[i]? = some e -> IsPt h p e.2
theorem Els.length {h : Heap} {l : List Pt} {es : List (Int × Value)} (x : Els h l es) : es.length = l.length := by
 have := congrArg List.length x.hash
 simpa using this
theorem Els.at {h : Heap} {l : List Pt} {es : List (Int × Value)} (x : Els h l es) {i : Nat} {p : Pt} (hi : l[i]? = some p) : ∃ v,es[i]? = some (ptHash p,v) /\ IsPt h p v := by
 have hlt := (List.getElem?_eq_some_iff.mp hi).1
 have hlt' : i < es.length := by rw [x.length]; exact hlt
 have h1 : (es.map (·.1))[i]? = some (ptHash p) := by rw [x.hash,List.getElem?_map,hi]; rfl
 rw [List.getElem?_map,List.getElem?_eq_getElem hlt'] at h1
 have h2 : es[i].1 = ptHash p := by simpa using h1
 refine ⟨es[i].2,?_,x.pts i p es[i] hi (List.getElem?_eq_getElem hlt')⟩
 rw [List.getElem?_eq_getElem hlt',<- h2]
theorem Els.keep {h h' : Heap} {l : List Pt} {es : List (Int × Value)} (x : Els h l es) (k : ∀ b o,h.get? b = some o -> o.cls = .type "tuple" -> (∃ vs n,o.data = .seq vs n) -> ∃ sl,h'.get? b = some { o with slots := sl }) : Els h' l es :=
 ⟨x.hash,λ i p e h1 h2 => (x.pts i p e h1 h2).keep k⟩
structure PSet (w : World) (h : Heap) (a : Addr) (l : List Pt) : Prop where
 obj : ∃ o es ep t,h.get? a = some o /\ o.ExactSet /\ o.data = .set es ep t /\ Tab.Inv t (es.toList.map (·.1)) /\ (w.params.followText "set-order" = false -> t.led = true /\ t.plain = true) /\ Els h l es.toList
 box : ∀ p ∈ l,InBox p
theorem PSet.nodup {w : World} {h : Heap} {a : Addr} {l : List Pt} (S : PSet w h a l) : l.Nodup := by
 obtain ⟨o,es,ep,t,ho,hx,hd,I,hb,E⟩ := S.obj
 have := I.nodup
 rw [E.hash] at this
 unfold List.Nodup at this
 rw [List.pairwise_map] at this
 exact this.imp (λ hne e => hne (congrArg ptHash e))
theorem PSet.keep {w : World} {h h' : Heap} {a : Addr} {l : List Pt} (S : PSet w h a l) (ha : h'.get? a = h.get? a) (k : ∀ b o,h.get? b = some o -> o.cls = .type "tuple" -> (∃ vs n,o.data = .seq vs n) -> ∃ sl,h'.get? b = some { o with slots := sl }) : PSet w h' a l := by
 obtain ⟨o,es,ep,t,ho,hx,hd,I,hb,E⟩ := S.obj
 exact ⟨⟨o,es,ep,t,ha.trans ho,hx,hd,I,hb,E.keep k⟩,S.box⟩
theorem PSet.typeIs {w : World} {s : Shared} {a : Addr} {l : List Pt} (S : PSet w s.heap a l) : s.TypeIs (.ref a) "set" :=
 by obtain ⟨o,_,_,_,ho,hx,_⟩ := S.obj; exact ⟨o,ho,hx.1⟩
theorem PSet.noDict {w : World} {h : Heap} {a : Addr} {l : List Pt} (S : PSet w h a l) : ∀ b,Value.ref a = .ref b -> ∃ ob,h.get? b = some ob /\ ob.dict = none :=
 λ b e => by injection e with e; subst e; obtain ⟨o,_,_,_,ho,hx,_⟩ := S.obj; exact ⟨o,ho,hx.2.1⟩
theorem wp_neg {α : Type} {M : Model} {A : Around} {E : Value -> Shared -> Prop} {s : Shared} {c : Prop} [Decidable c] {a b : Sem α} {Q : α -> Shared -> Prop} (h : ¬ c) (k : wpAny M A b Q E s) : wpAny M A (if c then a else b) Q E s := by rw [if_neg h]; exact k
theorem wp_pos {α : Type} {M : Model} {A : Around} {E : Value -> Shared -> Prop} {s : Shared} {c : Prop} [Decidable c] {a b : Sem α} {Q : α -> Shared -> Prop} (h : c) (k : wpAny M A a Q E s) : wpAny M A (if c then a else b) Q E s := by rw [if_pos h]; exact k
theorem wp_eq {α : Type} {M : Model} {A : Around} {E : Value -> Shared -> Prop} {s : Shared} {a b : Sem α} {Q : α -> Shared -> Prop} (h : a = b) (k : wpAny M A b Q E s) : wpAny M A a Q E s := h ▸ k
theorem inv_fits {t : SetTable} {es : Array (Int × Value)} (I : Tab.Inv t (es.toList.map (·.1))) : t.fits es.size = true := by
 unfold SetTable.fits
 have h1 := I.size
 have h2 := I.fillLe
 simp at h1
 simp [h1,h2]
theorem inv_noGave {t : SetTable} {hs : List Int} (I : Tab.Inv t hs) : t.gaveWay = false := by
 unfold SetTable.gaveWay
 rcases I.mask with h | h | h | h | h <;> rw [h] <;> rfl
section
variable {prog : Program} {w : World} {A : Around} {E : Value -> Shared -> Prop} {s : Shared} {a : Addr} {l : List Pt} {p : Pt} {x : Value}
theorem wp_eqBool_pt {q : Pt} {y : Value} {Q : Bool -> Shared -> Prop} (hu : A.units < cLine) (hx : IsPt s.heap p x) (hy : IsPt s.heap q y) (h : Q (decide (p = q)) s) :
  wpAny (model prog w) A (eqBool x y) Q E s := by
 obtain ⟨b,rfl,k1⟩ := hx.key (prog := prog) (w := w)
 obtain ⟨c,rfl,k2⟩ := hy.key (prog := prog) (w := w)
 refine wpAny_eqBool_tuple hu k1 k2 ?_
 have : decide ([p.1,p.2] = [q.1,q.2]) = decide (p = q) := by
  apply decide_eq_decide.mpr
  simp [Prod.ext_iff]
 rw [this]; exact h
theorem wp_pyHash_pt {Q : Int -> Shared -> Prop} (hu : A.units < cLine) (hx : IsPt s.heap p x) (h : Q (ptHash p) { s with toks := s.toks + 3 }) :
  wpAny (model prog w) A (pyHash x) Q E s := by
 obtain ⟨b,rfl,k1⟩ := hx.key (prog := prog) (w := w)
 exact wpAny_pyHash_tuple hu k1 h
theorem wp_eqIsQuiet_pt {Q : Bool -> Shared -> Prop} (hx : IsPt s.heap p x) (h : Q true s) : wpAny (model prog w) A (eqIsQuiet 8 x) Q E s := by
 obtain ⟨b,rfl,k1⟩ := hx.key (prog := prog) (w := w)
 exact wpAny_eqIsQuiet_tuple k1 h
theorem wp_ofAClass_pt {Q : Bool -> Shared -> Prop} (hx : IsPt s.heap p x) (h : Q false s) : wpAny (model prog w) A (ofAClassStatement 8 x) Q E s := by
 obtain ⟨b,o,n,t,u,rfl,ho,hc,_,hd⟩ := hx
 have hT : s.TypeIs (.ref b) "tuple" := ⟨o,ho,hc⟩
 delta ofAClassStatement
 refine wpAny_bind (m := typeOf (.ref b)) (wpAny_typeOf hT ?_)
 dsimp only
 refine wpAny_bind ?_
 refine wpAny_pure ?_
 rw [if_neg (by decide)]
 refine wpAny_bind (wpAny_seqItems ho hd ?_)
 dsimp only
 refine wpAny_bind ?_
 exact wpAny_of_eq (a := ((none,()) : Option Bool × Unit)) rfl (wpAny_pure h)
theorem wp_searchSeen_pt {ys : List Value} {Q : Bool -> Shared -> Prop} (hx : IsPt s.heap p x) (hys : ∀ y ∈ ys,∃ q,IsPt s.heap q y) (h : Q false s) : wpAny (model prog w) A (searchCouldBeSeen x ys) Q E s := by
 unfold searchCouldBeSeen
 refine wpAny_bind ?_
 refine wpAny_forIn_list (s := s) _ (λ rest b s' => s' = s /\ b = ((none,()) : Option Bool × Unit) /\ ∀ y ∈ rest,∃ q,IsPt s.heap q y) _ ?_ ?_ ys _ ⟨rfl,rfl,hys⟩
 ·intro y rest b s' ⟨e1,e2,hr⟩
  subst e1
  obtain ⟨q,hq⟩ := hr y (List.mem_cons.mpr (.inl rfl))
  have hrest : ∀ y ∈ rest,∃ q,IsPt s'.heap q y := λ z hz => hr z (List.mem_cons.mpr (.inr hz))
  dsimp only
  refine wpAny_ite ?_
  generalize (_ || (carriedByValue x && carriedByValue y)) = cnd
  cases cnd with
  | true => rw [if_pos rfl]; exact wpAny_pure ⟨rfl,rfl,hrest⟩
  | false =>
   rw [if_neg (by decide)]
   refine wpAny_bind (wp_eqIsQuiet_pt hx ?_)
   rw [if_neg (by decide)]
   refine wpAny_bind (wp_eqIsQuiet_pt hq ?_)
   rw [if_neg (by decide)]
   refine wpAny_bind (wp_ofAClass_pt hx ?_)
   rw [if_neg (by decide)]
   refine wpAny_bind (wp_ofAClass_pt hq ?_)
   rw [if_neg (by decide)]
   exact wpAny_pure ⟨rfl,rfl,hrest⟩
 ·intro b s' ⟨e1,e2,_⟩
  subst e1 e2
  exact wpAny_pure h
end
end
section
section
variable {prog : Program} {w : World} {A : Around} {E : Value -> Shared -> Prop} {s : Shared} {a : Addr} {l : List Pt} {p : Pt} {x : Value}
variable {o : Obj} {es : Array (Int × Value)} {ep : Nat} {t : SetTable}
theorem wp_led {α : Type} {M : Model} {c : Prop} [Decidable c] {X : Sem Bool} {U : Sem Unit} {jp : Unit -> Sem α} {Q : α -> Shared -> Prop}
  (hX : c -> ∀ {Q' : Bool -> Shared -> Prop},Q' false s -> wpAny M A X Q' E s) (k : wpAny M A (jp ()) Q E s) :
  wpAny M A (if c then (X >>= λ r => if r = true then (U >>= λ x => jp x) else jp ()) else jp ()) Q E s := by
 by_cases h : c
 ·exact wp_pos h (wpAny_bind (hX h (wp_neg (by decide) k)))
 ·exact wp_neg h k
theorem probe_congr {f g : Nat -> Int} (h : ∀ i,f i = g i) (t : SetTable) (k : Int) (q : SetTable.Probe) : t.probe f k q = t.probe g k q := by
 have : f = g := funext h
 rw [this]
theorem hashIn_es (es : Array (Int × Value)) (i : Nat) : (es[i]?.map (·.1)).getD 0 = Tab.hashIn (es.toList.map (·.1)) i := by
 unfold Tab.hashIn
 rw [List.getElem?_map,Array.getElem?_toList]
theorem wp_setSearch {adding : Bool} {Q : SetFound -> Shared -> Prop} (hu : A.units < cLine) (ho : s.heap.get? a = some o) (hd : o.data = .set es ep t)
  (I : Tab.Inv t (es.toList.map (·.1))) (El : Els s.heap l es.toList) (hbox : ∀ q ∈ l,InBox q) (hx : IsPt s.heap p x) (hb : InBox p)
  (h1 : ∀ i : Nat,l[i]? = some p -> Q (.there (if adding then none else some i)) s)
  (h2 : p ∉ l -> ∀ slot wd,Tab.FreeAt t (ptHash p) slot wd -> Q (.free slot wd) s) :
  wpAny (model prog w) A (setSearch a x (ptHash p) adding) Q E s := by
 have hf := inv_fits I
 have hpc : t.probe (λ i => (es[i]?.map (·.1)).getD 0) (ptHash p) ((none : Option SetTable.Probe).getD (t.probeStart (ptHash p))) = t.probe (Tab.hashIn (es.toList.map (·.1))) (ptHash p) (t.probeStart (ptHash p)) :=
  probe_congr (hashIn_es es) _ _ _
 by_cases hm : p ∈ l
 ·obtain ⟨i,hi⟩ := List.mem_iff_getElem?.mp hm
  obtain ⟨v,hv,hpt⟩ := El.at hi
  obtain ⟨j,next,hp,hj⟩ := Tab.search_there I (i := i) (h := ptHash p) (by rw [List.getElem?_map,hv]; rfl)
  have hpr := hpc.trans hp
  have hv' : es[i]? = some (ptHash p,v) := by rw [<- Array.getElem?_toList]; exact hv
  have hslot : t.slot j = .live i := (Tab.slot_live I.toOk).mpr hj
  have hyy : ∀ y ∈ ((es.filter (·.1 == ptHash p)).toList.map (·.2)),∃ q,IsPt s.heap q y := by
   intro y hy
   obtain ⟨e,he,rfl⟩ := List.mem_map.mp hy
   have he' : e ∈ es.toList := Array.mem_toList_iff.mpr (Array.mem_filter.mp (Array.mem_toList_iff.mp he)).1
   obtain ⟨k,hk⟩ := List.mem_iff_getElem?.mp he'
   have hkl : k < l.length := by rw [<- El.length]; exact (List.getElem?_eq_some_iff.mp hk).1
   exact ⟨_,El.pts k _ e (List.getElem?_eq_getElem hkl) hk⟩
  have same : isSame v v = pure true := by
   obtain ⟨b,_,_,_,_,rfl,_⟩ := hpt
   unfold isSame
   simp
  have hmem : t.sameMemory t.moves t.mask = some true := by simp [SetTable.sameMemory]
  have := h1 i hi
  refine wpAny_bind (m := setState a) (wpAny_setState_of ho hd hf ?_)
  refine wp_neg (by rw [inv_noGave I]; decide) ?_
  split
  ·rename_i met hmet
   obtain rfl : met = .candidate j i next := Option.some.inj (hmet.symm.trans hpr)
   refine wp_led (λ _ _ h => wp_searchSeen_pt hx hyy h) ?_
   rw [hv']
   refine wpAny_bind (wpAny_holding (wp_eqBool_pt hu hpt hx ?_))
   refine wpAny_bind (wpAny_setState_of ho hd hf ?_)
   cases adding with
   | true => exact wp_pos (by simp) (wpAny_pure this)
   | false =>
    refine wp_neg (by simp) ?_
    rw [hmem,hslot]
    dsimp only
    rw [if_pos rfl]
    dsimp only
    rw [hv']
    refine wpAny_bind (wp_eq same (wpAny_pure ?_))
    exact wpAny_bind (wpAny_pure (wp_pos (decide_eq_true rfl) (wpAny_pure this)))
  ·rename_i hno
   exact absurd hpr (λ e => hno _ e)
 ·obtain ⟨j,d,hp,hF⟩ := Tab.search_absent I (h := ptHash p) (by
   rw [El.hash]
   intro hmem
   obtain ⟨q,hq,e⟩ := List.mem_map.mp hmem
   exact hm (ptHash_inj (hbox q hq) hb e ▸ hq))
  have hpr := hpc.trans hp
  refine wpAny_bind (m := setState a) (wpAny_setState_of ho hd hf ?_)
  refine wp_neg (by rw [inv_noGave I]; decide) ?_
  split
  ·rename_i met hmet
   obtain rfl : met = .empty j d := Option.some.inj (hmet.symm.trans hpr)
   cases d with
   | none => exact wpAny_pure (h2 hm _ _ hF)
   | some d =>
    refine wp_neg ?_ (wpAny_pure (h2 hm _ _ hF))
    have := hF.slot
    simp only [Option.getD_some,Option.isSome_some,if_true] at this
    rw [this]; cases adding <;> decide
  ·rename_i hno
   exact absurd hpr (λ e => hno _ e)
theorem IsPt.notScan {h : Heap} (hx : IsPt h p x) (es : Array (Int × Value)) : byScan x es = false := by
 obtain ⟨b,_,_,_,_,rfl,_⟩ := hx
 rfl
theorem wp_setFind {Q : Option Nat -> Shared -> Prop} (hu : A.units < cLine) (S : PSet w s.heap a l) (hx : IsPt s.heap p x) (hb : InBox p)
  (h : ∀ r : Option Nat,r.isSome = decide (p ∈ l) -> Q r s) : wpAny (model prog w) A (setFind a x (ptHash p)) Q E s := by
 obtain ⟨o,es,ep,t,ho,hxs,hd,I,hbt,El⟩ := S.obj
 refine wpAny_bind (m := setState a) (wpAny_setState_of ho hd (inv_fits I) ?_)
 dsimp only
 rw [hx.notScan]
 rw [if_neg (by decide)]
 refine wpAny_bind (wp_setSearch (adding := false) hu ho hd I El S.box hx hb (λ i hi => ?_) (λ hn slot wd hF => ?_))
 ·exact wpAny_pure (h _ (by simp [List.mem_of_getElem? hi]))
 ·exact wpAny_pure (h _ (by simp [hn]))
theorem wp_setContains {Q : Bool -> Shared -> Prop} (hu : A.units < cLine) (S : PSet w s.heap a l) (hx : IsPt s.heap p x) (hb : InBox p)
  (h : ∀ tk,Q (decide (p ∈ l)) { s with toks := tk }) : wpAny (model prog w) A (setContains a x) Q E s := by
 unfold setContains
 refine wpAny_holding ?_
 refine wpAny_bind (wp_pyHash_pt hu hx ?_)
 refine wpAny_bind (wp_setFind (s := { s with toks := s.toks + 3 }) hu S hx hb λ r hr => ?_)
 refine wpAny_pure ?_
 rw [hr]; exact h _
theorem wp_hashByValue {Q : Bool -> Shared -> Prop} (hx : IsPt s.heap p x) (h : Q true s) : wpAny (model prog w) A (hashByValue 8 x) Q E s := by
 obtain ⟨b,o,n,t,u,rfl,ho,hc,_,hd⟩ := hx
 have hT : s.TypeIs (.ref b) "tuple" := ⟨o,ho,hc⟩
 unfold hashByValue
 refine wpAny_bind (wpAny_specialOf hT F.slot_tuple_hash.lookup ?_)
 dsimp only
 refine wpAny_bind (wpAny_seqItems ho hd ?_)
 refine wpAny_bind ?_
 refine wpAny_of_eq (a := ((none,()) : Option Bool × Unit)) ?_ (wpAny_pure h)
 have : ∀ (i : Int) (t : Tok),hashByValue 7 (.int i t) = pure true := λ i t => by unfold hashByValue; rfl
 simp [this]
end
end
section
section
variable {prog : Program} {w : World} {A : Around} {E : Value -> Shared -> Prop} {s : Shared} {a : Addr} {l : List Pt} {p : Pt} {x : Value}
variable {o : Obj} {es : Array (Int × Value)} {ep : Nat} {t : SetTable}
theorem sameBut_tuples {h h' : Heap} {a : Addr} {o : Obj} (hs : Heap.SameBut a h h') (ho : h.get? a = some o) (hc : o.cls ≠ .type "tuple") :
  ∀ b ob,h.get? b = some ob -> ob.cls = .type "tuple" -> (∃ vs n,ob.data = .seq vs n) -> ∃ sl,h'.get? b = some { ob with slots := sl } := by
 intro b ob hb hcb _
 have hne : b ≠ a := λ e => by subst e; rw [ho] at hb; cases hb; exact hc hcb
 exact ⟨ob.slots,(hs.2 b hne).trans hb⟩
theorem exact_notTuple (hx : o.ExactSet) : o.cls ≠ .type "tuple" := by rw [hx.1]; decide
theorem store_get (ho : s.heap.get? a = some o) (hd : o.data = .set es ep t) (es' : Array (Int × Value)) (t' : SetTable) :
  (s.heap.update a (Obj.putSet es' t')).get? a = some { o with data := .set es' (ep + 1) t' } := by
 have e := putSet_of es' t' hd
 rw [Heap.get?_update_self (Obj.putSet es' t') ho (by rw [e]; rfl),e]
theorem pset_store {l' : List Pt} {es' : Array (Int × Value)} {t' : SetTable} (ho : s.heap.get? a = some o) (hx : o.ExactSet) (hd : o.data = .set es ep t) (I : Tab.Inv t' (es'.toList.map (·.1)))
  (hbt : w.params.followText "set-order" = false -> t'.led = true /\ t'.plain = true) (El : Els s.heap l' es'.toList) (hbox : ∀ q ∈ l',InBox q) :
  PSet w (s.heap.update a (Obj.putSet es' t')) a l' := by
 refine ⟨⟨_,es',ep + 1,t',store_get ho hd es' t',hx,rfl,I,hbt,El.keep ?_⟩,hbox⟩
 exact sameBut_tuples (Heap.SameBut.update ..) ho (exact_notTuple hx)
theorem els_insert {h : Heap} {esl : List (Int × Value)} (El : Els h l esl) (hx : IsPt h p x) {q : Nat} (hq : q <= l.length) :
  Els h (l.take q ++ p :: l.drop q) (esl.take q ++ (ptHash p,x) :: esl.drop q) := by
 refine ⟨?_,?_⟩
 ·rw [List.map_append,List.map_cons,List.map_append,List.map_cons,List.map_take,List.map_drop,List.map_take,List.map_drop,El.hash]
 ·intro i r e h1 h2
  rw [Tab.getElem?_insert _ _ _ hq] at h1
  rw [Tab.getElem?_insert _ _ _ (by rw [El.length]; exact hq)] at h2
  by_cases c : i < q
  ·rw [if_pos c] at h1 h2; exact El.pts i r e h1 h2
  ·rw [if_neg c] at h1 h2
   by_cases c2 : i = q
   ·rw [if_pos c2] at h1 h2; cases h1; cases h2; exact hx
   ·rw [if_neg c2] at h1 h2; exact El.pts _ r e h1 h2
theorem els_erase {h : Heap} {esl : List (Int × Value)} (El : Els h l esl) (i : Nat) : Els h (l.eraseIdx i) (esl.eraseIdx i) := by
 refine ⟨?_,?_⟩
 ·rw [List.eraseIdx_eq_take_drop_succ,List.eraseIdx_eq_take_drop_succ,List.map_append,List.map_append,List.map_take,List.map_drop,List.map_take,List.map_drop,El.hash]
 ·intro k r e h1 h2
  rw [List.getElem?_eraseIdx] at h1 h2
  split at h1
  ·rename_i c; rw [if_pos c] at h2; exact El.pts k r e h1 h2
  ·rename_i c; rw [if_neg c] at h2; exact El.pts _ r e h1 h2
theorem els_order {h : Heap} {esl : List (Int × Value)} (El : Els h l esl) {order : List Nat} (ho : ∀ i ∈ order,i < l.length) :
  Els h (order.filterMap λ i => l[i]?) (order.filterMap λ i => esl[i]?) := by
 have a1 : ∀ i ∈ order,((λ i => l[i]?) i).isSome = true := λ i hi => by
  show (l[i]?).isSome = true
  rw [List.getElem?_eq_getElem (ho i hi)]; rfl
 have a2 : ∀ i ∈ order,((λ i => esl[i]?) i).isSome = true := λ i hi => by
  show (esl[i]?).isSome = true
  rw [List.getElem?_eq_getElem (by rw [El.length]; exact ho i hi)]; rfl
 refine ⟨?_,?_⟩
 ·rw [List.map_filterMap,List.map_filterMap]
  congr 1
  funext i
  rw [<- List.getElem?_map,<- List.getElem?_map,El.hash]
 ·intro k r e h1 h2
  rw [Tab.filterMap_all_some _ _ a1] at h1
  rw [Tab.filterMap_all_some _ _ a2] at h2
  cases hk : order[k]? with
  | none => rw [hk] at h1; cases h1
  | some i => rw [hk] at h1 h2; exact El.pts i r e h1 h2
theorem perm_order {α : Type} (l : List α) {order : List Nat} (h : order.Perm (List.range l.length)) : (order.filterMap λ i => l[i]?).Perm l := by
 have := h.filterMap λ i => l[i]?
 rw [List.filterMap_getElem?_range_length] at this
 exact this
theorem relaid {h : Heap} (El : Els h l es.toList) {order : Array Nat} (hp : order.toList.Perm (List.range es.size)) :
  (order.filterMap (es[·]?)).size = es.size /\ ((order.filterMap (es[·]?)).toList.map (·.1) = order.toList.filterMap λ i => (es.map (·.1)).toList[i]?) /\ Els h (order.toList.filterMap λ i => l[i]?) (order.filterMap (es[·]?)).toList /\ (order.toList.filterMap λ i => l[i]?).Perm l := by
 have hlen : es.toList.length = l.length := El.length
 have hsz : es.size = l.length := by rw [<- hlen,Array.length_toList]
 have hes' : (order.filterMap (es[·]?)).toList = order.toList.filterMap λ i => es.toList[i]? := by
  rw [Array.toList_filterMap]
  congr 1
  funext i
  exact Array.getElem?_toList.symm
 have hperm : (order.toList.filterMap λ i => es.toList[i]?).Perm es.toList := perm_order es.toList (by rw [Array.length_toList]; exact hp)
 refine ⟨by rw [<- Array.length_toList,hes',hperm.length_eq,Array.length_toList],?_,?_,perm_order l (hsz ▸ hp)⟩
 ·rw [hes',List.map_filterMap]
  congr 1
  funext i
  rw [<- List.getElem?_map,Array.toList_map]
 ·rw [hes']
  exact els_order El λ i hi => hsz ▸ List.mem_range.mp (hp.mem_iff.mp hi)
theorem wp_setRelay {wanted : Nat} {Q : Unit -> Shared -> Prop} (ho : s.heap.get? a = some o) (hx : o.ExactSet) (hd : o.data = .set es ep t) (hf : t.fits es.size = true)
  (hnd : (es.toList.map (·.1)).Nodup) (El : Els s.heap l es.toList) (hw : wanted < 128) (hroom : es.size * 5 < (SetTable.sizeAbove wanted - 1) * 3)
  (hbt : w.params.followText "set-order" = false -> t.led = true /\ t.plain = true) (hbox : ∀ q ∈ l,InBox q)
  (h : ∀ h' l' es' t',Heap.SameBut a s.heap h' -> l'.Perm l -> h'.get? a = some { o with data := .set es' (ep + 1) t' } -> Tab.Inv t' (es'.toList.map (·.1)) -> Els h' l' es'.toList ->
   t'.led = t.led -> t'.plain = t.plain -> t'.mask = SetTable.sizeAbove wanted - 1 -> t'.fill = es.size -> PSet w h' a l' -> Q () { s with heap := h' }) : wpAny (model prog w) A (setRelay a wanted) Q E s := by
 unfold setRelay
 refine wpAny_bind (wpAny_setState_of ho hd hf ?_)
 dsimp only
 refine wp_neg (Tab.sizeAbove_line wanted hw) ?_
 obtain ⟨g,_⟩ := Tab.sizeAbove_ok wanted hw
 obtain ⟨t',order,e,hp,hm,hl,hpl,hdm,hfl,I0⟩ := Tab.laid_ok t.finger (t.movedTo (SetTable.sizeAbove wanted - 1)) t.led t.plain (hashes := es.map (·.1)) g (by simpa using hnd) (by simp; omega)
 have hsz : (es.map (·.1)).size = es.size := by simp
 rw [hsz] at hp hfl
 obtain ⟨hsize,hmap,El',hpl⟩ := relaid El hp
 have I' : Tab.Inv t' ((order.filterMap (es[·]?)).toList.map (·.1)) := by
  rw [hmap]
  exact ⟨I0,by rw [hfl,hm]; exact hroom⟩
 have e' : t.relaid (es.map (·.1)) wanted = some (t',order) := e
 rw [e']
 refine wpAny_bind ?_
 show wpAny _ _ (if ((order.filterMap (es[·]?)).size != es.size) = true then _ else _) _ _ _
 refine wp_neg (by rw [hsize]; simp) (wpAny_pure ?_)
 refine wpAny_storeSet_of ho hd ?_ (by rw [hsize]; exact room_line hroom (Tab.sizeAbove_line wanted hw))
 refine h _ (order.toList.filterMap λ i => l[i]?) (order.filterMap (es[·]?)) t' (Heap.SameBut.update ..) hpl (store_get ho hd _ _) I' (El'.keep (sameBut_tuples (Heap.SameBut.update ..) ho (exact_notTuple hx))) hl (by assumption) hm hfl ?_
 refine pset_store ho hx hd I' ?_ El' ?_
 ·intro q
  have := hbt q
  refine ⟨hl.trans this.1,?_⟩
  have h5 : t'.plain = t.plain := by assumption
  exact h5.trans this.2
 ·intro q hq
  exact hbox q (hpl.mem_iff.mp hq)
theorem mem_insert_iff {q : Nat} (c : Pt) : c ∈ l.take q ++ p :: l.drop q ↔ c = p \/ c ∈ l := by
 have h : (l.take q ++ p :: l.drop q).Perm (p :: l) := by
  refine List.perm_middle.trans ?_
  rw [List.take_append_drop]
 rw [h.mem_iff,List.mem_cons]
theorem wp_setAddHashed {Q : Bool -> Shared -> Prop} (hu : A.units < cLine) (S : PSet w s.heap a l) (hx : IsPt s.heap p x) (hb : InBox p) (hlen : l.length < 31)
  (h1 : p ∈ l -> Q false s)
  (h2 : p ∉ l -> ∀ h' l',Heap.SameBut a s.heap h' -> l'.Perm (p :: l) -> PSet w h' a l' -> Q true { s with heap := h' }) :
  wpAny (model prog w) A (setAddHashed a x (ptHash p)) Q E s := by
 obtain ⟨o,es,ep,t,ho,hxs,hd,I,hbt,El⟩ := S.obj
 unfold setAddHashed
 refine wpAny_holding ?_
 refine wpAny_bind (m := setState a) (wpAny_setState_of ho hd (inv_fits I) ?_)
 dsimp only
 rw [hx.notScan,if_neg (by decide)]
 refine wpAny_bind (wp_setSearch (adding := true) hu ho hd I El S.box hx hb (λ i hi => wpAny_pure (h1 (List.mem_of_getElem? hi))) (λ hn slot wd hF => ?_))
 dsimp only
 refine wpAny_bind (wpAny_setState_of ho hd (inv_fits I) ?_)
 dsimp only
 have hes : es.size = l.length := by rw [<- Array.length_toList]; exact El.length
 have hnh : ptHash p ∉ es.toList.map (·.1) := by
  rw [El.hash]
  intro hmem
  obtain ⟨q,hq,e⟩ := List.mem_map.mp hmem
  exact hn (ptHash_inj (S.box q hq) hb e ▸ hq)
 obtain ⟨I0,hfill,hple,hmk,hled,hpl⟩ := Tab.put_inv I hnh hF
 have hpl' : (t.put slot).2 <= l.length := by
  have := hple
  rw [List.length_map,El.length] at this
  exact this
 have key : ∀ t2 : SetTable,t2 = (t.put slot).1 -> wpAny (model prog w) A (do
   storeSet a (SetTable.insertAt es (t.put slot).2 (ptHash p,x)) t2
   if (!wd && t2.tooFull) = true then do setRelay a (SetTable.grown (es.size + 1)); pure true else pure true) Q E s := by
  intro t2 e2
  subst e2
  have hins : (SetTable.insertAt es (t.put slot).2 (ptHash p,x)).toList = es.toList.take (t.put slot).2 ++ (ptHash p,x) :: es.toList.drop (t.put slot).2 := SetTable.toList_insertAt _ _ _
  have hinsz : (SetTable.insertAt es (t.put slot).2 (ptHash p,x)).size = es.size + 1 := by
   have := (SetTable.insertAt_perm es (t.put slot).2 (ptHash p,x)).length_eq
   simpa using this
  have hE' : Els s.heap (l.take (t.put slot).2 ++ p :: l.drop (t.put slot).2) (SetTable.insertAt es (t.put slot).2 (ptHash p,x)).toList := by
   rw [hins]; exact els_insert El hx hpl'
  have hmap : (SetTable.insertAt es (t.put slot).2 (ptHash p,x)).toList.map (·.1) = (es.toList.map (·.1)).take (t.put slot).2 ++ ptHash p :: (es.toList.map (·.1)).drop (t.put slot).2 := by
   rw [hins,List.map_append,List.map_cons,List.map_take,List.map_drop]
  have hbox' : ∀ q ∈ l.take (t.put slot).2 ++ p :: l.drop (t.put slot).2,InBox q := λ q hq => by
   rcases (mem_insert_iff q).mp hq with rfl | q'
   ·exact hb
   ·exact S.box q q'
  have hperm : (l.take (t.put slot).2 ++ p :: l.drop (t.put slot).2).Perm (p :: l) := by
   refine List.perm_middle.trans ?_
   rw [List.take_append_drop]
  have hsl : (SetTable.insertAt es (t.put slot).2 (ptHash p,x)).size <= sizeLine := by
   rw [hinsz]; have h2 : sizeLine = 2 ^ 24 := rfl; have h3 : (2 : Nat) ^ 24 = 16777216 := by decide
   omega
  refine wpAny_bind (wpAny_storeSet_of ho hd ?_ hsl)
  by_cases hfull : (!wd && (t.put slot).1.tooFull) = true
  ·refine wp_pos hfull ?_
   have hget := store_get ho hd (SetTable.insertAt es (t.put slot).2 (ptHash p,x)) (t.put slot).1
   have hgr : SetTable.grown (es.size + 1) = (es.size + 1) * 4 := by unfold SetTable.grown; rw [if_neg (by omega)]
   refine wpAny_bind (wp_setRelay (l := l.take (t.put slot).2 ++ p :: l.drop (t.put slot).2) hget hxs rfl ?_ ?_ ?_ (by rw [hgr,hes]; omega) ?_ (by rw [hled,hpl]; exact hbt) hbox' ?_)
   ·unfold SetTable.fits
    have hz := I0.size
    have : (t.put slot).1.place.size = (SetTable.insertAt es (t.put slot).2 (ptHash p,x)).size := by
     rw [hz,hinsz]
     have := congrArg List.length hmap
     simp only [List.length_map] at this
     rw [<- this,Array.length_toList,hinsz]
    have hr := I.room
    have hfl2 : (t.put slot).1.fill <= (t.put slot).1.mask := by
     rw [hfill,hmk]
     rcases I.mask with q | q | q | q | q <;> rw [q] at hr ⊢ <;> split <;> omega
    rw [this]
    simp [hfl2]
   ·rw [hmap]; exact I0.nodup
   ·exact hE'.keep (sameBut_tuples (Heap.SameBut.update ..) ho (exact_notTuple hxs))
   ·have := (Tab.sizeAbove_ok ((es.size + 1) * 4) (by rw [hes]; omega)).2
    rw [hgr,hinsz]; exact room2 (Nat.lt_of_le_of_lt (Nat.mul_le_mul_left _ (by decide)) this) (Nat.succ_pos _)
   ·intro h' l' es' t' hsb hp' _ _ _ _ _ _ _ P'
    refine wpAny_pure (h2 hn h' l' ?_ (hp'.trans hperm) P')
    exact (Heap.SameBut.update ..).trans hsb
  ·refine wp_neg hfull ?_
   refine wpAny_pure (h2 hn _ _ (Heap.SameBut.update ..) hperm ?_)
   refine pset_store ho hxs hd ?_ (by rw [hled,hpl]; exact hbt) hE' hbox'
   rw [hmap]
   refine ⟨I0,?_⟩
   rw [hmk]
   cases wd with
   | true => rw [hfill]; exact I.room
   | false =>
    have : (t.put slot).1.tooFull = false := by simpa using hfull
    unfold SetTable.tooFull at this
    have := of_decide_eq_false this
    rw [hmk] at this
    omega
 by_cases hplain : (t.put slot).1.plain = true
 ·refine wp_pos hplain ?_
  refine wpAny_bind (wp_hashByValue hx ?_)
  simp only [if_true]
  exact key _ rfl
 ·refine wp_neg hplain ?_
  refine wpAny_bind (wpAny_pure ?_)
  simp only [if_true]
  exact key _ rfl
theorem wp_setAdd {Q : Bool -> Shared -> Prop} (hu : A.units < cLine) (S : PSet w s.heap a l) (hx : IsPt s.heap p x) (hb : InBox p) (hlen : l.length < 31)
  (h1 : p ∈ l -> ∀ tk,Q false { s with toks := tk })
  (h2 : p ∉ l -> ∀ h' l' tk,Heap.SameBut a s.heap h' -> l'.Perm (p :: l) -> PSet w h' a l' -> Q true { s with heap := h',toks := tk }) :
  wpAny (model prog w) A (setAdd a x) Q E s := by
 unfold setAdd
 refine wpAny_holding (wpAny_bind (wp_pyHash_pt hu hx ?_))
 exact wp_setAddHashed (s := { s with toks := s.toks + 3 }) hu S hx hb hlen (λ h => h1 h _) (λ h h' l' a b c => h2 h h' l' _ a b c)
end
end
section
theorem wpAny_choose {prog : Program} {w : World} {A : Around} {E : Value -> Shared -> Prop} {s : Shared} {src : Source} {n : Nat} {Q : Nat -> Shared -> Prop} (hn : n ≠ 0)
  (h : ∀ i d,i < n -> Q i { s with drawn := d }) : wpAny (model prog w) A (choose src n) Q E s := λ Γ p _ => by
 show Sem.wp _ _ (Sem.choose src n Sem.pure) _ _ _ _
 rw [Sem.wp_choose]
 refine ⟨hn,?_⟩
 rw [Sem.wp_pure]
 exact h _ _ (Nat.mod_lt _ (Nat.pos_of_ne_zero hn))
section
variable {prog : Program} {w : World} {A : Around} {E : Value -> Shared -> Prop} {s : Shared} {a : Addr} {l : List Pt} {p : Pt} {x : Value}
variable {o : Obj} {es : Array (Int × Value)} {ep : Nat} {t : SetTable}
theorem PSet.length_le {h : Heap} (S : PSet w h a l) : l.length <= 25 :=
 Tab.nodup_le l boxPts S.nodup λ q hq => mem_boxPts (S.box q hq)
theorem wp_setsByText {Q : Bool -> Shared -> Prop} (h : Q (w.params.followText "set-order") s) : wpAny (model prog w) A setsByText Q E s := by
 unfold setsByText
 exact wpAny_bind (wpAny_askSetting (wpAny_pure h))
theorem popPlace_ok {hs : List Int} (I : Tab.Inv t hs) (hne : hs ≠ []) : ∃ i,t.popPlace = some i /\ i < hs.length := by
 have hpos : 0 < hs.length := List.length_pos_iff.mpr hne
 have hsz := I.size
 unfold SetTable.popPlace
 rw [if_neg (by intro q; have := Array.isEmpty_iff_size_eq_zero.mp q; omega)]
 dsimp only
 refine ⟨_,rfl,?_⟩
 split
 ·omega
 ·omega
theorem wp_setPop {Q : Option Value -> Shared -> Prop} (S : PSet w s.heap a l) (hne : l ≠ [])
  (h : ∀ (i : Nat) (p : Pt) (v : Value) (h' : Heap) (d : Drawn),l[i]? = some p -> Heap.SameBut a s.heap h' -> PSet w h' a (l.eraseIdx i) -> IsPt h' p v -> Q (some v) { s with heap := h',drawn := d }) :
  wpAny (model prog w) A (setPop a) Q E s := by
 obtain ⟨o,es,ep,t,ho,hxs,hd,I,hbt,El⟩ := S.obj
 have hes : es.size = l.length := by rw [<- Array.length_toList]; exact El.length
 have hpos : 0 < l.length := List.length_pos_iff.mpr hne
 obtain ⟨i₀,hpp,hi₀⟩ := popPlace_ok I (by intro e; have := congrArg List.length e; rw [List.length_map,El.length] at this; simp at this; exact hne this)
 have hi₀ : i₀ < l.length := by simpa [El.length] using hi₀
 have fin : ∀ (i : Nat) (d : Drawn),i < l.length -> wpAny (model prog w) A (match es[i]? with
   | some (_,x) => do storeSet a (SetTable.eraseAt es i) (t.popped i); pure (some x)
   | _ => unsupported "internal:set.pop") Q E { s with drawn := d } := by
  intro i d hi
  obtain ⟨v,hv,hpt⟩ := El.at (List.getElem?_eq_getElem hi)
  have hv' : es[i]? = some (ptHash l[i],v) := by rw [<- Array.getElem?_toList]; exact hv
  rw [hv']
  dsimp only
  have herz : (SetTable.eraseAt es i).toList = es.toList.eraseIdx i := Tab.toList_eraseAt es i
  have hsz : (SetTable.eraseAt es i).size <= sizeLine := by
   rw [<- Array.length_toList,herz]
   have h0 := List.length_eraseIdx_le es.toList i
   have h1 := S.length_le
   have h2 : sizeLine = 2 ^ 24 := rfl
   have h3 : (2 : Nat) ^ 24 = 16777216 := by decide
   have h4 := El.length
   omega
  refine wpAny_bind (wpAny_storeSet_of (s := { s with drawn := d }) ho hd ?_ hsz)
  refine wpAny_pure (h i l[i] v _ d (List.getElem?_eq_getElem hi) (Heap.SameBut.update ..) ?_ ?_)
  ·obtain ⟨I',hmk,hfl,hl',hpl'⟩ := Tab.drop_inv I (i := i) (by simpa [El.length] using hi)
   refine pset_store ho hxs hd ?_ ?_ ?_ ?_
   ·rw [herz]
    have : (es.toList.eraseIdx i).map (·.1) = (es.toList.map (·.1)).eraseIdx i := by
     rw [List.eraseIdx_eq_take_drop_succ,List.eraseIdx_eq_take_drop_succ,List.map_append,List.map_take,List.map_drop]
    rw [this]
    exact ⟨⟨⟨I'.sp,I'.sd,I'.bp,I'.bd,I'.dj⟩,I'.size,I'.mask,I'.nodup,I'.reach⟩,I'.room⟩
   ·intro q
    have := hbt q
    exact ⟨hl'.trans this.1,hpl'.trans this.2⟩
   ·rw [herz]; exact els_erase El i
   ·exact λ q hq => S.box q (List.mem_of_mem_eraseIdx hq)
  ·exact hpt.keep (sameBut_tuples (Heap.SameBut.update ..) ho (exact_notTuple hxs))
 unfold setPop
 refine wpAny_bind (wpAny_setState_of ho hd (inv_fits I) ?_)
 dsimp only
 rw [hpp]
 refine wpAny_bind (wp_setsByText ?_)
 cases hbt' : w.params.followText "set-order" with
 | true =>
  rw [Bool.true_or,if_pos rfl]
  refine wpAny_bind (wpAny_choose (by omega) λ i d hi => ?_)
  exact fin i d (by omega)
 | false =>
  obtain ⟨hl,hp⟩ := hbt hbt'
  have : (!t.plain && decide (es.size > 1)) = false := by rw [hp]; rfl
  show wpAny _ _ (if (false || (!t.plain && decide (es.size > 1))) = true then _ else _) _ _ _
  rw [this,Bool.false_or,if_neg (by decide)]
  refine wpAny_bind ?_
  show wpAny _ _ (if (!t.led && decide (es.size > 1)) = true then _ else _) _ _ _
  rw [hl]
  refine wp_neg (by simp) ?_
  refine wpAny_pure ?_
  refine wpAny_bind (wpAny_pure ?_)
  exact fin i₀ s.drawn hi₀
end
end
section
theorem cons_eraseIdx_perm {α : Type} (l : List α) (i : Nat) (h : i < l.length) : (([l[i]] : List α) ++ l.eraseIdx i).Perm l := by
 have e : l = l.take i ++ l[i] :: l.drop (i + 1) := by
  rw [<- List.drop_eq_getElem_cons h,List.take_append_drop]
 rw [List.eraseIdx_eq_take_drop_succ]
 refine List.Perm.trans ?_ (List.Perm.of_eq e.symm)
 show (l[i] :: (l.take i ++ l.drop (i + 1))).Perm _
 exact List.perm_middle.symm
theorem pickOrder_step {α : Type} {next : Nat -> Nat} {f k : Nat} {l : List α} {out : Array α} : pickOrder.go next (f + 1) k l out = pickOrder.go.match_1 (λ _ => Array α) (l[next k % l.length]?) (λ x => pickOrder.go next f (k + 1) (l.eraseIdx (next k % l.length)) (out.push x)) (λ _ => out) := rfl
theorem pickOrder_go {α : Type} (next : Nat -> Nat) (fuel : Nat) : ∀ (k : Nat) (left : List α) (out : Array α),left.length <= fuel -> (pickOrder.go next fuel k left out).toList.Perm (out.toList ++ left) := by
 induction fuel with
 | zero =>
  intro k left out h
  cases List.length_eq_zero_iff.mp (Nat.le_zero.mp h)
  exact .of_eq (List.append_nil _).symm
 | succ fuel ih =>
  intro k left out h
  rw [pickOrder_step]
  cases left with
  | nil => exact .of_eq (List.append_nil _).symm
  | cons y ys =>
   have hlt : next k % (y :: ys).length < (y :: ys).length := Nat.mod_lt _ (by simp)
   rw [List.getElem?_eq_getElem hlt]
   refine (ih (k + 1) _ _ (by rw [List.length_eraseIdx,if_pos hlt]; exact Nat.le_of_succ_le_succ h)).trans ?_
   rw [Array.toList_push,List.append_assoc]
   refine List.Perm.append_left _ ?_
   exact cons_eraseIdx_perm _ _ hlt
theorem pickOrder_perm {α : Type} (next : Nat -> Nat) (xs : Array α) : (pickOrder next xs).toList.Perm xs.toList := by
 have := pickOrder_go next xs.size 0 xs.toList #[] (by simp)
 simpa [pickOrder] using this
section
variable {prog : Program} {w : World} {A : Around} {E : Value -> Shared -> Prop} {s : Shared} {a b : Addr} {l m : List Pt} {p : Pt} {x : Value}
variable {o : Obj} {es : Array (Int × Value)} {ep : Nat} {t : SetTable}
theorem wp_setWalk {Q : Array (Int × Value) -> Shared -> Prop} (ho : s.heap.get? a = some o) (hd : o.data = .set es ep t) (I : Tab.Inv t (es.toList.map (·.1)))
  (hbt : w.params.followText "set-order" = false -> t.led = true /\ t.plain = true) (h : ∀ es' : Array (Int × Value),es'.toList.Perm es.toList -> Q es' s) : wpAny (model prog w) A (setWalk a) Q E s := by
 unfold setWalk
 refine wpAny_bind (wpAny_setState_of ho hd (inv_fits I) ?_)
 dsimp only
 refine wpAny_bind (wp_setsByText ?_)
 cases hb : w.params.followText "set-order" with
 | true =>
  refine wp_pos rfl ?_
  refine wpAny_bind (wpAny_askSetting (wpAny_pure (h _ (pickOrder_perm _ _))))
 | false =>
  obtain ⟨hl,hp⟩ := hbt hb
  refine wp_neg (by decide) ?_
  show wpAny _ _ (if (!t.plain && decide (es.size > 1)) = true then _ else _) _ _ _
  rw [hp]
  refine wp_neg (by simp) ?_
  refine wpAny_bind ?_
  show wpAny _ _ (if (!t.led && decide (es.size > 1)) = true then _ else _) _ _ _
  rw [hl,if_neg (by simp)]
  exact wpAny_pure (wpAny_pure (h _ (List.Perm.refl _)))
theorem wp_setWalkUnseen {others : List Addr} {filled : Option Addr} {Q : Array (Int × Value) -> Shared -> Prop} (ho : s.heap.get? a = some o) (hd : o.data = .set es ep t) (I : Tab.Inv t (es.toList.map (·.1)))
  (hbt : w.params.followText "set-order" = false -> t.led = true /\ t.plain = true) (h : ∀ es' : Array (Int × Value),es'.toList.Perm es.toList -> Q es' s) : wpAny (model prog w) A (setWalkUnseen a others filled) Q E s := by
 unfold setWalkUnseen
 refine wpAny_bind (wpAny_setState_of ho hd (inv_fits I) ?_)
 dsimp only
 refine wpAny_bind (wp_setsByText ?_)
 have : (w.params.followText "set-order" || t.led && t.plain || decide (es.size <= 1)) = true := by
  cases hb : w.params.followText "set-order" with
  | true => rfl
  | false => obtain ⟨hl,hp⟩ := hbt hb; rw [hl,hp]; rfl
 refine wp_pos this ?_
 exact wp_setWalk ho hd I hbt h
theorem Els.cons {h : Heap} {esl : List (Int × Value)} (hp : IsPt h p x) (El : Els h l esl) : Els h (p :: l) ((ptHash p,x) :: esl) := by
 refine ⟨by simp [El.hash],λ i q e h1 h2 => ?_⟩
 cases i with
 | zero => simp at h1 h2; subst h1 h2; exact hp
 | succ i => simp at h1 h2; exact El.pts i q e h1 h2
theorem Els.cons_inv {h : Heap} {e : Int × Value} {esl : List (Int × Value)} (El : Els h l (e :: esl)) : ∃ p l',l = p :: l' /\ e = (ptHash p,e.2) /\ IsPt h p e.2 /\ Els h l' esl := by
 cases l with
 | nil => have := El.hash; simp at this
 | cons p l' =>
  have h1 := El.hash
  simp at h1
  refine ⟨p,l',rfl,by rw [<- h1.1],El.pts 0 p e rfl rfl,h1.2,λ i q e' h2 h3 => El.pts (i + 1) q e' (by simpa using h2) (by simpa using h3)⟩
theorem Els.nil_inv {h : Heap} (El : Els h l []) : l = [] := by
 have := El.hash
 cases l with
 | nil => rfl
 | cons => simp at this
theorem els_perm {h : Heap} {es' esl : List (Int × Value)} (hp : esl.Perm es') : ∀ {l : List Pt},Els h l esl -> ∃ l',l'.Perm l /\ Els h l' es' := by
 induction hp with
 | nil => intro l El; exact ⟨l,.refl _,El⟩
 | cons e _ ih =>
  intro l El
  obtain ⟨p,l',rfl,he,hpt,El'⟩ := El.cons_inv
  obtain ⟨l2,h1,h2⟩ := ih El'
  exact ⟨p :: l2,h1.cons _,he ▸ Els.cons hpt h2⟩
 | swap e1 e2 r =>
  intro l El
  obtain ⟨p,l',rfl,he,hpt,El'⟩ := El.cons_inv
  obtain ⟨q,l2,rfl,he2,hpt2,El2⟩ := El'.cons_inv
  exact ⟨q :: p :: l2,List.Perm.swap _ _ _,he2 ▸ Els.cons hpt2 (he ▸ Els.cons hpt El2)⟩
 | trans _ _ ih1 ih2 =>
  intro l El
  obtain ⟨l1,h1,E1⟩ := ih1 El
  obtain ⟨l2,h2,E2⟩ := ih2 E1
  exact ⟨l2,h2.trans h1,E2⟩
theorem wp_setRoomFor {more : Nat} {Q : Unit -> Shared -> Prop} (ho : s.heap.get? a = some o) (hx : o.ExactSet) (hd : o.data = .set es ep t) (I : Tab.Inv t (es.toList.map (·.1)))
  (hbt : w.params.followText "set-order" = false -> t.led = true /\ t.plain = true) (El : Els s.heap l es.toList) (hbox : ∀ q ∈ l,InBox q) (hm : more <= 25) (hl : l.length <= 25)
  (h : ∀ h' l' es' ep' t',Heap.SameBut a s.heap h' -> l'.Perm l -> h'.get? a = some { o with data := .set es' ep' t' } -> Tab.Inv t' (es'.toList.map (·.1)) -> Els h' l' es'.toList ->
   (w.params.followText "set-order" = false -> t'.led = true /\ t'.plain = true) -> (t'.fill + more) * 5 < t'.mask * 3 -> Q () { s with heap := h' }) : wpAny (model prog w) A (setRoomFor a more) Q E s := by
 unfold setRoomFor
 refine wpAny_bind (wpAny_setState_of ho hd (inv_fits I) ?_)
 dsimp only
 have hes : es.size = l.length := by rw [<- Array.length_toList]; exact El.length
 have hpl : t.place.size = es.size := by have := I.size; simpa using this
 unfold SetTable.roomFor
 by_cases hc : (t.fill + more) * 5 >= t.mask * 3
 ·rw [if_pos hc]
  dsimp only
  have hw : (t.place.size + more) * 2 < 128 := by omega
  have hsa := (Tab.sizeAbove_ok ((t.place.size + more) * 2) hw).2
  have hmore : 0 < t.place.size + more := by
   rcases Nat.eq_zero_or_pos (t.place.size + more) with q | q
   ·exfalso
    have hr := I.room
    have : more = 0 := by omega
    subst this
    omega
   ·exact q
  refine wp_setRelay ho hx hd (inv_fits I) I.nodup El hw (Nat.lt_of_le_of_lt (Nat.mul_le_mul_right 5 (by rw [<- hpl]; exact Nat.le_add_right _ _)) (room2 hsa hmore)) hbt hbox ?_
  intro h' l' es' t' hsb hp hget I' El' hled hplain hmask hfill P'
  exact h h' l' es' (ep + 1) t' hsb hp hget I' El' (λ q => ⟨hled.trans (hbt q).1,hplain.trans (hbt q).2⟩) (by rw [hmask,hfill,<- hpl]; exact room2 hsa hmore)
 ·rw [if_neg hc]
  dsimp only
  refine wpAny_pure ?_
  refine h s.heap l es ep t (Heap.SameBut.refl ..) (.refl _) ?_ I El hbt (Nat.lt_of_not_le hc)
  rw [ho,<- hd]
end
end
section
section
variable {prog : Program} {w : World} {A : Around} {E : Value -> Shared -> Prop} {s : Shared} {a b : Addr} {l m : List Pt} {p : Pt} {x : Value}
variable {o : Obj} {es : Array (Int × Value)} {ep : Nat} {t : SetTable}
theorem inv_table {t t' : SetTable} {hs : List Int} (I : Tab.Inv t hs) (h1 : t'.place = t.place) (h2 : t'.dummies = t.dummies) (h3 : t'.mask = t.mask) : Tab.Inv t' hs := by
 have hsl : ∀ j,t'.slot j = t.slot j := λ j => by unfold SetTable.slot; rw [h1,h2]
 refine ⟨⟨⟨h1 ▸ I.sp,h2 ▸ I.sd,?_,?_,?_⟩,by rw [h1]; exact I.size,by rw [h3]; exact I.mask,I.nodup,?_⟩,by unfold SetTable.fill; rw [h1,h2,h3]; exact I.room⟩
 ·rw [h1,h3]; exact I.bp
 ·rw [h2,h3]; exact I.bd
 ·rw [h1,h2]; exact I.dj
 ·intro i j h hi hh
  rw [h1] at hi
  exact Tab.Reached.mono h3 (λ x hx => by rw [hsl]; exact hx) (I.reach i j h hi hh)
theorem le_sizeLine {n : Nat} (h : n <= 1000) : n <= sizeLine := by
 have h2 : sizeLine = 2 ^ 24 := rfl
 have h3 : (2 : Nat) ^ 24 = 16777216 := by decide
 omega
theorem sameBut_get {h h' : Heap} {c : Addr} (hs : Heap.SameBut a h h') (hne : c ≠ a) : h'.get? c = h.get? c := hs.2 c hne
theorem merge_tail {each : Sem Unit} {o2 : Obj} {es2 : Array (Int × Value)} {t2 : SetTable} {ep2 : Nat} {R : ForInStep PUnit -> Shared -> Prop} (hb2 : s.heap.get? b = some o2) (hd2 : o2.data = .set es2 ep2 t2) (I2 : Tab.Inv t2 (es2.toList.map (·.1)))
  (heach : ∀ R : Unit -> Shared -> Prop,R () s -> wpAny (model prog w) A each R E s) (hR : R (.yield ⟨⟩) s) :
  wpAny (model prog w) A (do each; let __x <- setState b; if (__x.2.1 != ep2) = true then do unsupported "set.changed-during-merge"; pure (.yield ⟨⟩) else pure (ForInStep.yield PUnit.unit)) R E s :=
 wpAny_bind (heach _ (wpAny_bind (wpAny_setState_of hb2 hd2 (inv_fits I2) (wp_neg (by simp) (wpAny_pure hR)))))
noncomputable def MergeI (w : World) (s : Shared) (a : Addr) (l m : List Pt) (rest : List (Int × Value)) (s' : Shared) : Prop :=
 ∃ h' l' m',s' = { s with heap := h' } /\ Heap.SameBut a s.heap h' /\ PSet w h' a l' /\ Els h' m' rest /\ (∀ q,q ∈ l' \/ q ∈ m' ↔ q ∈ l \/ q ∈ m) /\ (∀ q ∈ m',InBox q)
theorem or_shift {a b c : Prop} : (a \/ b) \/ c ↔ b \/ (a \/ c) :=
 ⟨λ h => h.elim (λ h => h.elim (λ h => .inr (.inl h)) .inl) λ h => .inr (.inr h),λ h => h.elim (λ h => .inl (.inr h)) λ h => h.elim (λ h => .inl (.inl h)) .inr⟩
theorem wp_setMerge {each : Sem Unit} {Q : Unit -> Shared -> Prop} (hu : A.units < cLine) (S : PSet w s.heap a l) (So : PSet w s.heap b m) (hab : a ≠ b)
  (heach : ∀ (s' : Shared) (R : Unit -> Shared -> Prop),s'.heap.get? b = s.heap.get? b -> R () s' -> wpAny (model prog w) A each R E s')
  (h : ∀ h' l',Heap.SameBut a s.heap h' -> (∀ q,q ∈ l' ↔ q ∈ l \/ q ∈ m) -> PSet w h' a l' -> Q () { s with heap := h' }) : wpAny (model prog w) A (setMerge a b each) Q E s := by
 obtain ⟨o,es,ep,t,ho,hxs,hd,I,hbt,El⟩ := S.obj
 obtain ⟨o2,es2,ep2,t2,ho2,hxs2,hd2,I2,hbt2,El2⟩ := So.obj
 have hm25 := So.length_le
 have hl25 := S.length_le
 have hes2 : es2.size = m.length := by rw [<- Array.length_toList]; exact El2.length
 unfold setMerge
 refine wp_neg (by simpa using hab) ?_
 refine wpAny_bind (wpAny_setState_of ho2 hd2 (inv_fits I2) ?_)
 dsimp only
 by_cases hemp : es2.isEmpty = true
 ·refine wp_pos hemp ?_
  have hm0 : m = [] := by
   have := Array.isEmpty_iff_size_eq_zero.mp hemp
   exact List.length_eq_zero_iff.mp (by omega)
  refine wpAny_pure (h s.heap l (Heap.SameBut.refl ..) (λ q => by simp [hm0]) S)
 ·refine wp_neg hemp ?_
  refine wpAny_bind (wp_setRoomFor ho hxs hd I hbt El S.box (by omega) hl25 ?_)
  intro h1 l1 es1 ep1 t1 hsb1 hp1 hget1 I1 El1 hbt1 hroom1
  have hb1 : h1.get? b = some o2 := (sameBut_get hsb1 (Ne.symm hab)).trans ho2
  have hbox1 : ∀ q ∈ l1,InBox q := λ q hq => S.box q (hp1.mem_iff.mp hq)
  refine wpAny_bind (wpAny_setState_of (s := { s with heap := h1 }) hget1 rfl (inv_fits I1) ?_)
  dsimp only
  have hE2 : Els h1 m es2.toList := El2.keep (sameBut_tuples hsb1 ho (exact_notTuple hxs))
  unfold SetTable.road
  by_cases hfill : (t1.fill != 0) = true
  ·rw [if_pos hfill]
   dsimp only
   refine wpAny_bind (wp_setWalkUnseen (s := { s with heap := h1 }) hb1 hd2 I2 hbt2 λ es3 hp3 => ?_)
   obtain ⟨m3,hm3,El3⟩ := els_perm hp3.symm hE2
   have P1 : PSet w h1 a l1 := ⟨⟨_,es1,ep1,t1,hget1,hxs,rfl,I1,hbt1,El1⟩,hbox1⟩
   refine wpAny_bind ?_
   rw [<- Array.forIn_toList]
   refine wpAny_forIn_list (s := { s with heap := h1 }) _ (λ rest _ s' => MergeI w s a l m rest s') _ ?_ ?_ es3.toList _
    ⟨h1,l1,m3,rfl,hsb1,P1,El3,λ q => by rw [hp1.mem_iff,hm3.mem_iff],λ q hq => So.box q (hm3.mem_iff.mp hq)⟩
   ·rintro ⟨hh,v⟩ rest u s' ⟨h',l',m',rfl,hsb,P',El',hmem,hbx⟩
    obtain ⟨p,m'',rfl,he,hpt,El''⟩ := El'.cons_inv
    simp only [Prod.mk.injEq] at he
    obtain ⟨rfl,_⟩ := he
    have hpb : InBox p := hbx p (List.mem_cons.mpr (.inl rfl))
    have hbx' : ∀ q ∈ m'',InBox q := λ q hq => hbx q (List.mem_cons.mpr (.inr hq))
    refine wpAny_bind (wpAny_holding (wp_setAddHashed (s := { s with heap := h' }) hu P' hpt hpb (Nat.lt_of_le_of_lt P'.length_le (by decide)) (λ hin => ?_) (λ hn h2 l2 hsb2 hp2 P2 => ?_)))
    ·have hb' : h'.get? b = some o2 := (sameBut_get hsb (Ne.symm hab)).trans ho2
     refine merge_tail (s := { s with heap := h' }) hb' hd2 I2 (heach _ · (hb'.trans ho2.symm)) ⟨h',l',m'',rfl,hsb,P',El'',λ q => ?_,hbx'⟩
     rw [<- hmem q,List.mem_cons]
     exact ⟨λ h => h.elim .inl λ h => .inr (.inr h),λ h => h.elim .inl λ h => h.elim (λ e => .inl (e ▸ hin)) .inr⟩
    ·have hb2 : h2.get? b = some o2 := (sameBut_get (hsb.trans hsb2) (Ne.symm hab)).trans ho2
     obtain ⟨oo,_,_,_,hoo,hxx,_⟩ := P'.obj
     refine merge_tail (s := { s with heap := h2 }) hb2 hd2 I2 (heach _ · (hb2.trans ho2.symm)) ⟨h2,l2,m'',rfl,hsb.trans hsb2,P2,El''.keep (sameBut_tuples hsb2 hoo (exact_notTuple hxx)),λ q => ?_,hbx'⟩
     rw [<- hmem q,hp2.mem_iff,List.mem_cons,List.mem_cons]
     exact or_shift
   ·rintro u s' ⟨h',l',m',rfl,hsb,P',El',hmem,hbx⟩
    have : m' = [] := El'.nil_inv
    subst this
    exact wpAny_pure (h h' l' hsb (λ q => by rw [<- hmem q]; simp) P')
  ·rw [if_neg hfill]
   have hf0 : t1.fill = 0 := by simpa using hfill
   have hl1 : l1 = [] := by
    have h1 := I1.size
    have h2 := El1.length
    unfold SetTable.fill at hf0
    rw [List.length_map,h2] at h1
    exact List.length_eq_zero_iff.mp (by omega)
   have hl0 : l = [] := by rw [hl1] at hp1; exact hp1.symm.eq_nil
   have hmem : ∀ q,q ∈ m ↔ q ∈ l \/ q ∈ m := λ q => by rw [hl0]; simp
   by_cases hmk : (t1.mask == t2.mask && t2.dummies.isEmpty) = true
   ·rw [if_pos hmk]
    dsimp only
    refine wpAny_storeSet_of (s := { s with heap := h1 }) hget1 rfl ?_ (le_sizeLine (by omega))
    refine h _ m (hsb1.trans (Heap.SameBut.update ..)) hmem ?_
    refine pset_store (s := { s with heap := h1 }) hget1 hxs rfl (inv_table I2 rfl rfl rfl) ?_ hE2 So.box
    intro q
    obtain ⟨q1,q2⟩ := hbt1 q
    obtain ⟨q3,q4⟩ := hbt2 q
    simp [q1,q2,q3,q4]
   ·rw [if_neg hmk]
    dsimp only
    obtain ⟨t',order,e,hp,hm,hl,hpl,hdm,hfl,I0⟩ := Tab.laid_ok t1.finger t1.moves (t1.led && t2.led) (t1.plain && t2.plain) (hashes := es2.map (·.1)) I1.mask (by simpa using I2.nodup) (by simp; omega)
    have hsz : (es2.map (·.1)).size = es2.size := by simp
    rw [hsz] at hp hfl
    obtain ⟨hsize,hmap,El',hpm⟩ := relaid hE2 hp
    rw [e]
    refine wpAny_bind ?_
    show wpAny _ _ (if ((order.filterMap (es2[·]?)).size != es2.size) = true then _ else _) _ _ _
    refine wp_neg (by rw [hsize]; simp) (wpAny_pure ?_)
    refine wpAny_storeSet_of (s := { s with heap := h1 }) hget1 rfl ?_ (le_sizeLine (by rw [hsize]; omega))
    refine h _ (order.toList.filterMap λ i => m[i]?) (hsb1.trans (Heap.SameBut.update ..)) (λ q => by rw [hpm.mem_iff]; exact hmem q) ?_
    refine pset_store (s := { s with heap := h1 }) hget1 hxs rfl (by rw [hmap]; exact ⟨I0,by rw [hfl,hm]; omega⟩) ?_ El' λ q hq => So.box q (hpm.mem_iff.mp hq)
    intro q
    obtain ⟨q1,q2⟩ := hbt1 q
    obtain ⟨q3,q4⟩ := hbt2 q
    rw [hl,hpl]
    simp [q1,q2,q3,q4]
end
end
open PySem.Calls
section
section
variable {prog : Program} {w : World} {A : Around} {E : Value -> Shared -> Prop} {s : Shared} {a b : Addr} {l m : List Pt} {p : Pt} {x : Value}
noncomputable abbrev emptySet (w : World) : Obj := { cls := .type "set",dict := none,data := .set #[] 0 (.fresh 0 0 (!w.params.followText "set-order")) }
theorem code_newSet {Q₁ : Value -> Shared -> Prop} (h : Q₁ (.ref s.heap.objs.size) { s with heap := s.heap.push (emptySet w) }) :
  codeAny (model prog w) A (.call (.builtin "set.__new__") ⟨[.type "set"],[]⟩) (wants Q₁ E) s := by
 refine codeAny_of_tree ?_
 show wpAny _ A.in1 (do checkBuiltinCall "set.__new__" ⟨[.type "set"],[]⟩; again (.builtin "set.__new__" ⟨[.type "set"],[]⟩)) _ _ s
 refine wpAny_bind (wpAny_of_eq F.newCall_set_0 (wpAny_pure ⟨plainId_quiet F.plain_set_new _,codeAny_builtin F.entry_set_new ?_⟩))
 rw [Around.under_plainId F.plain_set_new _]
 unfold Builtin.«set.__new__» Builtin.Frozenset.newClass
 have hsub := sub_set_self
 obtain ⟨hp,g,d,tk,os⟩ := s
 dsimp only
 wp_walk
 refine wpAny_askSetting (wpAny_pure ?_)
 dsimp only
 simp only [newObj]
 refine wpAny_bind (wpAny_alloc (wpAny_pure ?_))
 exact wpAny_pure h
set_option maxHeartbeats 1000000 in
theorem call_set_new {Q : Value -> Shared -> Prop} (h : PSet w (s.heap.push (emptySet w)) s.heap.objs.size [] -> Q (.ref s.heap.objs.size) { s with heap := s.heap.push (emptySet w) }) :
  wpAny (model prog w) A (call (.type "set") []) Q E s := by
 have hP : PSet w (s.heap.push (emptySet w)) s.heap.objs.size [] := by
  refine ⟨⟨_,#[],0,_,Heap.get?_push_size _ rfl,⟨rfl,rfl,rfl⟩,rfl,?_,?_,⟨rfl,λ i p e h1 => by simp at h1⟩⟩,λ p hp => by simp at hp⟩
  ·refine ⟨⟨⟨?_,?_,?_,?_,?_⟩,?_,?_,?_,?_⟩,?_⟩ <;> simp [SetTable.fresh,SetTable.fill]
   ·exact .inl rfl
  ·intro e; rw [e]; exact ⟨rfl,rfl⟩
 have h := h hP
 clear hP
 obtain ⟨c,tl,hmro⟩ := F.called_set.mro
 have hmade := F.called_set.made
 have hsub := F.called_set.sub
 refine wpAny_call (codeAny_of_tree ?_)
 show wpAny _ _ (callAny (.type "set") _) _ _ _
 refine wpAny_pure ⟨Code.quiet_builtin _ (by decide +kernel),codeAny_builtin F.entry_type_call ?_⟩
 rw [Around.under_plain (weight_type_call_type "set" [] []) rfl]
 have h1 := F.called_set.notType
 have h2 := F.called_set.canCreate
 have hct := F.typeCall_set_0
 repeat (any_goals (first | assumption | wp_step))
 refine codeAny_mono (code_newSet (E := E) (Q₁ := λ obj s₁ => obj = .ref s.heap.objs.size /\ s₁ = { s with heap := s.heap.push (emptySet w) }) ⟨rfl,rfl⟩) λ r s₁ hr => ?_
 cases r with
 | error e => exact hr
 | ok fl =>
  cases fl with
  | ret obj =>
   obtain ⟨rfl,rfl⟩ := hr
   have hS : (s.heap.push (emptySet w)).get? s.heap.objs.size = some (emptySet w) := Heap.get?_push_size _ rfl
   have hT : Shared.TypeIs { s with heap := s.heap.push (emptySet w) } (.ref s.heap.objs.size) "set" := ⟨_,hS,rfl⟩
   have hli := F.called_set.init.lookup
   have hbi := F.called_set.init.bind (.ref s.heap.objs.size)
   repeat (any_goals (first | assumption | wp_step))
   refine codeAny_mono (codeAny_call_builtin (R := wants (λ r s₂ => r = .none /\ Q (.ref s.heap.objs.size) s₂) E) F.called_set.init.plain F.entry_set_init (check_set_init hT ?_)) λ r₂ s₂ hr₂ => ?_
   ·unfold Builtin.«set.__init__» noKeywords
    wp_walk
    exact ⟨rfl,h⟩
   ·cases r₂ with
    | error e => exact hr₂
    | ok fl₂ =>
     cases fl₂ with
     | ret r =>
      obtain ⟨rfl,hq⟩ := hr₂
      repeat (any_goals (first | assumption | wp_step))
     | _ => exact hr₂.elim
  | _ => exact hr.elim
theorem in_set {Q : Value -> Shared -> Prop} (hu : A.units + 5 < cLine) (S : PSet w s.heap a l) (hx : IsPt s.heap p x) (hb : InBox p)
  (h : ∀ tk,Q (.bool (decide (p ∈ l))) { s with toks := tk }) : wpAny (model prog w) A (compareOp .In x (.ref a)) Q E s := by
 show wpAny _ _ (do return .bool (<- contains (.ref a) x)) Q E s
 refine wpAny_bind ?_
 unfold contains
 try with_reducible refine wpAny_holding ?_
 refine wpAny_bind (wpAny_specialOf S.typeIs F.slot_set_contains.lookup ?_)
 show wpAny _ _ (if (some (Value.builtin "set.__contains__") == some Value.none) = true then _ else _) _ E s
 rw [if_neg (by rw [beq_builtin_none]; exact Bool.false_ne_true)]
 refine wpAny_bind (wpAny_callSpecialUnlessNone?_slot (name := Str.ofString "__contains__") S.typeIs F.slot_set_contains
  (wpAny_call_entry F.slot_set_contains S.typeIs entry_set_contains ?_ (F.args_set_contains_2 _ _)))
 delta Builtin.«frozenset.__contains__»
 refine wpAny_bind (wpAny_of_eq (a := (a,x)) rfl ?_)
 refine wpAny_bind (m := Sem.tryCatch _ _) (wpAny_tryCatch ?_)
 refine wp_setContains (A := A.in1) (by show A.units + 1 < cLine; omega) S hx hb λ tk => ?_
 exact wpAny_pure ⟨_,rfl,wpAny_truthy_bool (wpAny_pure (h _))⟩
theorem method_set_add {pl : Sem Bool} {Q : Value × List Value -> Shared -> Prop} (S : PSet w s.heap a l) (h : Q (.builtin "set.add",[.ref a]) s) :
  wpAny (model prog w) A (getMethod (.ref a) "add" pl) Q E s :=
 getMethod_builtin S.typeIs F.plainAttrs_set F.slot_set_add F.type_set_add S.noDict h
theorem call_set_add' {Q : Value -> Shared -> Prop} (hu : A.units + 5 < cLine) (S : PSet w s.heap a l) (hx : IsPt s.heap p x) (hb : InBox p)
  (h1 : p ∈ l -> ∀ tk,Q .none { s with toks := tk })
  (h2 : p ∉ l -> ∀ h' l' tk,Heap.SameBut a s.heap h' -> l'.Perm (p :: l) -> PSet w h' a l' -> Q .none { s with heap := h',toks := tk }) :
  wpAny (model prog w) A (call (.builtin "set.add") [.ref a,x]) Q E s := by
 refine wpAny_call_entry F.slot_set_add S.typeIs F.entry_set_add ?_ (F.args_set_add_2 _ _)
 delta Builtin.«set.add»
 refine wpAny_bind (wpAny_of_eq (a := (a,x)) rfl ?_)
 refine wpAny_bind (m := setAdd a x) ?_
 refine wp_setAdd (A := A.in1) (by show A.units + 1 < cLine; omega) S hx hb (by have := S.length_le; omega) (λ h tk => ?_) (λ h h' l' tk a1 a2 a3 => ?_)
 ·exact wpAny_pure ⟨_,rfl,h1 h tk⟩
 ·exact wpAny_pure ⟨_,rfl,h2 h h' l' tk a1 a2 a3⟩
end
end
section
section
variable {prog : Program} {w : World} {A : Around} {E : Value -> Shared -> Prop} {s : Shared} {a b : Addr} {l m : List Pt} {p : Pt} {x : Value}
theorem method_set_pop {pl : Sem Bool} {Q : Value × List Value -> Shared -> Prop} (S : PSet w s.heap a l) (h : Q (.builtin "set.pop",[.ref a]) s) :
  wpAny (model prog w) A (getMethod (.ref a) "pop" pl) Q E s :=
 getMethod_builtin S.typeIs F.plainAttrs_set F.slot_set_pop F.type_set_pop S.noDict h
theorem method_set_update {pl : Sem Bool} {Q : Value × List Value -> Shared -> Prop} (S : PSet w s.heap a l) (h : Q (.builtin "set.update",[.ref a]) s) :
  wpAny (model prog w) A (getMethod (.ref a) "update" pl) Q E s :=
 getMethod_builtin S.typeIs F.plainAttrs_set F.slot_set_update F.type_set_update S.noDict h
theorem call_set_pop' {Q : Value -> Shared -> Prop} (S : PSet w s.heap a l) (hne : l ≠ [])
  (h : ∀ (i : Nat) (p : Pt) (v : Value) (h' : Heap) (d : Drawn),l[i]? = some p -> Heap.SameBut a s.heap h' -> PSet w h' a (l.eraseIdx i) -> IsPt h' p v -> Q v { s with heap := h',drawn := d }) :
  wpAny (model prog w) A (call (.builtin "set.pop") [.ref a]) Q E s := by
 refine wpAny_call_entry F.slot_set_pop S.typeIs F.entry_set_pop ?_ (F.args_set_pop_1 _)
 delta Builtin.«set.pop»
 refine wpAny_bind (wpAny_of_eq (a := a) rfl ?_)
 refine wpAny_bind (wp_setPop S hne λ i p v h' d h1 h2 h3 h4 => ?_)
 exact wpAny_pure ⟨_,rfl,h i p v h' d h1 h2 h3 h4⟩
theorem call_set_update' {Q : Value -> Shared -> Prop} (hu : A.units + 5 < cLine) (S : PSet w s.heap a l) (So : PSet w s.heap b m) (hab : a ≠ b)
  (h : ∀ h' l',Heap.SameBut a s.heap h' -> (∀ q,q ∈ l' ↔ q ∈ l \/ q ∈ m) -> PSet w h' a l' -> Q .none { s with heap := h' }) :
  wpAny (model prog w) A (call (.builtin "set.update") [.ref a,.ref b]) Q E s := by
 refine wpAny_call_entry F.slot_set_update S.typeIs F.entry_set_update ?_ (F.args_set_update_2 _ _)
 delta Builtin.«set.update»
 refine wpAny_bind (wpAny_of_eq (a := (a,[.ref b])) rfl ?_)
 dsimp only
 refine wpAny_bind ?_
 rw [List.forIn_cons]
 refine wpAny_bind (wpAny_bind ?_)
 unfold Builtin.Frozenset.updateFrom Builtin.Frozenset.isAnySet
 refine wpAny_bind (wpAny_bind (wpAny_isInstance So.typeIs sub_set_self ?_))
 refine wpAny_pure ?_
 rw [if_pos rfl]
 unfold Builtin.Frozenset.addrOf
 refine wpAny_bind (wpAny_pure ?_)
 unfold Builtin.Frozenset.merge
 obtain ⟨o2,es2,ep2,t2,ho2,hxs2,hd2,I2,hbt2,El2⟩ := id So.obj
 have hep : ∀ (s' : Shared) (R : Nat -> Shared -> Prop),s'.heap.get? b = s.heap.get? b -> R ep2 s' -> wpAny (model prog w) A.in1 (setEpoch b) R E s' := λ s' R e r => by
  unfold setEpoch
  exact wpAny_bind (wpAny_setState_of (e.trans ho2) hd2 (inv_fits I2) (wpAny_pure r))
 refine wpAny_bind (hep s _ rfl ?_)
 refine wp_setMerge (A := A.in1) (by show A.units + 1 < cLine; omega) S So hab (λ s' R e r => ?_) λ h' l' h1 h2 h3 => ?_
 ·unfold Builtin.Frozenset.unchanged
  refine wpAny_bind (hep s' _ e ?_)
  refine wp_neg (by simp) ?_
  exact wpAny_pure r
 ·refine wpAny_pure ?_
  dsimp only
  rw [List.forIn_nil]
  exact wpAny_pure (wpAny_pure ⟨_,rfl,h h' l' h1 h2 h3⟩)
end
end
section
namespace SF
theorem slot_next : Slot "set_iterator" "__next__" "set_iterator.__next__" :=
 .of (owner := "set_iterator") (n := "__next__") (by rw [typeLookup_type,builtinLookup_eq_fast]; kernel_rfl) (by decide +kernel) (by decide +kernel) (by decide +kernel)
  (by first | exact .inl (by decide +kernel) | exact .inr (by decide +kernel)) (by rw [isSubtype_type]; kernel_rfl)
theorem entry_next : entryFor table "set_iterator.__next__" = some Builtin.«set_iterator.__next__» := entryFor_of_tree (by kernel_rfl)
theorem args_next (a : Value) : argsOk "set_iterator.__next__" ⟨[a],[]⟩ := by unfold argsOk; kernel_rfl
theorem entry_iter : entryFor table "set.__iter__" = some Builtin.«frozenset.__iter__» :=
 entryFor_alias (id' := "frozenset.__iter__") (by kernel_rfl) rfl (by decide +kernel) (by kernel_rfl)
end SF
noncomputable def walkOf (w : World) (a : Addr) (es : Array (Int × Value)) (ep : Nat) : Array (Int × Value) := if w.params.followText "set-order" then pickOrder (w.params.setOrder a ep) es else es
theorem walkOf_perm (w : World) (a : Addr) (es : Array (Int × Value)) (ep : Nat) : (walkOf w a es ep).toList.Perm es.toList := by
 unfold walkOf
 split
 ·exact pickOrder_perm _ _
 ·exact List.Perm.refl _
noncomputable def slotAt (w : World) (t : SetTable) (i : Nat) : Nat := if w.params.followText "set-order" then 0 else if i = 0 then 0 else t.place.getD (i - 1) 0 + 1
noncomputable abbrev setIterObj (slot i : Nat) (a : Addr) (n ep : Nat) : Obj := { cls := .type "set_iterator",data := .fields #[rawInt slot,rawInt i,.ref a,rawInt n,rawInt ep] }
section
variable {prog : Program} {w : World} {A : Around} {E : Value -> Shared -> Prop} {s : Shared} {a it : Addr} {l m : List Pt} {p : Pt} {x : Value}
variable {o : Obj} {es : Array (Int × Value)} {ep : Nat} {t : SetTable}
theorem wp_pyIter_set {Q : Value -> Shared -> Prop} (ho : s.heap.get? a = some o) (hx : o.ExactSet) (hd : o.data = .set es ep t) (I : Tab.Inv t (es.toList.map (·.1)))
  (hbt : w.params.followText "set-order" = false -> t.led = true /\ t.plain = true)
  (h : Q (.ref s.heap.objs.size) { s with heap := s.heap.push (setIterObj 0 0 a es.size ep) }) : wpAny (model prog w) A (pyIter (.ref a)) Q E s := by
 have hT : s.TypeIs (.ref a) "set" := ⟨o,ho,hx.1⟩
 have hf := inv_fits I
 refine wpAny_pyIter_slot hT F.slot_set_iter (wpAny_call_entry F.slot_set_iter hT SF.entry_iter ?_ (F.args_set_iter_1 _))
 delta Builtin.«frozenset.__iter__»
 refine wpAny_bind (wpAny_of_eq (a := a) rfl ?_)
 unfold Builtin.Frozenset.sizeOf
 refine wpAny_bind (wpAny_bind (wpAny_setEntries_of ho hd hf (wpAny_pure ?_)))
 unfold setDrawn
 refine wpAny_bind (wpAny_bind (wpAny_setState_of ho hd hf ?_))
 refine wpAny_bind (wp_setsByText (wpAny_pure ?_))
 have e0 : (!w.params.followText "set-order" && (!t.plain && decide (es.size > 1))) = false := by
  cases hb : w.params.followText "set-order" with
  | true => rfl
  | false => rw [(hbt hb).2]; rfl
 show wpAny _ _ (if (!w.params.followText "set-order" && (!t.plain && decide (es.size > 1))) = true then _ else _) _ _ _
 rw [e0,if_neg (by decide)]
 refine wpAny_bind ?_
 refine wpAny_pure ?_
 unfold setEpoch
 refine wpAny_bind (wpAny_bind (wpAny_setState_of ho hd hf (wpAny_pure ?_)))
 exact wpAny_bind (wpAny_newObj_type (wpAny_pure ⟨_,rfl, "set_iterator",_,⟨_,Heap.get?_push_size _ rfl,rfl⟩,SF.slot_next.lookup,h⟩))
theorem below_next (I : Tab.Inv t (es.toList.map (·.1))) {i : Nat} (hi : i <= es.size) : SetTable.below t.place (if i = 0 then 0 else t.place.getD (i - 1) 0 + 1) = i := by
 have hsz : t.place.size = es.size := by rw [I.size]; simp
 have hs := I.sp
 rw [<- hsz] at hi
 obtain ⟨h1,h2,h3⟩ := Tab.below_spec hs (if i = 0 then 0 else t.place.getD (i - 1) 0 + 1)
 cases i with
 | zero =>
  rw [if_pos rfl] at h1 h2 ⊢
  exact Nat.eq_zero_of_not_pos λ hp => Nat.not_lt_zero _ (h2 0 (Nat.lt_of_lt_of_le hp h1) hp)
 | succ k =>
  rw [if_neg (Nat.succ_ne_zero k),show t.place.getD (k + 1 - 1) 0 = t.place[k] from dif_pos hi] at h1 h2 h3 ⊢
  exact Nat.le_antisymm (Nat.le_of_not_lt λ hlt => absurd (List.pairwise_iff_getElem.mp hs k (k + 1) hi (Nat.lt_of_lt_of_le hlt h1) (Nat.lt_succ_self k)) (Nat.not_lt.mpr (Nat.le_of_lt_succ (h2 (k + 1) (Nat.lt_of_lt_of_le hlt h1) hlt)))) (Nat.le_of_not_lt λ hlt => Nat.not_succ_le_self _ (h3 k hi (Nat.le_of_lt_succ hlt)))
theorem wp_pyNext_set_item {i : Nat} {x : Int × Value} {Q : Option Value -> Shared -> Prop} (hit : s.heap.get? it = some (setIterObj (slotAt w t i) i a es.size ep)) (ho : s.heap.get? a = some o) (hx : o.ExactSet) (hd : o.data = .set es ep t) (I : Tab.Inv t (es.toList.map (·.1)))
  (hbt : w.params.followText "set-order" = false -> t.led = true /\ t.plain = true) (he : (walkOf w a es ep)[i]? = some x)
  (h : ∀ h',h'.get? it = some (setIterObj (slotAt w t (i + 1)) (i + 1) a es.size ep) -> Heap.SameBut it s.heap h' -> Q (some x.2) { s with heap := h' }) : wpAny (model prog w) A (pyNext (.ref it)) Q E s := by
 have hT : s.TypeIs (.ref it) "set_iterator" := ⟨_,hit,rfl⟩
 have hf := inv_fits I
 unfold pyNext
 refine wpAny_bind (wpAny_attempt (wpAny_callSpecial?_slot (name := Str.ofString "__next__") hT SF.slot_next
  (wpAny_call_entry SF.slot_next hT SF.entry_next ?_ (SF.args_next _))))
 delta Builtin.«set_iterator.__next__»
 refine wpAny_bind (wpAny_of_eq (a := (.ref it,[])) rfl ?_)
 dsimp only
 refine wpAny_bind (wpAny_fieldsOf hit rfl ?_)
 show wpAny _ _ (setEntries a >>= _) _ _ _
 refine wpAny_bind (wpAny_setEntries_of ho hd hf ?_)
 rw [if_neg (by simp)]
 show wpAny _ _ (setNext a (slotAt w t i : Int).toNat (i : Int).toNat (ep : Int).toNat >>= _) _ _ _
 refine wpAny_bind (m := setNext a (slotAt w t i) i ep) ?_
 have key : wpAny (model prog w) A.in1 (setNext a (slotAt w t i) i ep) (λ r s' => r = some (x.2,slotAt w t (i + 1)) /\ s' = s) (λ _ _ => False) s := by
  unfold setNext
  refine wpAny_bind (wpAny_setState_of ho hd hf ?_)
  refine wpAny_bind (wp_setsByText ?_)
  cases hb : w.params.followText "set-order" with
  | true =>
   rw [if_pos rfl]
   dsimp only
   rw [if_neg (by simp)]
   unfold setWalk
   refine wpAny_bind (wpAny_bind (wpAny_setState_of ho hd hf ?_))
   refine wpAny_bind (wp_setsByText ?_)
   rw [hb,if_pos rfl]
   refine wpAny_bind (wpAny_askSetting (wpAny_pure (wpAny_pure ?_)))
   have hw : walkOf w a es ep = pickOrder (w.params.setOrder a ep) es := by unfold walkOf; rw [hb]; rfl
   rw [hw] at he
   refine ⟨?_,rfl⟩
   show Option.map _ ((pickOrder (w.params.setOrder a ep) es)[i]?) = _
   rw [he]
   simp [slotAt,hb]
  | false =>
   obtain ⟨hl,hp⟩ := hbt hb
   rw [if_neg (by decide)]
   show wpAny _ _ (if (!t.plain && decide (es.size > 1)) = true then _ else _) _ _ _
   rw [hp,if_neg (by simp)]
   refine wpAny_bind ?_
   show wpAny _ _ (if (!t.led && !es.isEmpty) = true then _ else _) _ _ _
   rw [hl,if_neg (by simp)]
   refine wpAny_pure (wpAny_pure ?_)
   have hw : walkOf w a es ep = es := by unfold walkOf; rw [hb]; rfl
   rw [hw] at he
   have hlt : i < es.size := (Array.getElem?_eq_some_iff.mp he).1
   have hsz : t.place.size = es.size := by rw [I.size]; simp
   have hbel := below_next I (i := i) (by omega)
   have hsl : slotAt w t i = if i = 0 then 0 else t.place.getD (i - 1) 0 + 1 := by unfold slotAt; rw [hb]; rfl
   refine ⟨?_,rfl⟩
   rw [hsl,hbel,he,Array.getElem?_eq_getElem (by omega : i < t.place.size)]
   simp [slotAt,hb,Array.getD,(by omega : i < t.place.size)]
 refine wpAny_mono key (λ r s' hr => ?_) λ _ _ e => e.elim
 obtain ⟨rfl,rfl⟩ := hr
 dsimp only
 refine wpAny_bind (wpAny_setField hit rfl (by simp) ?_)
 refine wpAny_bind (wpAny_setField (Heap.get?_update_self _ hit rfl) rfl (by simp) (wpAny_pure ⟨x.2,rfl,wpAny_pure (h _ ?_ ((Heap.SameBut.update ..).trans (Heap.SameBut.update ..)))⟩))
 refine (Heap.get?_update_self _ (Heap.get?_update_self _ hit rfl) rfl).trans ?_
 rfl
theorem wp_pyNext_set_end {i : Nat} {Q : Option Value -> Shared -> Prop} (hh : A.handled = none) (hit : s.heap.get? it = some (setIterObj (slotAt w t i) i a es.size ep)) (ho : s.heap.get? a = some o) (hx : o.ExactSet) (hd : o.data = .set es ep t) (I : Tab.Inv t (es.toList.map (·.1)))
  (hbt : w.params.followText "set-order" = false -> t.led = true /\ t.plain = true) (hi : i = es.size)
  (h : ∀ h',Heap.ExtBut it s.heap h' -> Q none { s with heap := h' }) : wpAny (model prog w) A (pyNext (.ref it)) Q E s := by
 have hT : s.TypeIs (.ref it) "set_iterator" := ⟨_,hit,rfl⟩
 have hf := inv_fits I
 unfold pyNext
 refine wpAny_bind (wpAny_attempt (wpAny_callSpecial?_slot (name := Str.ofString "__next__") hT SF.slot_next
  (wpAny_call_entry SF.slot_next hT SF.entry_next ?_ (SF.args_next _))))
 delta Builtin.«set_iterator.__next__»
 refine wpAny_bind (wpAny_of_eq (a := (.ref it,[])) rfl ?_)
 dsimp only
 refine wpAny_bind (wpAny_fieldsOf hit rfl ?_)
 show wpAny _ _ (setEntries a >>= _) _ _ _
 refine wpAny_bind (wpAny_setEntries_of ho hd hf ?_)
 rw [if_neg (by simp)]
 show wpAny _ _ (setNext a (slotAt w t i : Int).toNat (i : Int).toNat (ep : Int).toNat >>= _) _ _ _
 simp only [Int.toNat_natCast]
 refine wpAny_bind ?_
 have key : wpAny (model prog w) A.in1 (setNext a (slotAt w t i) i ep) (λ r s' => r = none /\ s' = s) (λ _ _ => False) s := by
  unfold setNext
  refine wpAny_bind (wpAny_setState_of ho hd hf ?_)
  refine wpAny_bind (wp_setsByText ?_)
  cases hb : w.params.followText "set-order" with
  | true =>
   rw [if_pos rfl]
   dsimp only
   rw [if_neg (by simp)]
   unfold setWalk
   refine wpAny_bind (wpAny_bind (wpAny_setState_of ho hd hf ?_))
   refine wpAny_bind (wp_setsByText ?_)
   rw [hb,if_pos rfl]
   refine wpAny_bind (wpAny_askSetting (wpAny_pure (wpAny_pure ?_)))
   refine ⟨?_,rfl⟩
   have hp := (pickOrder_perm (w.params.setOrder a ep) es).length_eq
   simp only [Array.length_toList] at hp
   show Option.map _ ((pickOrder (w.params.setOrder a ep) es)[i]?) = _
   rw [Array.getElem?_eq_none (by omega)]
   rfl
  | false =>
   obtain ⟨hl,hp⟩ := hbt hb
   rw [if_neg (by decide)]
   show wpAny _ _ (if (!t.plain && decide (es.size > 1)) = true then _ else _) _ _ _
   rw [hp,if_neg (by simp)]
   refine wpAny_bind ?_
   show wpAny _ _ (if (!t.led && !es.isEmpty) = true then _ else _) _ _ _
   rw [hl,if_neg (by simp)]
   refine wpAny_pure (wpAny_pure ?_)
   have hbel := below_next I (i := i) (by omega)
   have hsl : slotAt w t i = if i = 0 then 0 else t.place.getD (i - 1) 0 + 1 := by unfold slotAt; rw [hb]; rfl
   refine ⟨?_,rfl⟩
   rw [hsl,hbel,Array.getElem?_eq_none (by omega : es.size <= i)]
 refine wpAny_mono key (λ r s' hr => ?_) λ _ _ e => e.elim
 obtain ⟨rfl,rfl⟩ := hr
 dsimp only
 refine wpAny_bind (wpAny_setField hit rfl (by simp) ?_)
 show wpAny _ _ (newExc (.type "StopIteration") [] >>= _) _ _ _
 refine wpAny_bind ?_
 simp only [newExc,newTuple]
 refine wpAny_bind (wpAny_newObj_type ?_ (by size_fits))
 refine wpAny_bind (m := firstArgMember _ _) (wpAny_of_eq (a := Value.none) (by first | rfl | (simp only [firstArgMember]; rfl)) ?_)
 refine wpAny_newObj_type ?_ (by size_fits)
 delta raiseNew
 dsimp only
 refine wpAny_bind (wpAny_handled ?_)
 rw [show A.in1.handled = none from hh]
 refine wpAny_bind (wpAny_pure (wpAny_throw ?_))
 refine wpAny_bind (wpAny_isInstance (T := "StopIteration") (b := true) ⟨_,Heap.get?_push_size _ rfl,rfl⟩ isSubtype_stop ?_)
 exact wpAny_pure (h _ (((Heap.SameBut.update ..).extBut.push _).push _))
end
end
section
noncomputable def Ctx2 (o : Obj) : Prop := ∃ vs,o.data = .fields vs /\ vs[2]? = some .none
noncomputable def C2 (h : Heap) (e : Addr) : Prop := ∃ o,h.get? e = some o /\ Ctx2 o
noncomputable def Kp2 (f : Obj -> Obj) : Prop := ∀ o,Ctx2 o -> Ctx2 (f o)
inductive K2 {α : Type} : Sem α -> Prop
 | pure (a : α) : K2 (.pure a)
 | raise (e : Value) : K2 (.raise e)
 | unsupported (w : String) : K2 (.unsupported w)
 | load (a : Addr) (p : Option Value) (k : Obj -> Sem α) (h : ∀ x,K2 (k x)) : K2 (.load a p k)
 | update (a : Addr) (p : Option Value) (f : Obj -> Obj) (k : Unit -> Sem α) (hf : Kp2 f) (h : ∀ x,K2 (k x)) : K2 (.update a p f k)
 | alloc (o : Obj) (k : Addr -> Sem α) (h : ∀ x,K2 (k x)) : K2 (.alloc o k)
 | stack (k : List (Code × Pos) -> Sem α) (h : ∀ x,K2 (k x)) : K2 (.stack k)
theorem C2.update {h : Heap} {e a : Addr} {f : Obj -> Obj} (hc : C2 h e) (hf : Kp2 f) : C2 (h.update a f) e := by
 obtain ⟨o,ho,hx⟩ := hc
 by_cases q : a = e
 ·subst q
  obtain ⟨vs,hd,h2⟩ := hf o hx
  exact ⟨f o,Heap.get?_update_self f ho (Obj.isFreed_of_fields hd),vs,hd,h2⟩
 ·exact ⟨o,(Heap.get?_update_other h f q).trans ho,hx⟩
theorem K2.wp {α : Type} {t : Sem α} (h : K2 t) {M : Model} {Γ : Ctx} {Q : α -> Pos -> Shared -> Prop} {E : Value -> Pos -> Shared -> Prop} {e : Addr} : ∀ {p : Pos} {s : Shared},Sem.wp M Γ t Q E p s -> C2 s.heap e -> Sem.wp M Γ t (λ a p s => Q a p s /\ C2 s.heap e) (λ v p s => E v p s /\ C2 s.heap e) p s := by
 induction h with
 | pure a => exact λ h c => ⟨h,c⟩
 | raise v => exact λ h c => ⟨h,c⟩
 | unsupported w => exact λ h c => h
 | load a p k h ih => exact λ ⟨o,ho,h⟩ c => ⟨o,ho,ih o h c⟩
 | update a p f k hf h ih => exact λ ⟨ho,h⟩ c => ⟨ho,ih () h (c.update hf)⟩
 | alloc o k h ih => exact λ h c => ih _ h (let ⟨x,hx,y⟩ := c; ⟨x,Heap.get?_push_of_some _ hx,y⟩)
 | stack k h ih => exact λ h c => ih _ h c
theorem K2.keep {α : Type} {t : Sem α} (h : K2 t) {M : Model} {A : Around} {Q : α -> Shared -> Prop} {E : Value -> Shared -> Prop} {e : Addr} {s : Shared} (hw : wpAny M A t Q E s) (c : C2 s.heap e) : wpAny M A t (λ a s => Q a s /\ C2 s.heap e) (λ v s => E v s /\ C2 s.heap e) s :=
 λ Γ p hΓ => h.wp (hw Γ p hΓ) c
theorem K2.bind {α β : Type} {m : Sem α} {f : α -> Sem β} (h : K2 m) (hf : ∀ a,K2 (f a)) : K2 (m >>= f) := by
 show K2 (m.bind f)
 induction h with
 | pure a => exact hf a
 | raise v => exact .raise v
 | unsupported w => exact .unsupported w
 | load a p k h ih => exact .load a p _ ih
 | update a p g k hg h ih => exact .update a p g _ hg ih
 | alloc o k h ih => exact .alloc o _ ih
 | stack k h ih => exact .stack _ ih
theorem K2.ite {α : Type} {c : Prop} [Decidable c] {a b : Sem α} (h : K2 a) (h' : K2 b) : K2 (if c then a else b) := by
 split
 ·exact h
 ·exact h'
theorem K2.ret {α : Type} (a : α) : K2 (Pure.pure a : Sem α) := .pure a
theorem K2.no {α : Type} (w : String) : K2 (PySem.unsupported w : Sem α) := .unsupported w
theorem K2.ld (a : Addr) : K2 (PySem.load a) := .load a _ _ λ o => .pure o
theorem K2.fieldsOf (v : Value) : K2 (PySem.fieldsOf v) := by
 unfold PySem.fieldsOf
 cases v with
 | ref a =>
  refine K2.bind (K2.ld a) λ o => ?_
  cases o.data <;> first | exact K2.ret _ | exact K2.no _
 | _ => exact K2.no _
theorem K2.field (v : Value) (i : Nat) : K2 (PySem.field v i) := by
 refine K2.bind (K2.fieldsOf v) λ vs => ?_
 cases vs[i]? <;> first | exact K2.ret _ | exact K2.no _
theorem kp_set {i : Nat} {v : Value} (h : i ≠ 2) : Kp2 (Obj.mapFields (·.setIfInBounds i v)) := λ o ⟨vs,hd,h2⟩ =>
 ⟨_,Obj.data_mapFields hd _,(Array.getElem?_setIfInBounds_ne h).trans h2⟩
theorem K2.setField (v : Value) {i : Nat} (x : Value) (h : i ≠ 2) : K2 (PySem.setField v i x) := by
 cases v with
 | ref a =>
  show K2 (updateField a i x)
  refine K2.bind (K2.ld a) λ o => ?_
  cases o.data with
  | fields vs => exact K2.ite (.update a _ _ _ (kp_set h) λ u => .pure u) (K2.no _)
  | _ => exact K2.no _
 | _ => exact K2.no _
theorem K2.setFlight (e : Value) (f : Option Addr) : K2 (PySem.setFlight e f) :=
 K2.bind (K2.field e 1) λ tb => K2.ite (K2.setField _ _ (by decide)) (K2.ret _)
theorem K2.behind (env : Env) (outer : List Env) : K2 (behindIsImport env outer) := by
 unfold behindIsImport
 refine K2.ite (K2.ret _) (K2.ite (K2.ret _) (K2.bind (K2.field _ _) λ _ => K2.ret _))
theorem K2.stk : K2 PySem.stack := .stack _ λ x => .pure x
theorem K2.back (env : Env) (i : Bool) (outer : List Env) : K2 (keptBack env i outer) := by
 cases outer with
 | nil => exact K2.ite (K2.ret _) (K2.bind (K2.bind K2.stk λ _ => K2.ret _) λ _ => K2.ret _)
 | cons a l => exact K2.ret _
theorem K2.ready : ∀ l : List Env,K2 (readyFrames l)
 | [] => K2.ret _
 | env :: outer => by
  unfold readyFrames
  cases env.frame with
  | none => exact K2.no _
  | some f =>
   refine K2.bind (K2.ld f) λ o => K2.ite (K2.ret _) (K2.bind (K2.behind env outer) λ i => K2.bind (K2.back env i outer) λ b => K2.bind (.update f _ _ _ (λ o h => h) λ u => .pure u) λ _ => K2.ready outer)
theorem K2.frameOf (env : Env) : K2 (PySem.frameOf env) := by
 refine K2.bind (K2.bind K2.stk λ _ => K2.ret _) λ l => K2.bind ?_ λ o => ?_
 ·cases (l.dropWhile λ x => x.frame != env.frame) with
  | nil => exact K2.ret _
  | cons a r => exact K2.bind (K2.ready _) λ _ => K2.ret _
 ·cases o with
  | none => exact K2.no _
  | some f => exact K2.ret _
theorem K2.place (f : Addr) (b : Bool) : K2 (entryPlaceOf f b) := by
 refine K2.bind K2.stk λ acts => ?_
 cases acts.find? (λ x => x.1.env?.bind (·.frame) == some f) <;> exact K2.ret _
theorem K2.objAsIs (t : String) (d : Data) : K2 (newObjAsIs (.type t) d) := .alloc _ _ λ a => .pure _
theorem K2.newFields (t : String) (vs : List Value) : K2 (newFields t vs) := by
 unfold PySem.newFields newObj
 dsimp only
 refine K2.ite ?_ (K2.objAsIs _ _)
 exact K2.bind (K2.no _) λ _ => K2.objAsIs _ _
theorem K2.note (e : Value) (env : Env) : K2 (noteFrame e env) := by
 unfold noteFrame
 cases env.frame with
 | none => exact K2.no _
 | some f =>
  refine K2.bind (K2.field e 1) λ head => ?_
  have last : K2 (do PySem.setField e 1 (<- EntryCells.newEntry head (<- PySem.frameOf env) .none (rawInt f) .none (<- entryPlaceOf f (head != .none)))) :=
   K2.bind (K2.frameOf env) λ _ => K2.bind (K2.place _ _) λ _ => K2.bind (K2.newFields _ _) λ _ => K2.setField _ _ (by decide)
  refine K2.ite (K2.bind (K2.field head 3) λ x => K2.ite (K2.ret _) (K2.bind (K2.setField _ _ (by decide)) λ _ => last)) last
theorem K2.leaving (e : Value) (env : Env) : K2 (PySem.leaving env e) := K2.bind (K2.note e env) λ _ => K2.setFlight e none
theorem entry_unchain : entryFor table "proto.unchain" = some Builtin.«proto.unchain» := entryFor_of_fast (by kernel_rfl)
noncomputable def HdC (h : Heap) (A : Around) : Prop := ∀ v,A.handled = some v -> ∃ b,v = .ref b /\ C2 h b
section
variable {prog : Program} {w : World} {A : Around} {E : Value -> Shared -> Prop} {s : Shared}
theorem HdC.keep {h h' : Heap} (x : HdC h A) (k : ∀ b o,h.get? b = some o -> h'.get? b = some o) : HdC h' A := λ v e => let ⟨b,r,o,ho,c⟩ := x v e; ⟨b,r,o,k b o ho,c⟩
theorem raiseC {α : Type} {Q : α -> Shared -> Prop} {a : Addr} {o : Obj} {vs : Array Value} (hx : HdC s.heap A) (ha : ∀ b,C2 s.heap b -> A.handled = some (.ref b) -> b ≠ a) (ho : s.heap.get? a = some o) (hd : o.data = .fields vs) (hz : 2 < vs.size)
  (hE : ∀ h' o',Heap.SameBut a s.heap h' -> h'.get? a = some o' -> o'.cls = o.cls -> E (.ref a) { s with heap := h' }) : wpAny (model prog w) A (raiseNew (.ref a) : Sem α) Q E s := by
 unfold raiseNew
 refine wpAny_bind (wpAny_handled ?_)
 cases e : A.handled with
 | none => exact wpAny_bind (wpAny_pure (wpAny_throw (hE s.heap o (Heap.SameBut.refl ..) ho rfl)))
 | some v =>
  obtain ⟨b,rfl,hc⟩ := hx v e
  have hne := ha b hc e
  obtain ⟨ob,hob,us,hdb,h2⟩ := hc
  dsimp only
  rw [if_pos (show (Value.ref b != Value.ref a) = true by rw [bne_iff_ne]; intro q; cases q; exact hne rfl)]
  refine wpAny_bind (wpAny_holding (wpAny_runValue (codeAny_builtin entry_unchain ?_)))
  show wpAny _ _ (PySem.field (.ref b) 2 >>= _) _ _ s
  refine wpAny_bind (wpAny_field hob hdb h2 ?_)
  rw [if_pos (by decide)]
  refine wpAny_bind (wpAny_pure (wpAny_pure ?_))
  have ho := ho
  show wpAny _ _ (PySem.setField (.ref a) 2 (.ref b) >>= _) _ _ s
  refine wpAny_bind (wpAny_setField ho hd hz ?_)
  exact wpAny_throw (hE _ _ (Heap.SameBut.update ..) (Heap.get?_update_self _ ho (Obj.isFreed_of_fields (Obj.data_mapFields hd _))) (Obj.cls_mapFields ..))
theorem stopC {α : Type} {Q : α -> Shared -> Prop} (hx : HdC s.heap A)
  (hE : ∀ h' a o,(∀ b o,s.heap.get? b = some o -> h'.get? b = some o) -> h'.get? a = some o -> o.cls = .type "StopIteration" -> E (.ref a) { s with heap := h' }) :
  wpAny (model prog w) A (newExc (.type "StopIteration") [] >>= λ e => (raiseNew e : Sem α)) Q E s := by
 refine wpAny_bind ?_
 simp only [newExc,newTuple]
 refine wpAny_bind (wpAny_newObj_type ?_ (by size_fits))
 refine wpAny_bind (m := firstArgMember _ _) (wpAny_of_eq (a := Value.none) (by first | rfl | (simp only [firstArgMember]; rfl)) ?_)
 refine wpAny_newObj_type ?_ (by size_fits)
 generalize hh1 : s.heap.push _ = h1
 have k1 : ∀ b o,s.heap.get? b = some o -> h1.get? b = some o := λ b o e => hh1 ▸ Heap.get?_push_of_some _ e
 refine raiseC (s := { s with heap := h1.push _ }) (hx.keep λ b o e => Heap.get?_push_of_some _ (k1 b o e)) (λ b hb he q => ?_) (Heap.get?_push_size _ rfl) rfl (by simp; omega) λ h' o' sb ho' hc => hE h' _ o' (λ b o e => (sb.2 b ?_).trans (Heap.get?_push_of_some _ (k1 b o e))) ho' hc
 ·obtain ⟨b',e',o,ho,_⟩ := hx _ he
  cases e'
  exact absurd (Heap.lt_size (k1 _ _ ho)) (by rw [q]; exact Nat.lt_irrefl _)
 ·exact Nat.ne_of_lt (Heap.lt_size (k1 b o e))
theorem list_end {it l : Addr} {i : Nat} {items} {Q : Option Value -> Shared -> Prop} (hx : HdC s.heap A)
  (hit : s.heap.IsListIter it l i) (hl : s.heap.IsList l items) (hi : items[i]? = none)
  (hQ : ∀ h',Heap.ExtBut it s.heap h' -> Q none { s with heap := h' }) : wpAny (model prog w) A (pyNext (.ref it)) Q E s := by
 obtain ⟨o,ho,hcl,hd⟩ := id hit
 obtain ⟨ol,hol,_,nl,hdl⟩ := hl
 unfold pyNext
 refine wpAny_bind (wpAny_attempt (wpAny_callSpecial?_slot (name := Str.ofString "__next__") hit.typeIs slot_listiter_next
  (wpAny_call_entry slot_listiter_next hit.typeIs entry_listiter_next ?_ (args_listiter_next _))))
 show wpAny _ _ (PySem.field (.ref it) 0 >>= _) _ _ s
 refine wpAny_bind (wpAny_field ho hd (x := .ref l) rfl ?_)
 show wpAny _ _ (if (Value.ref l == Value.none) = true then _ else _) _ _ s
 rw [if_neg (show ¬ ((Value.ref l == Value.none) = true) from Bool.false_ne_true)]
 show wpAny _ _ (PySem.field (.ref it) 1 >>= _) _ _ s
 refine wpAny_bind (wpAny_field ho hd (x := .int i 0) rfl ?_)
 show wpAny _ _ (seqItems? (.ref l) >>= _) _ _ s
 refine wpAny_bind (wpAny_seqItems hol hdl ?_)
 dsimp only
 rw [Int.toNat_natCast,hi]
 refine wpAny_bind (wpAny_rule (wpAny_bind (wpAny_setField ho hd (by simp) ?_)))
 have hk : ∀ b,C2 s.heap b -> C2 (s.heap.update it (Obj.mapFields λ x => x.setIfInBounds 0 Value.none)) b := λ b h => h.update (kp_set (by decide))
 refine stopC (s := { s with heap := _ }) (λ v e => let ⟨b,r,c⟩ := hx v e; ⟨b,r,hk b c⟩) λ h' a o' k ho' hcl' => ?_
 refine wpAny_bind (wpAny_isInstance (s := { s with heap := h' }) (T := "StopIteration") (b := true) ⟨_,ho',hcl'⟩ isSubtype_stop ?_)
 exact wpAny_pure (hQ _ λ b ob hb e => k b ob ((Heap.SameBut.update ..).extBut b ob hb e))
open PyProof.Rows in
theorem range_end {it : Addr} {x left step : Int} {Q : Option Value -> Shared -> Prop} (hx : HdC s.heap A) (hit : IsRangeIter s.heap it x left step) (hl : left <= 0)
  (hQ : ∀ h',Heap.ExtBut it s.heap h' -> Q none { s with heap := h' }) : wpAny (model prog w) A (pyNext (.ref it)) Q E s := by
 have hT : s.TypeIs (.ref it) "range_iterator" := ⟨_,hit,rfl⟩
 unfold pyNext
 refine wpAny_bind (wpAny_attempt (wpAny_callSpecial?_slot (name := Str.ofString "__next__") hT F.slot_range_iterator_next
  (wpAny_call_entry F.slot_range_iterator_next hT F.entry_range_iterator_next ?_ (F.args_range_iterator_next_1 _))))
 show wpAny _ _ (PySem.field (.ref it) 0 >>= _) _ _ s
 refine wpAny_bind (wpAny_field hit rfl (x := rawInt x) rfl ?_)
 show wpAny _ _ (PySem.field (.ref it) 1 >>= _) _ _ s
 refine wpAny_bind (wpAny_field hit rfl (x := rawInt left) rfl ?_)
 show wpAny _ _ (PySem.field (.ref it) 2 >>= _) _ _ s
 refine wpAny_bind (wpAny_field hit rfl (x := rawInt step) rfl ?_)
 show wpAny _ _ (if left <= 0 then _ else _) _ _ s
 rw [if_pos hl]
 refine wpAny_bind (wpAny_rule ?_)
 refine wpAny_bind ?_
 refine stopC hx λ h' a o' k ho' hcl' => ?_
 refine wpAny_bind (wpAny_isInstance (s := { s with heap := h' }) (T := "StopIteration") (b := true) ⟨_,ho',hcl'⟩ isSubtype_stop ?_)
 exact wpAny_pure (hQ _ λ b ob hb e => k b ob e)
open PyProof.Rows in
theorem tuple_end {it t : Addr} {i : Nat} {items} {Q : Option Value -> Shared -> Prop} (hx : HdC s.heap A)
  (hit : IsTupIter s.heap it t i) (ht : IsTup s.heap t items) (hi : items[i]? = none)
  (hQ : ∀ h',Heap.ExtBut it s.heap h' -> Q none { s with heap := h' }) : wpAny (model prog w) A (pyNext (.ref it)) Q E s := by
 obtain ⟨o,ho,hc,hd⟩ := id hit
 obtain ⟨ol,hol,_,nl,hdl⟩ := ht
 unfold pyNext
 refine wpAny_bind (wpAny_attempt (wpAny_callSpecial?_slot (name := Str.ofString "__next__") hit.typeIs slot_tupleiter_next
  (wpAny_call_entry slot_tupleiter_next hit.typeIs entry_tupleiter_next ?_ (args_tupleiter_next _))))
 show wpAny _ _ (PySem.field (.ref it) 0 >>= _) _ _ s
 refine wpAny_bind (wpAny_field ho hd (x := .ref t) rfl ?_)
 show wpAny _ _ (if (Value.ref t == Value.none) = true then _ else _) _ _ s
 rw [if_neg (show ¬ ((Value.ref t == Value.none) = true) from Bool.false_ne_true)]
 show wpAny _ _ (PySem.field (.ref it) 1 >>= _) _ _ s
 refine wpAny_bind (wpAny_field ho hd (x := .int i 0) rfl ?_)
 show wpAny _ _ (seqItems? (.ref t) >>= _) _ _ s
 refine wpAny_bind (wpAny_seqItems hol hdl ?_)
 dsimp only
 rw [Int.toNat_natCast,hi]
 refine wpAny_bind (wpAny_rule (wpAny_bind (wpAny_setField ho hd (by simp) ?_)))
 have hk : ∀ b,C2 s.heap b -> C2 (s.heap.update it (Obj.mapFields λ x => x.setIfInBounds 0 Value.none)) b := λ b h => h.update (kp_set (by decide))
 refine stopC (s := { s with heap := _ }) (λ v e => let ⟨b,r,c⟩ := hx v e; ⟨b,r,hk b c⟩) λ h' a o' k ho' hcl' => ?_
 refine wpAny_bind (wpAny_isInstance (s := { s with heap := h' }) (T := "StopIteration") (b := true) ⟨_,ho',hcl'⟩ isSubtype_stop ?_)
 exact wpAny_pure (hQ _ λ b ob hb e => k b ob ((Heap.SameBut.update ..).extBut b ob hb e))
open PyProof.Rows in
theorem assign_tup {env : Env} {elts : List Expr} {x1} {pos : Pos} {t : Addr} {items : Array Value} {Q : Unit -> Shared -> Prop} (hx : HdC s.heap A) (ht : IsTup s.heap t items)
  (hn : (assignEach elts env).length = items.size) (hstar : (assignEach elts env).findIdx? (·.1) = none)
  (h : ∀ h',Heap.ExtBut s.heap.objs.size s.heap h' -> wpAny (model prog w) A (assignInOrder ((assignEach elts env).map (·.2)) items.toList) Q E { s with heap := h' }) :
  wpAny (model prog w) A (assign (.Tuple elts x1 pos) env (.ref t)) Q E s := by
 rw [assign_Tuple]
 refine wpAny_bind (wpAny_standAt ?_)
 unfold unpack
 rw [hn,hstar]
 refine wpAny_bind (wpAny_holding ?_)
 have hlt : t ≠ s.heap.objs.size := by obtain ⟨o,ho,_⟩ := ht; exact Nat.ne_of_lt (Heap.lt_size ho)
 unfold unpackItems notIterableAtAll
 refine wpAny_bind (wpAny_bind (wpAny_specialOf ht.typeIs slot_tuple_iter.lookup ?_))
 refine wpAny_pure ?_
 simp only [Bool.false_eq_true,if_false]
 refine wpAny_bind (wpAny_holding (iter_tuple ht ?_))
 refine wpAny_bind (wpAny_holding (draw_tuple hlt items.size 0 _ _ ⟨_,Heap.get?_push_size _ rfl,rfl,rfl⟩ (ht.push _) (by omega) λ h₁ hit₁ hs₁ => ?_))
 have hall : List.take items.size (List.drop 0 items.toList) = items.toList := by
  rw [List.drop_zero]; exact List.take_of_length_le (by simp)
 rw [hall,if_neg (by simp)]
 have kp : ∀ b o,s.heap.get? b = some o -> h₁.get? b = some o := λ b o e => hs₁.extBut b o (Nat.ne_of_lt (Heap.lt_size e)) (Heap.get?_push_of_some _ e)
 refine wpAny_bind (wpAny_holding (tuple_end (s := { s with heap := h₁ }) (hx.keep kp) hit₁ ((ht.push _).extBut hs₁.extBut hlt) (by simp) λ h₂ he₂ => ?_))
 simp only [Option.isSome_none,Bool.false_eq_true,if_false]
 exact wpAny_pure (h h₂ λ b o hb e => he₂ b o hb (kp b o e))
theorem draw_list {it l : Addr} {items : Array Value} (hne : l ≠ it) (n : Nat) : ∀ (i : Nat) (s : Shared) (Q : List Value -> Shared -> Prop),s.heap.IsListIter it l i -> s.heap.IsList l items -> i + n <= items.size ->
  (∀ h',h'.IsListIter it l (i + n) -> Heap.SameBut it s.heap h' -> Q ((items.toList.drop i).take n) { s with heap := h' }) -> wpAny (model prog w) A (draw (.ref it) n) Q E s := by
 induction n with
 | zero => exact λ i s Q hit _ _ hQ => wpAny_pure (hQ s.heap hit (Heap.SameBut.refl ..))
 | succ n ih =>
  intro i s Q hit hl hle hQ
  have hlt : i < items.size := by omega
  show wpAny _ _ (pyNext (.ref it) >>= _) Q E s
  refine wpAny_bind (wpAny_pyNext_list_item hit hl (x := items[i]) (by simp [hlt]) λ h₁ hit₁ hs₁ => ?_)
  obtain ⟨o,ho,r⟩ := hl
  refine wpAny_bind (wpAny_holding (ih (i + 1) _ _ hit₁ ⟨o,(hs₁.2 l hne).trans ho,r⟩ (by omega) λ h₂ hit₂ hs₂ => wpAny_pure ?_))
  have := hQ h₂ (by rw [show i + (n + 1) = i + 1 + n by omega]; exact hit₂) (hs₁.trans hs₂)
  rw [List.drop_eq_getElem_cons (by simpa using hlt),List.take_succ_cons] at this
  exact this
open PyProof.Rows in
theorem assign_list {env : Env} {elts : List Expr} {x1} {pos : Pos} {t : Addr} {items : Array Value} {Q : Unit -> Shared -> Prop} (hx : HdC s.heap A) (ht : s.heap.IsList t items)
  (hn : (assignEach elts env).length = items.size) (hstar : (assignEach elts env).findIdx? (·.1) = none)
  (h : ∀ h',Heap.ExtBut s.heap.objs.size s.heap h' -> wpAny (model prog w) A (assignInOrder ((assignEach elts env).map (·.2)) items.toList) Q E { s with heap := h' }) :
  wpAny (model prog w) A (assign (.Tuple elts x1 pos) env (.ref t)) Q E s := by
 rw [assign_Tuple]
 refine wpAny_bind (wpAny_standAt ?_)
 unfold unpack
 rw [hn,hstar]
 refine wpAny_bind (wpAny_holding ?_)
 have hlt : t ≠ s.heap.objs.size := by obtain ⟨o,ho,_⟩ := ht; exact Nat.ne_of_lt (Heap.lt_size ho)
 unfold unpackItems notIterableAtAll
 refine wpAny_bind (wpAny_bind (wpAny_specialOf ht.typeIs slot_list_iter.lookup ?_))
 refine wpAny_pure ?_
 simp only [Bool.false_eq_true,if_false]
 refine wpAny_bind (wpAny_holding (wpAny_pyIter_list ht ?_))
 have ht' : (s.heap.push { cls := .type "list_iterator",data := .fields #[.ref t,.int 0 0] }).IsList t items := by obtain ⟨o,ho,r⟩ := ht; exact ⟨o,Heap.get?_push_of_some _ ho,r⟩
 refine wpAny_bind (wpAny_holding (draw_list hlt items.size 0 _ _ ⟨_,Heap.get?_push_size _ rfl,rfl,rfl⟩ ht' (by omega) λ h₁ hit₁ hs₁ => ?_))
 have hall : List.take items.size (List.drop 0 items.toList) = items.toList := by
  rw [List.drop_zero]; exact List.take_of_length_le (by simp)
 rw [hall,if_neg (by simp)]
 have kp : ∀ b o,s.heap.get? b = some o -> h₁.get? b = some o := λ b o e => hs₁.extBut b o (Nat.ne_of_lt (Heap.lt_size e)) (Heap.get?_push_of_some _ e)
 refine wpAny_bind (wpAny_holding (list_end (s := { s with heap := h₁ }) (hx.keep kp) hit₁ (by obtain ⟨o,ho,r⟩ := ht; exact ⟨o,kp _ _ ho,r⟩) (by simp) λ h₂ he₂ => ?_))
 simp only [Option.isSome_none,Bool.false_eq_true,if_false]
 exact wpAny_pure (h h₂ λ b o hb e => he₂ b o hb (kp b o e))
noncomputable def keysIt (d : Addr) (i n ep : Nat) : Data := .fields #[.ref d,.int i 0,.int n 0,.int ep 0]
theorem dict_iter {d : Addr} {o : Obj} {es : Array DictEntry} {ep : Nat} {Q : Value -> Shared -> Prop} (hd : (d == sysModules) = false) (ho : s.heap.get? d = some o) (hx : o.ExactDict) (hdat : o.data = .dict es ep)
  (hQ : Q (.ref s.heap.objs.size) { s with heap := s.heap.push { cls := .type "dict_keyiterator",data := keysIt d 0 es.size ep } }) :
  wpAny (model prog w) A (pyIter (.ref d)) Q E s := by
 have hT : s.TypeIs (.ref d) "dict" := ⟨o,ho,hx.1⟩
 refine wpAny_pyIter_slot hT F.slot_dict_iter (wpAny_call_entry F.slot_dict_iter hT F.entry_dict_iter ?_ (F.args_dict_iter_1 _))
 unfold Builtin.«dict.__iter__»
 refine wpAny_bind ?_
 unfold Builtin.Dict.dictSlotNone
 refine wpAny_bind (wpAny_notOrdered_dict hT ?_)
 show wpAny _ _ (pure (Value.ref d)) _ _ s
 refine wpAny_pure ?_
 show wpAny _ _ (Builtin.Dict.showsAll d >>= _) _ _ s
 unfold Builtin.Dict.showsAll
 rw [if_neg (by rw [hd]; exact Bool.false_ne_true)]
 refine wpAny_bind (wpAny_pure ?_)
 refine wpAny_bind (wpAny_dictEntries ho hdat ?_)
 refine wpAny_bind (wpAny_dictEpoch ho hdat ?_)
 exact wpAny_bind (wpAny_newObj_type (wpAny_pure ⟨_,rfl, "dict_keyiterator",_,⟨_,Heap.get?_push_size _ rfl,rfl⟩,F.slot_dict_keyiterator_next.lookup,hQ⟩))
theorem dict_item {it d : Addr} {i ep : Nat} {oi o : Obj} {es : Array DictEntry} {e : DictEntry} {Q : Option Value -> Shared -> Prop} (hi : s.heap.get? it = some oi) (hic : oi.cls = .type "dict_keyiterator") (hid : oi.data = keysIt d i es.size ep)
  (ho : s.heap.get? d = some o) (hx : o.ExactDict) (hdat : o.data = .dict es ep) (he : es[i]? = some e)
  (hQ : ∀ h' oi',h'.get? it = some oi' -> oi'.cls = .type "dict_keyiterator" -> oi'.data = keysIt d (i + 1) es.size ep -> Heap.SameBut it s.heap h' -> Q (some e.key) { s with heap := h' }) :
  wpAny (model prog w) A (pyNext (.ref it)) Q E s := by
 have hT : s.TypeIs (.ref it) "dict_keyiterator" := ⟨oi,hi,hic⟩
 unfold pyNext
 refine wpAny_bind (wpAny_attempt (wpAny_callSpecial?_slot (name := Str.ofString "__next__") hT F.slot_dict_keyiterator_next
  (wpAny_call_entry F.slot_dict_keyiterator_next hT F.entry_dict_keyiterator_next ?_ (F.args_dict_keyiterator_next_1 _))))
 refine wpAny_bind (wpAny_pure ?_)
 refine wpAny_bind ?_
 refine wpAny_bind ?_
 first | refine wpAny_bind (wpAny_typeNameOfWhole_keyiter hT (wpAny_pure ?_)) | refine wpAny_bind (wpAny_typeNameOf_keyiter hT (wpAny_pure ?_))
 refine wpAny_bind (wpAny_fieldsOf hi hid ?_)
 rw [show Builtin.Dict_items.ownsTuple "dict_keyiterator" = false by decide,if_neg Bool.false_ne_true]
 show wpAny _ _ (if (Value.ref d == Value.none) = true then _ else _) _ _ s
 rw [if_neg (show ¬ ((Value.ref d == Value.none) = true) from Bool.false_ne_true)]
 refine wpAny_bind (wpAny_pure ?_)
 refine wpAny_bind (wpAny_dictEntries ho hdat ?_)
 rw [if_neg (by simp)]
 refine wpAny_bind (wpAny_pure ?_)
 refine wpAny_bind (wpAny_dictEpoch ho hdat ?_)
 rw [if_neg (by simp)]
 refine wpAny_pure ?_
 dsimp only
 rw [if_neg (Int.not_lt.mpr (Int.natCast_nonneg i)),Int.toNat_natCast,he]
 refine wpAny_bind ?_
 first | refine wpAny_bind (wpAny_typeNameOfWhole_keyiter hT (wpAny_pure ?_)) | refine wpAny_bind (wpAny_typeNameOf_keyiter hT (wpAny_pure ?_))
 refine wpAny_bind (wpAny_isOneOf_keyiter hT ?_)
 show wpAny _ _ (PySem.setField (.ref it) 1 (rawInt ((i : Int) + 1)) >>= _) _ _ s
 refine wpAny_bind (wpAny_setField hi hid (by simp) ?_)
 have hi' := Heap.get?_update_self (Obj.mapFields (·.setIfInBounds 1 (rawInt ((i : Int) + 1)))) hi (Obj.isFreed_of_fields (Obj.data_mapFields hid _))
 have hc' : (Obj.mapFields (·.setIfInBounds 1 (rawInt ((i : Int) + 1))) oi).cls = .type "dict_keyiterator" := (Obj.cls_mapFields ..).trans hic
 refine wpAny_bind (wpAny_holding ?_)
 refine wpAny_bind (wpAny_isOneOf_keyiter (s := { s with heap := s.heap.update it (Obj.mapFields (·.setIfInBounds 1 (rawInt ((i : Int) + 1)))) }) ⟨_,hi',hc'⟩ ?_)
 show wpAny _ _ (pure e.key) _ _ _
 exact wpAny_pure (wpAny_pure ⟨_,rfl,wpAny_pure (hQ _ _ hi' hc' (by rw [Obj.data_mapFields hid]; simp [keysIt,rawInt]) (Heap.SameBut.update ..))⟩)
theorem dict_end {it d : Addr} {i ep : Nat} {oi o : Obj} {es : Array DictEntry} {Q : Option Value -> Shared -> Prop} (hx : HdC s.heap A) (hi : s.heap.get? it = some oi) (hic : oi.cls = .type "dict_keyiterator") (hid : oi.data = keysIt d i es.size ep)
  (ho : s.heap.get? d = some o) (hdat : o.data = .dict es ep) (he : es[i]? = none)
  (hQ : ∀ h',Heap.ExtBut it s.heap h' -> Q none { s with heap := h' }) : wpAny (model prog w) A (pyNext (.ref it)) Q E s := by
 have hT : s.TypeIs (.ref it) "dict_keyiterator" := ⟨oi,hi,hic⟩
 unfold pyNext
 refine wpAny_bind (wpAny_attempt (wpAny_callSpecial?_slot (name := Str.ofString "__next__") hT F.slot_dict_keyiterator_next
  (wpAny_call_entry F.slot_dict_keyiterator_next hT F.entry_dict_keyiterator_next ?_ (F.args_dict_keyiterator_next_1 _))))
 refine wpAny_bind (wpAny_pure ?_)
 refine wpAny_bind ?_
 refine wpAny_bind ?_
 first | refine wpAny_bind (wpAny_typeNameOfWhole_keyiter hT (wpAny_pure ?_)) | refine wpAny_bind (wpAny_typeNameOf_keyiter hT (wpAny_pure ?_))
 refine wpAny_bind (wpAny_fieldsOf hi hid ?_)
 rw [show Builtin.Dict_items.ownsTuple "dict_keyiterator" = false by decide,if_neg Bool.false_ne_true]
 show wpAny _ _ (if (Value.ref d == Value.none) = true then _ else _) _ _ s
 rw [if_neg (show ¬ ((Value.ref d == Value.none) = true) from Bool.false_ne_true)]
 refine wpAny_bind (wpAny_pure ?_)
 refine wpAny_bind (wpAny_dictEntries ho hdat ?_)
 rw [if_neg (by simp)]
 refine wpAny_bind (wpAny_pure ?_)
 refine wpAny_bind (wpAny_dictEpoch ho hdat ?_)
 rw [if_neg (by simp)]
 refine wpAny_pure ?_
 dsimp only
 rw [if_neg (Int.not_lt.mpr (Int.natCast_nonneg i)),Int.toNat_natCast,he]
 refine wpAny_bind ?_
 first | refine wpAny_bind (wpAny_typeNameOfWhole_keyiter hT (wpAny_pure ?_)) | refine wpAny_bind (wpAny_typeNameOf_keyiter hT (wpAny_pure ?_))
 show wpAny _ _ (PySem.setField (.ref it) 0 .none >>= _) _ _ s
 refine wpAny_bind (wpAny_setField hi hid (by simp) ?_)
 have hk : ∀ b,C2 s.heap b -> C2 (s.heap.update it (Obj.mapFields λ x => x.setIfInBounds 0 Value.none)) b := λ b h => h.update (kp_set (by decide))
 refine stopC (s := { s with heap := _ }) (λ v e => let ⟨b,r,c⟩ := hx v e; ⟨b,r,hk b c⟩) λ h' a o' k ho' hcl' => ?_
 refine wpAny_bind (wpAny_isInstance (s := { s with heap := h' }) (T := "StopIteration") (b := true) ⟨_,ho',hcl'⟩ isSubtype_stop ?_)
 exact wpAny_pure (hQ _ λ b ob hb e => k b ob ((Heap.SameBut.update ..).extBut b ob hb e))
end
end
section
inductive PV where
 | none
 | bool (b : Bool)
 | int (i : Int)
 | str (s : Str)
 | tup (l : List PV)
 | ref (a : Addr)
 | ty (n : String)
 | bi (id : String)
mutual
noncomputable def PR (h : Heap) : PV -> Value -> Prop
 | .none,v => v = .none
 | .bool b,v => v = .bool b
 | .int i,v => ∃ t,v = .int i t
 | .str x,v => ∃ t,v = .str x t
 | .tup l,v => ∃ a o vs n,v = .ref a /\ h.get? a = some o /\ o.cls = .type "tuple" /\ o.dict = Option.none /\ o.data = .seq vs n /\ PRs h l vs.toList
 | .ref a,v => v = .ref a
 | .ty n,v => v = .type n
 | .bi i,v => v = .builtin i
noncomputable def PRs (h : Heap) : List PV -> List Value -> Prop
 | [],vs => vs = []
 | p :: ps,vs => ∃ v r,vs = v :: r /\ PR h p v /\ PRs h ps r
end
theorem PR.int {h : Heap} {i : Int} {t : Tok} : PR h (.int i) (.int i t) := ⟨t,rfl⟩
theorem PR.str {h : Heap} {i : Str} {t : Tok} : PR h (.str i) (.str i t) := ⟨t,rfl⟩
theorem PR.none {h : Heap} : PR h .none .none := rfl
theorem PR.bool {h : Heap} {b : Bool} : PR h (.bool b) (.bool b) := rfl
theorem PR.ref {h : Heap} {a : Addr} : PR h (.ref a) (.ref a) := rfl
theorem PR.ty {h : Heap} {a : String} : PR h (.ty a) (.type a) := rfl
theorem PR.bi {h : Heap} {a : String} : PR h (.bi a) (.builtin a) := rfl
theorem PR.ty_inv {h : Heap} {a : String} {v : Value} (x : PR h (.ty a) v) : v = .type a := x
theorem PR.bi_inv {h : Heap} {a : String} {v : Value} (x : PR h (.bi a) v) : v = .builtin a := x
theorem PRs.nil {h : Heap} : PRs h [] [] := rfl
theorem PRs.cons {h : Heap} {p : PV} {v : Value} {ps : List PV} {vs : List Value} (a : PR h p v) (b : PRs h ps vs) : PRs h (p :: ps) (v :: vs) := ⟨v,vs,rfl,a,b⟩
theorem PR.int_inv {h : Heap} {i : Int} {v : Value} (x : PR h (.int i) v) : ∃ t,v = .int i t := x
theorem PR.str_inv {h : Heap} {i : Str} {v : Value} (x : PR h (.str i) v) : ∃ t,v = .str i t := x
theorem PR.none_inv {h : Heap} {v : Value} (x : PR h .none v) : v = .none := x
theorem PR.bool_inv {h : Heap} {b : Bool} {v : Value} (x : PR h (.bool b) v) : v = .bool b := x
theorem PR.ref_inv {h : Heap} {a : Addr} {v : Value} (x : PR h (.ref a) v) : v = .ref a := x
theorem PR.tup_inv {h : Heap} {l : List PV} {v : Value} (x : PR h (.tup l) v) : ∃ a o vs n,v = .ref a /\ h.get? a = some o /\ o.cls = .type "tuple" /\ o.dict = Option.none /\ o.data = .seq vs n /\ PRs h l vs.toList := x
theorem PRs.nil_inv {h : Heap} {vs : List Value} (x : PRs h [] vs) : vs = [] := x
theorem PRs.cons_inv {h : Heap} {p : PV} {ps : List PV} {vs : List Value} (x : PRs h (p :: ps) vs) : ∃ v r,vs = v :: r /\ PR h p v /\ PRs h ps r := x
theorem PRs.length {h : Heap} {ps : List PV} : ∀ {vs : List Value},PRs h ps vs -> ps.length = vs.length := by
 induction ps with
 | nil => intro vs x; rw [x.nil_inv]; rfl
 | cons p ps ih => intro vs x; obtain ⟨v,r,rfl,_,y⟩ := x.cons_inv; rw [List.length_cons,List.length_cons,ih y]
noncomputable def TupKeep (h h' : Heap) : Prop := ∀ b o,h.get? b = some o -> o.cls = .type "tuple" -> (∃ vs n,o.data = .seq vs n) -> h'.get? b = some o
theorem TupKeep.refl (h : Heap) : TupKeep h h := λ _ _ e _ _ => e
theorem TupKeep.trans {h₁ h₂ h₃ : Heap} (x : TupKeep h₁ h₂) (y : TupKeep h₂ h₃) : TupKeep h₁ h₃ := λ b o e c d => y b o (x b o e c d) c d
mutual
theorem PR.keep {h h' : Heap} (k : TupKeep h h') : ∀ (p : PV) {v : Value},PR h p v -> PR h' p v
 | .none,v,x => by rw [x.none_inv]; exact PR.none
 | .bool b,v,x => by rw [x.bool_inv]; exact PR.bool
 | .int i,v,x => by obtain ⟨t,rfl⟩ := x.int_inv; exact PR.int
 | .str i,v,x => by obtain ⟨t,rfl⟩ := x.str_inv; exact PR.str
 | .ref a,v,x => by rw [x.ref_inv]; exact PR.ref
 | .ty a,v,x => by rw [x.ty_inv]; exact PR.ty
 | .bi a,v,x => by rw [x.bi_inv]; exact PR.bi
 | .tup l,v,x => by
  obtain ⟨a,o,vs,n,rfl,ho,hc,hd,hs,hr⟩ := x.tup_inv
  exact ⟨a,_,vs,n,rfl,k a o ho hc ⟨_,_,hs⟩,hc,hd,hs,PRs.keep k l hr⟩
theorem PRs.keep {h h' : Heap} (k : TupKeep h h') : ∀ (p : List PV) {v : List Value},PRs h p v -> PRs h' p v
 | [],v,x => by rw [x.nil_inv]; exact PRs.nil
 | p :: ps,v,x => by obtain ⟨v,r,rfl,y,z⟩ := x.cons_inv; exact PRs.cons (PR.keep k p y) (PRs.keep k ps z)
end
theorem PRs.get {h : Heap} {ps : List PV} : ∀ {vs : List Value} (i : Nat) {p : PV},PRs h ps vs -> ps[i]? = some p -> ∃ v,vs[i]? = some v /\ PR h p v := by
 induction ps with
 | nil => intro vs i p x e; rw [List.getElem?_nil] at e; cases e
 | cons p ps ih =>
  intro vs i q x e
  obtain ⟨v,r,rfl,y,z⟩ := x.cons_inv
  cases i with
  | zero => cases e; exact ⟨v,rfl,y⟩
  | succ i => exact ih (vs := r) i z e
theorem PRs.append {h : Heap} {ps : List PV} {qs : List PV} {ws : List Value} : ∀ {vs : List Value},PRs h ps vs -> PRs h qs ws -> PRs h (ps ++ qs) (vs ++ ws) := by
 induction ps with
 | nil => intro vs x y; rw [x.nil_inv]; exact y
 | cons p ps ih => intro vs x y; obtain ⟨v,r,rfl,a,b⟩ := x.cons_inv; exact PRs.cons a (ih b y)
theorem PRs.set {h : Heap} {ps : List PV} {p : PV} {v : Value} : ∀ {vs : List Value} (i : Nat),PRs h ps vs -> PR h p v -> PRs h (ps.set i p) (vs.set i v) := by
 induction ps with
 | nil => intro vs i x y; rw [x.nil_inv,List.set_nil,List.set_nil]; exact PRs.nil
 | cons q ps ih =>
  intro vs i x y
  obtain ⟨w,r,rfl,a,b⟩ := x.cons_inv
  cases i with
  | zero => exact PRs.cons y b
  | succ i => exact PRs.cons a (ih i b y)
theorem PRs.replicate {h : Heap} {p : PV} {v : Value} (x : PR h p v) : ∀ n,PRs h (List.replicate n p) (List.replicate n v)
 | 0 => PRs.nil
 | n + 1 => PRs.cons x (PRs.replicate x n)
noncomputable def pt (p : Pt) : PV := .tup [.int p.1,.int p.2]
theorem isPt_of_PR {h : Heap} {p : Pt} {v : Value} (x : PR h (pt p) v) : IsPt h p v := by
 obtain ⟨a,o,vs,n,rfl,ho,hc,hd,hs,hr⟩ := x.tup_inv
 obtain ⟨v1,r1,e1,a1,b1⟩ := hr.cons_inv
 obtain ⟨v2,r2,e2,a2,b2⟩ := b1.cons_inv
 have := b2.nil_inv
 subst this
 obtain ⟨t,rfl⟩ := a1.int_inv
 obtain ⟨u,rfl⟩ := a2.int_inv
 subst e2
 refine ⟨a,o,n,t,u,rfl,ho,hc,hd,?_⟩
 rw [hs]; congr 1; apply Array.toList_inj.mp; rw [e1]
theorem PR_of_isPt {h : Heap} {p : Pt} {v : Value} (x : IsPt h p v) : PR h (pt p) v := by
 obtain ⟨a,o,n,t,u,rfl,ho,hc,hd,hs⟩ := x
 exact ⟨a,o,_,n,rfl,ho,hc,hd,hs,PRs.cons PR.int (PRs.cons PR.int PRs.nil)⟩
set_option genCtorIdx true in
inductive AO where
 | list (l : List PV)
 | pset (l : List Pt)
 | pdict (l : List (Pt × PV)) (pin : Option Obj := none)
 | inst (C d : Addr)
 | attrs (l : List (Str × PV))
 | range (a b : Int)
noncomputable abbrev AHeap := Addr -> Option AO
noncomputable def upd (H : AHeap) (a : Addr) (o : AO) : AHeap := λ b => if b = a then some o else H b
theorem upd_same {H : AHeap} {a : Addr} {o : AO} : upd H a o a = some o := by simp [upd]
theorem upd_ne {H : AHeap} {a b : Addr} {o : AO} (h : b ≠ a) : upd H a o b = H b := by simp [upd,h]
structure Cx where
 prog : Program
 w : World
 K : Frag
 h₀ : Heap
 os : OsState
 view : Program
 loose : List Str
 mg : Str -> Option Value
 mb : Str -> Option Value
 scA : Addr
 scL : List PV
noncomputable abbrev Cx.M (C : Cx) : Model := model C.prog C.w
structure Cx.Ok (C : Cx) : Prop where
 kin : C.K.In C.h₀
 top : TopRead C.view C.loose C.mg C.mb C.h₀
 sc : ∃ vs n,IsL C.h₀ C.scA vs n /\ PRs C.h₀ C.scL vs.toList
noncomputable def ptK (p : Pt) : List Int := [p.1,p.2]
noncomputable def DRel (h : Heap) : List (Pt × PV) -> List (List Int × Addr × Value) -> Prop
 | [],xs => xs = []
 | e :: l,xs => ∃ x r,xs = x :: r /\ x.1 = ptK e.1 /\ PR h (pt e.1) (.ref x.2.1) /\ PR h e.2 x.2.2 /\ DRel h l r
theorem DRel.keep {h h' : Heap} (k : TupKeep h h') {l : List (Pt × PV)} : ∀ {xs : List (List Int × Addr × Value)},DRel h l xs -> DRel h' l xs := by
 induction l with
 | nil => exact λ x => x
 | cons e l ih =>
  rintro xs ⟨x,r,a,b,c,d,y⟩
  exact ⟨x,r,a,b,PR.keep k _ c,PR.keep k _ d,ih y⟩
noncomputable def Stands (C : Cx) (h : Heap) (a : Addr) : AO -> Prop
 | .list l => ∃ vs n,IsL h a vs n /\ PRs h l vs.toList
 | .pset l => PSet C.w h a l
 | .pdict l pin => (∃ xs : List (List Int × Addr × Value),h.DictOfH (tupleKind (intKind C.prog C.w)) a xs /\ DRel h l xs) /\ ∀ o,pin = some o -> h.get? a = some o
 | .inst c d => ∃ o,h.get? a = some o /\ o.cls = .ref c /\ o.dict = some d /\ o.data = .plain /\ d ≠ a
 | .attrs l => ∃ mv,h.Ns1 a mv /\ (∀ x,l.lookup x = none -> mv x = none) /\ ∀ x p,l.lookup x = some p -> ∃ v,mv x = some v /\ PR h p v
 | .range x y => ∃ t u v,IsRange h a x y 1 t u v
theorem IsTupleKey.keepT {C : Cx} {h h' : Heap} (k : TupKeep h h') {ks : List Int} {a : Addr} (x : IsTupleKey (intKind C.prog C.w) h ks a) : IsTupleKey (intKind C.prog C.w) h' ks a := by
 obtain ⟨o,xs,n,ho,hc,hd,r⟩ := x
 exact ⟨o,xs,n,k a o ho hc ⟨_,_,hd⟩,hc,hd,r⟩
theorem Stands.keep {C : Cx} {h h' : Heap} {a : Addr} (k : TupKeep h h') (ha : ∀ o,h.get? a = some o -> h'.get? a = some o) (o : AO) (S : Stands C h a o) : Stands C h' a o := by
 cases o with
 | list l => obtain ⟨vs,n,il,r⟩ := S; exact ⟨vs,n,ha _ il,r.keep k⟩
 | pset l =>
  have S : PSet C.w h a l := S
  obtain ⟨o,_,_,_,ho,_⟩ := S.obj
  exact PSet.keep S ((ha o ho).trans ho.symm) λ b o e c d => ⟨o.slots,k b o e c d⟩
 | pdict l pin => obtain ⟨⟨xs,⟨o,es,ep,ho,hx,hd,he,hk,hn⟩,r⟩,hp⟩ := S; exact ⟨⟨xs,⟨o,es,ep,ha o ho,hx,hd,he,λ x hx => IsTupleKey.keepT k (hk x hx),hn⟩,DRel.keep k r⟩,λ o e => ha o (hp o e)⟩
 | inst c d => obtain ⟨o,ho,r⟩ := S; exact ⟨o,ha o ho,r⟩
 | attrs l => obtain ⟨mv,N,e,r⟩ := S; exact ⟨mv,N.at ha,e,λ x p e' => (r x p e').imp λ v q => ⟨q.1,q.2.keep k⟩⟩
 | range x y => obtain ⟨t,u,v,r⟩ := S; exact ⟨t,u,v,ha _ r⟩
noncomputable def NotTup (o : Obj) : Prop := o.cls = .type "tuple" -> ¬ ∃ vs n,o.data = .seq vs n
theorem NotTup.cls {o : Obj} (h : o.cls ≠ .type "tuple") : NotTup o := λ e => absurd e h
theorem NotTup.dict {o : Obj} {es ep} (h : o.data = .dict es ep) : NotTup o := λ _ ⟨vs,n,e⟩ => by rw [h] at e; cases e
theorem NotTup.cell {o : Obj} {v} (h : o.data = .cell v) : NotTup o := λ _ ⟨vs,n,e⟩ => by rw [h] at e; cases e
theorem Stands.there {C : Cx} {h : Heap} {a : Addr} {o : AO} (S : Stands C h a o) : ∃ ob,h.get? a = some ob /\ NotTup ob := by
 cases o with
 | list l => obtain ⟨vs,n,il,_⟩ := S; exact ⟨_,il,.cls (by show Value.type "list" ≠ Value.type "tuple"; decide)⟩
 | pset l =>
  have S : PSet C.w h a l := S
  obtain ⟨o,_,_,_,ho,hx,_⟩ := S.obj
  exact ⟨o,ho,.cls (by rw [hx.1]; decide)⟩
 | pdict l pin => obtain ⟨⟨xs,⟨o,es,ep,ho,hx,_⟩,_⟩,_⟩ := S; exact ⟨o,ho,.cls (by rw [hx.1]; decide)⟩
 | inst c d => obtain ⟨o,ho,hc,_⟩ := S; exact ⟨o,ho,.cls (by rw [hc]; intro e; cases e)⟩
 | attrs l => obtain ⟨mv,⟨o,es,ep,ho,hd,_⟩,_⟩ := S; exact ⟨o,ho,.dict hd⟩
 | range x y => obtain ⟨t,u,v,r⟩ := S; exact ⟨_,r,.cls (by show Value.type "range" ≠ Value.type "tuple"; decide)⟩
end
section
set_option genCtorIdx true in
inductive FK where
 | fn
 | cp (own : List Addr)
structure FR where
 comp : FK
 env : Env
 ls : List (Str × PV)
set_option genCtorIdx true in
inductive AF where
 | fr (f : FR)
 | hid (a : Addr) (o : Obj)
 | gh (h : Heap)
noncomputable def ownsE (c : FK) (env : Env) : List Addr := env.locals :: match c with
 | .fn => (env.cells.filter λ x => env.kindOf x.1 == some NameKind.cell).map (·.2)
 | .cp cs => cs.filter λ a => (env.cells.map (·.2)).contains a
noncomputable def readsE (env : Env) : List Addr := env.locals :: env.cells.map (·.2)
noncomputable def AF.owns : AF -> List Addr
 | .fr f => ownsE f.comp f.env
 | .hid a _ => [a]
 | .gh _ => []
noncomputable def AF.reads : AF -> List Addr
 | .fr f => readsE f.env
 | .hid a _ => [a]
 | .gh _ => []
noncomputable def AF.hids : AF -> List Addr
 | .fr _ => []
 | .hid a _ => [a]
 | .gh _ => []
theorem owns_reads {c : FK} {env : Env} {a : Addr} (h : a ∈ ownsE c env) : a ∈ readsE env := by
 unfold ownsE at h; unfold readsE
 rcases List.mem_cons.mp h with rfl | h
 ·exact List.mem_cons_self
 ·refine List.mem_cons_of_mem _ ?_
  cases c with
  | fn =>
   obtain ⟨x,hx,rfl⟩ := List.mem_map.mp h
   exact List.mem_map.mpr ⟨x,(List.mem_filter.mp hx).1,rfl⟩
  | cp cs => simpa using (List.mem_filter.mp h).2
theorem AF.owns_reads : ∀ {f : AF} {a : Addr},a ∈ f.owns -> a ∈ f.reads
 | .fr f,a,h => AM.owns_reads h
 | .hid _ _,a,h => h
 | .gh _,a,h => h
structure FrOk (h : Heap) (f : FR) : Prop where
 kind : f.env.scope.kind = .function
 globals : f.env.globals = mainGlobals
 builtins : f.env.builtins = builtinsNs
 ns : ∃ m,h.Ns f.env.locals m /\ ∀ x p,f.ls.lookup x = some p -> f.env.kindOf x = some .local -> ∃ v,m x = some v /\ PR h p v
 cells : ∀ x ∈ f.env.cells,∃ v,h.IsCell x.2 v
 cellv : ∀ x p,f.ls.lookup x = some p -> (f.env.kindOf x = some .cell \/ f.env.kindOf x = some .free) -> ∃ c v,f.env.cells.lookup x = some c /\ h.IsCell c (some v) /\ PR h p v
 has : ∀ x,f.env.kindOf x = some .cell \/ f.env.kindOf x = some .free -> ∃ c,f.env.cells.lookup x = some c
 apart : f.env.cells.Pairwise λ x y => x.2 ≠ y.2
 locals : ∀ x ∈ f.env.cells,x.2 ≠ f.env.locals
 frame : f.comp = .fn -> f.env.frame = some f.env.locals
noncomputable def AFok (h : Heap) : AF -> Prop
 | .fr f => FrOk h f
 | .hid a o => h.get? a = some o /\ NotTup o
 | .gh g => TupKeep g h
noncomputable def Apart (f g : AF) : Prop := (∀ a ∈ f.owns,a ∉ g.reads) /\ ∀ a ∈ g.hids,a ∉ f.reads
noncomputable def New0 (C : Cx) (a : Addr) : Prop := C.h₀.get? a = none /\ sysModules < a
structure Rep (C : Cx) (Fs : List AF) (H : AHeap) (s : Shared) : Prop where
 ok : C.Ok
 keep : ∀ b o,C.h₀.get? b = some o -> s.heap.get? b = some o
 gens : s.gens = #[]
 os : s.os = C.os
 frs : ∀ f ∈ Fs,AFok s.heap f /\ ∀ a ∈ f.reads,C.h₀.get? a = none
 apart : Fs.Pairwise Apart
 objs : ∀ a o,H a = some o -> Stands C s.heap a o /\ New0 C a /\ ∀ f ∈ Fs,a ∉ f.reads
theorem isCell_at {h h' : Heap} {c : Addr} {v : Option Value} (x : h.IsCell c v) (k : ∀ o,h.get? c = some o -> h'.get? c = some o) : h'.IsCell c v :=
 let ⟨o,ho,hd⟩ := x; ⟨o,k o ho,hd⟩
theorem ns_at {h h' : Heap} {a : Addr} {m : Str -> Option Value} (x : h.Ns a m) (k : ∀ o,h.get? a = some o -> h'.get? a = some o) : h'.Ns a m :=
 let ⟨o,es,ep,ho,r⟩ := x; ⟨o,es,ep,k o ho,r⟩
theorem apart_ne {l : List (Str × Addr)} (hp : l.Pairwise λ x y => x.2 ≠ y.2) {x y : Str} {c d : Addr} (hx : (x,c) ∈ l) (hy : (y,d) ∈ l) (hne : x ≠ y) : c ≠ d := by
 induction l with
 | nil => cases hx
 | cons z l ih =>
  obtain ⟨h1,h2⟩ := List.pairwise_cons.mp hp
  rcases List.mem_cons.mp hx with ex | hx'
  ·rcases List.mem_cons.mp hy with ey | hy'
   ·rw [<- ey] at ex; cases ex; exact absurd rfl hne
   ·have := h1 _ hy'; rw [<- ex] at this; exact this
  ·rcases List.mem_cons.mp hy with ey | hy'
   ·have := h1 _ hx'; rw [<- ey] at this; exact λ e => this e.symm
   ·exact ih h2 hx' hy'
theorem AFok.keep {h h' : Heap} (k : TupKeep h h') : ∀ {f : AF},(∀ a ∈ f.reads,∀ o,h.get? a = some o -> h'.get? a = some o) -> AFok h f -> AFok h' f
 | .fr f,ka,x => by
  have kl := ka f.env.locals List.mem_cons_self
  have kc : ∀ y ∈ f.env.cells,∀ o,h.get? y.2 = some o -> h'.get? y.2 = some o := λ y hy => ka y.2 (List.mem_cons_of_mem _ (List.mem_map.mpr ⟨y,hy,rfl⟩))
  obtain ⟨m,hm,hv⟩ := x.ns
  refine ⟨x.kind,x.globals,x.builtins,⟨m,ns_at hm kl,λ y p a b => let ⟨v,e,r⟩ := hv y p a b; ⟨v,e,r.keep k⟩⟩,λ y e => let ⟨v,r⟩ := x.cells y e; ⟨v,isCell_at r (kc y e)⟩,
   λ y p a b => let ⟨c,v,e,r,q⟩ := x.cellv y p a b; ⟨c,v,e,isCell_at r (kc (y,c) (mem_of_lookup e)),q.keep k⟩,x.has,x.apart,x.locals,x.frame⟩
 | .hid a o,ka,⟨x,y⟩ => ⟨ka a List.mem_cons_self o x,y⟩
 | .gh g,ka,x => TupKeep.trans x k
theorem AFok.there {h : Heap} : ∀ {f : AF},AFok h f -> ∀ a ∈ f.reads,∃ o,h.get? a = some o /\ NotTup o
 | .fr f,x,a,ha => by
  rcases List.mem_cons.mp ha with rfl | ha
  ·obtain ⟨m,⟨o,es,ep,ho,hd,_⟩,_⟩ := x.ns; exact ⟨o,ho,.dict hd⟩
  ·obtain ⟨y,hy,rfl⟩ := List.mem_map.mp ha
   obtain ⟨v,o,ho,hd⟩ := x.cells y hy
   exact ⟨o,ho,.cell hd⟩
 | .hid a o,⟨x,y⟩,b,hb => by rw [List.mem_singleton.mp hb]; exact ⟨o,x,y⟩
 | .gh g,_,b,hb => by cases hb
section
variable {C : Cx} {Fs : List AF} {H H' : AHeap} {s s' : Shared}
theorem Rep.mono (R : Rep C Fs H s) (h : ∀ a o,H' a = some o -> H a = some o) : Rep C Fs H' s :=
 ⟨R.ok,R.keep,R.gens,R.os,R.frs,R.apart,λ a o e => R.objs a o (h a o e)⟩
theorem Rep.sub {Gs : List AF} (R : Rep C Fs H s) (h : Gs.Sublist Fs) : Rep C Gs H s :=
 ⟨R.ok,R.keep,R.gens,R.os,λ f hf => R.frs f (h.subset hf),R.apart.sublist h,λ a o e => let ⟨x,y,z⟩ := R.objs a o e; ⟨x,y,λ g hg => z g (h.subset hg)⟩⟩
theorem Rep.pop {f : AF} (R : Rep C (f :: Fs) H s) : Rep C Fs H s := R.sub (List.sublist_cons_self _ _)
theorem Rep.pop2 {f g : AF} (R : Rep C (f :: g :: Fs) H s) : Rep C (f :: Fs) H s := R.sub (.cons_cons _ (List.sublist_cons_self _ _))
theorem Rep.to (R : Rep C Fs H s) (Z : Addr -> Prop) (hk : ∀ b o,¬ Z b -> s.heap.get? b = some o -> s'.heap.get? b = some o) (tk : TupKeep s.heap s'.heap)
  (hb : ∀ b,Z b -> C.h₀.get? b = none) (hf : ∀ f ∈ Fs,∀ a ∈ f.reads,¬ Z a)
  (ho : ∀ a o,H' a = some o -> (H a = some o /\ ¬ Z a) \/ (Stands C s'.heap a o /\ New0 C a /\ ∀ f ∈ Fs,a ∉ f.reads))
  (hg : s'.gens = s.gens := by rfl) (hos : s'.os = s.os := by rfl) : Rep C Fs H' s' := by
 refine ⟨R.ok,λ b o e => hk b o (λ z => by rw [hb b z] at e; cases e) (R.keep b o e),hg.trans R.gens,hos.trans R.os,λ f hf' => ⟨AFok.keep tk (λ a ha o e => hk a o (hf f hf' a ha) e) (R.frs f hf').1,(R.frs f hf').2⟩,R.apart,λ a o e => ?_⟩
 rcases ho a o e with ⟨e1,nz⟩ | x
 ·obtain ⟨x,y,z⟩ := R.objs a o e1
  exact ⟨Stands.keep tk (λ ob eo => hk a ob nz eo) o x,y,z⟩
 ·exact x
theorem Rep.ext (R : Rep C Fs H s) (hk : ∀ b o,s.heap.get? b = some o -> s'.heap.get? b = some o) (hg : s'.gens = s.gens := by rfl) (hos : s'.os = s.os := by rfl) : Rep C Fs H s' :=
 R.to (λ _ => False) (λ b o _ e => hk b o e) (λ b o e _ _ => hk b o e) (λ _ h => h.elim) (λ _ _ _ _ h => h) (λ a o e => .inl ⟨e,λ h => h⟩) hg hos
theorem Rep.same (R : Rep C Fs H s) (hh : s'.heap = s.heap := by rfl) (hg : s'.gens = s.gens := by rfl) (hos : s'.os = s.os := by rfl) : Rep C Fs H s' := R.ext (λ b o e => hh ▸ e) hg hos
theorem TupKeep.of_keep {h h' : Heap} (hk : ∀ b o,h.get? b = some o -> h'.get? b = some o) : TupKeep h h' := λ b o e _ _ => hk b o e
theorem TupKeep.of_ext {h h' : Heap} {a : Addr} (hk : Heap.ExtBut a h h') (ha : ∀ o,h.get? a = some o -> NotTup o) : TupKeep h h' := λ b o e c d => by
 by_cases hb : b = a
 ·subst hb; exact absurd d (ha o e c)
 ·exact hk b o hb e
theorem Rep.lt (R : Rep C Fs H s) {a : Addr} {o : AO} (e : H a = some o) : a < s.heap.objs.size := let ⟨ob,h,_⟩ := (R.objs a o e).1.there; Heap.lt_size h
theorem Rep.fresh (R : Rep C Fs H s) : H s.heap.objs.size = none := by
 cases e : H s.heap.objs.size with
 | none => rfl
 | some o => exact absurd (R.lt e) (Nat.lt_irrefl _)
theorem Rep.fresh_ge (R : Rep C Fs H s) {n : Nat} (hn : s.heap.objs.size <= n) : H n = none /\ New0 C n /\ ∀ f ∈ Fs,n ∉ f.reads := by
 refine ⟨?_,⟨?_,?_⟩,λ f hf h => ?_⟩
 ·cases e : H n with
  | none => rfl
  | some o => exact absurd (R.lt e) (Nat.not_lt.mpr hn)
 ·cases e : C.h₀.get? n with
  | none => rfl
  | some o => exact absurd (Heap.lt_size (R.keep _ _ e)) (Nat.not_lt.mpr hn)
 ·obtain ⟨o,_,_,e,_⟩ := R.ok.top.g
  exact Nat.lt_of_lt_of_le (Nat.lt_of_le_of_lt (by decide) (Heap.lt_size (R.keep _ _ e))) hn
 ·obtain ⟨o,e,_⟩ := (R.frs f hf).1.there _ h
  exact absurd (Heap.lt_size e) (Nat.not_lt.mpr hn)
noncomputable def LAt (C : Cx) (H : AHeap) (a : Addr) (l : List PV) : Prop := H a = some (.list l) \/ (a = C.scA /\ l = C.scL)
theorem Rep.lat (R : Rep C Fs H s) {a : Addr} {l : List PV} (e : LAt C H a l) : ∃ vs n,IsL s.heap a vs n /\ PRs s.heap l vs.toList := by
 rcases e with e | ⟨rfl,rfl⟩
 ·exact (R.objs a _ e).1
 ·obtain ⟨vs,n,il,r⟩ := R.ok.sc
  exact ⟨vs,n,R.keep _ _ il,PRs.keep (λ b o e _ _ => R.keep b o e) _ r⟩
theorem Rep.new (R : Rep C Fs H s) {a : Addr} {o : AO} (hk : ∀ b o,s.heap.get? b = some o -> s'.heap.get? b = some o) (ha : s.heap.objs.size <= a) (hs : Stands C s'.heap a o)
  (hg : s'.gens = s.gens := by rfl) (hos : s'.os = s.os := by rfl) : Rep C Fs (upd H a o) s' := by
 obtain ⟨x,y,z⟩ := R.fresh_ge ha
 refine R.to (λ _ => False) (λ b o _ e => hk b o e) (λ b o e _ _ => hk b o e) (λ _ h => h.elim) (λ _ _ _ _ h => h) (λ b ob e => ?_) hg hos
 unfold upd at e
 split at e
 ·cases e; rename_i q; subst q; exact .inr ⟨hs,y,z⟩
 ·exact .inl ⟨e,λ h => h⟩
theorem Rep.turn (R : Rep C Fs H s) {a : Addr} {o o' : AO} (e : H a = some o) (hk : Heap.ExtBut a s.heap s'.heap) (hs : Stands C s'.heap a o')
  (hg : s'.gens = s.gens := by rfl) (hos : s'.os = s.os := by rfl) : Rep C Fs (upd H a o') s' := by
 obtain ⟨x,y,z⟩ := R.objs a o e
 obtain ⟨ob,hob,hc⟩ := x.there
 refine R.to (λ b => b = a) (λ b o hb e => hk b o hb e) (TupKeep.of_ext hk λ o' e' => by rw [hob] at e'; cases e'; exact hc) (λ b h => h ▸ y.1) (λ f hf b hb h => z f hf (h ▸ hb)) (λ b ob e => ?_) hg hos
 unfold upd at e
 split at e
 ·cases e; rename_i q; subst q; exact .inr ⟨hs,y,z⟩
 ·rename_i q; exact .inl ⟨e,q⟩
theorem Rep.turnKeep (R : Rep C Fs H s) {a : Addr} {o : AO} (e : H a = some o) (hk : Heap.ExtBut a s.heap s'.heap) : TupKeep s.heap s'.heap := by
 obtain ⟨ob,hob,hc⟩ := (R.objs a o e).1.there
 exact TupKeep.of_ext hk λ o' e' => by rw [hob] at e'; cases e'; exact hc
theorem Rep.frame {f f' : AF} (R : Rep C (f :: Fs) H s) {z : Addr} (hz : z ∈ f.owns) (hk : Heap.ExtBut z s.heap s'.heap) (tk : TupKeep s.heap s'.heap) (hf : AFok s'.heap f') (ho : f'.owns = f.owns) (hr : f'.reads = f.reads) (hh : f'.hids = f.hids)
  (hg : s'.gens = s.gens := by rfl) (hos : s'.os = s.os := by rfl) : Rep C (f' :: Fs) H s' := by
 obtain ⟨a1,a2⟩ := List.pairwise_cons.mp R.apart
 have hzb := (R.frs f (.head _)).2 z (AF.owns_reads hz)
 have R' : Rep C Fs H s' := R.pop.to (λ b => b = z) (λ b o hb e => hk b o hb e) tk (λ b h => h ▸ hzb) (λ g hg a ha h => (a1 g hg).1 z hz (h ▸ ha))
  (λ a o e => .inl ⟨e,λ h => (R.objs a o e).2.2 f (.head _) (h ▸ AF.owns_reads hz)⟩) hg hos
 refine ⟨R.ok,R'.keep,R'.gens,R'.os,λ g hg => ?_,List.pairwise_cons.mpr ⟨λ g hg => ?_,a2⟩,λ a o e => ?_⟩
 ·rcases List.mem_cons.mp hg with rfl | hg
  ·exact ⟨hf,λ a ha => (R.frs f (.head _)).2 a (hr ▸ ha)⟩
  ·exact R'.frs g hg
 ·obtain ⟨b1,b2⟩ := a1 g hg
  exact ⟨λ a ha => b1 a (ho ▸ ha),λ a ha => hr ▸ b2 a ha⟩
 ·obtain ⟨x,y,z'⟩ := R'.objs a o e
  refine ⟨x,y,λ g hg => ?_⟩
  rcases List.mem_cons.mp hg with rfl | hg
  ·rw [hr]; exact (R.objs a o e).2.2 f (.head _)
  ·exact z' g hg
theorem Rep.hidden {pre post : List AF} {a : Addr} {o o' : Obj} (R : Rep C (pre ++ .hid a o :: post) H s) (hk : Heap.ExtBut a s.heap s'.heap) (ha : s'.heap.get? a = some o') (hc : NotTup o')
  (hg : s'.gens = s.gens := by rfl) (hos : s'.os = s.os := by rfl) : Rep C (pre ++ .hid a o' :: post) H s' /\ TupKeep s.heap s'.heap := by
 obtain ⟨p1,p2,p3⟩ := List.pairwise_append.mp R.apart
 obtain ⟨q1,q2⟩ := List.pairwise_cons.mp p2
 obtain ⟨⟨ho,hoc⟩,hb⟩ := R.frs (.hid a o) (by simp)
 have hb := hb a List.mem_cons_self
 have tk : TupKeep s.heap s'.heap := TupKeep.of_ext hk λ o₁ e => by rw [ho] at e; cases e; exact hoc
 have nf : ∀ f ∈ pre ++ post,a ∉ f.reads := λ f hf => by
  rcases List.mem_append.mp hf with hf | hf
  ·exact (p3 f hf _ (.head _)).2 a List.mem_cons_self
  ·exact (q1 f hf).1 a List.mem_cons_self
 have R' : Rep C (pre ++ post) H s' := (R.sub (List.Sublist.append (List.Sublist.refl _) (List.sublist_cons_self _ _))).to (λ b => b = a) (λ b o hb e => hk b o hb e) tk (λ b h => h ▸ hb) (λ g hg b hb h => nf g hg (h ▸ hb))
  (λ b ob e => .inl ⟨e,λ h => (R.objs b ob e).2.2 (.hid a o) (by simp) (h ▸ List.mem_cons_self)⟩) hg hos
 refine ⟨⟨R.ok,R'.keep,R'.gens,R'.os,λ g hg => ?_,?_,λ b ob e => ?_⟩,tk⟩
 ·rcases List.mem_append.mp hg with hg | hg
  ·exact R'.frs g (List.mem_append_left _ hg)
  ·rcases List.mem_cons.mp hg with rfl | hg
   ·exact ⟨⟨ha,hc⟩,λ b hb' => by rw [List.mem_singleton.mp hb']; exact hb⟩
   ·exact R'.frs g (List.mem_append_right _ hg)
 ·refine List.pairwise_append.mpr ⟨p1,List.pairwise_cons.mpr ⟨q1,q2⟩,λ f hf g hg => ?_⟩
  rcases List.mem_cons.mp hg with rfl | hg
  ·exact p3 f hf (.hid a o) (.head _)
  ·exact p3 f hf g (.tail _ hg)
 ·obtain ⟨x,y,z⟩ := R'.objs b ob e
  refine ⟨x,y,λ g hg => ?_⟩
  rcases List.mem_append.mp hg with hg | hg
  ·exact z g (List.mem_append_left _ hg)
  ·rcases List.mem_cons.mp hg with rfl | hg
   ·exact (R.objs b ob e).2.2 (.hid a o) (by simp)
   ·exact z g (List.mem_append_right _ hg)
theorem Rep.push {f : AF} (R : Rep C Fs H s) (hf : AFok s.heap f) (hb : ∀ a ∈ f.reads,C.h₀.get? a = none) (hH : ∀ a ∈ f.reads,H a = none) (ho : ∀ a ∈ f.owns,∀ g ∈ Fs,a ∉ g.reads) (hr : ∀ g ∈ Fs,∀ a ∈ g.hids,a ∉ f.reads) : Rep C (f :: Fs) H s := by
 refine ⟨R.ok,R.keep,R.gens,R.os,λ g hg => ?_,List.pairwise_cons.mpr ⟨λ g hg => ⟨λ a ha => ho a ha g hg,hr g hg⟩,R.apart⟩,λ a o e => ?_⟩
 ·rcases List.mem_cons.mp hg with rfl | hg
  ·exact ⟨hf,hb⟩
  ·exact R.frs g hg
 ·obtain ⟨x,y,z⟩ := R.objs a o e
  refine ⟨x,y,λ g hg => ?_⟩
  rcases List.mem_cons.mp hg with rfl | hg
  ·intro h; rw [hH a h] at e; cases e
  ·exact z g hg
theorem Rep.hide {a : Addr} {o : Obj} (R : Rep C Fs H s) (hk : ∀ b o,s.heap.get? b = some o -> s'.heap.get? b = some o) (ha : s.heap.objs.size <= a) (ho : s'.heap.get? a = some o) (hc : NotTup o)
  (hg : s'.gens = s.gens := by rfl) (hos : s'.os = s.os := by rfl) : Rep C (.hid a o :: Fs) H s' := by
 obtain ⟨x,y,z⟩ := R.fresh_ge ha
 refine (R.ext hk hg hos).push ⟨ho,hc⟩ (λ b hb => by rw [List.mem_singleton.mp hb]; exact y.1) (λ b hb => by rw [List.mem_singleton.mp hb]; exact x) (λ b hb g hg => by rw [List.mem_singleton.mp hb]; exact z g hg) λ g hg b hb hb' => ?_
 rw [List.mem_singleton.mp hb'] at hb
 have : a ∈ g.reads := by cases g with | fr f => cases hb | hid c o => exact hb | gh _ => cases hb
 exact z g hg this
end
end
section
structure Tr where
 C : Cx
 n : Nat
 hd : Bool
noncomputable def envsOf : List AF -> List Env
 | [] => []
 | .fr ⟨.fn,env,_⟩ :: r => env :: envsOf r
 | .fr ⟨.cp _,_,_⟩ :: r => envsOf r
 | .hid _ _ :: r => envsOf r
 | .gh _ :: r => envsOf r
noncomputable def hidsO : List AF -> List (Addr × Obj)
 | [] => []
 | .fr _ :: r => hidsO r
 | .hid a o :: r => (a,o) :: hidsO r
 | .gh _ :: r => hidsO r
structure AOk (T : Tr) (Fs : List AF) (A : Around) : Prop where
 frames : A.frames = some (envsOf Fs)
 depth : A.depth + 4 * T.n + 10 <= 1000
 units : A.units + 20 * T.n + 100 <= 9900
 handled : T.hd = false -> A.handled = none
 ctx : ∀ v,A.handled = some v -> ∃ a o,v = .ref a /\ (a,o) ∈ hidsO Fs /\ Ctx2 o
theorem hidsO_mem {a : Addr} {o : Obj} {Fs : List AF} : (a,o) ∈ hidsO Fs ↔ AF.hid a o ∈ Fs := by
 induction Fs with
 | nil => exact ⟨nofun,nofun⟩
 | cons x r ih =>
  rw [List.mem_cons]
  cases x with
  | fr _ => exact ih.trans ⟨.inr,λ h => h.elim nofun id⟩
  | gh _ => exact ih.trans ⟨.inr,λ h => h.elim nofun id⟩
  | hid b o' =>
   show (a,o) ∈ (b,o') :: hidsO r ↔ _
   rw [List.mem_cons,ih]
   exact or_congr ⟨λ h => by cases h; rfl,λ h => by cases h; rfl⟩ Iff.rfl
theorem AOk.hdc {T : Tr} {Fs : List AF} {A : Around} {H : AHeap} {s : Shared} (ok : AOk T Fs A) (R : Rep T.C Fs H s) : HdC s.heap A := λ v e =>
 let ⟨a,o,h,hm,c⟩ := ok.ctx v e; ⟨a,h,o,(R.frs _ (hidsO_mem.mp hm)).1.1,c⟩
theorem ctx_more {T : Tr} {Fs Fs' : List AF} {A : Around} (ok : AOk T Fs A) (h : ∀ x ∈ hidsO Fs,x ∈ hidsO Fs') : ∀ v,A.handled = some v -> ∃ a o,v = .ref a /\ (a,o) ∈ hidsO Fs' /\ Ctx2 o := λ v e =>
 let ⟨a,o,r,m,c⟩ := ok.ctx v e; ⟨a,o,r,h _ m,c⟩
inductive PostV (T : Tr) (Fs : List AF) (s : Shared) (Q : PV -> AHeap -> Prop) (v : Value) (s' : Shared) : Prop
 | mk (p : PV) (H' : AHeap) (pr : PR s'.heap p v) (R : Rep T.C Fs H' s') (k : TupKeep s.heap s'.heap) (q : Q p H') : PostV T Fs s Q v s'
inductive PostB (T : Tr) (Fs : List AF) (s : Shared) (Q : Bool -> AHeap -> Prop) (b : Bool) (s' : Shared) : Prop
 | mk (H' : AHeap) (R : Rep T.C Fs H' s') (k : TupKeep s.heap s'.heap) (q : Q b H') : PostB T Fs s Q b s'
inductive PostC (T : Tr) (Fs : List AF) (s : Shared) (Q : Bool -> AHeap -> Prop) (c : Value) (s' : Shared) : Prop
 | mk (b : Bool) (e : c = .bool b) (q : PostB T Fs s Q b s') : PostC T Fs s Q c s'
inductive PostL (T : Tr) (Fs : List AF) (s : Shared) (Q : List PV -> AHeap -> Prop) (vs : List Value) (s' : Shared) : Prop
 | mk (ps : List PV) (H' : AHeap) (pr : PRs s'.heap ps vs) (R : Rep T.C Fs H' s') (k : TupKeep s.heap s'.heap) (q : Q ps H') : PostL T Fs s Q vs s'
inductive PostH (T : Tr) (Fs : List AF) (s : Shared) (Q : AHeap -> Prop) (s' : Shared) : Prop
 | mk (H' : AHeap) (R : Rep T.C Fs H' s') (k : TupKeep s.heap s'.heap) (q : Q H') : PostH T Fs s Q s'
theorem PostV.elim {T : Tr} {Fs : List AF} {s : Shared} {Q : PV -> AHeap -> Prop} {v : Value} {s' : Shared} {P : Prop} (h : PostV T Fs s Q v s') (k : ∀ (p : PV) (H' : AHeap),PR s'.heap p v -> Rep T.C Fs H' s' -> TupKeep s.heap s'.heap -> Q p H' -> P) : P := by cases h with | mk p H' a b c d => exact k p H' a b c d
theorem PostB.elim {T : Tr} {Fs : List AF} {s : Shared} {Q : Bool -> AHeap -> Prop} {b : Bool} {s' : Shared} {P : Prop} (h : PostB T Fs s Q b s') (k : ∀ (H' : AHeap),Rep T.C Fs H' s' -> TupKeep s.heap s'.heap -> Q b H' -> P) : P := by cases h with | mk H' a b c => exact k H' a b c
theorem PostC.elim {T : Tr} {Fs : List AF} {s : Shared} {Q : Bool -> AHeap -> Prop} {c : Value} {s' : Shared} {P : Prop} (h : PostC T Fs s Q c s') (k : ∀ (b : Bool),c = .bool b -> ∀ (H' : AHeap),Rep T.C Fs H' s' -> TupKeep s.heap s'.heap -> Q b H' -> P) : P := by cases h with | mk b e q => exact q.elim (k b e)
theorem PostH.elim {T : Tr} {Fs : List AF} {s : Shared} {Q : AHeap -> Prop} {s' : Shared} {P : Prop} (h : PostH T Fs s Q s') (k : ∀ (H' : AHeap),Rep T.C Fs H' s' -> TupKeep s.heap s'.heap -> Q H' -> P) : P := by cases h with | mk H' a b c => exact k H' a b c
theorem PostL.elim {T : Tr} {Fs : List AF} {s : Shared} {Q : List PV -> AHeap -> Prop} {vs : List Value} {s' : Shared} {P : Prop} (h : PostL T Fs s Q vs s') (k : ∀ (ps : List PV) (H' : AHeap),PRs s'.heap ps vs -> Rep T.C Fs H' s' -> TupKeep s.heap s'.heap -> Q ps H' -> P) : P := by cases h with | mk p H' a b c d => exact k p H' a b c d
noncomputable def AE (T : Tr) (f : FR) (Fs : List AF) (H : AHeap) (e : Expr) (Q : PV -> AHeap -> Prop) (E : Value -> Shared -> Prop) : Prop :=
 ∀ A s,AOk T (.fr f :: Fs) A -> Rep T.C (.fr f :: Fs) H s -> wpAny T.C.M A (eval e f.env) (PostV T (.fr f :: Fs) s Q) E s
noncomputable def AT (T : Tr) (f : FR) (Fs : List AF) (H : AHeap) (e : Expr) (Q : Bool -> AHeap -> Prop) (E : Value -> Shared -> Prop) : Prop :=
 ∀ A s,AOk T (.fr f :: Fs) A -> Rep T.C (.fr f :: Fs) H s -> wpAny T.C.M A (isTrue e f.env (eval e f.env)) (PostB T (.fr f :: Fs) s Q) E s
noncomputable def AL (T : Tr) (f : FR) (Fs : List AF) (H : AHeap) (es : List Expr) (Q : List PV -> AHeap -> Prop) (E : Value -> Shared -> Prop) : Prop :=
 ∀ A s pos,AOk T (.fr f :: Fs) A -> Rep T.C (.fr f :: Fs) H s -> wpAny T.C.M A (spliced (backTo pos (starEach es f.env))) (PostL T (.fr f :: Fs) s Q) E s
noncomputable def ABin (T : Tr) (Fs : List AF) (H : AHeap) (op : Value -> Value -> Sem Value) (p q : PV) (Q : PV -> AHeap -> Prop) (E : Value -> Shared -> Prop) : Prop :=
 ∀ A s v w,AOk T Fs A -> Rep T.C Fs H s -> PR s.heap p v -> PR s.heap q w -> wpAny T.C.M A (op v w) (PostV T Fs s Q) E s
noncomputable def AUn (T : Tr) (Fs : List AF) (H : AHeap) (op : Value -> Sem Value) (p : PV) (Q : PV -> AHeap -> Prop) (E : Value -> Shared -> Prop) : Prop :=
 ∀ A s v,AOk T Fs A -> Rep T.C Fs H s -> PR s.heap p v -> wpAny T.C.M A (op v) (PostV T Fs s Q) E s
noncomputable def ACmp (T : Tr) (Fs : List AF) (H : AHeap) (op : CmpOp) (p q : PV) (Q : Bool -> AHeap -> Prop) (E : Value -> Shared -> Prop) : Prop :=
 ∀ A s v w,AOk T Fs A -> Rep T.C Fs H s -> PR s.heap p v -> PR s.heap q w -> wpAny T.C.M A (compareOp op v w) (PostC T Fs s Q) E s
noncomputable def ATr (T : Tr) (Fs : List AF) (H : AHeap) (p : PV) (Q : Bool -> AHeap -> Prop) (E : Value -> Shared -> Prop) : Prop :=
 ∀ A s v,AOk T Fs A -> Rep T.C Fs H s -> PR s.heap p v -> wpAny T.C.M A (truthy v) (PostB T Fs s Q) E s
noncomputable def ACall (T : Tr) (Fs : List AF) (H : AHeap) (g : PV) (ps : List PV) (Q : PV -> AHeap -> Prop) (E : Value -> Shared -> Prop) : Prop :=
 ∀ A s v vs,AOk T Fs A -> Rep T.C Fs H s -> PR s.heap g v -> PRs s.heap ps vs -> wpAny T.C.M A (call v vs) (PostV T Fs s Q) E s
noncomputable def ACode (T : Tr) (Fs : List AF) (H : AHeap) (g : PV) (ps : List PV) (Q : PV -> AHeap -> Prop) (E : Value -> Shared -> Prop) : Prop :=
 ∀ A s v vs,AOk T Fs A -> Rep T.C Fs H s -> PR s.heap g v -> PRs s.heap ps vs -> codeAny T.C.M A (.call v ⟨vs,[]⟩) (λ r s' => match r with | .ok (.ret u) => PostV T Fs s Q u s' | .ok _ => False | .error e => E e s') s
section
variable {T : Tr} {f : FR} {Fs : List AF} {H : AHeap} {E : Value -> Shared -> Prop} {s : Shared} {A : Around}
theorem ACode.call {g : PV} {ps : List PV} {Q : PV -> AHeap -> Prop} (h : ACode T Fs H g ps Q E) : ACall T Fs H g ps Q E := λ A s v vs ok R a b => wpAny_call (h A s v vs ok R a b)
theorem ACode.mono {g : PV} {ps : List PV} {Q Q' : PV -> AHeap -> Prop} {E' : Value -> Shared -> Prop} (h : ACode T Fs H g ps Q E) (hq : ∀ p H,Q p H -> Q' p H) (hE : ∀ e s,E e s -> E' e s) : ACode T Fs H g ps Q' E' :=
 λ A s v vs ok R a b => codeAny_mono (h A s v vs ok R a b) λ r s' x => by
  rcases r with e | (v | _ | _ | _)
  ·exact hE _ _ x
  all_goals first | exact x.elim | (obtain ⟨p,H',a,b,c,d⟩ := x; exact ⟨p,H',a,b,c,hq _ _ d⟩)
theorem post_same {Q : PV -> AHeap -> Prop} {p : PV} {v : Value} {s' : Shared} (R : Rep T.C Fs H s) (hp : PR s.heap p v) (hq : Q p H) (hh : s'.heap = s.heap := by rfl) (hg : s'.gens = s.gens := by rfl) (hos : s'.os = s.os := by rfl) : PostV T Fs s Q v s' :=
 ⟨p,H,hh ▸ hp,R.same hh hg hos,hh ▸ TupKeep.refl _,hq⟩
theorem postB_same {Q : Bool -> AHeap -> Prop} {b : Bool} {s' : Shared} (R : Rep T.C Fs H s) (hq : Q b H) (hh : s'.heap = s.heap := by rfl) (hg : s'.gens = s.gens := by rfl) (hos : s'.os = s.os := by rfl) : PostB T Fs s Q b s' :=
 ⟨H,R.same hh hg hos,hh ▸ TupKeep.refl _,hq⟩
theorem AE.mono {e : Expr} {Q Q' : PV -> AHeap -> Prop} (h : AE T f Fs H e Q E) (hq : ∀ p H,Q p H -> Q' p H) : AE T f Fs H e Q' E :=
 λ A s ok R => wpAny_mono (h A s ok R) (λ v s' hh => hh.elim λ p H' a b c d => ⟨p,H',a,b,c,hq _ _ d⟩) λ _ _ x => x
theorem ACall.noE {g : PV} {ps : List PV} {Q : PV -> AHeap -> Prop} (h : ACall T Fs H g ps Q λ _ _ => False) : ACall T Fs H g ps Q E :=
 λ A s v vs ok R a b => wpAny_mono (h A s v vs ok R a b) (λ _ _ x => x) λ _ _ x => x.elim
theorem ACall.mono {g : PV} {ps : List PV} {Q Q' : PV -> AHeap -> Prop} (h : ACall T Fs H g ps Q E) (hq : ∀ p H,Q p H -> Q' p H) : ACall T Fs H g ps Q' E :=
 λ A s v vs ok R a b => wpAny_mono (h A s v vs ok R a b) (λ v s' hh => hh.elim λ p H' a b c d => ⟨p,H',a,b,c,hq _ _ d⟩) λ _ _ x => x
theorem AE.int {i : Int} {k : Nat} {pos : Pos} {Q : PV -> AHeap -> Prop} (h : Q (.int i) H) : AE T f Fs H (.Constant (.int i) k pos) Q E :=
 λ A s ok R => wpAny_Constant_int (post_same R PR.int h)
theorem AE.str {x : Str} {k : Nat} {pos : Pos} {Q : PV -> AHeap -> Prop} (h : Q (.str x) H) : AE T f Fs H (.Constant (.str x) k pos) Q E :=
 λ A s ok R => wpAny_Constant_str (post_same R PR.str h)
theorem AE.none {k : Nat} {pos : Pos} {Q : PV -> AHeap -> Prop} (h : Q .none H) : AE T f Fs H (.Constant .none k pos) Q E :=
 λ A s ok R => wpAny_Constant_none (post_same R PR.none h)
theorem AE.bool {b : Bool} {k : Nat} {pos : Pos} {Q : PV -> AHeap -> Prop} (h : Q (.bool b) H) : AE T f Fs H (.Constant (.bool b) k pos) Q E :=
 λ A s ok R => wpAny_Constant_bool (post_same R PR.bool h)
noncomputable def isVar : Option NameKind -> Bool
 | some .local => true
 | some .cell => true
 | some .free => true
 | _ => false
theorem load_name {x : Str} {p : PV} {Q : PV -> AHeap -> Prop} (R : Rep T.C (.fr f :: Fs) H s) (hk : isVar (f.env.kindOf x) = true) (hl : f.ls.lookup x = some p) (h : Q p H) (hc : (x == ("__classdict__" : Str)) = false) :
  wpAny T.C.M A (loadName f.env x) (PostV T (.fr f :: Fs) s Q) E s := by
 have F : FrOk s.heap f := (R.frs _ (.head _)).1
 have hcase : f.env.kindOf x = some .local \/ f.env.kindOf x = some .cell \/ f.env.kindOf x = some .free := by
  revert hk; generalize f.env.kindOf x = o; intro hk
  rcases o with _ | k
  ·cases hk
  ·cases k <;> first | exact .inl rfl | exact .inr (.inl rfl) | exact .inr (.inr rfl) | cases hk
 rcases hcase with hk | hk | hk
 ·obtain ⟨m,hm,hv⟩ := F.ns
  obtain ⟨v,e,pr⟩ := hv x p hl hk
  exact wpAny_loadName_local F.kind hk hm e (post_same R pr h)
 ·obtain ⟨c,v,e,ic,pr⟩ := F.cellv x p hl (.inl hk)
  exact wpAny_loadName_cell F.kind hk e ic (post_same R pr h)
 ·obtain ⟨c,v,e,ic,pr⟩ := F.cellv x p hl (.inr hk)
  exact wpAny_loadName_free F.kind hk e ic (post_same R pr h) hc
theorem AE.name {x : Str} {pos : Pos} {p : PV} {nm : List (Str × NameKind)} {Q : PV -> AHeap -> Prop} (hn : f.env.scope.names = nm) (hk : isVar (nm.lookup x) = true) (hl : f.ls.lookup x = some p) (h : Q p H)
  (hd : (x == ("__debug__" : Str)) = false := by decide) (hc : (x == ("__classdict__" : Str)) = false := by decide) : AE T f Fs H (.Name x pos) Q E :=
 λ A s ok R => wpAny_Name (load_name R (by rw [show f.env.kindOf x = f.env.scope.names.lookup x from rfl,hn]; exact hk) hl h hc) hd
theorem AE.glob {x : Str} {pos : Pos} {a : Addr} {nm : List (Str × NameKind)} {Q : PV -> AHeap -> Prop} (hn : f.env.scope.names = nm) (hk : nm.lookup x = some .globalImplicit) (he : nsIn T.C.K mainGlobals x = some (some (.ref a))) (h : Q (.ref a) H)
  (hd : (x == ("__debug__" : Str)) = false := by decide) : AE T f Fs H (.Name x pos) Q E := λ A s ok R => by
 have F : FrOk s.heap f := (R.frs _ (.head _)).1
 refine Name_function_global F.kind (by rw [show f.env.kindOf x = f.env.scope.names.lookup x from rfl,hn]; exact hk) (loadGlobal_global (env := f.env) ?_ (mg_of R.ok.kin R.ok.top.g he) (post_same R PR.ref h)) hd
 rw [F.globals]; exact R.ok.top.g.keeps R.keep
theorem load_builtin {x : Str} {pos : Pos} {v : Value} {Q : Value -> Shared -> Prop} (R : Rep T.C (.fr f :: Fs) H s) (hk : f.env.kindOf x = some .globalImplicit)
  (hv : bootBuiltins x = some v) (hmiss : T.C.mg x = Option.none) (hnn : x ≠ "__name__") (h : Q v s) (hd : (x == ("__debug__" : Str)) = false) : wpAny T.C.M A (eval (.Name x pos) f.env) Q E s := by
 have F : FrOk s.heap f := (R.frs _ (.head _)).1
 refine Name_function_global F.kind hk (loadGlobal_builtin (env := f.env) (mg := T.C.mg) (mb := T.C.mb) ?_ hmiss ?_ ((R.ok.top.builtins x hnn).trans hv) h) hd
 ·rw [F.globals]; exact R.ok.top.g.keeps R.keep
 ·rw [F.builtins]; exact R.ok.top.b.keeps R.keep
theorem AE.ty {x : Str} {pos : Pos} {n : String} {nm : List (Str × NameKind)} {Q : PV -> AHeap -> Prop} (hmiss : T.C.mg x = Option.none) (hn : f.env.scope.names = nm) (hk : nm.lookup x = some .globalImplicit) (hv : bootBuiltins x = some (.type n)) (h : Q (.ty n) H)
  (hnn : x ≠ "__name__" := by decide +kernel) (hd : (x == ("__debug__" : Str)) = false := by decide) : AE T f Fs H (.Name x pos) Q E := λ A s ok R =>
 load_builtin R (by rw [show f.env.kindOf x = f.env.scope.names.lookup x from rfl,hn]; exact hk) hv hmiss hnn (post_same R PR.ty h) hd
theorem AE.bi {x : Str} {pos : Pos} {n : String} {nm : List (Str × NameKind)} {Q : PV -> AHeap -> Prop} (hmiss : T.C.mg x = Option.none) (hn : f.env.scope.names = nm) (hk : nm.lookup x = some .globalImplicit) (hv : bootBuiltins x = some (.builtin n)) (h : Q (.bi n) H)
  (hnn : x ≠ "__name__" := by decide +kernel) (hd : (x == ("__debug__" : Str)) = false := by decide) : AE T f Fs H (.Name x pos) Q E := λ A s ok R =>
 load_builtin R (by rw [show f.env.kindOf x = f.env.scope.names.lookup x from rfl,hn]; exact hk) hv hmiss hnn (post_same R PR.bi h) hd
theorem AE.binop {l r : Expr} {op : Operator} {pos : Pos} {Q : PV -> AHeap -> Prop} (h : AE T f Fs H l (λ p H₁ => AE T f Fs H₁ r (λ q H₂ => ABin T (.fr f :: Fs) H₂ (binaryOp op) p q Q E) E) E) : AE T f Fs H (.BinOp l op r pos) Q E :=
 λ A s ok R => wpAny_BinOp (wpAny_mono (h A s ok R) (λ v s₁ hh => hh.elim λ p H₁ pr R₁ k₁ h₁ => wpAny_mono (h₁ A s₁ ok R₁) (λ w s₂ hh => hh.elim λ q H₂ qr R₂ k₂ h₂ =>
  wpAny_mono (h₂ A s₂ v w ok R₂ (pr.keep k₂) qr) (λ u s₃ hh => hh.elim λ p' H' pr' R' k' hq => ⟨p',H',pr',R',k₁.trans (k₂.trans k'),hq⟩) λ _ _ x => x) λ _ _ x => x) λ _ _ x => x)
theorem AE.unop {l : Expr} {op : UnaryOp} {pos : Pos} {Q : PV -> AHeap -> Prop} (h : AE T f Fs H l (λ p H₁ => AUn T (.fr f :: Fs) H₁ (unaryOp op) p Q E) E) : AE T f Fs H (.UnaryOp op l pos) Q E :=
 λ A s ok R => wpAny_UnaryOp (wpAny_mono (h A s ok R) (λ v s₁ hh => hh.elim λ p H₁ pr R₁ k₁ h₁ =>
  wpAny_mono (h₁ A s₁ v ok R₁ pr) (λ u s₃ hh => hh.elim λ p' H' pr' R' k' hq => ⟨p',H',pr',R',k₁.trans k',hq⟩) λ _ _ x => x) λ _ _ x => x)
theorem ABin.ofInt {op : Value -> Value -> Sem Value} {a b : Int} {c : Int} {Q : PV -> AHeap -> Prop} (h : Q (.int c) H)
  (hop : ∀ A s t u (Q : Value -> Shared -> Prop),Q (.int c s.toks) { s with toks := s.toks + 1 } -> wpAny T.C.M A (op (.int a t) (.int b u)) Q E s) : ABin T Fs H op (.int a) (.int b) Q E := λ A s v w ok R pv pw => by
 obtain ⟨t,rfl⟩ := pv.int_inv
 obtain ⟨u,rfl⟩ := pw.int_inv
 exact hop A s t u _ (post_same R PR.int h)
theorem ABin.add {a b : Int} {Q : PV -> AHeap -> Prop} (h : Q (.int (a + b)) H) : ABin T Fs H (binaryOp .Add) (.int a) (.int b) Q E := .ofInt h λ _ _ _ _ _ h => P.add_int h
theorem ABin.sub {a b : Int} {Q : PV -> AHeap -> Prop} (h : Q (.int (a - b)) H) : ABin T Fs H (binaryOp .Sub) (.int a) (.int b) Q E := .ofInt h λ _ _ _ _ _ h => P.sub_int h
theorem ABin.mul {a b : Int} {Q : PV -> AHeap -> Prop} (hm : IntMulOk a b) (h : Q (.int (a * b)) H) : ABin T Fs H (binaryOp .Mult) (.int a) (.int b) Q E := .ofInt h λ _ _ _ _ _ h => P.mul_int h hm
theorem ABin.mod {a b : Int} {Q : PV -> AHeap -> Prop} (hb : b ≠ 0) (h : Q (.int (a.fmod b)) H) : ABin T Fs H (binaryOp .Mod) (.int a) (.int b) Q E := .ofInt h λ _ _ _ _ _ h => mod_int' hb h
theorem ABin.div {a b : Int} {Q : PV -> AHeap -> Prop} (hb : b ≠ 0) (hp : Builtin.divisionGoesByPylong a b = false) (h : Q (.int (a.fdiv b)) H) : ABin T Fs H (binaryOp .FloorDiv) (.int a) (.int b) Q E := .ofInt h λ _ _ _ _ _ h => floordiv_int hb h (.inl hp)
theorem ABin.pow {a b : Int} {Q : PV -> AHeap -> Prop} (hb : 0 <= b) (hp : (Builtin.Int.intBits a : Int) * b <= 2 ^ 27) (h : Q (.int (a ^ b.toNat)) H) : ABin T Fs H (binaryOp .Pow) (.int a) (.int b) Q E := .ofInt h λ _ _ _ _ _ h => pow_int hb hp h
theorem AUn.neg {a : Int} {Q : PV -> AHeap -> Prop} (h : Q (.int (-a)) H) : AUn T Fs H (unaryOp .USub) (.int a) Q E := λ A s v ok R pv => by
 obtain ⟨t,rfl⟩ := pv.int_inv
 exact P.neg_int (post_same R PR.int h)
theorem AUn.not {p : PV} {Q : PV -> AHeap -> Prop} (h : ATr T Fs H p (λ b H₁ => Q (.bool (!b)) H₁) E) : AUn T Fs H (unaryOp .Not) p Q E := λ A s v ok R pv =>
 not_value (wpAny_mono (h A s v ok R pv) (λ b s' hh => hh.elim λ H' R' k q => ⟨_,H',PR.bool,R',k,q⟩) λ _ _ x => x)
theorem ACmp.ofInt {op : CmpOp} {a b : Int} {c : Bool} {Q : Bool -> AHeap -> Prop} (h : Q c H)
  (hop : ∀ A s t u (Q : Value -> Shared -> Prop),Q (.bool c) s -> wpAny T.C.M A (compareOp op (.int a t) (.int b u)) Q E s) : ACmp T Fs H op (.int a) (.int b) Q E := λ A s v w ok R pv pw => by
 obtain ⟨t,rfl⟩ := pv.int_inv
 obtain ⟨u,rfl⟩ := pw.int_inv
 exact hop A s t u _ ⟨_,rfl,postB_same R h⟩
theorem ACmp.lt {a b : Int} {Q : Bool -> AHeap -> Prop} (h : Q (decide (a < b)) H) : ACmp T Fs H .Lt (.int a) (.int b) Q E := .ofInt h λ _ _ _ _ _ h => P.lt_int h
theorem ACmp.le {a b : Int} {Q : Bool -> AHeap -> Prop} (h : Q (decide (a <= b)) H) : ACmp T Fs H .LtE (.int a) (.int b) Q E := .ofInt h λ _ _ _ _ _ h => P.le_int h
theorem ACmp.gt {a b : Int} {Q : Bool -> AHeap -> Prop} (h : Q (decide (b < a)) H) : ACmp T Fs H .Gt (.int a) (.int b) Q E := .ofInt h λ _ _ _ _ _ h => P.gt_int h
theorem ACmp.ge {a b : Int} {Q : Bool -> AHeap -> Prop} (h : Q (decide (b <= a)) H) : ACmp T Fs H .GtE (.int a) (.int b) Q E := .ofInt h λ _ _ _ _ _ h => P.ge_int h
theorem ACmp.eqInt {a b : Int} {Q : Bool -> AHeap -> Prop} (h : Q (decide (a = b)) H) : ACmp T Fs H .Eq (.int a) (.int b) Q E := .ofInt h λ _ _ _ _ _ h => P.eq_int (by rw [show (a == b) = decide (a = b) from rfl]; exact h)
theorem ACmp.neInt {a b : Int} {Q : Bool -> AHeap -> Prop} (h : Q (!decide (a = b)) H) : ACmp T Fs H .NotEq (.int a) (.int b) Q E := .ofInt h λ _ _ _ _ _ h => P.ne_int (by rw [show (a != b) = !decide (a = b) from rfl]; exact h)
theorem ACmp.eqStr {a b : Str} {Q : Bool -> AHeap -> Prop} (h : Q (a == b) H) : ACmp T Fs H .Eq (.str a) (.str b) Q E := λ A s v w ok R pv pw => by
 obtain ⟨t,rfl⟩ := pv.str_inv
 obtain ⟨u,rfl⟩ := pw.str_inv
 exact PyProof.Rows.eq_str ⟨_,rfl,postB_same R h⟩
theorem ACmp.neStr {a b : Str} {Q : Bool -> AHeap -> Prop} (h : Q (a != b) H) : ACmp T Fs H .NotEq (.str a) (.str b) Q E := λ A s v w ok R pv pw => by
 obtain ⟨t,rfl⟩ := pv.str_inv
 obtain ⟨u,rfl⟩ := pw.str_inv
 exact PyProof.Rows.ne_str ⟨_,rfl,postB_same R h⟩
noncomputable def PV.isNone : PV -> Bool
 | .none => true
 | _ => false
theorem PR.isNone {h : Heap} {p : PV} {v : Value} (x : PR h p v) : (v == .none) = p.isNone := by
 cases p with
 | none => rw [x.none_inv]; rfl
 | bool => rw [x.bool_inv]; rfl
 | int => obtain ⟨t,rfl⟩ := x.int_inv; rfl
 | str => obtain ⟨t,rfl⟩ := x.str_inv; rfl
 | tup => obtain ⟨a,o,vs,n,rfl,_⟩ := x.tup_inv; rfl
 | ref => rw [x.ref_inv]; rfl
 | ty => rw [x.ty_inv]; rfl
 | bi => rw [x.bi_inv]; rfl
theorem ACmp.isNone {p : PV} {Q : Bool -> AHeap -> Prop} (h : Q p.isNone H) : ACmp T Fs H .Is p .none Q E := λ A s v w ok R pv pw => by
 rw [pw.none_inv]; exact is_none ⟨_,rfl,by rw [pv.isNone]; exact postB_same R h⟩
theorem ACmp.isNotNone {p : PV} {Q : Bool -> AHeap -> Prop} (h : Q (!p.isNone) H) : ACmp T Fs H .IsNot p .none Q E := λ A s v w ok R pv pw => by
 rw [pw.none_inv]; exact isNot_none ⟨_,rfl,by rw [pv.isNone]; exact postB_same R h⟩
theorem wpA_release {M : Model} {vs keep : List Value} {Q : Unit -> Shared -> Prop} (h : Q () s) : wpAny M A (release vs keep) Q E s := λ Γ p hΓ => by rw [Sem.wp_release]; exact h
theorem wpA_operate {M : Model} {vs : List Value} {m : Sem Value} {Q : Value -> Shared -> Prop} (h : wpAny M A m Q E s) : wpAny M A (operate vs m) Q E s := λ Γ p hΓ => by rw [Sem.wp_operate]; exact h Γ p hΓ
theorem AE.cmp {l r : Expr} {op : CmpOp} {pos : Pos} {Q : PV -> AHeap -> Prop} (h : AE T f Fs H l (λ p H₁ => AE T f Fs H₁ r (λ q H₂ => ACmp T (.fr f :: Fs) H₂ op p q (λ b H₃ => Q (.bool b) H₃) E) E) E)
  (hm : behindInMarks op r = false := by with_unfolding_all rfl) : AE T f Fs H (.Compare l [op] [r] pos) Q E :=
 λ A s ok R => wpAny_Compare1 (wpAny_mono (h A s ok R) (λ v s₁ hh => hh.elim λ p H₁ pr R₁ k₁ h₁ => wpAny_mono (h₁ A s₁ ok R₁) (λ w s₂ hh => hh.elim λ q H₂ qr R₂ k₂ h₂ =>
  wpAny_mono (h₂ A s₂ v w ok R₂ (pr.keep k₂) qr) (λ u s₃ hh => hh.elim λ b eb H' R' k' hq => ⟨.bool b,H',eb ▸ PR.bool,R',k₁.trans (k₂.trans k'),hq⟩) λ _ _ x => x) λ _ _ x => x) λ _ _ x => x) hm
theorem AT.cmp {l r : Expr} {op : CmpOp} {pos : Pos} {Q : Bool -> AHeap -> Prop} (h : AE T f Fs H l (λ p H₁ => AE T f Fs H₁ r (λ q H₂ => ACmp T (.fr f :: Fs) H₂ op p q Q E) E) E)
  (hm : behindInMarks op r = false := by with_unfolding_all rfl) : AT T f Fs H (.Compare l [op] [r] pos) Q E :=
 λ A s ok R => wpAny_isTrue_Compare1 (wpAny_mono (h A s ok R) (λ v s₁ hh => hh.elim λ p H₁ pr R₁ k₁ h₁ => wpAny_mono (h₁ A s₁ ok R₁) (λ w s₂ hh => hh.elim λ q H₂ qr R₂ k₂ h₂ =>
  wpAny_mono (h₂ A s₂ v w ok R₂ (pr.keep k₂) qr) (λ u s₃ hh => hh.elim λ b eb H' R' k' hq => eb ▸ wpAny_truthy_bool ⟨H',R',k₁.trans (k₂.trans k'),hq⟩) λ _ _ x => x) λ _ _ x => x) λ _ _ x => x) hm
theorem AT.cmp2 {l r r' : Expr} {op op' : CmpOp} {pos : Pos} {Q : Bool -> AHeap -> Prop}
  (h : AE T f Fs H l (λ p H₁ => AE T f Fs H₁ r (λ q H₂ => ACmp T (.fr f :: Fs) H₂ op p q (λ b H₃ => if b then AE T f Fs H₃ r' (λ q' H₄ => ACmp T (.fr f :: Fs) H₄ op' q q' Q E) E else Q false H₃) E) E) E)
  (hm : behindInMarks op' r' = false := by with_unfolding_all rfl) : AT T f Fs H (.Compare l [op,op'] [r,r'] pos) Q E := λ A s ok R => by
 show wpAny _ _ (do testChain pos (<- eval l f.env) [op,op'] [eval r f.env,markedBehindIn op' r' (eval r' f.env)]) _ _ _
 refine wpAny_bind (wpAny_mono (h A s ok R) (λ v s₁ hh => hh.elim λ p H₁ pr R₁ k₁ h₁ => ?_) λ _ _ x => x)
 refine wpAny_bind (m := holding _ _) (wpAny_holding (wpAny_mono (h₁ A s₁ ok R₁) (λ w s₂ hh => hh.elim λ q H₂ qr R₂ k₂ h₂ => wpAny_bind (wpAny_standAt ?_)) λ _ _ x => x))
 refine wpAny_bind (wpAny_holding (wpAny_mono (h₂ A s₂ v w ok R₂ (pr.keep k₂) qr) (λ u s₃ hh => hh.elim λ b eb H₃ R₃ k₃ h₃ => ?_) λ _ _ x => x))
 subst eb
 refine wpAny_bind (wpA_release (wpAny_bind (wpAny_holding (wpAny_truthy_bool ?_))))
 cases b with
 | false => exact wpAny_pure ⟨H₃,R₃,k₁.trans (k₂.trans k₃),h₃⟩
 | true =>
  simp only [if_true] at h₃ ⊢
  rw [markedBehindIn_of_false hm]
  refine wpAny_bind (m := holding _ _) (wpAny_holding (wpAny_mono (h₃ A s₃ ok R₃) (λ w' s₄ hh => hh.elim λ q' H₄ qr' R₄ k₄ h₄ => wpAny_bind (wpAny_standAt ?_)) λ _ _ x => x))
  refine wpAny_bind (wpA_operate (wpAny_mono (h₄ A s₄ w w' ok R₄ (qr.keep (k₃.trans k₄)) qr') (λ u s₅ hh => hh.elim λ b eb H₅ R₅ k₅ h₅ => ?_) (λ _ _ x => x)))
  subst eb
  exact wpAny_holding (wpAny_truthy_bool ⟨H₅,R₅,k₁.trans (k₂.trans (k₃.trans (k₄.trans k₅))),h₅⟩)
theorem AT.not {e : Expr} {pos : Pos} {Q : Bool -> AHeap -> Prop} (h : AT T f Fs H e (λ b H₁ => Q (!b) H₁) E) : AT T f Fs H (.UnaryOp .Not e pos) Q E :=
 λ A s ok R => wpAny_isTrue_Not (wpAny_mono (h A s ok R) (λ b s₁ hh => hh.elim λ H₁ R₁ k₁ q => ⟨H₁,R₁,k₁,q⟩) λ _ _ x => x)
noncomputable def AAll (T : Tr) (f : FR) (Fs : List AF) (H : AHeap) (op : BoolOp) (es : List Expr) (Q : Bool -> AHeap -> Prop) (E : Value -> Shared -> Prop) : Prop :=
 ∀ A s,AOk T (.fr f :: Fs) A -> Rep T.C (.fr f :: Fs) H s -> wpAny T.C.M A (allTrue op es f.env) (PostB T (.fr f :: Fs) s Q) E s
theorem AT.boolop {op : BoolOp} {es : List Expr} {pos : Pos} {Q : Bool -> AHeap -> Prop} (h : AAll T f Fs H op es Q E) : AT T f Fs H (.BoolOp op es pos) Q E := λ A s ok R => wpAny_isTrue_BoolOp (h A s ok R)
theorem AAll.and_nil {Q : Bool -> AHeap -> Prop} (h : Q true H) : AAll T f Fs H .And [] Q E := λ A s ok R => wpAny_allTrue_And_nil (postB_same R h)
theorem AAll.or_nil {Q : Bool -> AHeap -> Prop} (h : Q false H) : AAll T f Fs H .Or [] Q E := λ A s ok R => wpAny_allTrue_Or_nil (postB_same R h)
theorem AAll.and {e : Expr} {es : List Expr} {Q : Bool -> AHeap -> Prop} (h : AT T f Fs H e (λ b H₁ => if b then AAll T f Fs H₁ .And es Q E else Q false H₁) E) : AAll T f Fs H .And (e :: es) Q E := λ A s ok R =>
 wpAny_allTrue_And_cons (wpAny_mono (h A s ok R) (λ b s₁ hh => hh.elim λ H₁ R₁ k₁ h₁ => by
  cases b with
  | false => exact ⟨H₁,R₁,k₁,h₁⟩
  | true => exact wpAny_mono (h₁ A s₁ ok R₁) (λ b s₂ hh => hh.elim λ H₂ R₂ k₂ h₂ => ⟨H₂,R₂,k₁.trans k₂,h₂⟩) λ _ _ x => x) λ _ _ x => x)
theorem AAll.or {e : Expr} {es : List Expr} {Q : Bool -> AHeap -> Prop} (h : AT T f Fs H e (λ b H₁ => if b then Q true H₁ else AAll T f Fs H₁ .Or es Q E) E) : AAll T f Fs H .Or (e :: es) Q E := λ A s ok R =>
 wpAny_allTrue_Or_cons (wpAny_mono (h A s ok R) (λ b s₁ hh => hh.elim λ H₁ R₁ k₁ h₁ => by
  cases b with
  | true => exact ⟨H₁,R₁,k₁,h₁⟩
  | false => exact wpAny_mono (h₁ A s₁ ok R₁) (λ b s₂ hh => hh.elim λ H₂ R₂ k₂ h₂ => ⟨H₂,R₂,k₁.trans k₂,h₂⟩) λ _ _ x => x) λ _ _ x => x)
theorem AT.value {e : Expr} {Q : Bool -> AHeap -> Prop} (h : AE T f Fs H e (λ p H₁ => ATr T (.fr f :: Fs) H₁ p Q E) E)
  (he : isTrue e f.env (eval e f.env) = (do let v <- eval e f.env; standAt e.pos; holding [v] (truthy v)) := by rfl) : AT T f Fs H e Q E := λ A s ok R =>
 wpAny_isTrue_value (wpAny_mono (h A s ok R) (λ v s₁ hh => hh.elim λ p H₁ pr R₁ k₁ h₁ => wpAny_mono (h₁ A s₁ v ok R₁ pr) (λ b s₂ hh => hh.elim λ H₂ R₂ k₂ h₂ => ⟨H₂,R₂,k₁.trans k₂,h₂⟩) λ _ _ x => x) λ _ _ x => x) he
theorem ATr.bool {b : Bool} {Q : Bool -> AHeap -> Prop} (h : Q b H) : ATr T Fs H (.bool b) Q E := λ A s v ok R pv => by rw [pv.bool_inv]; exact wpAny_truthy_bool (postB_same R h)
theorem ATr.int {i : Int} {Q : Bool -> AHeap -> Prop} (h : Q (!decide (i = 0)) H) : ATr T Fs H (.int i) Q E := λ A s v ok R pv => by
 obtain ⟨t,rfl⟩ := pv.int_inv
 exact P.truthy_int (postB_same R (by rw [show (i != 0) = !decide (i = 0) from rfl]; exact h))
theorem AE.ifexp {t a b : Expr} {pos : Pos} {Q : PV -> AHeap -> Prop} (h : AT T f Fs H t (λ c H₁ => if c then AE T f Fs H₁ a Q E else AE T f Fs H₁ b Q E) E) : AE T f Fs H (.IfExp t a b pos) Q E := λ A s ok R =>
 wpAny_IfExp (wpAny_mono (h A s ok R) (λ c s₁ hh => hh.elim λ H₁ R₁ k₁ h₁ => by
  have tail : ∀ {e : Expr},AE T f Fs H₁ e Q E -> wpAny T.C.M A (eval e f.env) (PostV T (.fr f :: Fs) s Q) E s₁ := λ h => wpAny_mono (h A s₁ ok R₁) (λ v s₂ hh => hh.elim λ p H₂ pr R₂ k₂ h₂ => ⟨p,H₂,pr,R₂,k₁.trans k₂,h₂⟩) λ _ _ x => x
  cases c with
  | true => exact tail h₁
  | false => exact tail h₁) λ _ _ x => x)
theorem AL.nil {Q : List PV -> AHeap -> Prop} (h : Q [] H) : AL T f Fs H [] Q E := λ A s pos ok R => wpAny_items_nil ⟨[],H,PRs.nil,R,TupKeep.refl _,h⟩
theorem AL.cons {e : Expr} {es : List Expr} {Q : List PV -> AHeap -> Prop} (h : AE T f Fs H e (λ p H₁ => AL T f Fs H₁ es (λ ps H₂ => Q (p :: ps) H₂) E) E)
  (he : starEach (e :: es) f.env = (false,eval e f.env) :: starEach es f.env := by rfl) : AL T f Fs H (e :: es) Q E := λ A s pos ok R =>
 wpAny_items_cons (wpAny_mono (h A s ok R) (λ v s₁ hh => hh.elim λ p H₁ pr R₁ k₁ h₁ => wpAny_mono (h₁ A s₁ pos ok R₁) (λ vs s₂ hh => hh.elim λ ps H₂ prs R₂ k₂ h₂ =>
  ⟨p :: ps,H₂,PRs.cons (pr.keep k₂) prs,R₂,k₁.trans k₂,h₂⟩) λ _ _ x => x) λ _ _ x => x) he
end
end
section
noncomputable abbrev Ls := List (Str × PV)
inductive AFl where
 | next | brk | cont
 | ret (p : PV)
noncomputable def FlR (h : Heap) : AFl -> Flow -> Prop
 | .next,.next => True
 | .brk,.brk => True
 | .cont,.cont => True
 | .ret p,.ret v => PR h p v
 | _,_ => False
inductive PostX (T : Tr) (env : Env) (Fs : List AF) (s : Shared) (Q : AFl -> Ls -> AHeap -> Prop) (fl : Flow) (s' : Shared) : Prop
 | mk (a : AFl) (ls' : Ls) (H' : AHeap) (fr : FlR s'.heap a fl) (R : Rep T.C (.fr ⟨.fn,env,ls'⟩ :: Fs) H' s') (k : TupKeep s.heap s'.heap) (q : Q a ls' H') : PostX T env Fs s Q fl s'
inductive PostA (T : Tr) (f : FR) (Fs : List AF) (s : Shared) (Q : Ls -> AHeap -> Prop) (s' : Shared) : Prop
 | mk (ls' : Ls) (H' : AHeap) (R : Rep T.C (.fr { f with ls := ls' } :: Fs) H' s') (k : TupKeep s.heap s'.heap) (q : Q ls' H') : PostA T f Fs s Q s'
theorem PostX.elim {T : Tr} {env : Env} {Fs : List AF} {s : Shared} {Q : AFl -> Ls -> AHeap -> Prop} {fl : Flow} {s' : Shared} {P : Prop} (h : PostX T env Fs s Q fl s') (k : ∀ (a : AFl) (ls' : Ls) (H' : AHeap),FlR s'.heap a fl -> Rep T.C (.fr ⟨.fn,env,ls'⟩ :: Fs) H' s' -> TupKeep s.heap s'.heap -> Q a ls' H' -> P) : P := by cases h with | mk a ls' H' x y z w => exact k a ls' H' x y z w
theorem PostA.elim {T : Tr} {f : FR} {Fs : List AF} {s : Shared} {Q : Ls -> AHeap -> Prop} {s' : Shared} {P : Prop} (h : PostA T f Fs s Q s') (k : ∀ (ls' : Ls) (H' : AHeap),Rep T.C (.fr { f with ls := ls' } :: Fs) H' s' -> TupKeep s.heap s'.heap -> Q ls' H' -> P) : P := by cases h with | mk ls' H' x y z => exact k ls' H' x y z
noncomputable def AX (T : Tr) (env : Env) (Fs : List AF) (ls : Ls) (H : AHeap) (ss : List Stmt) (Q : AFl -> Ls -> AHeap -> Prop) (E : Value -> Shared -> Prop) : Prop :=
 ∀ A s,AOk T (.fr ⟨.fn,env,ls⟩ :: Fs) A -> Rep T.C (.fr ⟨.fn,env,ls⟩ :: Fs) H s -> wpAny T.C.M A (execs ss env) (PostX T env Fs s Q) E s
noncomputable def AS (T : Tr) (env : Env) (Fs : List AF) (ls : Ls) (H : AHeap) (st : Stmt) (Q : AFl -> Ls -> AHeap -> Prop) (E : Value -> Shared -> Prop) : Prop :=
 ∀ A s,AOk T (.fr ⟨.fn,env,ls⟩ :: Fs) A -> Rep T.C (.fr ⟨.fn,env,ls⟩ :: Fs) H s -> wpAny T.C.M A (exec st env) (PostX T env Fs s Q) E s
noncomputable def AA (T : Tr) (f : FR) (Fs : List AF) (H : AHeap) (t : Expr) (p : PV) (Q : Ls -> AHeap -> Prop) (E : Value -> Shared -> Prop) : Prop :=
 ∀ A s v,AOk T (.fr f :: Fs) A -> Rep T.C (.fr f :: Fs) H s -> PR s.heap p v -> wpAny T.C.M A (assign t f.env v) (λ _ s' => PostA T f Fs s Q s') E s
noncomputable def Then (T : Tr) (env : Env) (Fs : List AF) (rest : List Stmt) (Q : AFl -> Ls -> AHeap -> Prop) (E : Value -> Shared -> Prop) (a : AFl) (ls : Ls) (H : AHeap) : Prop := match a with
 | .next => AX T env Fs ls H rest Q E
 | a => Q a ls H
section
variable {T : Tr} {f : FR} {env : Env} {ls : Ls} {Fs : List AF} {H : AHeap} {E : Value -> Shared -> Prop} {s : Shared} {A : Around}
theorem AOk.any {c : FK} {ls ls' : Ls} (ok : AOk T (.fr ⟨c,env,ls⟩ :: Fs) A) : AOk T (.fr ⟨c,env,ls'⟩ :: Fs) A := by
 cases c <;> exact ⟨ok.frames,ok.depth,ok.units,ok.handled,ok.ctx⟩
theorem AX.cons {st : Stmt} {rest : List Stmt} {Q : AFl -> Ls -> AHeap -> Prop} (h : AS T env Fs ls H st (Then T env Fs rest Q E) E) : AX T env Fs ls H (st :: rest) Q E := λ A s ok R => by
 refine wpAny_execs_cons (wpAny_mono (h A s ok R) (λ fl s₁ hh => hh.elim λ a ls₁ H₁ fr R₁ k₁ h₁ => ?_) λ _ _ x => x)
 cases a <;> cases fl <;> first | exact fr.elim | skip
 ·exact wpAny_mono (h₁ A s₁ ok.any R₁) (λ fl s₂ hh => hh.elim λ a ls₂ H₂ fr R₂ k₂ h₂ => ⟨a,ls₂,H₂,fr,R₂,k₁.trans k₂,h₂⟩) λ _ _ x => x
 ·exact ⟨_,ls₁,H₁,fr,R₁,k₁,h₁⟩
 ·exact ⟨_,ls₁,H₁,fr,R₁,k₁,h₁⟩
 ·exact ⟨_,ls₁,H₁,fr,R₁,k₁,h₁⟩
theorem AX.nil {Q : AFl -> Ls -> AHeap -> Prop} (h : Q .next ls H) : AX T env Fs ls H [] Q E := λ A s ok R => wpAny_execs_nil ⟨.next,ls,H,trivial,R,TupKeep.refl _,h⟩
theorem AX.mono {ss : List Stmt} {Q Q' : AFl -> Ls -> AHeap -> Prop} (h : AX T env Fs ls H ss Q E) (hq : ∀ a ls H,Q a ls H -> Q' a ls H) : AX T env Fs ls H ss Q' E :=
 λ A s ok R => wpAny_mono (h A s ok R) (λ v s' hh => hh.elim λ a ls' H' x y z q => ⟨a,ls',H',x,y,z,hq _ _ _ q⟩) λ _ _ x => x
theorem frOk_weak {h : Heap} {c : FK} {ls ls' : Ls} (x : FrOk h ⟨c,env,ls⟩) (hl : ∀ y p,ls'.lookup y = some p -> ls.lookup y = some p) : FrOk h ⟨c,env,ls'⟩ :=
 ⟨x.kind,x.globals,x.builtins,let ⟨m,a,b⟩ := x.ns; ⟨m,a,λ y p e k => b y p (hl y p e) k⟩,x.cells,λ y p e k => x.cellv y p (hl y p e) k,x.has,x.apart,x.locals,x.frame⟩
theorem Rep.weak {C : Cx} {c : FK} {ls ls' : Ls} {H H' : AHeap} (R : Rep C (.fr ⟨c,env,ls⟩ :: Fs) H s) (hl : ∀ y p,ls'.lookup y = some p -> ls.lookup y = some p) (hH : ∀ a o,H' a = some o -> H a = some o) : Rep C (.fr ⟨c,env,ls'⟩ :: Fs) H' s := by
 refine ⟨R.ok,R.keep,R.gens,R.os,λ g hg => ?_,?_,λ a o e => ?_⟩
 ·rcases List.mem_cons.mp hg with rfl | hg
  ·exact ⟨frOk_weak (R.frs _ (.head _)).1 hl,(R.frs _ (.head _)).2⟩
  ·exact R.frs g (.tail _ hg)
 ·exact List.pairwise_cons.mpr ⟨(List.pairwise_cons.mp R.apart).1,(List.pairwise_cons.mp R.apart).2⟩
 ·obtain ⟨x,y,z⟩ := R.objs a o (hH a o e)
  refine ⟨x,y,λ g hg => ?_⟩
  rcases List.mem_cons.mp hg with rfl | hg
  ·exact z (.fr ⟨c,env,ls⟩) (.head _)
  ·exact z g (.tail _ hg)
noncomputable def OwnCell (c : FK) (env : Env) (x : Str) : Prop := match c with
 | .fn => True
 | .cp cs => ∃ d,d ∈ cs /\ env.cells.lookup x = some d
theorem store_name {x : Str} {p : PV} {v : Value} {c : FK} {Q : Unit -> Shared -> Prop} (R : Rep T.C (.fr ⟨c,env,ls⟩ :: Fs) H s) (hk : env.kindOf x = some .local \/ (env.kindOf x = some .cell /\ OwnCell c env x)) (hp : PR s.heap p v)
  (h : ∀ s',Rep T.C (.fr ⟨c,env,(x,p) :: ls⟩ :: Fs) H s' -> TupKeep s.heap s'.heap -> Q () s') : wpAny T.C.M A (storeName env x v) Q E s := by
 have F : FrOk s.heap ⟨c,env,ls⟩ := (R.frs _ (.head _)).1
 have lk : ∀ y q,((x,p) :: ls).lookup y = some q -> (y = x /\ q = p) \/ (y ≠ x /\ ls.lookup y = some q) := λ y q e => by
  rw [List.lookup_cons] at e
  by_cases hy : y = x
  ·subst hy; simp at e; exact .inl ⟨rfl,e.symm⟩
  ·have : (y == x) = false := beq_eq_false_iff_ne.mpr hy
   rw [this] at e; exact .inr ⟨hy,e⟩
 obtain ⟨m,hm,hv⟩ := F.ns
 rcases hk with hk | hk
 ·have F1 := F.kind
  refine wpAny_storeName_local hk hm (λ h' hn' sb => ?_) (by rw [show env.scope.kind = .function from F1]; rfl)
  have tk : TupKeep s.heap h' := TupKeep.of_ext sb.extBut λ o e => by
   obtain ⟨o',es,ep,ho',hd,_⟩ := hm
   rw [ho'] at e; cases e; exact .dict hd
  refine h _ (R.frame (z := env.locals) (s' := { s with heap := h',toks := s.toks + 1 }) List.mem_cons_self sb.extBut tk ?_ rfl rfl rfl) tk
  have kc : ∀ y ∈ env.cells,∀ o,s.heap.get? y.2 = some o -> h'.get? y.2 = some o := λ y hy o e => (sb.2 y.2 (F.locals y hy)).trans e
  refine ⟨F.kind,F.globals,F.builtins,⟨_,hn',λ y q e k => ?_⟩,λ y hy => let ⟨v,r⟩ := F.cells y hy; ⟨v,isCell_at r (kc y hy)⟩,λ y q e k => ?_,F.has,F.apart,F.locals,F.frame⟩
  ·rcases lk y q e with ⟨rfl,rfl⟩ | ⟨hy,e⟩
   ·exact ⟨v,by simp,hp.keep tk⟩
   ·obtain ⟨u,e1,r⟩ := hv y q e k
    exact ⟨u,by simp [hy,e1],r.keep tk⟩
  ·rcases lk y q e with ⟨rfl,rfl⟩ | ⟨hy,e⟩
   ·have k : env.kindOf y = some .cell \/ env.kindOf y = some .free := k
    rw [hk] at k; rcases k with k | k <;> cases k
   ·obtain ⟨d,u,e1,r,pr⟩ := F.cellv y q e k
    exact ⟨d,u,e1,isCell_at r (kc (y,d) (mem_of_lookup e1)),pr.keep tk⟩
 ·obtain ⟨hk,hoc⟩ := hk
  obtain ⟨d,hd⟩ := F.has x (.inl hk)
  have hmem := mem_of_lookup hd
  obtain ⟨v₀,ic⟩ := F.cells (x,d) hmem
  refine wpAny_storeName_cell F.kind hk hd ic λ h' ic' sb => ?_
  have tk : TupKeep s.heap h' := TupKeep.of_ext sb.extBut λ o e => by
   obtain ⟨o',ho',hd'⟩ := ic
   rw [ho'] at e; cases e; exact .cell hd'
  have hdo : d ∈ ownsE c env := by
   refine List.mem_cons_of_mem _ ?_
   cases c with
   | fn => exact List.mem_map.mpr ⟨(x,d),List.mem_filter.mpr ⟨hmem,by simp [hk]⟩,rfl⟩
   | cp cs =>
    obtain ⟨d',h1,h2⟩ := hoc
    rw [hd] at h2; cases h2
    exact List.mem_filter.mpr ⟨h1,by simpa using ⟨x,hmem⟩⟩
  refine h _ (R.frame (z := d) (s' := { s with heap := h' }) hdo sb.extBut tk ?_ rfl rfl rfl) tk
  have hLd : env.locals ≠ d := λ e => F.locals (x,d) hmem e.symm
  refine ⟨F.kind,F.globals,F.builtins,⟨m,ns_at hm (λ o e => (sb.2 _ hLd).trans e),λ y q e k => ?_⟩,λ y hy => ?_,λ y q e k => ?_,F.has,F.apart,F.locals,F.frame⟩
  ·rcases lk y q e with ⟨rfl,rfl⟩ | ⟨hy,e⟩
   ·have k : env.kindOf y = some .local := k
    rw [hk] at k; cases k
   ·obtain ⟨u,e1,r⟩ := hv y q e k
    exact ⟨u,e1,r.keep tk⟩
  ·by_cases hyd : y.2 = d
   ·exact ⟨_,hyd ▸ ic'⟩
   ·obtain ⟨u,r⟩ := F.cells y hy
    exact ⟨u,isCell_at r λ o e => (sb.2 _ hyd).trans e⟩
  ·rcases lk y q e with ⟨rfl,rfl⟩ | ⟨hy,e⟩
   ·exact ⟨d,v,hd,ic',hp.keep tk⟩
   ·obtain ⟨d',u,e1,r,pr⟩ := F.cellv y q e k
    have : d' ≠ d := apart_ne F.apart (mem_of_lookup e1) hmem hy
    exact ⟨d',u,e1,isCell_at r (λ o e => (sb.2 _ this).trans e),pr.keep tk⟩
noncomputable def isOwn : Option NameKind -> Bool
 | some .local => true
 | some .cell => true
 | _ => false
theorem isOwn_cases' {x : Str} {nm : List (Str × NameKind)} (hn : env.scope.names = nm) (hk : isOwn (nm.lookup x) = true) : env.kindOf x = some .local \/ env.kindOf x = some .cell := by
 rw [show env.kindOf x = env.scope.names.lookup x from rfl,hn]
 revert hk; generalize nm.lookup x = o; intro hk
 rcases o with _ | k
 ·cases hk
 ·cases k <;> first | exact .inl rfl | exact .inr rfl | cases hk
theorem isOwn_cases {x : Str} {nm : List (Str × NameKind)} (hn : env.scope.names = nm) (hk : isOwn (nm.lookup x) = true) : env.kindOf x = some .local \/ (env.kindOf x = some .cell /\ OwnCell .fn env x) := by
 rcases isOwn_cases' hn hk with h | h
 ·exact .inl h
 ·exact .inr ⟨h,trivial⟩
theorem AA.name {x : Str} {pos : Pos} {p : PV} {nm : List (Str × NameKind)} {Q : Ls -> AHeap -> Prop} (hn : env.scope.names = nm) (hk : isOwn (nm.lookup x) = true) (h : Q ((x,p) :: ls) H) : AA T ⟨.fn,env,ls⟩ Fs H (.Name x pos) p Q E :=
 λ A s v ok R hp => wpAny_assign_Name (store_name R (isOwn_cases hn hk) hp λ s' R' tk => ⟨_,H,R',tk,h⟩)
theorem AS.assign1 {t value : Expr} {pos : Pos} {Q : AFl -> Ls -> AHeap -> Prop} (hs : swapsWithSole [t] value pos.line env = pure false) (hw : swappedStores [t] value env = pure none) (he : assignEach [t] env = [(false,assign t env)])
  (h : AE T ⟨.fn,env,ls⟩ Fs H value (λ p H₁ => AA T ⟨.fn,env,ls⟩ Fs H₁ t p (λ ls' H₂ => Q .next ls' H₂) E) E) : AS T env Fs ls H (.Assign [t] value pos) Q E := λ A s ok R => by
 show wpAny T.C.M A (do
  standAt pos
  if <- swapsWithSole [t] value pos.line env then do
   evalThenUse value env λ v => assignAll v ((assignEach [t] env).map (·.2))
   pure .next
  else do
   let v <- eval value env
   assignStores env v (<- swappedStores [t] value env) ((assignEach [t] env).map (·.2))) _ _ _
 rw [hs,hw,he]
 refine wpAny_bind (wpAny_standAt (wpAny_bind (wpAny_pure ?_)))
 simp only [Bool.false_eq_true,if_false]
 refine wpAny_bind (wpAny_mono (h A s ok R) (λ v s₁ hh => hh.elim λ p H₁ pr R₁ k₁ h₁ => ?_) λ _ _ x => x)
 refine wpAny_bind (wpAny_pure ?_)
 unfold assignStores
 refine wpAny_bind ?_
 show wpAny _ _ (assign t env v) _ _ _
 exact wpAny_mono (h₁ A s₁ v ok R₁ pr) (λ _ s₂ hh => hh.elim λ ls' H₂ R₂ k₂ h₂ => wpAny_pure ⟨.next,ls',H₂,trivial,R₂,k₁.trans k₂,h₂⟩) λ _ _ x => x
theorem AS.ite {test : Expr} {body orelse : List Stmt} {pos : Pos} {Q : AFl -> Ls -> AHeap -> Prop} (h : AT T ⟨.fn,env,ls⟩ Fs H test (λ b H₁ => if b then AX T env Fs ls H₁ body Q E else AX T env Fs ls H₁ orelse Q E) E) : AS T env Fs ls H (.If test body orelse pos) Q E := λ A s ok R =>
 wpAny_If (wpAny_mono (h A s ok R) (λ b s₁ hh => hh.elim λ H₁ R₁ k₁ h₁ => by
  have tail : ∀ {ss : List Stmt},AX T env Fs ls H₁ ss Q E -> wpAny T.C.M A (execs ss env) (PostX T env Fs s Q) E s₁ := λ h => wpAny_mono (h A s₁ ok R₁) (λ v s₂ hh => hh.elim λ a ls₂ H₂ pr R₂ k₂ h₂ => ⟨a,ls₂,H₂,pr,R₂,k₁.trans k₂,h₂⟩) λ _ _ x => x
  cases b with
  | true => exact tail h₁
  | false => exact tail h₁) λ _ _ x => x)
theorem AS.ret {e : Expr} {pos : Pos} {Q : AFl -> Ls -> AHeap -> Prop} (h : AE T ⟨.fn,env,ls⟩ Fs H e (λ p H₁ => Q (.ret p) ls H₁) E) : AS T env Fs ls H (.Return (some e) pos) Q E := λ A s ok R =>
 wpAny_Return_some (wpAny_mono (h A s ok R) (λ v s₁ hh => hh.elim λ p H₁ pr R₁ k₁ h₁ => ⟨.ret p,ls,H₁,pr,R₁,k₁,h₁⟩) λ _ _ x => x)
theorem AS.brk {pos : Pos} {Q : AFl -> Ls -> AHeap -> Prop} (h : Q .brk ls H) : AS T env Fs ls H (.Break pos) Q E := λ A s ok R => wpAny_Break ⟨.brk,ls,H,trivial,R,TupKeep.refl _,h⟩
theorem AS.cont {pos : Pos} {Q : AFl -> Ls -> AHeap -> Prop} (h : Q .cont ls H) : AS T env Fs ls H (.Continue pos) Q E := λ A s ok R => wpAny_Continue ⟨.cont,ls,H,trivial,R,TupKeep.refl _,h⟩
theorem AS.pass {pos : Pos} {Q : AFl -> Ls -> AHeap -> Prop} (h : Q .next ls H) : AS T env Fs ls H (.Pass pos) Q E := λ A s ok R => wpAny_Pass ⟨.next,ls,H,trivial,R,TupKeep.refl _,h⟩
theorem AS.aug {x : Str} {p' pos : Pos} {op : Operator} {value : Expr} {old : PV} {nm : List (Str × NameKind)} {Q : AFl -> Ls -> AHeap -> Prop} (hn : env.scope.names = nm) (hk : isOwn (nm.lookup x) = true) (hl : ls.lookup x = some old)
  (h : AE T ⟨.fn,env,ls⟩ Fs H value (λ p H₁ => ABin T (.fr ⟨.fn,env,ls⟩ :: Fs) H₁ (inplaceOp op) old p (λ r H₂ => Q .next ((x,r) :: ls) H₂) E) E) (hc : (x == ("__classdict__" : Str)) = false := by decide) : AS T env Fs ls H (.AugAssign (.Name x p') op value pos) Q E := λ A s ok R => by
 have hk' : isVar (env.kindOf x) = true := by
  rcases isOwn_cases' hn hk with e | e <;> rw [e] <;> rfl
 refine wpAny_AugAssign_Name (wpAny_mono (load_name (f := ⟨.fn,env,ls⟩) (Q := λ p H' => p = old /\ H' = H) R hk' hl ⟨rfl,rfl⟩ hc) (λ v s₀ hh => hh.elim λ p₀ H₀ pr₀ R₀ k₀ h₀ => ?_) λ _ _ x => x)
 obtain ⟨rfl,rfl⟩ := h₀
 refine wpAny_mono (h A s₀ ok R₀) (λ w s₁ hh => hh.elim λ p H₁ pr R₁ k₁ h₁ => ?_) λ _ _ x => x
 refine wpAny_mono (h₁ A s₁ v w ok R₁ (pr₀.keep k₁) pr) (λ u s₂ hh => hh.elim λ r H₂ pr₂ R₂ k₂ h₂ => ?_) λ _ _ x => x
 exact store_name R₂ (isOwn_cases hn hk) pr₂ λ s' R' tk => ⟨.next,_,H₂,trivial,R',k₀.trans (k₁.trans (k₂.trans tk)),h₂⟩
theorem push_keep {h : Heap} {o : Obj} : ∀ b ob,h.get? b = some ob -> (h.push o).get? b = some ob := λ b ob e => Heap.get?_push_of_some _ e
theorem AE.tuple {es : List Expr} {k : Nat} {pos : Pos} {Q : PV -> AHeap -> Prop} (h : AL T f Fs H es (λ ps H₁ => ps.length <= 1000 /\ Q (.tup ps) H₁) E) : AE T f Fs H (.Tuple es k pos) Q E := λ A s ok R => by
 refine wpAny_Tuple (wpAny_mono (h A s pos ok R) (λ vs s₁ hh => hh.elim λ ps H₁ prs R₁ k₁ hq => ?_) λ _ _ x => x)
 have hz := hq.1
 have h₁ := hq.2
 refine ⟨by rw [<- prs.length]; exact Nat.le_trans hz (by decide),.tup ps,H₁,?_,R₁.ext push_keep,k₁.trans (TupKeep.of_keep push_keep),h₁⟩
 exact ⟨_,_,_,_,rfl,Heap.get?_push_size _ rfl,rfl,rfl,rfl,PRs.keep (TupKeep.of_keep push_keep) _ prs⟩
theorem stands_newList {C : Cx} {h : Heap} {ps : List PV} {vs : List Value} (prs : PRs h ps vs) : Stands C (h.push { cls := .type "list",data := .seq vs.toArray }) h.objs.size (.list ps) :=
 ⟨_,_,Heap.get?_push_size _ rfl,PRs.keep (TupKeep.of_keep push_keep) _ prs⟩
theorem AE.list {es : List Expr} {pos : Pos} {Q : PV -> AHeap -> Prop} (h : AL T f Fs H es (λ ps H₁ => ps.length <= 1000 /\ ∀ a,H₁ a = Option.none -> Q (.ref a) (upd H₁ a (.list ps))) E) : AE T f Fs H (.List es pos) Q E := λ A s ok R => by
 refine wpAny_List (wpAny_mono (h A s pos ok R) (λ vs s₁ hh => hh.elim λ ps H₁ prs R₁ k₁ hq => ?_) λ _ _ x => x)
 have hz := hq.1
 have h₁ := hq.2
 exact ⟨by rw [<- prs.length]; exact Nat.le_trans hz (by decide),_,_,PR.ref,R₁.new push_keep (Nat.le_refl _) (stands_newList prs),k₁.trans (TupKeep.of_keep push_keep),h₁ _ R₁.fresh⟩
end
end
section
structure ClsOk (K : Frag) (c : Addr) : Prop where
 ga : findIn K (.ref c) "__getattribute__" = some (some (.builtin "object.__getattribute__"))
 gattr : findIn K (.ref c) "__getattr__" = some none
 sa : findIn K (.ref c) "__setattr__" = some (some (.builtin "object.__setattr__"))
 cd : (clsIn K c).any (·.hasDict) = true
 plain : plainOver K c = true
noncomputable def AGet (T : Tr) (Fs : List AF) (H : AHeap) (name : Str) (p : PV) (Q : PV -> AHeap -> Prop) (E : Value -> Shared -> Prop) : Prop :=
 ∀ A s v,AOk T Fs A -> Rep T.C Fs H s -> PR s.heap p v -> wpAny T.C.M A (getAttr v name true) (PostV T Fs s Q) E s
noncomputable def AMeth (T : Tr) (Fs : List AF) (H : AHeap) (name : Str) (p : PV) (g : PV) : Prop :=
 ∀ A s v pl (Q : Value × List Value -> Shared -> Prop) E,AOk T Fs A -> Rep T.C Fs H s -> PR s.heap p v -> (∀ u,PR s.heap g u -> Q (u,[v]) s) -> wpAny T.C.M A (getMethod v name pl) Q E s
noncomputable def ASub (T : Tr) (Fs : List AF) (H : AHeap) (value slice : Expr) (p q : PV) (Q : PV -> AHeap -> Prop) (E : Value -> Shared -> Prop) : Prop :=
 ∀ A s v w,AOk T Fs A -> Rep T.C Fs H s -> PR s.heap p v -> PR s.heap q w -> wpAny T.C.M A (subscriptTail value slice v w) (PostV T Fs s Q) E s
noncomputable def ASetItem (T : Tr) (Fs : List AF) (H : AHeap) (p i q : PV) (Q : AHeap -> Prop) (E : Value -> Shared -> Prop) : Prop :=
 ∀ A s v w u,AOk T Fs A -> Rep T.C Fs H s -> PR s.heap p v -> PR s.heap i w -> PR s.heap q u -> wpAny T.C.M A (setItem v w u) (λ _ s' => PostH T Fs s Q s') E s
noncomputable def ASetAttr (T : Tr) (Fs : List AF) (H : AHeap) (name : Str) (p q : PV) (Q : AHeap -> Prop) (E : Value -> Shared -> Prop) : Prop :=
 ∀ A s v u,AOk T Fs A -> Rep T.C Fs H s -> PR s.heap p v -> PR s.heap q u -> wpAny T.C.M A (setAttr v name u) (λ _ s' => PostH T Fs s Q s') E s
section
variable {T : Tr} {f : FR} {env : Env} {ls : Ls} {Fs : List AF} {H : AHeap} {E : Value -> Shared -> Prop} {s : Shared} {A : Around}
theorem Rep.kin {C : Cx} (R : Rep C Fs H s) : C.K.In s.heap := R.ok.kin.keeps R.keep
theorem ns1_lookIn {h : Heap} {a : Addr} {m : Str -> Option Value} (n : h.Ns1 a m) (name : Str) : ∃ o,h.get? a = some o /\ lookIn name o = some (m name) := by
 obtain ⟨o,es,ep,ho,hd,hk,_,hm⟩ := n
 refine ⟨o,ho,?_⟩
 unfold lookIn
 rw [hd]
 dsimp only
 have := hm name
 unfold nsFind findBy at this
 rw [<- Array.find?_toList] at this
 cases e : es.toList.find? (·.key.isStr name) with
 | some en => rw [e] at this; simp at this; simp [this]
 | none =>
  rw [e] at this; simp at this
  have hr : es.toList.any (·.refKey) = false := by
   rw [List.any_eq_false]; intro x hx
   obtain ⟨n,t,q⟩ := hk x (by simpa using hx)
   simp [DictEntry.refKey,q]
  simp [hr,this]
theorem instAt_of {C : Cx} {x c d : Addr} {l : Ls} (R : Rep C Fs H s) (hx : H x = some (.inst c d)) (hd : H d = some (.attrs l)) (name : Str) :
  ∃ ox od,InstAt s.heap x ox c (some od) /\ ox.dict = some d /\ s.heap.get? d = some od /\ (∀ p,l.lookup name = some p -> ∃ v,lookIn name od = some (some v) /\ PR s.heap p v) /\ (l.lookup name = none -> lookIn name od = some none) := by
 obtain ⟨⟨ox,hox,hc,hdict,hdata,_⟩,_⟩ := R.objs x _ hx
 obtain ⟨⟨m,n,h1,h2⟩,_⟩ := R.objs d _ hd
 obtain ⟨od,hod,hl⟩ := ns1_lookIn n name
 refine ⟨ox,od,⟨hox,hc,by unfold notCls; rw [hdata],by rw [hdict]; exact hod⟩,hdict,hod,λ p e => ?_,λ e => ?_⟩
 ·obtain ⟨v,e1,pr⟩ := h2 name p e
  exact ⟨v,by rw [hl,e1],pr⟩
 ·rw [hl,h1 name e]
theorem findObj_value {K : Frag} {c : Addr} {od : Obj} {name : Str} {v : Value} (hc : (clsIn K c).any (·.hasDict) = true) (hn : findIn K (.ref c) name = some none) (hl : lookIn name od = some (some v)) : findObj K c (some od) name = some (.value v) := by
 obtain ⟨cd,h1,h2⟩ := any_some hc
 delta findObj
 rw [h1,Option.bind_some,hn,Option.bind_some]
 dsimp only
 have e : W.ownOf cd (some od) name = some (some v) := by simp [W.ownOf,h2,hl]
 refine Eq.trans (b := (W.ownOf cd (some od) name).bind _) rfl ?_
 rw [e]; rfl
noncomputable def PV.handed : PV -> Bool
 | .bi _ => false
 | _ => true
theorem PR.handed {h : Heap} {p : PV} {v : Value} (x : PR h p v) (hp : p.handed = true) : handedIn v = true := by
 cases p with
 | none => rw [x.none_inv]; rfl
 | bool => rw [x.bool_inv]; rfl
 | int => obtain ⟨t,rfl⟩ := x.int_inv; rfl
 | str => obtain ⟨t,rfl⟩ := x.str_inv; rfl
 | tup => obtain ⟨a,o,vs,n,rfl,_⟩ := x.tup_inv; rfl
 | ref => rw [x.ref_inv]; rfl
 | ty => rw [x.ty_inv]; rfl
 | bi => cases hp
theorem AGet.inst {x c d : Addr} {l : Ls} {name : Str} {p : PV} {Q : PV -> AHeap -> Prop} (hc : ClsOk T.C.K c) (hn : findIn T.C.K (.ref c) name = some none) (hx : H x = some (.inst c d)) (hd : H d = some (.attrs l)) (hl : l.lookup name = some p) (hp : p.handed = true) (h : Q p H) :
  AGet T Fs H name (.ref x) Q E := λ A s v ok R pv => by
 rw [pv.ref_inv]
 obtain ⟨ox,od,I,_,_,h1,_⟩ := instAt_of R hx hd name
 obtain ⟨u,e,pr⟩ := h1 p hl
 exact get_value R.kin I hc.ga (findObj_value hc.cd hn e) (pr.handed hp) (post_same R pr h)
theorem AMeth.own {x c d g : Addr} {l : Ls} {name : Str} (hc : ClsOk T.C.K c) (hf : findIn T.C.K (.ref c) name = some (some (.ref g))) (ht : typeIn T.C.K (.ref g) = some (.type "function")) (hx : H x = some (.inst c d)) (hd : H d = some (.attrs l)) (hl : l.lookup name = none) :
  AMeth T Fs H name (.ref x) (.ref g) := λ A s v pl Q E ok R pv h => by
 rw [pv.ref_inv] at h ⊢
 obtain ⟨ox,od,I,_,_,_,h2⟩ := instAt_of R hx hd name
 exact method_fn R.kin I hc.ga hc.gattr hf ht (by unfold shadowIn; dsimp only; rw [h2 hl]; rfl) (h _ PR.ref)
theorem AE.attr {value : Expr} {attr : Str} {pos : Pos} {Q : PV -> AHeap -> Prop} (hb : attributeBase value attr f.env (eval value f.env) = eval value f.env) (h : AE T f Fs H value (λ p H₁ => AGet T (.fr f :: Fs) H₁ attr p Q E) E) : AE T f Fs H (.Attribute value attr pos) Q E := λ A s ok R => by
 rw [arm_eval_Attribute,hb]
 refine wpAny_bind (wpAny_mono (h A s ok R) (λ v s₁ hh => hh.elim λ p H₁ pr R₁ k₁ h₁ => wpAny_bind (wpAny_standAt (wpAny_bind (wpAny_holding (wpAny_mono (h₁ A s₁ v ok R₁ pr) (λ u s₂ hh => hh.elim λ q H₂ qr R₂ k₂ h₂ => ?_) λ _ _ x => x))))) λ _ _ x => x)
 exact wpAny_bind (wpAny_letTemporaryGo (wpAny_pure ⟨q,H₂,qr,R₂,k₁.trans k₂,h₂⟩))
theorem AE.sub {value slice : Expr} {pos : Pos} {Q : PV -> AHeap -> Prop} (h : AE T f Fs H value (λ p H₁ => AE T f Fs H₁ slice (λ q H₂ => ASub T (.fr f :: Fs) H₂ value slice p q Q E) E) E) : AE T f Fs H (.Subscript value slice pos) Q E := λ A s ok R =>
 Subscript_ (wpAny_mono (h A s ok R) (λ v s₁ hh => hh.elim λ p H₁ pr R₁ k₁ h₁ => wpAny_mono (h₁ A s₁ ok R₁) (λ w s₂ hh => hh.elim λ q H₂ qr R₂ k₂ h₂ =>
  wpAny_mono (h₂ A s₂ v w ok R₂ (pr.keep k₂) qr) (λ u s₃ hh => hh.elim λ p' H' pr' R' k' hq => ⟨p',H',pr',R',k₁.trans (k₂.trans k'),hq⟩) λ _ _ x => x) λ _ _ x => x) λ _ _ x => x)
theorem isList_of {C : Cx} {h : Heap} {a : Addr} {l : List PV} (S : Stands C h a (.list l)) : ∃ vs,h.IsList a vs /\ PRs h l vs.toList := by
 obtain ⟨vs,n,il,r⟩ := S
 exact ⟨vs,il.isList,r⟩
theorem item_of {h : Heap} {l : List PV} {vs : Array Value} (r : PRs h l vs.toList) {i : Nat} {p : PV} (e : l[i]? = some p) : ∃ v,vs[i]? = some v /\ PR h p v := by
 obtain ⟨v,e',pr⟩ := r.get i e
 exact ⟨v,by rw [<- Array.getElem?_toList]; exact e',pr⟩
theorem ASub.list {value slice : Expr} {a : Addr} {l : List PV} {k : Int} {p : PV} {Q : PV -> AHeap -> Prop} (hH : H a = some (.list l)) (h0 : 0 <= k) (hk : k < 2 ^ 63) (hx : l[k.toNat]? = some p) (h : Q p H)
  (hs : ∀ u,subscripted slice false (.ref a) (.int k u) = operate [.ref a,.int k u] (getItem (.ref a) (.int k u)) := by intro _; rfl) : ASub T Fs H value slice (.ref a) (.int k) Q E := λ A s v w ok R pv pw => by
 rw [pv.ref_inv]
 obtain ⟨t,rfl⟩ := pw.int_inv
 obtain ⟨vs,il,r⟩ := isList_of (R.objs a _ hH).1
 obtain ⟨u,e,pr⟩ := item_of r hx
 exact tail_any il.typeIs slot_list_getitem.lookup (wpAny_getItem_list il h0 hk e (post_same R pr h)) (hs t)
theorem ASub.tup {value slice : Expr} {l : List PV} {k : Int} {p : PV} {Q : PV -> AHeap -> Prop} (h0 : 0 <= k) (hk : k < 2 ^ 63) (hx : l[k.toNat]? = some p) (h : Q p H)
  (hs : ∀ a u,subscripted slice false (.ref a) (.int k u) = operate [.ref a,.int k u] (getItem (.ref a) (.int k u)) := by intro _ _; rfl) : ASub T Fs H value slice (.tup l) (.int k) Q E := λ A s v w ok R pv pw => by
 obtain ⟨a,o,vs,n,rfl,ho,hc,hd,hsq,r⟩ := pv.tup_inv
 obtain ⟨t,rfl⟩ := pw.int_inv
 obtain ⟨u,e,pr⟩ := item_of r hx
 have it : IsTup s.heap a vs := ⟨o,ho,hc,n,hsq⟩
 refine tail_any it.typeIs slot_tuple_getitem.lookup (getItem_tuple (j := k.toNat) it (Int.le_trans (by decide) h0) hk ?_ e (post_same R pr h)) (hs a t)
 have hlt : k.toNat < vs.size := by
  have := (List.getElem?_eq_some_iff.mp hx).1
  have hl := r.length
  simp at hl; omega
 have h1 : ¬ k < 0 := by omega
 have h2 : k < vs.size := by omega
 simp [seqIndex?,h1,h0,h2]
theorem atKey_of {l : List (Pt × PV)} {xs : List (List Int × Addr × Value)} {h : Heap} (r : DRel h l xs) (p : Pt) :
  (l.lookup p = none -> atKey xs (ptK p) = none) /\ ∀ q,l.lookup p = some q -> ∃ a v,atKey xs (ptK p) = some (a,v) /\ PR h q v := by
 induction l generalizing xs with
 | nil =>
  have : xs = [] := r
  subst this
  exact ⟨λ _ => rfl,λ q e => by cases e⟩
 | cons y l ih =>
  obtain ⟨y1,y2⟩ := y
  obtain ⟨⟨x1,x2,x3⟩,xs,rfl,e1,_,pr,r⟩ := r
  have e1 : x1 = ptK y1 := e1
  subst e1
  obtain ⟨i1,i2⟩ := ih r
  by_cases hp : p = y1
  ·subst hp
   have : atKey ((ptK p,x2,x3) :: xs) (ptK p) = some (x2,x3) := by simp [atKey]
   rw [List.lookup_cons]
   simp only [beq_self_eq_true]
   exact ⟨λ e => (by cases e),λ q e => by cases e; exact ⟨x2,x3,this,pr⟩⟩
  ·have hk : ptK y1 ≠ ptK p := λ e => hp (by simp [ptK] at e; exact Prod.ext e.1.symm e.2.symm)
   have : atKey ((ptK y1,x2,x3) :: xs) (ptK p) = atKey xs (ptK p) := by simp [atKey,hk]
   rw [List.lookup_cons,beq_eq_false_iff_ne.mpr hp,this]
   exact ⟨i1,i2⟩
theorem pt_key {C : Cx} {h : Heap} {p : Pt} {v : Value} (x : PR h (pt p) v) : ∃ a,v = .ref a /\ IsTupleKey (intKind C.prog C.w) h (ptK p) a := (isPt_of_PR x).key
theorem notSys {C : Cx} {a : Addr} {o : AO} (R : Rep C Fs H s) (e : H a = some o) : (a == sysModules) = false :=
 beq_eq_false_iff_ne.mpr (Nat.ne_of_gt (R.objs a o e).2.1.2)
end
end
section
noncomputable def dput (l : List (Pt × PV)) (p : Pt) (q : PV) : List (Pt × PV) := if (l.lookup p).isSome then l.map (λ e => if e.1 = p then (e.1,q) else e) else l ++ [(p,q)]
noncomputable def ddel (l : List (Pt × PV)) (p : Pt) : List (Pt × PV) := l.filter λ e => !decide (e.1 = p)
theorem ptK_inj {p q : Pt} (e : ptK p = ptK q) : p = q := by simp [ptK] at e; exact Prod.ext e.1 e.2
theorem DRel.length {h : Heap} {l : List (Pt × PV)} : ∀ {xs : List (List Int × Addr × Value)},DRel h l xs -> xs.length = l.length := by
 induction l with
 | nil => intro xs x; rw [show xs = [] from x]; rfl
 | cons e l ih => rintro _ ⟨x,r,rfl,-,-,-,y⟩; rw [List.length_cons,List.length_cons,ih y]
theorem DRel.snoc {h : Heap} {p : Pt} {q : PV} {a : Addr} {v : Value} (hp : PR h (pt p) (.ref a)) (hq : PR h q v) {l : List (Pt × PV)} : ∀ {xs : List (List Int × Addr × Value)},DRel h l xs -> DRel h (l ++ [(p,q)]) (xs ++ [(ptK p,a,v)]) := by
 induction l with
 | nil => intro xs x; rw [show xs = [] from x]; exact ⟨_,[],rfl,rfl,hp,hq,rfl⟩
 | cons e l ih => rintro _ ⟨x,r,rfl,b,c,d,y⟩; exact ⟨x,_,rfl,b,c,d,ih y⟩
theorem DRel.put {h : Heap} {p : Pt} {q : PV} {v : Value} (hq : PR h q v) {l : List (Pt × PV)} : ∀ {xs : List (List Int × Addr × Value)},DRel h l xs -> DRel h (l.map λ e => if e.1 = p then (e.1,q) else e) (xs.map (putAt (ptK p) v)) := by
 induction l with
 | nil => intro xs x; rw [show xs = [] from x]; rfl
 | cons e l ih =>
  rintro _ ⟨x,r,rfl,b,c,d,y⟩
  rw [List.map_cons,List.map_cons]
  by_cases he : e.1 = p
  ·rw [if_pos he,show putAt (ptK p) v x = (x.1,x.2.1,v) from if_pos (by rw [b,he])]
   exact ⟨_,_,rfl,b,c,hq,ih y⟩
  ·rw [if_neg he,show putAt (ptK p) v x = x from if_neg λ hk => he (ptK_inj (b.symm.trans hk))]
   exact ⟨_,_,rfl,b,c,d,ih y⟩
theorem DRel.get {h : Heap} {l : List (Pt × PV)} : ∀ {xs : List (List Int × Addr × Value)} {j : Nat} {x : List Int × Addr × Value},DRel h l xs -> xs[j]? = some x -> ∃ e,l[j]? = some e /\ x.1 = ptK e.1 /\ PR h (pt e.1) (.ref x.2.1) /\ PR h e.2 x.2.2 := by
 induction l with
 | nil => intro xs j x r e; rw [show xs = [] from r,List.getElem?_nil] at e; cases e
 | cons e l ih =>
  rintro _ j x ⟨x',r,rfl,b,c,d,y⟩ ex
  cases j with
  | zero => cases ex; exact ⟨e,rfl,b,c,d⟩
  | succ j => exact ih (j := j) y ex
theorem DRel.erase {h : Heap} {l : List (Pt × PV)} : ∀ {xs : List (List Int × Addr × Value)} (j : Nat),DRel h l xs -> DRel h (l.eraseIdx j) (xs.eraseIdx j) := by
 induction l with
 | nil => intro xs j x; rw [show xs = [] from x]; rfl
 | cons e l ih =>
  rintro _ j ⟨x,r,rfl,b,c,d,y⟩
  cases j with
  | zero => exact y
  | succ j => exact ⟨x,r.eraseIdx j,rfl,b,c,d,ih j y⟩
theorem DRel.at {h : Heap} : ∀ {l : List (Pt × PV)} {xs : List (List Int × Addr × Value)} {i : Nat} {e : Pt × PV},DRel h l xs -> l[i]? = some e -> ∃ x,xs[i]? = some x /\ PR h (pt e.1) (.ref x.2.1) := by
 intro l
 induction l with
 | nil => exact λ _ e => nomatch e
 | cons a l ih =>
  rintro _ i e ⟨x,r,rfl,a1,a2,a3,a4⟩ he
  cases i with
  | zero => cases he; exact ⟨x,rfl,a2⟩
  | succ i => exact ih (i := i) a4 he
theorem Rep.pin {C : Cx} {Fs : List AF} {H : AHeap} {s : Shared} (R : Rep C Fs H s) {d : Addr} {l : List (Pt × PV)} {po : Option Obj} (h : H d = some (.pdict l po)) : ∃ ob,Rep C Fs (upd H d (.pdict l (some ob))) s := by
 obtain ⟨⟨x,-⟩,y,z⟩ := R.objs d _ h
 obtain ⟨xs,⟨o,es,ep,ho,r⟩,q⟩ := x
 refine ⟨o,R.ok,R.keep,R.gens,R.os,R.frs,R.apart,λ a ob e => ?_⟩
 unfold upd at e
 split at e
 ·rename_i w; cases e; subst w
  exact ⟨⟨⟨xs,⟨o,es,ep,ho,r⟩,q⟩,λ _ e => by cases e; exact ho⟩,y,z⟩
 ·exact R.objs a ob e
theorem DRel.nodup {h : Heap} {l : List (Pt × PV)} {xs : List (List Int × Addr × Value)} (r : DRel h l xs) (hn : (xs.map (·.1)).Nodup) : (l.map (·.1)).Nodup := by
 induction l generalizing xs with
 | nil => exact List.nodup_nil
 | cons e l ih =>
  obtain ⟨x,r,rfl,b,c,d,y⟩ := r
  rw [List.map_cons] at hn ⊢
  obtain ⟨h1,h2⟩ := List.nodup_cons.mp hn
  refine List.nodup_cons.mpr ⟨λ hm => h1 ?_,ih y h2⟩
  clear h1 h2 hn ih
  rw [b]
  induction l generalizing r with
  | nil => cases hm
  | cons e' l ih =>
   obtain ⟨x',r',rfl,b',c',d',y'⟩ := y
   rw [List.map_cons] at hm ⊢
   rcases List.mem_cons.mp hm with e1 | hm
   ·rw [e1,<- b']; exact List.mem_cons_self
   ·exact List.mem_cons_of_mem _ (ih r' y' hm)
theorem eraseIdx_ddel {l : List (Pt × PV)} (hn : (l.map (·.1)).Nodup) {j : Nat} {e : Pt × PV} (he : l[j]? = some e) : l.eraseIdx j = ddel l e.1 := by
 unfold ddel
 induction l generalizing j with
 | nil => simp at he
 | cons y l ih =>
  rw [List.map_cons] at hn
  obtain ⟨h1,h2⟩ := List.nodup_cons.mp hn
  cases j with
  | zero =>
   simp at he; subst he
   simp only [List.eraseIdx_cons_zero,List.filter_cons,decide_true,Bool.not_true,Bool.false_eq_true,if_false]
   symm; rw [List.filter_eq_self]
   intro z hz
   have : z.1 ≠ y.1 := λ q => h1 (q ▸ List.mem_map.mpr ⟨z,hz,rfl⟩)
   simp [this]
  | succ j =>
   simp at he
   have hy : y.1 ≠ e.1 := λ q => h1 (q ▸ List.mem_map.mpr ⟨e,List.mem_of_getElem? he,rfl⟩)
   simp only [List.eraseIdx_cons_succ,List.filter_cons,hy,decide_false,Bool.not_false,if_true]
   rw [ih h2 he]
section
variable {T : Tr} {f : FR} {env : Env} {ls : Ls} {Fs : List AF} {H : AHeap} {E : Value -> Shared -> Prop} {s : Shared} {A : Around}
theorem AOk.cl (ok : AOk T Fs A) : A.units + 100 <= cLine := by have := ok.units; have : cLine = 9900 := rfl; omega
theorem ACmp.inDict {d : Addr} {l : List (Pt × PV)} {po : Option Obj} {p : Pt} {Q : Bool -> AHeap -> Prop} (hH : H d = some (.pdict l po)) (h : Q (l.lookup p).isSome H) : ACmp T Fs H .In (pt p) (.ref d) Q E := λ A s v w ok R pv pw => by
 rw [pw.ref_inv]
 obtain ⟨a,rfl,hk⟩ := pt_key (C := T.C) pv
 obtain ⟨xs,D,r⟩ := (R.objs d _ hH).1.1
 have := ok.cl
 refine wpAny_in_heap (knd := tupleKind (intKind T.C.prog T.C.w)) (k := ptK p) (show A.units + 1 < cLine by omega) hk (notSys R hH) D ⟨_,rfl,?_⟩
 obtain ⟨i1,i2⟩ := atKey_of r p
 cases e : l.lookup p with
 | none => rw [i1 e]; rw [e] at h; exact postB_same R h
 | some q => obtain ⟨a',v',e',_⟩ := i2 q e; rw [e']; rw [e] at h; exact postB_same R h
theorem notIn_of_in {v w : Value} {Q : Value -> Shared -> Prop} {M : Model} (h : wpAny M A (compareOp .In v w) (λ c s' => ∃ b,c = .bool b /\ Q (.bool (!b)) s') E s) : wpAny M A (compareOp .NotIn v w) Q E s := by
 have h : wpAny M A (contains w v >>= λ b => pure (Value.bool b)) (λ c s' => ∃ b,c = .bool b /\ Q (.bool (!b)) s') E s := h
 show wpAny M A (contains w v >>= λ b => pure (Value.bool (!b))) Q E s
 intro Γ p hΓ
 have := h Γ p hΓ
 rw [Sem.wp_bind'] at this ⊢
 refine Sem.wp_mono M Γ _ (λ b p' s' hb => ?_) (λ _ _ _ x => x) _ _ this
 obtain ⟨b',e,q⟩ : ∃ b',Value.bool b = .bool b' /\ Q (.bool (!b')) s' := hb
 cases e; exact q
theorem ACmp.notIn {p q : PV} {Q : Bool -> AHeap -> Prop} (h : ACmp T Fs H .In p q (λ b H₁ => Q (!b) H₁) E) : ACmp T Fs H .NotIn p q Q E := λ A s v w ok R pv pw =>
 notIn_of_in (wpAny_mono (h A s v w ok R pv pw) (λ c s' ⟨b,e,⟨H₁,R₁,k₁,q₁⟩⟩ => ⟨b,e,_,rfl,⟨H₁,R₁,k₁,q₁⟩⟩) λ _ _ x => x)
theorem ASub.dict {value slice : Expr} {d : Addr} {l : List (Pt × PV)} {po : Option Obj} {p : Pt} {q : PV} {Q : PV -> AHeap -> Prop} (hH : H d = some (.pdict l po)) (hl : l.lookup p = some q) (h : Q q H)
  (hs : ∀ a,subscripted slice false (.ref d) (.ref a) = operate [.ref d,.ref a] (getItem (.ref d) (.ref a)) := by intro _; rfl) : ASub T Fs H value slice (.ref d) (pt p) Q E := λ A s v w ok R pv pw => by
 rw [pv.ref_inv]
 obtain ⟨a,rfl,hk⟩ := pt_key (C := T.C) pw
 obtain ⟨xs,D,r⟩ := (R.objs d _ hH).1.1
 have := ok.cl
 obtain ⟨a',v',e',pr⟩ := (atKey_of r p).2 q hl
 exact tail_any D.typeIs slot_dict_getitem.lookup (wpAny_getItem_heap (knd := tupleKind (intKind T.C.prog T.C.w)) (k := ptK p) (show A.units + 1 < cLine by omega) hk D e' (post_same R pr h)) (hs a)
theorem ASetItem.dict {d : Addr} {l : List (Pt × PV)} {p : Pt} {q : PV} {Q : AHeap -> Prop} (hH : H d = some (.pdict l)) (hz : l.length <= 10000) (h : Q (upd H d (.pdict (dput l p q)))) : ASetItem T Fs H (.ref d) (pt p) q Q E := λ A s v w u ok R pv pw pu => by
 rw [pv.ref_inv]
 have pw' := pw
 obtain ⟨a,rfl,hk⟩ := pt_key (C := T.C) pw
 obtain ⟨xs,D,r⟩ := (R.objs d _ hH).1.1
 have := ok.cl
 refine wpAny_setItem_heap (knd := tupleKind (intKind T.C.prog T.C.w)) (k := ptK p) (show A.units + 1 < cLine by omega) hk D (λ h' D' sb => ?_) (by rw [r.length]; exact Nat.le_trans hz (by decide))
 have tk : TupKeep s.heap h' := R.turnKeep (s' := { s with heap := h',toks := s.toks + (tupleKind (intKind T.C.prog T.C.w)).draws (ptK p) }) hH sb.extBut
 refine ⟨_,R.turn (o' := .pdict (dput l p q)) hH sb.extBut ⟨⟨_,D',?_⟩,λ _ e => nomatch e⟩,tk,h⟩
 obtain ⟨i1,i2⟩ := atKey_of r p
 unfold dput
 cases e : l.lookup p with
 | none =>
  rw [storedH_new (i1 e)]
  simp only [Option.isSome_none,Bool.false_eq_true,if_false]
  exact DRel.snoc (PR.keep tk _ pw') (pu.keep tk) (r.keep tk)
 | some q' =>
  obtain ⟨a',v',e',_⟩ := i2 q' e
  rw [storedH_old e']
  simp only [Option.isSome_some,if_true]
  exact DRel.put (pu.keep tk) (r.keep tk)
end
end
section
noncomputable def NoE : Value -> Shared -> Prop := λ _ _ => False
theorem len_succ {α : Type} {l : List α} {n : Nat} (h : l.length = n + 1) : ∃ a r,l = a :: r /\ r.length = n := by
 cases l with
 | nil => cases h
 | cons a r => exact ⟨a,r,rfl,Nat.succ.inj h⟩
theorem bind_of1 {fd : FuncData} {x : Str} (h : ∀ a,bindArgs fd ⟨[a],[]⟩ = pure [(x,a)]) (vs : List Value) (hl : vs.length = [x].length) : bindArgs fd ⟨vs,[]⟩ = pure ([x].zip vs) := by
 obtain ⟨a,r1,e1,h1⟩ := len_succ hl; subst e1
 cases List.eq_nil_of_length_eq_zero h1; exact h a
theorem bind_of2 {fd : FuncData} {x y : Str} (h : ∀ a b,bindArgs fd ⟨[a,b],[]⟩ = pure [(x,a),(y,b)]) (vs : List Value) (hl : vs.length = [x,y].length) : bindArgs fd ⟨vs,[]⟩ = pure ([x,y].zip vs) := by
 obtain ⟨a,r1,e1,h1⟩ := len_succ hl; subst e1
 obtain ⟨b,r2,e2,h2⟩ := len_succ h1; subst e2
 cases List.eq_nil_of_length_eq_zero h2; exact h a b
theorem bind_of3 {fd : FuncData} {x y z : Str} (h : ∀ a b c,bindArgs fd ⟨[a,b,c],[]⟩ = pure [(x,a),(y,b),(z,c)]) (vs : List Value) (hl : vs.length = [x,y,z].length) : bindArgs fd ⟨vs,[]⟩ = pure ([x,y,z].zip vs) := by
 obtain ⟨a,r1,e1,h1⟩ := len_succ hl; subst e1
 obtain ⟨b,r2,e2,h2⟩ := len_succ h1; subst e2
 obtain ⟨c,r3,e3,h3⟩ := len_succ h2; subst e3
 cases List.eq_nil_of_length_eq_zero h3; exact h a b c
theorem bind_of4 {fd : FuncData} {x y z u : Str} (h : ∀ a b c d,bindArgs fd ⟨[a,b,c,d],[]⟩ = pure [(x,a),(y,b),(z,c),(u,d)]) (vs : List Value) (hl : vs.length = [x,y,z,u].length) : bindArgs fd ⟨vs,[]⟩ = pure ([x,y,z,u].zip vs) := by
 obtain ⟨a,r1,e1,h1⟩ := len_succ hl; subst e1
 obtain ⟨b,r2,e2,h2⟩ := len_succ h1; subst e2
 obtain ⟨c,r3,e3,h3⟩ := len_succ h2; subst e3
 obtain ⟨d,r4,e4,h4⟩ := len_succ h3; subst e4
 cases List.eq_nil_of_length_eq_zero h4; exact h a b c d
theorem lk_here {α : Type} {x : Str} {p : α} {l : List (Str × α)} : ((x,p) :: l).lookup x = some p := by rw [List.lookup_cons,beq_self_eq_true]
theorem lk_next {α : Type} {x y : Str} {p q : α} {l : List (Str × α)} (h : (x == y) = false) (e : l.lookup x = some p) : ((y,q) :: l).lookup x = some p := by rw [List.lookup_cons,h]; exact e
theorem lookup_of_mem {α : Type} {l : List (Str × α)} {n : Str} {c : α} (hn : (l.map (·.1)).Nodup) (hm : (n,c) ∈ l) : l.lookup n = some c := by
 induction l with
 | nil => cases hm
 | cons a r ih =>
  obtain ⟨h1,h2⟩ := List.nodup_cons.mp hn
  refine (List.mem_cons.mp hm).elim (λ e => ?_) λ hm => ?_
  ·subst e; exact lk_here
  ·exact lk_next (beq_eq_false_iff_ne.mpr λ e => h1 (List.mem_map.mpr ⟨(n,c),hm,e⟩)) (ih h2 hm)
theorem cells_step {x : Str} {k : NameKind} {r : List (Str × NameKind)} {n : Nat} {acc : List (Str × Addr)} : cellsFrom n ((x,k) :: r) acc = if (k == .cell) = true then cellsFrom (n + 1) r ((x,n) :: acc) else cellsFrom n r acc := rfl
theorem cellsFrom_nodup (names : List (Str × NameKind)) : ∀ (n : Nat) (acc : List (Str × Addr)),(acc.map (·.1) ++ names.map (·.1)).Nodup -> ((cellsFrom n names acc).map (·.1)).Nodup := by
 induction names with
 | nil => exact λ n acc h => (List.append_nil (acc.map (·.1))) ▸ h
 | cons a r ih =>
  obtain ⟨x,k⟩ := a
  intro n acc h
  rw [cells_step]
  split
  ·exact ih (n + 1) _ (List.perm_middle.nodup_iff.mp h)
  ·exact ih n acc (h.sublist (List.Sublist.append (List.Sublist.refl _) (List.sublist_cons_self _ _)))
theorem cellsFrom_keep {x : Str} (names : List (Str × NameKind)) : ∀ (n : Nat) (acc : List (Str × Addr)),(acc.lookup x).isSome = true -> ((cellsFrom n names acc).lookup x).isSome = true := by
 induction names with
 | nil => exact λ _ _ h => h
 | cons a r ih =>
  obtain ⟨y,k⟩ := a
  intro n acc h
  rw [cells_step]
  split
  ·refine ih (n + 1) _ ?_
   rw [List.lookup_cons]
   cases x == y
   ·exact h
   ·rfl
  ·exact ih n acc h
theorem cellsFrom_has {x : Str} (names : List (Str × NameKind)) : ∀ (n : Nat) (acc : List (Str × Addr)),names.lookup x = some .cell -> ((cellsFrom n names acc).lookup x).isSome = true := by
 induction names with
 | nil => exact λ _ _ h => nomatch h
 | cons a r ih =>
  obtain ⟨y,k⟩ := a
  intro n acc h
  rw [List.lookup_cons] at h
  rw [cells_step]
  cases e : x == y with
  | true =>
   rw [e] at h; cases h
   exact cellsFrom_keep r _ _ (by rw [List.lookup_cons,e]; rfl)
  | false =>
   rw [e] at h
   split
   ·exact ih _ _ h
   ·exact ih _ _ h
theorem bind_get {B : List (Str × Value) -> (Str -> Option Value) -> Str -> Option Value} {P : Str -> Prop} [DecidablePred P] (h0 : ∀ m,B [] m = m) (h1 : ∀ n v r m,B ((n,v) :: r) m = B r (if P n then λ y => if y = n then some v else m y else m)) {x : Str} (hk : P x) (binds : List (Str × Value)) : ∀ (m : Str -> Option Value),(binds.map (·.1)).Nodup -> B binds m x = match binds.lookup x with | some v => some v | none => m x := by
 induction binds with
 | nil => exact λ m _ => congrFun (h0 m) x
 | cons a r ih =>
  obtain ⟨n,v⟩ := a
  intro m hn
  obtain ⟨q1,q2⟩ := List.nodup_cons.mp hn
  rw [h1,ih _ q2,List.lookup_cons]
  by_cases e : x = n
  ·subst e
   have : r.lookup x = none := by
    cases q : r.lookup x with
    | none => rfl
    | some v => exact absurd (List.mem_map.mpr ⟨_,mem_of_lookup q,rfl⟩) q1
   rw [this,beq_self_eq_true,if_pos hk]; exact if_pos rfl
  ·rw [beq_eq_false_iff_ne.mpr e]
   cases r.lookup x with
   | some v => rfl
   | none =>
    dsimp only
    split
    ·exact if_neg e
    ·rfl
theorem bindL_get {kindOf : Str -> Option NameKind} {x : Str} (hk : kindOf x = some .local) (binds : List (Str × Value)) (m : Str -> Option Value) (hn : (binds.map (·.1)).Nodup) : bindL kindOf binds m x = match binds.lookup x with | some v => some v | none => m x :=
 bind_get (P := λ n => kindOf n = some .local) (λ _ => rfl) (λ _ _ _ _ => rfl) hk binds m hn
theorem bindC_get {kindOf : Str -> Option NameKind} {x : Str} (hk : kindOf x ≠ some .local) (binds : List (Str × Value)) (m : Str -> Option Value) (hn : (binds.map (·.1)).Nodup) : bindC kindOf binds m x = match binds.lookup x with | some v => some v | none => m x :=
 bind_get (P := λ n => kindOf n ≠ some .local) (λ _ => rfl) (λ _ _ r _ => congrArg (bindC kindOf r) (ite_not ..).symm) hk binds m hn
theorem zip_lookup {h : Heap} {nms : List Str} : ∀ {ps : List PV} {vs : List Value} {x : Str} {p : PV},PRs h ps vs -> (nms.zip ps).lookup x = some p -> ∃ v,(nms.zip vs).lookup x = some v /\ PR h p v := by
 induction nms with
 | nil => exact λ _ e => nomatch e
 | cons n nms ih =>
  intro ps vs x p r e
  cases ps with
  | nil => cases e
  | cons q ps =>
   obtain ⟨v,rr,rfl,pr,r⟩ := r.cons_inv
   rw [List.zip_cons_cons,List.lookup_cons] at e ⊢
   cases hb : x == n with
   | true => rw [hb] at e; cases e; exact ⟨v,rfl,pr⟩
   | false => rw [hb] at e; exact ih r e
structure DefAt (K : Frag) (g : Addr) (fd : FuncData) (nms : List Str) (body : List Stmt) : Prop where
 obj : ∃ oc od osl,K.lookup g = some ⟨oc,od,.func fd,osl⟩
 body : fd.body = .stmts body
 clo : fd.closure = []
 code : codeIn K fd.code fd.qualname = true
 globals : fd.globals = mainGlobals
 builtins : fd.builtins = builtinsNs
 bind : ∀ vs : List Value,vs.length = nms.length -> bindArgs fd ⟨vs,[]⟩ = pure (nms.zip vs)
 kinds : nms.all (λ x => isOwn (fd.scope.names.lookup x)) = true
 nodup : nms.Nodup
 names : (fd.scope.names.map (·.1)).Nodup
 nofree : fd.scope.names.all (λ x => x.2 != .free) = true
 coro : fd.scope.isCoroutine = false
 gen : fd.scope.isGenerator = false
 kind : fd.scope.kind = .function
section
variable {T : Tr} {f : FR} {env : Env} {ls : Ls} {Fs : List AF} {H : AHeap} {E : Value -> Shared -> Prop} {s : Shared} {A : Around}
noncomputable def Tr.down (T : Tr) : Tr := { T with n := T.n - 1 }
theorem AOk.deeper {env : Env} {ls : Ls} (ok : AOk T Fs A) (hn : 1 <= T.n) : AOk T.down (.fr ⟨.fn,env,ls⟩ :: Fs) (A.deeper env) := by
 refine ⟨?_,?_,?_,λ h => ok.handled h,ok.ctx⟩
 ·show A.frames.map (env :: ·) = _; rw [ok.frames]; rfl
 ·have := ok.depth; show A.depth + 1 + 4 * (T.n - 1) + 10 <= 1000; omega
 ·have := ok.units; show A.units + 3 + 20 * (T.n - 1) + 100 <= 9900; omega
theorem enter_frame {fd : FuncData} {g : Addr} {nms : List Str} {body : List Stmt} {ps : List PV} {vs : List Value} {s₁ : Shared} (D : DefAt T.C.K g fd nms body) (hlen : ps.length = nms.length) (R : Rep T.C Fs H s) (prs : PRs s.heap ps vs)
  (x : InCallC s (callEnvC fd s.heap.objs.size g).locals (bindL (callEnvC fd s.heap.objs.size g).kindOf (nms.zip vs) λ _ => none) (callEnvC fd s.heap.objs.size g).cells (bindC (callEnvC fd s.heap.objs.size g).kindOf (nms.zip vs) λ _ => none) s₁) :
  Rep T.C (.fr ⟨.fn,callEnvC fd s.heap.objs.size g,nms.zip ps⟩ :: Fs) H s₁ /\ TupKeep s.heap s₁.heap := by
 obtain ⟨⟨h₁,tk,rfl⟩,ns,keep,fresh⟩ := x.toInCall
 have hk : TupKeep s.heap h₁ := TupKeep.of_keep keep
 have nd : ((callEnvC fd s.heap.objs.size g).cells.map (·.1)).Nodup := cellsFrom_nodup _ _ _ (by simpa using D.names)
 have hvl : vs.length = nms.length := by rw [<- prs.length]; exact hlen
 have nb : ((nms.zip vs).map (·.1)).Nodup := by rw [List.map_fst_zip (by omega)]; exact D.nodup
 refine ⟨(R.ext (s' := { s with heap := h₁,toks := tk }) keep).push ?_ ?_ ?_ ?_ ?_,hk⟩
 ·refine ⟨D.kind,D.globals,D.builtins,⟨_,ns,λ y p e k => ?_⟩,λ y hy => ⟨_,x.cell y.1 y.2 (lookup_of_mem nd hy)⟩,λ y p e k => ?_,λ y k => ?_,x.apart,λ y hy => Nat.ne_of_gt (x.above y.1 y.2 hy),λ _ => rfl⟩
  ·obtain ⟨v,e1,pr⟩ := zip_lookup prs e
   exact ⟨v,by rw [bindL_get k _ _ nb,e1],pr.keep hk⟩
  ·obtain ⟨v,e1,pr⟩ := zip_lookup prs e
   have k : (callEnvC fd s.heap.objs.size g).kindOf y = some .cell \/ (callEnvC fd s.heap.objs.size g).kindOf y = some .free := k
   have kl : (callEnvC fd s.heap.objs.size g).kindOf y ≠ some .local := by rcases k with k | k <;> rw [k] <;> intro q <;> cases q
   have kc : fd.scope.names.lookup y = some .cell := by
    rcases k with k | k
    ·exact k
    ·have hm : y ∈ nms := (List.of_mem_zip (mem_of_lookup e)).1
     have := List.all_eq_true.mp D.kinds y hm
     have k : fd.scope.names.lookup y = some .free := k
     rw [k] at this; cases this
   obtain ⟨c,hc⟩ := Option.isSome_iff_exists.mp (cellsFrom_has (x := y) fd.scope.names (s.heap.objs.size + 1) [] kc)
   refine ⟨c,v,hc,?_,pr.keep hk⟩
   have := x.cell y c hc
   rw [bindC_get kl _ _ nb,e1] at this
   exact this
  ·rcases k with k | k
   ·exact Option.isSome_iff_exists.mp (cellsFrom_has fd.scope.names _ _ k)
   ·have k : fd.scope.names.lookup y = some .free := k
    have := List.all_eq_true.mp D.nofree _ (mem_of_lookup k)
    simp at this
 all_goals
  have big : ∀ a ∈ (AF.fr ⟨.fn,callEnvC fd s.heap.objs.size g,nms.zip ps⟩).reads,s.heap.objs.size <= a := λ a ha => by
   rcases List.mem_cons.mp ha with rfl | ha
   ·exact Nat.le_refl _
   ·obtain ⟨y,hy,rfl⟩ := List.mem_map.mp ha
    exact Nat.le_of_lt (x.above y.1 y.2 hy)
 ·exact λ a ha => (R.fresh_ge (big a ha)).2.1.1
 ·exact λ a ha => (R.fresh_ge (big a ha)).1
 ·exact λ a ha k hk => (R.fresh_ge (big a (AF.owns_reads ha))).2.2 k hk
 ·intro k hk a ha hb
  refine (R.fresh_ge (big a hb)).2.2 k hk ?_
  cases k with
  | fr f => cases ha
  | hid c o => exact ha
  | gh _ => cases ha
theorem call_entry {fd : FuncData} {g : Addr} {nms : List Str} {body : List Stmt} {ps : List PV} {vs : List Value} {R' : Result -> Shared -> Prop} (D : DefAt T.C.K g fd nms body) (hlen : ps.length = nms.length) (hn : 1 <= T.n) (ok : AOk T Fs A) (R : Rep T.C Fs H s) (prs : PRs s.heap ps vs)
  (h : ∀ env s₁,env.scope = fd.scope -> AOk T.down (.fr ⟨.fn,env,nms.zip ps⟩ :: Fs) (A.deeper env) -> Rep T.C (.fr ⟨.fn,env,nms.zip ps⟩ :: Fs) H s₁ -> TupKeep s.heap s₁.heap ->
   wpAny T.C.M (A.deeper env) (execs body env) (λ f s' => R' (.ok (.ret (match f with | .ret v => v | _ => .none))) s')
    (λ e s' => wpAny T.C.M (A.deeper env) (leaving env e) (λ _ s'' => R' (.error e) s'') (λ e' s'' => R' (.error e') s'') s') s₁) :
  codeAny T.C.M A (.call (.ref g) ⟨vs,[]⟩) R' s := by
 obtain ⟨oc,od,osl,ho⟩ := D.obj
 refine codeAny_call_cells (fd := fd) (by have := ok.depth; show A.depth < 1000; omega) (R.kin g _ ho) rfl (R.ok.top.nolimit.keeps R.keep) (codeRec_of R.kin D.code) D.body (D.bind vs (by rw [<- prs.length]; exact hlen)) D.clo (λ x hx => ?_) (λ s₁ x => ?_) D.coro D.gen D.kind
 ·have hm := (List.of_mem_zip hx).1
  have := List.all_eq_true.mp D.kinds x.1 hm
  revert this
  cases e : fd.scope.names.lookup x.1 with
  | none => intro q; cases q
  | some k =>
   intro q
   cases k <;> first | exact .inl rfl | exact .inr ⟨rfl,cellsFrom_has _ _ _ e⟩ | cases q
 ·obtain ⟨R₁,tk⟩ := enter_frame D hlen R prs x
  exact h _ s₁ rfl (ok.deeper hn) R₁ tk
noncomputable def RetQ (Q : PV -> AHeap -> Prop) (a : AFl) (_ : Ls) (H : AHeap) : Prop := match a with
 | .ret p => Q p H
 | .next => Q .none H
 | _ => False
end
end
section
noncomputable def noStar : List Expr -> Bool
 | [] => true
 | e :: r => cond (Nat.beq e.ctorIdx 22) false (noStar r)
theorem starEach_cons_plain {e : Expr} {es : List Expr} {env : Env} (h : noStar (e :: es) = true) : starEach (e :: es) env = (false,eval e env) :: starEach es env /\ noStar es = true := by
 cases e <;> first | exact ⟨rfl,h⟩ | cases h
theorem noStar_any {pos : Pos} {env : Env} : ∀ {es : List Expr},noStar es = true -> (backTo pos (starEach es env)).any (·.1) = false
 | [],_ => rfl
 | e :: es,h => by
  obtain ⟨h1,h2⟩ := starEach_cons_plain (env := env) h
  rw [h1]
  show (false || (backTo pos (starEach es env)).any (·.1)) = false
  rw [noStar_any h2]; rfl
noncomputable def calleeO (K : Frag) (a : Addr) : Option Obj -> Bool
 | some ⟨_,_,.func _,_⟩ => true
 | some ⟨_,_,.cls _,_⟩ => makesIn K a
 | _ => false
noncomputable def callee (K : Frag) : PV -> Bool
 | .bi _ => true
 | .ty _ => true
 | .ref a => calleeO K a (K.lookup a)
 | _ => false
section
variable {T : Tr} {f : FR} {env : Env} {ls : Ls} {Fs : List AF} {H : AHeap} {E : Value -> Shared -> Prop} {s : Shared} {A : Around}
theorem wp_evalArgs {M : Model} {g : Value} {pos : Pos} {es : List Expr} {Q : Args -> Shared -> Prop} (hs : noStar es = true) (h : wpAny M A (spliced (backTo pos (starEach es env))) (λ vs s' => Q ⟨vs,[]⟩ s') E s) :
  wpAny M A (evalArgs g true (backTo pos (starEach es env)) []) Q E s := by
 cases es with
 | nil =>
  unfold evalArgs
  show wpAny M A (spliced [] >>= _) Q E s
  refine wpAny_bind (wpAny_mono h (λ vs s' h' => ?_) λ _ _ x => x)
  refine wpAny_holding ?_
  exact wpAny_bind (wpAny_pure (wpAny_bind (wpAny_pure (wpAny_pure h'))))
 | cons e es =>
  obtain ⟨h1,h2⟩ := starEach_cons_plain (env := env) hs
  rw [h1] at h ⊢
  exact evalArgs_plain h
theorem wp_callWith {g : PV} {v : Value} {first : List Value} {pos : Pos} {es : List Expr} {Q : Value -> Shared -> Prop} (hs : noStar es = true) (R : Rep T.C Fs H s) (hg : callee T.C.K g = true) (pv : PR s.heap g v)
  (h : wpAny T.C.M A (spliced (backTo pos (starEach es env))) (λ vs s₁ => (∃ H₁,Rep T.C Fs H₁ s₁) /\ wpAny T.C.M A (call v (first ++ vs)) Q E s₁) E s) :
  wpAny T.C.M A (callWith pos v first (backTo pos (starEach es env)) []) Q E s := by
 have tail : ∀ {t : Sem Value} {s₁ : Shared},wpAny T.C.M A t Q E s₁ -> wpAny T.C.M A (t >>= λ r => holding [r] point >>= λ _ => pure r) Q E s₁ :=
  λ ht => wpAny_bind (wpAny_mono ht (λ r s₂ hr => wpAny_bind (wpAny_holding (wpAny_point (wpAny_pure hr)))) λ _ _ x => x)
 cases g with
 | bi i =>
  rw [pv.bi_inv] at h ⊢
  exact callWith_builtin (noStar_any hs) (wp_evalArgs hs (wpAny_mono h (λ vs s₁ h₁ => h₁.2) λ _ _ x => x))
 | ty n =>
  rw [pv.ty_inv] at h ⊢
  exact PySem.callWith_type (noStar_any hs) (wp_evalArgs hs (wpAny_mono h (λ vs s₁ h₁ => h₁.2) λ _ _ x => x))
 | ref a =>
  rw [pv.ref_inv] at h ⊢
  have hg : calleeO T.C.K a (T.C.K.lookup a) = true := hg
  cases ho : T.C.K.lookup a with
  | none => rw [ho] at hg; cases hg
  | some o =>
  rw [ho] at hg
  obtain ⟨c,d,data,ex⟩ := o
  cases data with
  | func fd =>
   refine callWith_function (wp_evalArgs hs (wpAny_mono h (λ vs s₁ ⟨⟨H₁,R₁⟩,h₁⟩ => ⟨⟨R₁.kin a _ ho,rfl⟩,h₁⟩) λ _ _ x => x))
  | cls cd =>
   delta callWith
   refine wpAny_bind (wpAny_holding (wp_evalArgs hs (wpAny_mono h (λ vs s₁ ⟨⟨H₁,R₁⟩,h₁⟩ => wpAny_bind (wpAny_standAt ?_)) λ _ _ x => x)))
   rw [noStar_any hs]
   refine wpAny_bind (m := keeperOf (.ref a)) ?_
   unfold keeperOf
   refine wpAny_bind (wpAny_load (R₁.kin a _ ho) ?_)
   refine wpAny_bind ((makes_of (M := T.C.M) R₁.kin hg).call.here (wpAny_pure ?_))
   rw [if_pos (by simp)]
   exact tail h₁
  | _ => cases hg
 | _ => cases hg
theorem AE.call {func : Expr} {args : List Expr} {pos : Pos} {Q : PV -> AHeap -> Prop} (hf : ∀ env,eval (.Call func args [] pos) env = (do callWith pos (<- eval func env) [] (backTo pos (starEach args env)) (backToKw pos (keywordEach [] env)))) (hs : noStar args = true)
  (h : AE T f Fs H func (λ g H₁ => callee T.C.K g = true /\ AL T f Fs H₁ args (λ ps H₂ => ACall T (.fr f :: Fs) H₂ g ps Q E) E) E) : AE T f Fs H (.Call func args [] pos) Q E := λ A s ok R => by
 rw [hf]
 refine wpAny_bind (wpAny_mono (h A s ok R) (λ v s₁ hh => hh.elim λ g H₁ pr R₁ k₁ hq => ?_) λ _ _ x => x)
 have hg := hq.1
 have h₁ := hq.2
 refine wp_callWith hs R₁ hg pr (wpAny_mono (h₁ A s₁ pos ok R₁) (λ vs s₂ ⟨ps,H₂,prs,R₂,k₂,h₂⟩ => ⟨⟨_,R₂⟩,?_⟩) λ _ _ x => x)
 exact wpAny_mono (h₂ A s₂ v vs ok R₂ (pr.keep k₂) prs) (λ u s₃ ⟨p',H',pr',R',k',hq⟩ => ⟨p',H',pr',R',k₁.trans (k₂.trans k'),hq⟩) λ _ _ x => x
theorem eval_meth (o : Expr) (name : Str) (apos pos : Pos) (args : List Expr) (env : Env) : eval (.Call (.Attribute o name apos) args [] pos) env = (do
  let ov <- attributeBase o name env (eval o env)
  standAt apos.atName
  methodCall o name apos pos env ov (args.length + 0) (backTo pos (starEach args env)) (backToKw pos (keywordEach [] env))) := rfl
theorem noStar_all {pos : Pos} {env : Env} {es : List Expr} (h : noStar es = true) : (backTo pos (starEach es env)).all (!·.1) = true := by
 induction es with
 | nil => rfl
 | cons e es ih =>
  obtain ⟨h1,h2⟩ := starEach_cons_plain (env := env) h
  rw [h1]
  exact ih h2
theorem AE.meth {o : Expr} {name : Str} {apos pos : Pos} {args : List Expr} {Q : PV -> AHeap -> Prop} (hb : attributeBase o name f.env (eval o f.env) = eval o f.env) (hs : noStar args = true) (hl : args.length < 30) (hp : (apos.endLine == pos.line) = true)
  (h : AE T f Fs H o (λ p H₁ => ∃ g,callee T.C.K g = true /\ AMeth T (.fr f :: Fs) H₁ name p g /\ AL T f Fs H₁ args (λ ps H₂ => ACall T (.fr f :: Fs) H₂ g (p :: ps) Q E) E) E) : AE T f Fs H (.Call (.Attribute o name apos) args [] pos) Q E := λ A s ok R => by
 rw [eval_meth,hb]
 refine wpAny_bind (wpAny_mono (h A s ok R) (λ v s₁ hh => hh.elim λ p H₁ pr R₁ k₁ hq => ?_) λ _ _ x => x)
 obtain ⟨g,hg,hm,h₁⟩ := hq
 refine wpAny_bind (wpAny_standAt ?_)
 have hform : methodCallForm (args.length + 0) (backTo pos (starEach args f.env)) (backToKw pos (keywordEach [] f.env)) = true := by
  unfold methodCallForm
  rw [noStar_all hs]
  have e : backToKw pos (keywordEach [] f.env) = [] := rfl
  rw [e]
  exact decide_eq_true hl
 unfold methodCall
 rw [hform]
 have hc : calleeOf true o f.env v name = getMethod v name (importBound o f.env >>= λ b => pure (b.getD true)) := if_pos rfl
 have hp' : methodCallPos true o f.env apos pos = pure pos := if_pos hp
 rw [hc,hp']
 refine wpAny_bind (wpAny_holding (hm A s₁ v _ _ _ ok R₁ pr λ u pu => ?_))
 refine wpAny_bind (wpAny_pure ?_)
 refine wp_callWith hs R₁ hg pu (wpAny_mono (h₁ A s₁ pos ok R₁) (λ vs s₂ hh => hh.elim λ ps H₂ prs R₂ k₂ h₂ => ⟨⟨_,R₂⟩,?_⟩) λ _ _ x => x)
 exact wpAny_mono (h₂ A s₂ u (v :: vs) ok R₂ (pu.keep k₂) (PRs.cons (pr.keep k₂) prs)) (λ u s₃ hh => hh.elim λ p' H' pr' R' k' hq => ⟨p',H',pr',R',k₁.trans (k₂.trans k'),hq⟩) λ _ _ x => x
end
end
section
section
variable {T : Tr} {f : FR} {env : Env} {ls : Ls} {Fs : List AF} {H : AHeap} {E : Value -> Shared -> Prop} {s : Shared} {A : Around}
theorem stands_inst {C : Cx} {h : Heap} {c : Addr} : Stands C ((h.push emptyDict).push (instObj c h.objs.size)) (h.objs.size + 1) (.inst c h.objs.size) :=
 ⟨_,by rw [show h.objs.size + 1 = (h.push emptyDict).objs.size from (Heap.size_push ..).symm]; exact Heap.get?_push_size _ rfl,rfl,rfl,rfl,Nat.ne_of_lt (Nat.lt_succ_self _)⟩
theorem stands_attrs0 {C : Cx} {h : Heap} {o : Obj} : Stands C ((h.push emptyDict).push o) h.objs.size (.attrs []) := by
 refine ⟨λ _ => none,⟨emptyDict,#[],0,Heap.get?_push_of_some _ (Heap.get?_push_size _ rfl),rfl,?_,?_,λ _ => rfl⟩,λ _ _ => rfl,λ x p e => by cases e⟩
 ·intro e he; simp at he
 ·exact List.Pairwise.nil
theorem under_tc {c : Addr} {rest : List Value} : (Code.builtin "type.__call__" ⟨.ref c :: rest,[]⟩).weight = 1 /\ (Code.builtin "type.__call__" ⟨.ref c :: rest,[]⟩).cUnits = 1 /\ (Code.builtin "type.__call__" ⟨.ref c :: rest,[]⟩).envs = [] := ⟨rfl,rfl,rfl⟩
theorem AOk.creation {c : Addr} {rest : List Value} (ok : AOk T Fs A) (hn : 1 <= T.n) : AOk T.down Fs (A.under (.builtin "type.__call__" ⟨.ref c :: rest,[]⟩)) := by
 obtain ⟨h1,h2,h3⟩ := under_tc (c := c) (rest := rest)
 refine ⟨?_,?_,?_,λ h => ok.handled h,ok.ctx⟩
 ·show pushEnvs (Code.builtin "type.__call__" ⟨.ref c :: rest,[]⟩).envs A.frames = _; rw [h3]; exact ok.frames
 ·have := ok.depth; show A.depth + (Code.builtin "type.__call__" ⟨.ref c :: rest,[]⟩).weight + 4 * (T.n - 1) + 10 <= 1000; rw [h1]; omega
 ·have := ok.units; show A.units + (Code.builtin "type.__call__" ⟨.ref c :: rest,[]⟩).cUnits + 20 * (T.n - 1) + 100 <= 9900; rw [h2]; omega
theorem two_new {C : Cx} {h' : Heap} {a b : Addr} {o o' : AO} {s' : Shared} (R : Rep C Fs H s) (hk : ∀ b o,s.heap.get? b = some o -> s'.heap.get? b = some o) (ha : s.heap.objs.size <= a) (hb : s.heap.objs.size <= b) (h1 : Stands C s'.heap a o) (h2 : Stands C s'.heap b o')
  (hg : s'.gens = s.gens := by rfl) (hos : s'.os = s.os := by rfl) : Rep C Fs (upd (upd H a o) b o') s' := by
 obtain ⟨x,y,z⟩ := R.fresh_ge ha
 obtain ⟨x',y',z'⟩ := R.fresh_ge hb
 refine R.to (λ _ => False) (λ b o _ e => hk b o e) (λ b o e _ _ => hk b o e) (λ _ h => h.elim) (λ _ _ _ _ h => h) (λ c ob e => ?_) hg hos
 unfold upd at e
 split at e
 ·cases e; rename_i q; subst q; exact .inr ⟨h2,y',z'⟩
 ·split at e
  ·cases e; rename_i q; subst q; exact .inr ⟨h1,y,z⟩
  ·exact .inl ⟨e,λ h => h⟩
theorem ACode.cls {c fI : Addr} {ps : List PV} {Q : PV -> AHeap -> Prop} (hm : makesIn T.C.K c = true) (hi : findIn T.C.K (.ref c) "__init__" = some (some (.ref fI))) (ht : typeIn T.C.K (.ref fI) = some (.type "function")) (hn : 1 <= T.n)
  (h : ∀ x d,x ≠ d -> H x = Option.none -> H d = Option.none -> ACode T.down Fs (upd (upd H d (.attrs [])) x (.inst c d)) (.ref fI) (.ref x :: ps) (λ p H' => p = .none /\ Q (.ref x) H') E) : ACode T Fs H (.ref c) ps Q E := λ A s v vs ok R pv prs => by
 rw [pv.ref_inv]
 obtain ⟨hh,g,d,t,os⟩ := s
 have Y := makes_of (M := T.C.M) R.kin hm
 have k : ∀ b o,hh.get? b = some o -> ((hh.push emptyDict).push (instObj c hh.objs.size)).get? b = some o := λ b o e => Heap.get?_push_of_some _ (Heap.get?_push_of_some _ e)
 refine make_core Y (looks_findIn R.kin hi) (λ self => bind_fn R.kin self ht) (.inl rfl) ?_
 have h1 := h (hh.objs.size + 1) hh.objs.size (Nat.ne_of_gt (Nat.lt_succ_self _)) (R.fresh_ge (Nat.le_succ _)).1 R.fresh
 have R₁ : Rep T.C Fs (upd (upd H hh.objs.size (.attrs [])) (hh.objs.size + 1) (.inst c hh.objs.size)) ⟨(hh.push emptyDict).push (instObj c hh.objs.size),g,d,t,os⟩ :=
  two_new (h' := hh) R k (Nat.le_refl _) (Nat.le_succ _) stands_attrs0 stands_inst
 have h2 := h1 _ _ (.ref fI) (.ref (hh.objs.size + 1) :: vs) (ok.creation (c := c) (rest := vs) hn) R₁ PR.ref (PRs.cons PR.ref (PRs.keep (TupKeep.of_keep k) _ prs))
 refine codeAny_mono h2 λ r s' x => ?_
 rcases r with e | (u | _ | _ | _)
 ·exact x
 all_goals first | exact x.elim | skip
 obtain ⟨p,H',pr,R',k',rfl,hq⟩ := x
 exact ⟨pr.none_inv,_,H',PR.ref,R',(TupKeep.of_keep k).trans k',hq⟩
theorem ACode.cls0 {c : Addr} {Q : PV -> AHeap -> Prop} (hm : makesIn T.C.K c = true) (hi : findIn T.C.K (.ref c) "__init__" = some (some (.builtin "object.__init__")))
  (h : ∀ x d,x ≠ d -> H x = Option.none -> H d = Option.none -> Q (.ref x) (upd (upd H d (.attrs [])) x (.inst c d))) : ACode T Fs H (.ref c) [] Q E := λ A s v vs ok R pv prs => by
 rw [pv.ref_inv,prs.nil_inv]
 obtain ⟨hh,g,d,t,os⟩ := s
 have Y := makes_of (M := T.C.M) R.kin hm
 have k : ∀ b o,hh.get? b = some o -> ((hh.push emptyDict).push (instObj c hh.objs.size)).get? b = some o := λ b o e => Heap.get?_push_of_some _ (Heap.get?_push_of_some _ e)
 have R₁ : Rep T.C Fs (upd (upd H hh.objs.size (.attrs [])) (hh.objs.size + 1) (.inst c hh.objs.size)) ⟨(hh.push emptyDict).push (instObj c hh.objs.size),g,d,t,os⟩ :=
  two_new (h' := hh) R k (Nat.le_refl _) (Nat.le_succ _) stands_attrs0 stands_inst
 have hx : ((hh.push emptyDict).push (instObj c hh.objs.size)).get? (hh.objs.size + 1) = some (instObj c hh.objs.size) := by
  rw [show hh.objs.size + 1 = (hh.push emptyDict).objs.size from (Heap.size_push ..).symm]; exact Heap.get?_push_size _ rfl
 refine make_core Y (looks_findIn R.kin hi) (λ self => Looks.of_pure (oi_bind self)) (.inr ⟨rfl,rfl⟩) ?_
 have t1 : Looks T.C.M ((hh.push emptyDict).push (instObj c hh.objs.size)) (typeOf (.ref (hh.objs.size + 1))) (.ref c) := (Looks.ld hx).andThen .now
 have t2 : Looks T.C.M ((hh.push emptyDict).push (instObj c hh.objs.size)) (isInstance (.ref (hh.objs.size + 1)) (.type "object")) true := t1.andThen (Y.top.keeps k)
 refine codeAny_call_builtin oi_plain entry_oi (@check_slot T.C.M _ _ _ "object.__init__" "object" "__init__" (.ref (hh.objs.size + 1)) [] [] _ oi_kind oi_split t2 (oi_args (.ref (hh.objs.size + 1))) ?_)
 rw [oi_run]
 exact wpAny_pure (And.intro rfl ⟨_,_,PR.ref,R₁,TupKeep.of_keep k,h _ _ (Nat.ne_of_gt (Nat.lt_succ_self _)) (R.fresh_ge (Nat.le_succ _)).1 R.fresh⟩)
theorem stands_aput {C : Cx} {h h' : Heap} {d : Addr} {l : Ls} {name : Str} {p : PV} {v : Value} {m : Str -> Option Value} (tk : TupKeep h h') (hn : ∀ x,l.lookup x = none -> m x = none) (hs : ∀ x p,l.lookup x = some p -> ∃ v,m x = some v /\ PR h p v)
  (n' : h'.Ns1 d (λ y => if y = name then some v else m y)) (hp : PR h p v) : Stands C h' d (.attrs ((name,p) :: l)) := by
 refine ⟨_,n',λ x e => ?_,λ x q e => ?_⟩
 ·rw [List.lookup_cons] at e
  by_cases hx : x = name
  ·subst hx; simp at e
  ·rw [beq_eq_false_iff_ne.mpr hx] at e; simp [hx,hn x e]
 ·rw [List.lookup_cons] at e
  by_cases hx : x = name
  ·subst hx; simp at e; subst e; exact ⟨v,by simp,hp.keep tk⟩
  ·rw [beq_eq_false_iff_ne.mpr hx] at e
   obtain ⟨u,e1,pr⟩ := hs x q e
   exact ⟨u,by simp [hx,e1],pr.keep tk⟩
theorem ASetAttr.inst {x c d : Addr} {l : Ls} {name : Str} {p : PV} {Q : AHeap -> Prop} (hc : ClsOk T.C.K c) (hn : findIn T.C.K (.ref c) name = some none) (hx : H x = some (.inst c d)) (hd : H d = some (.attrs l)) (hz : l.length <= 10000) (h : Q (upd H d (.attrs ((name,p) :: l)))) :
  ASetAttr T Fs H name (.ref x) p Q E := λ A s v u ok R pv pu => by
 rw [pv.ref_inv]
 obtain ⟨ox,od,I,hdict,hod,_,_⟩ := instAt_of R hx hd name
 obtain ⟨⟨m,n1,h1,h2⟩,_⟩ := R.objs d _ hd
 refine set_plain R.kin I hc.sa ?_
 have ht : takerIn T.C.K c name = some none := by unfold takerIn; rw [hn]; rfl
 refine osa_open (s := { s with toks := s.toks + 1 }) R.kin I hc.plain ht λ b => ?_
 obtain ⟨cd,hcd,hd'⟩ := any_some hc.cd
 obtain ⟨hx',hcl,hno,-⟩ := I
 obtain ⟨oc,odi,oda,osl⟩ := ox
 dsimp only at hcl hdict
 subst hcl hdict
 refine wpAny_bind (wpAny_pure (wpAny_bind (wpAny_bind (wpAny_loadPart hx' (wpAny_bind (looks_clsIn R.kin hcd _ _ _ _ (λ _ _ e => e) ?_))))))
 rw [hd']
 refine wpAny_pure (a := some d) (wpAny_bind (wpAny_pure (wpAny_bind ?_)))
 refine wpAny_nsSet1 (s := { s with toks := s.toks + 1 }) n1 λ h' n' sb => ?_
 have tk : TupKeep s.heap h' := R.turnKeep (s' := { s with heap := h',toks := s.toks + 1 + 1 }) hd sb.extBut
 have hw : PySem.Within m (l.map (·.1)) := λ y hy => by
  cases e : l.lookup y with
  | none => exact absurd (h1 y e) hy
  | some q => exact List.mem_map.mpr ⟨_,mem_of_lookup e,rfl⟩
 obtain ⟨oD,esD,epD,hoD,hdD,hcD⟩ := n'.count (PySem.Within.cons name u hw)
 refine wpAny_bind (wpAny_lookBehind hoD (by rw [hdD]; exact pastItsLine_dict (Nat.le_trans hcD (by rw [List.length_cons,List.length_map]; exact Nat.le_trans (Nat.succ_le_succ hz) (by decide)))) ?_)
 refine wpAny_pure ?_
 show PostH T Fs s Q _
 exact ⟨_,R.turn (o' := .attrs ((name,p) :: l)) hd sb.extBut (stands_aput tk h1 h2 n' pu),tk,h⟩
theorem AA.attr {o : Expr} {attr : Str} {pos : Pos} {p : PV} {Q : Ls -> AHeap -> Prop} (h : AE T f Fs H o (λ q H₁ => ASetAttr T (.fr f :: Fs) H₁ attr q p (λ H₂ => Q f.ls H₂) E) E) : AA T f Fs H (.Attribute o attr pos) p Q E := λ A s v ok R pv => by
 rw [arm_assign_Attribute]
 refine wpAny_bind (wpAny_holding (wpAny_mono (h A s ok R) (λ w s₁ hh => hh.elim λ q H₁ qr R₁ k₁ h₁ => ?_) λ _ _ x => x))
 refine wpAny_bind (wpAny_standAt (wpAny_bind (wpAny_holding (wpAny_mono (h₁ A s₁ w v ok R₁ qr (pv.keep k₁)) (λ _ s₂ hh => hh.elim λ H₂ R₂ k₂ h₂ => wpA_release ⟨f.ls,H₂,R₂,k₁.trans k₂,h₂⟩) λ _ _ x => x))))
theorem AA.sub {o i : Expr} {pos : Pos} {p : PV} {Q : Ls -> AHeap -> Prop} (h : AE T f Fs H o (λ q H₁ => AE T f Fs H₁ i (λ j H₂ => ASetItem T (.fr f :: Fs) H₂ q j p (λ H₃ => Q f.ls H₃) E) E) E) : AA T f Fs H (.Subscript o i pos) p Q E := λ A s v ok R pv => by
 rw [arm_assign_Subscript]
 refine wpAny_bind (wpAny_holding (wpAny_mono (h A s ok R) (λ w s₁ hh => hh.elim λ q H₁ qr R₁ k₁ h₁ => ?_) λ _ _ x => x))
 refine wpAny_bind (wpAny_holding (wpAny_mono (h₁ A s₁ ok R₁) (λ u s₂ hh => hh.elim λ j H₂ jr R₂ k₂ h₂ => ?_) λ _ _ x => x))
 refine wpAny_bind (wpAny_standAt (wpAny_bind (wpAny_holding (wpAny_mono (h₂ A s₂ w u v ok R₂ (qr.keep k₂) jr (pv.keep (k₁.trans k₂))) (λ _ s₃ hh => hh.elim λ H₃ R₃ k₃ h₃ => ?_) λ _ _ x => x))))
 exact wpA_release ⟨f.ls,H₃,R₃,k₁.trans (k₂.trans k₃),h₃⟩
noncomputable def AAs (T : Tr) (f : FR) (Fs : List AF) (H : AHeap) (ts : List Expr) (ps : List PV) (Q : Ls -> AHeap -> Prop) (E : Value -> Shared -> Prop) : Prop :=
 ∀ A s vs,AOk T (.fr f :: Fs) A -> Rep T.C (.fr f :: Fs) H s -> PRs s.heap ps vs -> wpAny T.C.M A (assignInOrder ((assignEach ts f.env).map (·.2)) vs) (λ _ s' => PostA T f Fs s Q s') E s
theorem AAs.nil {Q : Ls -> AHeap -> Prop} (h : Q f.ls H) : AAs T f Fs H [] [] Q E := λ A s vs ok R pv => by
 rw [pv.nil_inv]
 exact wpAny_pure ⟨f.ls,H,R,TupKeep.refl _,h⟩
theorem AAs.cons {t : Expr} {ts : List Expr} {p : PV} {ps : List PV} {Q : Ls -> AHeap -> Prop} (he : assignEach (t :: ts) f.env = (false,assign t f.env) :: assignEach ts f.env)
  (h : AA T f Fs H t p (λ ls' H₁ => AAs T { f with ls := ls' } Fs H₁ ts ps Q E) E) : AAs T f Fs H (t :: ts) (p :: ps) Q E := λ A s vs ok R pv => by
 obtain ⟨v,r,rfl,pr,prs⟩ := pv.cons_inv
 rw [he]
 show wpAny T.C.M A (holding r (assign t f.env v) >>= λ _ => assignInOrder ((assignEach ts f.env).map (·.2)) r) _ _ _
 refine wpAny_bind (wpAny_holding (wpAny_mono (h A s v ok R pr) (λ _ s₁ hh => hh.elim λ ls' H₁ R₁ k₁ h₁ => ?_) λ _ _ x => x))
 exact wpAny_mono (h₁ A s₁ r (AOk.any ok) R₁ (PRs.keep k₁ _ prs)) (λ _ s₂ hh => hh.elim λ ls'' H₂ R₂ k₂ h₂ => ⟨ls'',H₂,R₂,k₁.trans k₂,h₂⟩) λ _ _ x => x
theorem AA.tup {es : List Expr} {k : Nat} {pos : Pos} {ps : List PV} {Q : Ls -> AHeap -> Prop} (hn : (assignEach es f.env).length = ps.length) (hst : (assignEach es f.env).findIdx? (·.1) = none)
  (h : AAs T f Fs H es ps Q E) : AA T f Fs H (.Tuple es k pos) (.tup ps) Q E := λ A s v ok R pv => by
 obtain ⟨a,o,vs,n,rfl,ho,hc,hd,hs,r⟩ := pv.tup_inv
 have it : IsTup s.heap a vs := ⟨o,ho,hc,n,hs⟩
 refine assign_tup (ok.hdc R) it (by rw [hn,r.length,Array.length_toList]) hst λ h' ext => ?_
 have kp : ∀ b o,s.heap.get? b = some o -> h'.get? b = some o := λ b o e => ext b o (Nat.ne_of_lt (Heap.lt_size e)) e
 exact wpAny_mono (h A { s with heap := h' } vs.toList ok (R.ext kp) (PRs.keep (TupKeep.of_keep kp) _ r)) (λ _ s₂ hh => hh.elim λ ls'' H₂ R₂ k₂ h₂ => ⟨ls'',H₂,R₂,(TupKeep.of_keep kp).trans k₂,h₂⟩) λ _ _ x => x
theorem AA.tupList {es : List Expr} {k : Nat} {pos : Pos} {a : Addr} {ps : List PV} {Q : Ls -> AHeap -> Prop} (hH : LAt T.C H a ps) (hn : (assignEach es f.env).length = ps.length) (hst : (assignEach es f.env).findIdx? (·.1) = none)
  (h : AAs T f Fs H es ps Q E) : AA T f Fs H (.Tuple es k pos) (.ref a) Q E := λ A s v ok R pv => by
 rw [pv.ref_inv]
 obtain ⟨vs,n,il,r⟩ := R.lat hH
 refine assign_list (ok.hdc R) (items := vs) ⟨_,il,rfl,_,rfl⟩ (by rw [hn,r.length,Array.length_toList]) hst λ h' ext => ?_
 have kp : ∀ b o,s.heap.get? b = some o -> h'.get? b = some o := λ b o e => ext b o (Nat.ne_of_lt (Heap.lt_size e)) e
 exact wpAny_mono (h A { s with heap := h' } vs.toList ok (R.ext kp) (PRs.keep (TupKeep.of_keep kp) _ r)) (λ _ s₂ hh => hh.elim λ ls'' H₂ R₂ k₂ h₂ => ⟨ls'',H₂,R₂,(TupKeep.of_keep kp).trans k₂,h₂⟩) λ _ _ x => x
end
end
section
inductive AIt where
 | list (a : Addr) (i : Nat)
 | range (x left : Int)
 | keys (d : Addr) (ob : Obj) (i : Nat)
noncomputable def IsIt (o : Obj) : AIt -> Prop
 | .list a i => o.cls = .type "list_iterator" /\ o.data = .fields #[.ref a,.int i 0]
 | .range x left => o = { cls := .type "range_iterator",dict := none,data := .fields #[rawInt x,rawInt left,rawInt 1],slots := #[] }
 | .keys d ob i => o.cls = .type "dict_keyiterator" /\ ∃ es ep,ob.data = .dict es ep /\ o.data = keysIt d i es.size ep
theorem IsIt.nc {o : Obj} {x : AIt} (h : IsIt o x) : ¬ Ctx2 o := λ ⟨vs,hd,h2⟩ => by
 cases x with
 | list a i => rw [h.2] at hd; cases hd; cases h2
 | range x left => rw [show o = _ from h] at hd; cases hd; cases h2
 | keys d ob i => obtain ⟨_,es,ep,_,h⟩ := h; rw [h] at hd; cases hd; cases h2
theorem IsIt.notTup {o : Obj} : ∀ {x : AIt},IsIt o x -> NotTup o
 | .list a i,⟨h,_⟩ => .cls (by rw [h]; decide)
 | .keys _ _ _,⟨h,_⟩ => .cls (by rw [h]; decide)
 | .range _ _,h => .cls (by rw [show o = _ from h]; show Value.type "range_iterator" ≠ Value.type "tuple"; decide)
noncomputable def ItTurn (H : AHeap) (x : AIt) (K : PV -> AIt -> Prop) (D : Prop) : Prop := match x with
 | .list a i => ∃ l,H a = some (.list l) /\ (∀ p,l[i]? = some p -> K p (.list a (i + 1))) /\ (l[i]? = none -> D)
 | .keys d ob i => ∃ l,H d = some (.pdict l (some ob)) /\ (∀ e,l[i]? = some e -> K (pt e.1) (.keys d ob (i + 1))) /\ (l[i]? = none -> D)
 | .range x left => (0 < left -> K (.int x) (.range (x + 1) (left - 1))) /\ (left <= 0 -> D)
section
variable {T : Tr} {f : FR} {env : Env} {ls : Ls} {Fs : List AF} {H : AHeap} {E : Value -> Shared -> Prop} {s : Shared} {A : Around}
theorem Rep.unhide {C : Cx} {pre post : List AF} {a : Addr} {o : Obj} {s' : Shared} (R : Rep C (pre ++ .hid a o :: post) H s) (hk : Heap.ExtBut a s.heap s'.heap)
  (hg : s'.gens = s.gens := by rfl) (hos : s'.os = s.os := by rfl) : Rep C (pre ++ post) H s' /\ TupKeep s.heap s'.heap := by
 obtain ⟨p1,p2,p3⟩ := List.pairwise_append.mp R.apart
 obtain ⟨q1,q2⟩ := List.pairwise_cons.mp p2
 obtain ⟨⟨ho,hoc⟩,hb⟩ := R.frs (.hid a o) (by simp)
 have hb := hb a List.mem_cons_self
 have tk : TupKeep s.heap s'.heap := TupKeep.of_ext hk λ o₁ e => by rw [ho] at e; cases e; exact hoc
 have nf : ∀ f ∈ pre ++ post,a ∉ f.reads := λ f hf => by
  rcases List.mem_append.mp hf with hf | hf
  ·exact (p3 f hf _ (.head _)).2 a List.mem_cons_self
  ·exact (q1 f hf).1 a List.mem_cons_self
 exact ⟨(R.sub (List.Sublist.append (List.Sublist.refl _) (List.sublist_cons_self _ _))).to (λ b => b = a) (λ b o hb e => hk b o hb e) tk (λ b h => h ▸ hb) (λ g hg b hb h => nf g hg (h ▸ hb))
  (λ b ob e => .inl ⟨e,λ h => (R.objs b ob e).2.2 (.hid a o) (by simp) (h ▸ List.mem_cons_self)⟩) hg hos,tk⟩
theorem Rep.swap {C : Cx} {a : Addr} {o : Obj} {g : AF} (R : Rep C (.hid a o :: g :: Fs) H s) : Rep C (g :: .hid a o :: Fs) H s := by
 obtain ⟨a1,a2⟩ := List.pairwise_cons.mp R.apart
 obtain ⟨b1,b2⟩ := List.pairwise_cons.mp a2
 have h := a1 g (.head _)
 have ha : a ∉ g.reads := h.1 a List.mem_cons_self
 refine ⟨R.ok,R.keep,R.gens,R.os,λ x hx => R.frs x (by simp only [List.mem_cons] at hx ⊢; rcases hx with h | h | h <;> simp [h]),List.pairwise_cons.mpr ⟨λ x hx => ?_,List.pairwise_cons.mpr ⟨λ x hx => a1 x (.tail _ hx),b2⟩⟩,λ b ob e => ?_⟩
 ·rcases List.mem_cons.mp hx with rfl | hx
  ·exact ⟨λ b hb hb' => ha (by rw [<- List.mem_singleton.mp hb']; exact AF.owns_reads hb),λ b hb => by rw [List.mem_singleton.mp hb]; exact ha⟩
  ·exact b1 x hx
 ·obtain ⟨x,y,z⟩ := R.objs b ob e
  exact ⟨x,y,λ k hk => z k (by simp only [List.mem_cons] at hk ⊢; rcases hk with h | h | h <;> simp [h])⟩
theorem AOk.hid {c : FK} {ls ls' : Ls} {a : Addr} {o : Obj} (ok : AOk T (.fr ⟨c,env,ls⟩ :: Fs) A) : AOk T (.fr ⟨c,env,ls'⟩ :: .hid a o :: Fs) A := by
 cases c <;> exact ⟨ok.frames,ok.depth,ok.units,ok.handled,ctx_more ok λ x h => .tail _ h⟩
theorem wp_next {pre post : List AF} {it : Addr} {o : Obj} {x : AIt} {K : PV -> AIt -> Prop} {D : Prop} {Q : Option Value -> Shared -> Prop} (hx : HdC s.heap A) (R : Rep T.C (pre ++ .hid it o :: post) H s) (hi : IsIt o x) (ht : ItTurn H x K D)
  (hK : ∀ p x' v o' s',K p x' -> IsIt o' x' -> PR s'.heap p v -> Rep T.C (pre ++ .hid it o' :: post) H s' -> TupKeep s.heap s'.heap -> Q (some v) s')
  (hD : ∀ s',D -> Rep T.C (pre ++ post) H s' -> TupKeep s.heap s'.heap -> Q none s') : wpAny T.C.M A (pyNext (.ref it)) Q E s := by
 obtain ⟨⟨ho,_⟩,_⟩ := R.frs (.hid it o) (by simp)
 cases x with
 | list a i =>
  obtain ⟨l,hl,h1,h2⟩ := ht
  obtain ⟨vs,il,r⟩ := isList_of (R.objs a _ hl).1
  have hit : s.heap.IsListIter it a i := ⟨o,ho,hi.1,hi.2⟩
  cases e : l[i]? with
  | some p =>
   obtain ⟨v,ev,pr⟩ := item_of r e
   refine wpAny_pyNext_list_item hit il ev λ h' hit' sb => ?_
   obtain ⟨o',ho',hc',hd'⟩ := hit'
   obtain ⟨R',tk⟩ := R.hidden (s' := { s with heap := h' }) sb.extBut ho' (IsIt.notTup (x := .list a (i + 1)) ⟨hc',hd'⟩)
   exact hK p _ v o' _ (h1 p e) ⟨hc',hd'⟩ (pr.keep tk) R' tk
  | none =>
   have ev : vs[i]? = none := by
    rw [<- Array.getElem?_toList]
    have := r.length
    rw [List.getElem?_eq_none_iff] at e ⊢
    omega
   refine list_end hx hit il ev λ h' ext => ?_
   obtain ⟨R',tk⟩ := R.unhide (s' := { s with heap := h' }) ext
   exact hD _ (h2 e) R' tk
 | range x left =>
  obtain ⟨h1,h2⟩ := ht
  have hit : IsRangeIter s.heap it x left 1 := by rw [show o = _ from hi] at ho; exact ho
  by_cases hl : 0 < left
  ·refine wpAny_pyNext_range_item hit hl λ h' hit' sb => ?_
   obtain ⟨R',tk⟩ := R.hidden (s' := { s with heap := h',toks := s.toks + 1 }) sb.extBut hit' (IsIt.notTup (x := .range (x + 1) (left - 1)) rfl)
   exact hK _ _ _ _ _ (h1 hl) rfl PR.int R' tk
  ·refine range_end hx hit (by omega) λ h' ext => ?_
   obtain ⟨R',tk⟩ := R.unhide (s' := { s with heap := h' }) ext
   exact hD _ (h2 (by omega)) R' tk
 | keys d ob i =>
  obtain ⟨l,hl,h1,h2⟩ := ht
  obtain ⟨hc,es,ep,hob,hid⟩ := hi
  obtain ⟨⟨⟨xs,⟨o',es',ep',ho',hx',hd',he',-⟩,r⟩,hp⟩,-⟩ := R.objs d _ hl
  have hpo := hp ob rfl
  rw [hpo] at ho'; cases ho'
  rw [hob] at hd'; cases hd'
  cases e : l[i]? with
  | some z =>
   obtain ⟨x,hxi,pr⟩ := r.at e
   have hei : es[i]? = some (entryOfKey (tupleKind (intKind T.C.prog T.C.w)) x) := by rw [entry_at he',hxi]; rfl
   refine dict_item ho hc hid hpo hx' hob hei λ h' oi' q1 q2 q3 sb => ?_
   have ii : IsIt oi' (.keys d ob (i + 1)) := ⟨q2,es,ep,hob,q3⟩
   obtain ⟨R',tk⟩ := R.hidden (s' := { s with heap := h' }) sb.extBut q1 (IsIt.notTup ii)
   exact hK _ _ _ oi' _ (h1 z e) ii (pr.keep tk) R' tk
  | none =>
   have hei : es[i]? = none := by
    rw [entry_at he',List.getElem?_eq_none (by rw [r.length]; exact List.getElem?_eq_none_iff.mp e)]; rfl
   refine dict_end hx ho hc hid hpo hob hei λ h' ext => ?_
   obtain ⟨R',tk⟩ := R.unhide (s' := { s with heap := h' }) ext
   exact hD _ (h2 e) R' tk
noncomputable def AIter (T : Tr) (Fs : List AF) (H : AHeap) (p : PV) (x : AIt) : Prop :=
 ∀ A s v (Q : Value -> Shared -> Prop) E,AOk T Fs A -> Rep T.C Fs H s -> PR s.heap p v -> (∀ it o s',IsIt o x -> Rep T.C (.hid it o :: Fs) H s' -> TupKeep s.heap s'.heap -> Q (.ref it) s') -> wpAny T.C.M A (pyIter v) Q E s
theorem AIter.list {a : Addr} {l : List PV} (hH : H a = some (.list l)) : AIter T Fs H (.ref a) (.list a 0) := λ A s v Q E ok R pv h => by
 rw [pv.ref_inv]
 obtain ⟨vs,il,r⟩ := isList_of (R.objs a _ hH).1
 exact wpAny_pyIter_list il (h _ _ _ ⟨rfl,rfl⟩ (R.hide push_keep (Nat.le_refl _) (Heap.get?_push_size _ rfl) (.cls (by show Value.type "list_iterator" ≠ Value.type "tuple"; decide))) (TupKeep.of_keep push_keep))
theorem AIter.range {a : Addr} {x y : Int} (hH : H a = some (.range x y)) (hx : -(2 ^ 62) <= x) (hx' : x < 2 ^ 62) (hy : -(2 ^ 62) <= y) (hy' : y < 2 ^ 62) : AIter T Fs H (.ref a) (.range x (if x < y then y - x else 0)) := λ A s v Q E ok R pv h => by
 rw [pv.ref_inv]
 obtain ⟨t,u,w,ir⟩ := (R.objs a _ hH).1
 refine wpAny_pyIter_range ir (small_one hx hx' hy hy') ?_
 rw [rangeSize_one]
 exact (h _ _ _ rfl (R.hide push_keep (Nat.le_refl _) (Heap.get?_push_size _ rfl) (.cls (by show Value.type "range_iterator" ≠ Value.type "tuple"; decide))) (TupKeep.of_keep push_keep))
theorem AIter.keys {d : Addr} {l : List (Pt × PV)} {ob : Obj} (hH : H d = some (.pdict l (some ob))) : AIter T Fs H (.ref d) (.keys d ob 0) := λ A s v Q E ok R pv h => by
 rw [pv.ref_inv]
 obtain ⟨⟨⟨xs,⟨o',es,ep,ho,hx,hd,-⟩,-⟩,hp⟩,-⟩ := R.objs d _ hH
 have hpo := hp ob rfl
 rw [hpo] at ho; cases ho
 refine dict_iter (notSys R hH) hpo hx hd ?_
 have nt : NotTup { cls := .type "dict_keyiterator",data := keysIt d 0 es.size ep } := .cls (by show Value.type "dict_keyiterator" ≠ Value.type "tuple"; decide)
 exact h _ _ _ ⟨rfl,es,ep,hd,rfl⟩ (R.hide push_keep (Nat.le_refl _) (Heap.get?_push_size _ rfl) nt) (TupKeep.of_keep push_keep)
theorem wp_letOwned {pre post : List AF} {it : Addr} {o : Obj} {x : AIt} {t : Expr} {v : Value} {C : Cx} {M : Model} {Q : Unit -> Shared -> Prop} (R : Rep C (pre ++ .hid it o :: post) H s) (hi : IsIt o x) (h : Q () s) : wpAny M A (letOwnedTupleGo t (.ref it) v) Q E s := by
 obtain ⟨⟨ho,_⟩,_⟩ := R.frs (.hid it o) (by simp)
 have main : wpAny M A (do
  let (.ref r,.ref a) := (Value.ref it,v) | return
  let o <- load r
  match o.cls,o.data with
  | .type n,.fields vs =>
   if ["enumerate", "zip", "dict_itemiterator", "dict_reverseitemiterator", "odict_iterator", "itertools.zip_longest", "itertools.pairwise"].contains n && vs[0]? == some (rawInt a) then
    rule "for.unpacks-the-owned-tuple"
    updateField r 0 .none
  | _,_ => pure ()) Q E s := by
  cases v <;> first | exact wpAny_pure h | skip
  refine wpAny_bind (wpAny_load ho ?_)
  cases x with
  | list a i =>
   rw [hi.1,hi.2]; dsimp only
   exact wpAny_pure h
  | range x y =>
   rw [show o = _ from hi]; dsimp only
   exact wpAny_pure h
  | keys d ob i =>
   obtain ⟨hc,es,ep,hob,hd⟩ := hi
   rw [hc,show o.data = .fields _ from hd]; dsimp only
   exact wpAny_pure h
 cases t <;> first | exact wpAny_pure h | exact main
theorem AA.mono {t : Expr} {p : PV} {Q Q' : Ls -> AHeap -> Prop} (h : AA T f Fs H t p Q E) (hq : ∀ ls H,Q ls H -> Q' ls H) : AA T f Fs H t p Q' E :=
 λ A s v ok R pv => wpAny_mono (h A s v ok R pv) (λ _ s' hh => hh.elim λ ls' H' a b c => ⟨ls',H',a,b,hq _ _ c⟩) λ _ _ x => x
noncomputable def LoopQ (next : Ls -> AHeap -> Prop) (Q : AFl -> Ls -> AHeap -> Prop) (a : AFl) (ls : Ls) (H : AHeap) : Prop := match a with
 | .next => next ls H
 | .cont => next ls H
 | .brk => Q .next ls H
 | .ret p => Q (.ret p) ls H
noncomputable def ForTail (T : Tr) (env : Env) (Fs : List AF) (ls : Ls) (target : Expr) (body : List Stmt) (Q : AFl -> Ls -> AHeap -> Prop) (E : Value -> Shared -> Prop) (p : PV) (H₁ : AHeap) : Prop :=
 ∀ A s s₁ v,AOk T (.fr ⟨.fn,env,ls⟩ :: Fs) A -> Rep T.C (.fr ⟨.fn,env,ls⟩ :: Fs) H₁ s₁ -> PR s₁.heap p v -> TupKeep s.heap s₁.heap ->
  wpAny T.C.M A (pyIter v) (λ it s₂ => codeAny T.C.M A (.forLoop target it body [] env) (λ r s' => match r with | .ok f => PostX T env Fs s Q f s' | .error e => cameBackBy T.C.M A env E e s') s₂) E s₁
theorem AS.forTail {target iter : Expr} {body : List Stmt} {pos : Pos} {Q : AFl -> Ls -> AHeap -> Prop} (hs : ∀ x,foldedSetIterable iter env x = pure x) (h : AE T ⟨.fn,env,ls⟩ Fs H iter (ForTail T env Fs ls target body Q E) E) :
  AS T env Fs ls H (.For target iter body [] pos) Q E := λ A s ok R =>
 wpAny_For (wpAny_mono (h A s ok R) (λ v s₁ hh => hh.elim λ p H₁ pr R₁ k₁ h => h A s s₁ v ok R₁ pr k₁) λ _ _ e => e) hs
theorem for_tail {target : Expr} {body : List Stmt} {Q : AFl -> Ls -> AHeap -> Prop} {p : PV} {H₁ : AHeap}
  (h : ∃ x,AIter T (.fr ⟨.fn,env,ls⟩ :: Fs) H₁ p x /\ ∃ (I : Nat -> AIt -> Ls -> AHeap -> Prop) (n : Nat),I n x ls H₁ /\
   ∀ n x ls' H',I n x ls' H' -> ItTurn H' x (λ p x' => ∀ Fs',AA T ⟨.fn,env,ls'⟩ Fs' H' target p (λ ls₁ H₁ => AX T env Fs' ls₁ H₁ body (LoopQ (λ ls₂ H₂ => ∃ m,m < n /\ I m x' ls₂ H₂) Q) NoE) NoE) (Q .next ls' H')) :
  ForTail T env Fs ls target body Q E p H₁ := λ A s s₁ v ok R₁ pr k₁ => by
 obtain ⟨x,hx,I,n,hI,turn⟩ := h
 refine hx A s₁ v _ _ ok R₁ pr λ it o s₂ hi R₂ k₂ => ?_
 have R₂ := R₂.swap
 refine codeAny_forLoop_any (λ n s' => ∃ x ls' H' o,IsIt o x /\ I n x ls' H' /\ Rep T.C (.fr ⟨.fn,env,ls'⟩ :: .hid it o :: Fs) H' s' /\ TupKeep s.heap s'.heap) ?_ n ⟨x,ls,H₁,o,hi,hI,R₂,k₁.trans k₂⟩
 rintro n s₃ ⟨x,ls',H',o,hi,hI,R₃,k₃⟩
 refine wp_next (pre := [.fr ⟨.fn,env,ls'⟩]) ((AOk.hid (ls := ls) (ls' := ls') (a := it) (o := o) ok).hdc R₃) R₃ hi (turn n x ls' H' hI) (λ p x' v o' s₄ hK hi' pv R₄ k₄ => ?_) (λ s₄ hD R₄ k₄ => ?_)
 ·dsimp only
  refine wp_letOwned (pre := [.fr ⟨.fn,env,ls'⟩]) R₄ hi' ?_
  refine wpAny_mono (hK (.hid it o' :: Fs) A s₄ v (AOk.hid ok) R₄ pv) (λ _ s₅ hh => hh.elim λ ls₁ H₁' R₅ k₅ hX => ?_) λ _ _ e => e.elim
  refine wpAny_mono (hX A s₅ (AOk.hid ok) R₅) (λ fl s₆ hh => hh.elim λ a ls₂ H₂' fr R₆ k₆ hQ => ?_) λ _ _ e => e.elim
  have kk := k₃.trans (k₄.trans (k₅.trans k₆))
  rcases a with _ | _ | _ | p <;> cases fl <;> first | exact fr.elim | skip
  ·obtain ⟨m,hm,hI'⟩ := hQ; exact ⟨m,hm,x',ls₂,H₂',o',hi',hI',R₆,kk⟩
  ·exact ⟨.next,ls₂,H₂',trivial,R₆.pop2,kk,hQ⟩
  ·obtain ⟨m,hm,hI'⟩ := hQ; exact ⟨m,hm,x',ls₂,H₂',o',hi',hI',R₆,kk⟩
  ·exact ⟨.ret p,ls₂,H₂',fr,R₆.pop2,kk,hQ⟩
 ·exact wpAny_execs_nil ⟨.next,ls',H',trivial,R₄,k₃.trans k₄,hD⟩
theorem it_list {target : Expr} {body : List Stmt} {Q : AFl -> Ls -> AHeap -> Prop} {p : PV} {H₁ : AHeap}
  (h : ∃ a l,p = .ref a /\ H₁ a = some (.list l) /\ ∃ J : Nat -> Ls -> AHeap -> Prop,J 0 ls H₁ /\
   (∀ i ls' H',J i ls' H' -> H' a = some (.list l)) /\
   (∀ i p ls' H' Fs',l[i]? = some p -> J i ls' H' -> AA T ⟨.fn,env,ls'⟩ Fs' H' target p (λ ls₁ H₁ => AX T env Fs' ls₁ H₁ body (LoopQ (J (i + 1)) Q) NoE) NoE) /\ ∀ ls' H',J l.length ls' H' -> Q .next ls' H') :
  ∃ x,AIter T (.fr ⟨.fn,env,ls⟩ :: Fs) H₁ p x /\ ∃ (I : Nat -> AIt -> Ls -> AHeap -> Prop) (n : Nat),I n x ls H₁ /\
   ∀ n x ls' H',I n x ls' H' -> ItTurn H' x (λ p x' => ∀ Fs',AA T ⟨.fn,env,ls'⟩ Fs' H' target p (λ ls₁ H₁ => AX T env Fs' ls₁ H₁ body (LoopQ (λ ls₂ H₂ => ∃ m,m < n /\ I m x' ls₂ H₂) Q) NoE) NoE) (Q .next ls' H') := by
 obtain ⟨a,l,rfl,hl,J,h0,h1,h2,h3⟩ := h
 refine ⟨.list a 0,AIter.list hl,λ n x ls' H' => ∃ i,x = .list a i /\ n = l.length - i /\ i <= l.length /\ J i ls' H',l.length,⟨0,rfl,rfl,Nat.zero_le _,h0⟩,?_⟩
 rintro n x ls' H' ⟨i,rfl,rfl,hle,hJ⟩
 refine ⟨l,h1 i ls' H' hJ,λ p e Fs' => ?_,λ e => ?_⟩
 ·have hlt := (List.getElem?_eq_some_iff.mp e).1
  refine AA.mono (h2 i p ls' H' Fs' e hJ) λ ls₁ H₁ hX => AX.mono hX λ a ls₂ H₂ hQ => ?_
  cases a <;> first | exact hQ | exact ⟨l.length - (i + 1),by omega,i + 1,rfl,rfl,hlt,hQ⟩
 ·have : i = l.length := by rw [List.getElem?_eq_none_iff] at e; omega
  subst this; exact h3 ls' H' hJ
theorem it_grow {target : Expr} {body : List Stmt} {Q : AFl -> Ls -> AHeap -> Prop} {p : PV} {H₁ : AHeap}
  (h : ∃ a,p = .ref a /\ (∃ l,H₁ a = some (.list l)) /\ ∃ (J : Nat -> Nat -> Ls -> AHeap -> Prop) (n : Nat),J n 0 ls H₁ /\
   ∀ n i ls' H',J n i ls' H' -> ∃ l,H' a = some (.list l) /\ (∀ p Fs',l[i]? = some p -> AA T ⟨.fn,env,ls'⟩ Fs' H' target p (λ ls₁ H₁ => AX T env Fs' ls₁ H₁ body (LoopQ (λ ls₂ H₂ => ∃ m,m < n /\ J m (i + 1) ls₂ H₂) Q) NoE) NoE) /\
    (l.length <= i -> Q .next ls' H')) :
  ∃ x,AIter T (.fr ⟨.fn,env,ls⟩ :: Fs) H₁ p x /\ ∃ (I : Nat -> AIt -> Ls -> AHeap -> Prop) (n : Nat),I n x ls H₁ /\
   ∀ n x ls' H',I n x ls' H' -> ItTurn H' x (λ p x' => ∀ Fs',AA T ⟨.fn,env,ls'⟩ Fs' H' target p (λ ls₁ H₁ => AX T env Fs' ls₁ H₁ body (LoopQ (λ ls₂ H₂ => ∃ m,m < n /\ I m x' ls₂ H₂) Q) NoE) NoE) (Q .next ls' H') := by
 obtain ⟨a,rfl,⟨l,hl⟩,J,n,h0,h1⟩ := h
 refine ⟨.list a 0,AIter.list hl,λ n x ls' H' => ∃ i,x = .list a i /\ J n i ls' H',n,⟨0,rfl,h0⟩,?_⟩
 rintro n x ls' H' ⟨i,rfl,hJ⟩
 obtain ⟨l,hl,h2,h3⟩ := h1 n i ls' H' hJ
 refine ⟨l,hl,λ p e Fs' => ?_,λ e => h3 (List.getElem?_eq_none_iff.mp e)⟩
 refine AA.mono (h2 p Fs' e) λ ls₁ H₁ hX => AX.mono hX λ a ls₂ H₂ hQ => ?_
 cases a <;> first | exact hQ | (obtain ⟨m,hm,hJ'⟩ := hQ; exact ⟨m,hm,i + 1,rfl,hJ'⟩)
theorem it_range {target : Expr} {body : List Stmt} {Q : AFl -> Ls -> AHeap -> Prop} {p : PV} {H₁ : AHeap}
  (h : ∃ (a : Addr) (n : Nat),p = .ref a /\ H₁ a = some (.range 0 n) /\ n < 2 ^ 62 /\ ∃ J : Nat -> Ls -> AHeap -> Prop,J 0 ls H₁ /\
   (∀ i ls' H' Fs',i < n -> J i ls' H' -> AA T ⟨.fn,env,ls'⟩ Fs' H' target (.int i) (λ ls₁ H₁ => AX T env Fs' ls₁ H₁ body (LoopQ (J (i + 1)) Q) NoE) NoE) /\ ∀ ls' H',J n ls' H' -> Q .next ls' H') :
  ∃ x,AIter T (.fr ⟨.fn,env,ls⟩ :: Fs) H₁ p x /\ ∃ (I : Nat -> AIt -> Ls -> AHeap -> Prop) (n : Nat),I n x ls H₁ /\
   ∀ n x ls' H',I n x ls' H' -> ItTurn H' x (λ p x' => ∀ Fs',AA T ⟨.fn,env,ls'⟩ Fs' H' target p (λ ls₁ H₁ => AX T env Fs' ls₁ H₁ body (LoopQ (λ ls₂ H₂ => ∃ m,m < n /\ I m x' ls₂ H₂) Q) NoE) NoE) (Q .next ls' H') := by
 obtain ⟨a,n,rfl,hl,hz,J,h0,h2,h3⟩ := h
 refine ⟨_,AIter.range hl (by decide) (by decide) (by omega) (by exact_mod_cast hz),λ k x ls' H' => ∃ i : Nat,x = .range i (n - i) /\ k = n - i /\ i <= n /\ J i ls' H',n,⟨0,?_,rfl,Nat.zero_le _,h0⟩,?_⟩
 ·congr 1
  split <;> omega
 rintro k x ls' H' ⟨i,rfl,rfl,hle,hJ⟩
 refine ⟨λ hp Fs' => ?_,λ e => ?_⟩
 ·refine AA.mono (h2 i ls' H' Fs' (by omega) hJ) λ ls₁ H₁ hX => AX.mono hX λ a ls₂ H₂ hQ => ?_
  cases a <;> first | exact hQ | exact ⟨n - (i + 1),by omega,i + 1,by congr 1; push_cast; omega,rfl,by omega,hQ⟩
 ·have : i = n := by omega
  subst this; exact h3 ls' H' hJ
theorem AS.while_ {test : Expr} {body : List Stmt} {pos : Pos} {Q : AFl -> Ls -> AHeap -> Prop} (I : Nat -> Ls -> AHeap -> Prop) (n : Nat) (h0 : I n ls H)
  (turn : ∀ n ls' H',I n ls' H' -> AT T ⟨.fn,env,ls'⟩ Fs H' test (λ b H₁ => if b then AX T env Fs ls' H₁ body (LoopQ (λ ls₂ H₂ => ∃ m,m < n /\ I m ls₂ H₂) Q) NoE else Q .next ls' H₁) NoE) :
  AS T env Fs ls H (.While test body [] pos) Q E := λ A s ok R => by
 refine wpAny_While (codeAny_whileLoop (λ n s' => ∃ ls' H',I n ls' H' /\ Rep T.C (.fr ⟨.fn,env,ls'⟩ :: Fs) H' s' /\ TupKeep s.heap s'.heap) ?_ n ⟨ls,H,h0,R,TupKeep.refl _⟩)
 rintro n s₁ ⟨ls',H',hI,R₁,k₁⟩
 refine wpAny_mono (turn n ls' H' hI A s₁ (AOk.any ok) R₁) (λ b s₂ hh => hh.elim λ H₂ R₂ k₂ hb => ?_) λ _ _ e => e.elim
 cases b with
 | false => exact wpAny_execs_nil ⟨.next,ls',H₂,trivial,R₂,k₁.trans k₂,hb⟩
 | true =>
  refine wpAny_mono (hb A s₂ (AOk.any ok) R₂) (λ fl s₃ hh => hh.elim λ a ls₃ H₃ fr R₃ k₃ hQ => ?_) λ _ _ e => e.elim
  have kk := k₁.trans (k₂.trans k₃)
  rcases a with _ | _ | _ | p <;> cases fl <;> first | exact fr.elim | skip
  ·obtain ⟨m,hm,hI'⟩ := hQ; exact ⟨m,hm,ls₃,H₃,hI',R₃,kk⟩
  ·exact ⟨.next,ls₃,H₃,trivial,R₃,kk,hQ⟩
  ·obtain ⟨m,hm,hI'⟩ := hQ; exact ⟨m,hm,ls₃,H₃,hI',R₃,kk⟩
  ·exact ⟨.ret p,ls₃,H₃,fr,R₃,kk,hQ⟩
end
end
section
noncomputable def All2 {α β : Type} (R : α -> β -> Prop) : List α -> List β -> Prop
 | [],bs => bs = []
 | a :: as,bs => ∃ b r,bs = b :: r /\ R a b /\ All2 R as r
noncomputable def HD (C : Cx) (H : AHeap) : Nat -> PV -> Dat -> Prop
 | _,.none,d => d = .none
 | _,.int i,d => d = .int i
 | _,.str x,d => d = .str x /\ PyData.strOk x = true
 | n + 1,.tup l,d => ∃ ds,d = .tuple ds /\ All2 (HD C H n) l ds
 | n + 1,.ref a,d => ∃ l ds,LAt C H a l /\ d = .list ds /\ All2 (HD C H n) l ds
 | _,_,_ => False
theorem All2.mk {α β : Type} {R : α -> β -> Prop} {a : α} {b : β} {l : List α} {m : List β} (h : R a b) (t : All2 R l m) : All2 R (a :: l) (b :: m) := ⟨b,m,rfl,h,t⟩
theorem HD.none' {C : Cx} {H : AHeap} {n : Nat} : HD C H (n + 1) .none .none := rfl
theorem HD.int' {C : Cx} {H : AHeap} {n : Nat} {i : Int} : HD C H (n + 1) (.int i) (.int i) := rfl
theorem HD.str' {C : Cx} {H : AHeap} {n : Nat} {x : Str} (h : PyData.strOk x = true) : HD C H (n + 1) (.str x) (.str x) := ⟨rfl,h⟩
theorem HD.tup' {C : Cx} {H : AHeap} {n : Nat} {l : List PV} {ds : List Dat} (h : All2 (HD C H n) l ds) : HD C H (n + 1) (.tup l) (.tuple ds) := ⟨ds,rfl,h⟩
theorem HD.list' {C : Cx} {H : AHeap} {n : Nat} {a : Addr} {l : List PV} {ds : List Dat} (hl : LAt C H a l) (h : All2 (HD C H n) l ds) : HD C H (n + 1) (.ref a) (.list ds) := ⟨l,ds,hl,rfl,h⟩
section
variable {T : Tr} {f : FR} {env : Env} {ls : Ls} {Fs : List AF} {H : AHeap} {E : Value -> Shared -> Prop} {s : Shared} {A : Around}
theorem HD.okAll {C : Cx} {n : Nat} (ih : ∀ p d,HD C H n p d -> kqdOk n d = true) (l : List PV) : ∀ (ds : List Dat),All2 (HD C H n) l ds -> ∀ d ∈ ds,kqdOk n d = true := by
 induction l with
 | nil => intro ds h d hd; rw [show ds = [] from h] at hd; cases hd
 | cons p l il =>
  rintro ds ⟨b,r,e,x,y⟩ d hd
  subst e
  exact (List.mem_cons.mp hd).elim (λ e => e ▸ ih p _ x) (il r y d)
theorem HD.ok {C : Cx} (n : Nat) : ∀ (p : PV) (d : Dat),HD C H n p d -> kqdOk n d = true := by
 induction n with
 | zero =>
  intro p d h
  cases p with
  | none => cases (show d = .none from h); rfl
  | int i => cases (show d = .int i from h); rfl
  | str x => obtain ⟨e,h⟩ : d = .str x /\ PyData.strOk x = true := h; subst e; exact h
  | _ => exact False.elim h
 | succ n ih =>
  intro p d h
  cases p with
  | none => cases (show d = .none from h); rfl
  | int i => cases (show d = .int i from h); rfl
  | str x => obtain ⟨e,h⟩ : d = .str x /\ PyData.strOk x = true := h; subst e; exact h
  | tup l =>
   obtain ⟨ds,e,h⟩ : ∃ ds,d = .tuple ds /\ All2 (HD C H n) l ds := h
   subst e
   simpa [kqdOk] using HD.okAll ih l ds h
  | ref a =>
   obtain ⟨l,ds,_,e,h⟩ : ∃ l ds,LAt C H a l /\ d = .list ds /\ All2 (HD C H n) l ds := h
   subst e
   simpa [kqdOk] using HD.okAll ih l ds h
  | _ => exact False.elim h
theorem HD.readsAll {C : Cx} {n : Nat} (ih : ∀ p d v,HD C H n p d -> PR s.heap p v -> ∃ as,Reads s.heap v (kqdP d) as) (l : List PV) : ∀ (ds : List Dat) (vs : List Value),All2 (HD C H n) l ds -> PRs s.heap l vs -> ∃ as,ReadsAll s.heap vs (kqdPs ds) as := by
 induction l with
 | nil => intro ds vs h r; rw [show ds = [] from h,r.nil_inv]; exact ⟨_,ReadsAll.nil⟩
 | cons p l il =>
  rintro ds vs ⟨b,r,e,x,y⟩ r'
  subst e
  obtain ⟨v,vs,rfl,pr,r'⟩ := r'.cons_inv
  obtain ⟨as,q⟩ := ih p b v x pr
  obtain ⟨bs,q'⟩ := il r vs y r'
  exact ⟨_,ReadsAll.cons q q'⟩
theorem HD.reads {C : Cx} (R : Rep C Fs H s) (n : Nat) : ∀ (p : PV) (d : Dat) (v : Value),HD C H n p d -> PR s.heap p v -> ∃ as,Reads s.heap v (kqdP d) as := by
 induction n with
 | zero =>
  intro p d v h r
  cases p with
  | none => cases (show d = .none from h); rw [r.none_inv]; exact ⟨_,Reads.none⟩
  | int i => cases (show d = .int i from h); obtain ⟨t,rfl⟩ := r.int_inv; exact ⟨_,Reads.int i t⟩
  | str x => cases (show d = .str x from h.1); obtain ⟨t,rfl⟩ := r.str_inv; exact ⟨_,Reads.str x t⟩
  | _ => exact False.elim h
 | succ n ih =>
  intro p d v h r
  cases p with
  | none => cases (show d = .none from h); rw [r.none_inv]; exact ⟨_,Reads.none⟩
  | int i => cases (show d = .int i from h); obtain ⟨t,rfl⟩ := r.int_inv; exact ⟨_,Reads.int i t⟩
  | str x => cases (show d = .str x from h.1); obtain ⟨t,rfl⟩ := r.str_inv; exact ⟨_,Reads.str x t⟩
  | tup l =>
   obtain ⟨ds,e,h⟩ : ∃ ds,d = .tuple ds /\ All2 (HD C H n) l ds := h
   subst e
   obtain ⟨a,o,vs,k,rfl,ho,hc,hd,hs,rr⟩ := r.tup_inv
   exact (HD.readsAll ih l ds vs.toList h rr).elim λ as q => ⟨_,reads_tuple_at ho hc hs q⟩
  | ref a =>
   obtain ⟨l,ds,hl,e,h⟩ : ∃ l ds,LAt C H a l /\ d = .list ds /\ All2 (HD C H n) l ds := h
   subst e
   rw [r.ref_inv]
   obtain ⟨vs,k,il,rr⟩ := R.lat hl
   exact (HD.readsAll ih l ds vs.toList h rr).elim λ as q => ⟨_,reads_list_at il rfl rfl q⟩
  | _ => exact False.elim h
theorem shaped_of {C : Cx} {n : Nat} {p : PV} {d : Dat} (hn : n <= 9) (h : HD C H n p d) : SeqAt.shaped (kqdP d) = true := by
 have l := kqd_lay n d (HD.ok n p d h)
 unfold SeqAt.shaped
 rw [l.1,Bool.true_and]; exact decide_eq_true (Nat.le_trans l.2 (by omega))
theorem ACmp.eqData {p q : PV} {d e : Dat} {Q : Bool -> AHeap -> Prop} (hp : HD T.C H 9 p d) (hq : HD T.C H 9 q e) (h : ∀ b,(b = true ↔ d = e) -> Q b H) : ACmp T Fs H .Eq p q Q E := λ A s v w ok R pv pw => by
 obtain ⟨as,ra⟩ := HD.reads R 9 p d v hp pv
 obtain ⟨bs,rb⟩ := HD.reads R 9 q e w hq pw
 have := ok.cl
 exact eq_dataH ra rb (shaped_of (by decide) hp) (shaped_of (by decide) hq) (by omega) ⟨_,rfl,postB_same R (h _ (kqd_eqv 9 d e 9 (HD.ok 9 _ _ hp) (HD.ok 9 _ _ hq)))⟩
theorem ACmp.neData {p q : PV} {d e : Dat} {Q : Bool -> AHeap -> Prop} (hp : HD T.C H 9 p d) (hq : HD T.C H 9 q e) (h : ∀ b,(b = true ↔ d ≠ e) -> Q b H) : ACmp T Fs H .NotEq p q Q E := λ A s v w ok R pv pw => by
 obtain ⟨as,ra⟩ := HD.reads R 9 p d v hp pv
 obtain ⟨bs,rb⟩ := HD.reads R 9 q e w hq pw
 have := ok.cl
 refine ne_dataH ra rb (shaped_of (by decide) hp) (shaped_of (by decide) hq) (by omega) ⟨_,rfl,postB_same R (h _ ?_)⟩
 have k := kqd_eqv 9 d e 9 (HD.ok 9 _ _ hp) (HD.ok 9 _ _ hq)
 cases hb : PyData.eqv (kqdP d) (kqdP e)
 ·simp only [hb] at k ⊢; simp; intro hde; exact Bool.false_ne_true (k.mpr hde)
 ·simp only [hb] at k ⊢; simp; exact k.mp trivial
theorem ACmp.inList {a : Addr} {l : List PV} {p : PV} {ds : List Dat} {d : Dat} {Q : Bool -> AHeap -> Prop} (hl : LAt T.C H a l) (hds : All2 (HD T.C H 8) l ds) (hp : HD T.C H 8 p d) (h : ∀ b,(b = true ↔ d ∈ ds) -> Q b H) : ACmp T Fs H .In p (.ref a) Q E := λ A s v w ok R pv pw => by
 rw [pw.ref_inv]
 obtain ⟨vs,k,il,rr⟩ := R.lat hl
 obtain ⟨as,ra⟩ := HD.readsAll (λ p d v => HD.reads R 8 p d v) l ds vs.toList hds rr
 obtain ⟨bs,rx⟩ := HD.reads R 8 p d v hp pv
 have hok := HD.okAll (λ p d => HD.ok 8 p d) l ds hds
 have hdk := HD.ok 8 p d hp
 have l1 := kqd_layL hok
 have ld := kqd_lay 8 d hdk
 have l2 := ld.2
 have := ok.cl
 refine SeqAt.in_list_reads (reads_list_at il rfl rfl ra) rx l1.1 ld.1 ?_ ⟨_,rfl,postB_same R (h _ (kqd_any ds d hok hdk))⟩
 have := Nat.min_le_right (PyData.depthAll (kqdPs ds)) (kqdP d).depth
 omega
theorem ACmp.neBool {a b : Bool} {Q : Bool -> AHeap -> Prop} (h : Q (a != b) H) : ACmp T Fs H .NotEq (.bool a) (.bool b) Q E := λ A s v w ok R pv pw => by
 rw [pv.bool_inv,pw.bool_inv]
 exact PyProof.Rows.ne_bool ⟨_,rfl,postB_same R h⟩
theorem il_keep {h : Heap} {a : Addr} {vs : Array Value} {n : Nat} (il : IsL h a vs n) (g : Array Value -> Array Value) : Heap.ExtBut a h (h.update a (Obj.mapSeq g)) := (Heap.SameBut.update ..).extBut
theorem prs_size {h : Heap} {l : List PV} {vs : Array Value} (r : PRs h l vs.toList) : vs.size = l.length := by have := r.length; simp at this; exact this.symm
theorem AMeth.listAppend {a : Addr} {l : List PV} (hH : H a = some (.list l)) : AMeth T Fs H "append" (.ref a) (.bi "list.append") := λ A s v pl Q E ok R pv h => by
 rw [pv.ref_inv] at h ⊢
 obtain ⟨vs,n,il,r⟩ := (R.objs a _ hH).1
 exact getMethod_list_append il rfl rfl (h _ PR.bi)
theorem ACall.listAppend {a : Addr} {l : List PV} {p : PV} {Q : PV -> AHeap -> Prop} (hH : H a = some (.list l)) (hz : l.length <= 100000) (h : Q .none (upd H a (.list (l ++ [p])))) : ACall T Fs H (.bi "list.append") [.ref a,p] Q E := λ A s v ws ok R pv prs => by
 rw [pv.bi_inv]
 obtain ⟨w,r1,rfl,pw,prs⟩ := prs.cons_inv
 obtain ⟨u,r2,rfl,pu,prs⟩ := prs.cons_inv
 rw [prs.nil_inv,pw.ref_inv]
 obtain ⟨vs,n,il,r⟩ := (R.objs a _ hH).1
 have hsz : vs.size <= sizeLine := by rw [prs_size r]; exact Nat.le_trans hz (by decide)
 refine call_meets slot_list_append ⟨_,il,rfl⟩ entry_list_append (args_list_append _ _) (list_append a vs n u hsz) ⟨il,?_⟩
 have tk : TupKeep s.heap (s.heap.update a (Obj.mapSeq λ x => x.push u)) := R.turnKeep (s' := { s with heap := s.heap.update a (Obj.mapSeq λ x => x.push u) }) hH (il_keep il _)
 refine ⟨.none,_,PR.none,R.turn (o' := .list (l ++ [p])) hH (il_keep il _) ⟨_,_,IsL.update il _,?_⟩,tk,h⟩
 rw [Array.toList_push]
 exact (PRs.keep tk _ r).append (PRs.cons (pu.keep tk) PRs.nil)
theorem ASetItem.list {a : Addr} {l : List PV} {k : Int} {q : PV} {Q : AHeap -> Prop} (hH : H a = some (.list l)) (h0 : 0 <= k) (hk : k < l.length) (hz : l.length <= 100000) (h : Q (upd H a (.list (l.set k.toNat q)))) : ASetItem T Fs H (.ref a) (.int k) q Q E := λ A s v w u ok R pv pw pu => by
 rw [pv.ref_inv]
 obtain ⟨t,rfl⟩ := pw.int_inv
 obtain ⟨vs,n,il,r⟩ := (R.objs a _ hH).1
 have hl := il.isList
 have hs := prs_size r
 unfold setItem
 refine wpAny_holding ?_
 refine wpAny_bind (wpAny_sequenceKey hl.typeIs (by decide) ?_)
 refine wpAny_bind (wpAny_callSpecial?_slot (name := Str.ofString "__setitem__") hl.typeIs slot_list_setitem
  (wpAny_call_entry slot_list_setitem hl.typeIs entry_list_setitem ?_ (args_list_setitem _ _ _)))
 show wpAny _ _ (Builtin.List.listSubscript? (.int k t) >>= _) _ _ s
 refine wpAny_bind (wpAny_listSubscript_int (fitsIndex_of h0 (by omega)) ?_)
 obtain ⟨j,rfl⟩ := Int.eq_ofNat_of_zero_le h0
 have hj : j < vs.size := by omega
 have hx' : vs[j]? = some vs[j] := Array.getElem?_eq_getElem hj
 show wpAny _ _ ((seqItemAt a j >>= λ r => pure (r.map (j,·))) >>= _) _ _ s
 refine wpAny_bind (wpAny_bind (wpAny_seqItemAt il rfl (wpAny_pure ?_)))
 rw [hx']
 show wpAny _ _ (setSeqItemAt a j u >>= _) _ _ s
 have tk : TupKeep s.heap (s.heap.update a (Obj.mapSeq (·.setIfInBounds j u))) := R.turnKeep (s' := { s with heap := s.heap.update a (Obj.mapSeq (·.setIfInBounds j u)) }) hH (il_keep il _)
 have hfin : PostH T Fs s Q { s with heap := s.heap.update a (Obj.mapSeq (·.setIfInBounds j u)) } := by
  refine ⟨_,R.turn (o' := .list (l.set j q)) hH (il_keep il _) ⟨_,_,IsL.update il _,?_⟩,tk,h⟩
  rw [Array.toList_setIfInBounds]
  exact (PRs.keep tk _ r).set j (pu.keep tk)
 refine wpAny_bind (wpAny_setSeqItemAt il rfl ?_)
 exact wpAny_pure ⟨.none,rfl,wpAny_pure hfin⟩
theorem ACall.lenList {a : Addr} {l : List PV} {Q : PV -> AHeap -> Prop} (hH : LAt T.C H a l) (hz : l.length <= 100000) (h : Q (.int l.length) H) : ACall T Fs H (.bi "len") [.ref a] Q E := λ A s v ws ok R pv prs => by
 rw [pv.bi_inv]
 obtain ⟨w,r1,rfl,pw,prs⟩ := prs.cons_inv
 rw [prs.nil_inv,pw.ref_inv]
 obtain ⟨vs,n,il,r⟩ := R.lat hH
 have hs := prs_size r
 refine call_len_list il.isList (by rw [hs]; omega) ?_
 rw [hs]; exact post_same R PR.int h
theorem ATr.list {a : Addr} {l : List PV} {Q : Bool -> AHeap -> Prop} (hH : LAt T.C H a l) (hz : l.length <= 100000) (h : Q (!l.isEmpty) H) : ATr T Fs H (.ref a) Q E := λ A s v ok R pv => by
 rw [pv.ref_inv]
 obtain ⟨vs,n,il,r⟩ := R.lat hH
 have hs := prs_size r
 refine wpAny_truthy_list il.isList (by rw [hs]; omega) ?_
 have : vs.isEmpty = l.isEmpty := by
  cases l with
  | nil => have : vs.size = 0 := hs; simp [Array.isEmpty,this]
  | cons x l => simp at hs; simp [Array.isEmpty,hs]
 rw [this]; exact postB_same R h
theorem ABin.addList {a b : Addr} {l m : List PV} {Q : PV -> AHeap -> Prop} (hl : LAt T.C H a l) (hm : LAt T.C H b m) (hz : l.length + m.length <= 100000) (h : ∀ c,H c = Option.none -> Q (.ref c) (upd H c (.list (l ++ m)))) : ABin T Fs H (binaryOp .Add) (.ref a) (.ref b) Q E := λ A s v w ok R pv pw => by
 rw [pv.ref_inv,pw.ref_inv]
 obtain ⟨vs,n,il,r⟩ := R.lat hl
 obtain ⟨ws,n',im,r'⟩ := R.lat hm
 have hs := prs_size r
 have hs' := prs_size r'
 refine P.add_list il im ⟨_,_,PR.ref,R.new (o := .list (l ++ m)) push_keep (Nat.le_refl _) ⟨_,_,IsL.new _ _,?_⟩,TupKeep.of_keep push_keep,h _ R.fresh⟩ (by rw [hs,hs']; exact Nat.le_trans hz (by decide))
 rw [Array.toList_append]
 exact (PRs.keep (TupKeep.of_keep push_keep) _ r).append (PRs.keep (TupKeep.of_keep push_keep) _ r')
end
end
section
theorem upd_self {H : AHeap} {a : Addr} {o : AO} (h : H a = some o) : upd H a o = H := by
 funext b; unfold upd; split
 ·rename_i q; rw [q,h]
 ·rfl
section
variable {T : Tr} {f : FR} {env : Env} {ls : Ls} {Fs : List AF} {H : AHeap} {E : Value -> Shared -> Prop} {s : Shared} {A : Around}
theorem Rep.pset {C : Cx} (R : Rep C Fs H s) {a : Addr} {l : List Pt} (e : H a = some (.pset l)) : PSet C.w s.heap a l := (R.objs a _ e).1
theorem ACall.setNew {Q : PV -> AHeap -> Prop} (h : ∀ a,H a = Option.none -> Q (.ref a) (upd H a (.pset []))) : ACall T Fs H (.ty "set") [] Q E := λ A s v ws ok R pv prs => by
 rw [pv.ty_inv,prs.nil_inv]
 exact call_set_new λ S => ⟨_,_,PR.ref,R.new (o := .pset []) push_keep (Nat.le_refl _) S,TupKeep.of_keep push_keep,h _ R.fresh⟩
theorem AMeth.setAdd {a : Addr} {l : List Pt} (hH : H a = some (.pset l)) : AMeth T Fs H "add" (.ref a) (.bi "set.add") := λ A s v pl Q E ok R pv h => by
 rw [pv.ref_inv] at h ⊢
 exact method_set_add (R.pset hH) (h _ PR.bi)
theorem AMeth.setPop {a : Addr} {l : List Pt} (hH : H a = some (.pset l)) : AMeth T Fs H "pop" (.ref a) (.bi "set.pop") := λ A s v pl Q E ok R pv h => by
 rw [pv.ref_inv] at h ⊢
 exact method_set_pop (R.pset hH) (h _ PR.bi)
theorem AMeth.setUpdate {a : Addr} {l : List Pt} (hH : H a = some (.pset l)) : AMeth T Fs H "update" (.ref a) (.bi "set.update") := λ A s v pl Q E ok R pv h => by
 rw [pv.ref_inv] at h ⊢
 exact method_set_update (R.pset hH) (h _ PR.bi)
theorem ACall.setAdd {a : Addr} {l : List Pt} {p : Pt} {Q : PV -> AHeap -> Prop} (hH : H a = some (.pset l)) (hb : InBox p) (h : ∀ l',l'.Nodup -> (∀ q,q ∈ l' ↔ q = p \/ q ∈ l) -> Q .none (upd H a (.pset l'))) : ACall T Fs H (.bi "set.add") [.ref a,pt p] Q E := λ A s v ws ok R pv prs => by
 rw [pv.bi_inv]
 obtain ⟨w,r1,rfl,pw,prs⟩ := prs.cons_inv
 obtain ⟨u,r2,rfl,pu,prs⟩ := prs.cons_inv
 rw [prs.nil_inv,pw.ref_inv]
 have S := R.pset hH
 have := ok.cl
 refine call_set_add' (by omega) S (isPt_of_PR pu) hb (λ hm tk => ?_) λ hm h' l' tk sb hp S' => ?_
 ·have h1 := h l S.nodup (λ q => ⟨.inr,λ x => by rcases x with rfl | x; exact hm; exact x⟩)
  rw [upd_self hH] at h1
  exact post_same R PR.none h1
 ·exact ⟨.none,_,PR.none,R.turn (o' := .pset l') (s' := { s with heap := h',toks := tk }) hH sb.extBut S',R.turnKeep (s' := { s with heap := h',toks := tk }) hH sb.extBut,h l' S'.nodup λ q => by rw [hp.mem_iff,List.mem_cons]⟩
theorem ACall.setPop {a : Addr} {l : List Pt} {Q : PV -> AHeap -> Prop} (hH : H a = some (.pset l)) (hne : l ≠ []) (h : ∀ p l',p ∈ l -> l'.Nodup -> (∀ q,q ∈ l' ↔ q ∈ l /\ q ≠ p) -> l'.length + 1 = l.length -> Q (pt p) (upd H a (.pset l'))) : ACall T Fs H (.bi "set.pop") [.ref a] Q E := λ A s v ws ok R pv prs => by
 rw [pv.bi_inv]
 obtain ⟨w,r1,rfl,pw,prs⟩ := prs.cons_inv
 rw [prs.nil_inv,pw.ref_inv]
 have S := R.pset hH
 refine call_set_pop' S hne λ i p v h' d hi sb S' hp => ?_
 have hlt := (List.getElem?_eq_some_iff.mp hi).1
 refine ⟨pt p,_,PR_of_isPt hp,R.turn (o' := .pset (l.eraseIdx i)) (s' := { s with heap := h',drawn := d }) hH sb.extBut S',R.turnKeep (s' := { s with heap := h',drawn := d }) hH sb.extBut,h p _ (List.mem_of_getElem? hi) S'.nodup (λ q => ?_) ?_⟩
 ·have hpm := cons_eraseIdx_perm l i hlt
  have e : l[i] = p := (List.getElem?_eq_some_iff.mp hi).2
  rw [e] at hpm
  have nd : (p :: l.eraseIdx i).Nodup := hpm.nodup_iff.mpr S.nodup
  have hn := (List.nodup_cons.mp nd).1
  rw [<- hpm.mem_iff]
  simp only [List.singleton_append,List.mem_cons]
  constructor
  ·intro hq; exact ⟨.inr hq,λ e => hn (e ▸ hq)⟩
  ·rintro ⟨x | x,y⟩
   ·exact absurd x y
   ·exact x
 ·rw [List.length_eraseIdx,if_pos hlt]; omega
theorem ACall.setUpdate {a b : Addr} {l m : List Pt} {Q : PV -> AHeap -> Prop} (hH : H a = some (.pset l)) (hb : H b = some (.pset m)) (hne : a ≠ b) (h : ∀ l',l'.Nodup -> (∀ q,q ∈ l' ↔ q ∈ l \/ q ∈ m) -> Q .none (upd H a (.pset l'))) : ACall T Fs H (.bi "set.update") [.ref a,.ref b] Q E := λ A s v ws ok R pv prs => by
 rw [pv.bi_inv]
 obtain ⟨w,r1,rfl,pw,prs⟩ := prs.cons_inv
 obtain ⟨u,r2,rfl,pu,prs⟩ := prs.cons_inv
 rw [prs.nil_inv,pw.ref_inv,pu.ref_inv]
 have := ok.cl
 exact call_set_update' (by omega) (R.pset hH) (R.pset hb) hne λ h' l' sb hm S' =>
  ⟨.none,_,PR.none,R.turn (o' := .pset l') (s' := { s with heap := h' }) hH sb.extBut S',R.turnKeep (s' := { s with heap := h' }) hH sb.extBut,h l' S'.nodup hm⟩
theorem ACmp.inSet {a : Addr} {l : List Pt} {p : Pt} {Q : Bool -> AHeap -> Prop} (hH : H a = some (.pset l)) (hb : InBox p) (h : Q (decide (p ∈ l)) H) : ACmp T Fs H .In (pt p) (.ref a) Q E := λ A s v w ok R pv pw => by
 rw [pw.ref_inv]
 have := ok.cl
 exact in_set (by omega) (R.pset hH) (isPt_of_PR pv) hb λ tk => ⟨_,rfl,postB_same R h⟩
theorem PSet.size_es {w : World} {h : Heap} {a : Addr} {l : List Pt} (S : PSet w h a l) : ∃ o es ep t,h.get? a = some o /\ o.ExactSet /\ o.data = .set es ep t /\ t.fits es.size = true /\ es.size = l.length := by
 obtain ⟨o,es,ep,t,ho,hx,hd,I,hb,El⟩ := S.obj
 exact ⟨o,es,ep,t,ho,hx,hd,inv_fits I,by rw [<- Array.length_toList]; exact El.length⟩
theorem ACall.lenSet {a : Addr} {l : List Pt} {Q : PV -> AHeap -> Prop} (hH : H a = some (.pset l)) (h : Q (.int l.length) H) : ACall T Fs H (.bi "len") [.ref a] Q E := λ A s v ws ok R pv prs => by
 rw [pv.bi_inv]
 obtain ⟨w,r1,rfl,pw,prs⟩ := prs.cons_inv
 rw [prs.nil_inv,pw.ref_inv]
 have hl := (R.pset hH).length_le
 obtain ⟨o,es,ep,t,ho,hx,hd,hf,hs⟩ := (R.pset hH).size_es
 refine call_len_set ho hx hd hf (by rw [hs]; omega) ?_
 rw [hs]; exact post_same R PR.int h
theorem noBool_set : typeLookup (.type "set") "__bool__" = pure none := by rw [typeLookup_type,builtinLookup_eq_fast]; kernel_rfl
theorem ATr.set {a : Addr} {l : List Pt} {Q : Bool -> AHeap -> Prop} (hH : H a = some (.pset l)) (h : Q (!l.isEmpty) H) : ATr T Fs H (.ref a) Q E := λ A s v ok R pv => by
 rw [pv.ref_inv]
 have hl := (R.pset hH).length_le
 obtain ⟨o,es,ep,t,ho,hx,hd,hf,hs⟩ := (R.pset hH).size_es
 have hT : s.TypeIs (.ref a) "set" := ⟨o,ho,hx.1⟩
 have key : wpAny T.C.M A (runValue (.builtin "len" ⟨[.ref a],[]⟩)) (λ r s' => r = .int l.length (s.toks + 1) /\ PostB T Fs s Q (!l.isEmpty) s') E s := by
  refine wpAny_runValue (codeAny_builtin entry_len ?_)
  rw [Around.under_plainId plain_len _]
  exact wpAny_mono (wpAny_len_body_set (Q := λ r s' => r = .int l.length (s.toks + 1) /\ PostB T Fs s Q (!l.isEmpty) s') ho hx hd hf (by rw [hs]; omega) ⟨by rw [hs],postB_same R h⟩)
   (λ fin s' h' => by obtain ⟨r,rfl,hq⟩ := h'; exact hq) λ _ _ e => e
 have hne : ((l.length : Int) != 0) = !l.isEmpty := by cases l <;> simp; omega
 unfold truthy
 refine wpAny_bind (wpAny_callSpecial?_none (name := Str.ofString "__bool__") hT noBool_set ?_)
 refine wpAny_bind (wpAny_specialOf (name := Str.ofString "__len__") hT F.slot_set_len.lookup ?_)
 exact wpAny_bind (wpAny_mono key (λ r s' h' => by obtain ⟨rfl,hq⟩ := h'; exact wpAny_pure (hne ▸ hq)) λ _ _ e => e)
theorem foldl_rep (x : Value) (n : Nat) : ∀ (acc : Array Value),(List.foldl (λ x1 x2 => x1 ++ x2) acc (List.replicate n #[x])).toList = acc.toList ++ List.replicate n x := by
 induction n with
 | zero => exact λ acc => (List.append_nil _).symm
 | succ n ih => intro acc; rw [List.replicate_succ,List.foldl_cons,ih,List.replicate_succ,Array.toList_append]; exact List.append_assoc ..
theorem ABin.mulList {a : Addr} {p : PV} {n : Int} {Q : PV -> AHeap -> Prop} (hH : H a = some (.list [p])) (h0 : 0 <= n) (hn : n <= 100000) (h : ∀ c,H c = Option.none -> Q (.ref c) (upd H c (.list (List.replicate n.toNat p)))) : ABin T Fs H (binaryOp .Mult) (.ref a) (.int n) Q E := λ A s v w ok R pv pw => by
 rw [pv.ref_inv]
 obtain ⟨u,rfl⟩ := pw.int_inv
 obtain ⟨vs,k,il,r⟩ := (R.objs a _ hH).1
 obtain ⟨x,rr,e,px,r2⟩ := r.cons_inv
 rw [r2.nil_inv] at e
 have hvs : vs = #[x] := by apply Array.toList_inj.mp; rw [e]
 subst hvs
 refine wpAny_binaryOp_repeat_ref (T := "list") (U := "int") (by decide) ⟨_,il,rfl⟩ (λ s' => typeIs_int s' n u) noFill_list_mul F.fills_int_mul F.slot_int_rmul repeat_list F.slot_int_index.lookup
  (call_meets F.slot_int_rmul (typeIs_int s n u) F.entry_int_rmul (F.args_int_rmul_2 _ _) (int___rmul___int_list n u a #[x] k)
   ⟨il,rfl,⟨_,il,rfl⟩,call_meets F.slot_list_mul ⟨_,il,rfl⟩ F.entry_list_mul (F.args_list_mul_2 _ _)
    (AutoListH.list___mul___list_int_3 a #[x] k n u (by simp [Builtin.List.listFitsIndex]; omega) (by simp; omega) (by simp [Builtin.List.listTooLong,sizeLine]; omega)) ⟨il,?_⟩⟩)
 refine ⟨_,_,PR.ref,R.new (o := .list (List.replicate n.toNat p)) push_keep (Nat.le_refl _) ⟨_,_,IsL.new _ _,?_⟩,TupKeep.of_keep push_keep,h _ R.fresh⟩
 rw [if_neg (by simp),foldl_rep]
 exact PRs.replicate (px.keep (TupKeep.of_keep push_keep)) _
theorem ACall.range1 {n : Int} {Q : PV -> AHeap -> Prop} (h : ∀ c,H c = Option.none -> Q (.ref c) (upd H c (.range 0 n))) : ACall T Fs H (.ty "range") [.int n] Q E := λ A s v ws ok R pv prs => by
 rw [pv.ty_inv]
 obtain ⟨w,r1,rfl,pw,prs⟩ := prs.cons_inv
 rw [prs.nil_inv]
 obtain ⟨u,rfl⟩ := pw.int_inv
 exact call_range_1 ⟨_,_,PR.ref,R.new (o := .range 0 n) (s' := { s with heap := _,toks := _ }) push_keep (Nat.le_refl _) ⟨_,_,_,IsRange.new _ _ _ _ _ _ _⟩,TupKeep.of_keep push_keep,h _ R.fresh⟩
end
end
section
noncomputable def pslice (l : List PV) (lo hi : Option Int) : List PV := (sliceRange (sliceBounds lo hi none l.length).1 (sliceBounds lo hi none l.length).2.1 (sliceBounds lo hi none l.length).2.2).filterMap (λ k => l[k]?)
theorem PRs.pick {h : Heap} {l : List PV} {vs : List Value} (r : PRs h l vs) (idx : List Nat) : PRs h (idx.filterMap (λ k => l[k]?)) (idx.filterMap (λ k => vs[k]?)) := by
 induction idx with
 | nil => exact PRs.nil
 | cons i idx ih =>
  cases e : l[i]? with
  | none =>
   have : vs[i]? = none := by rw [List.getElem?_eq_none_iff] at e ⊢; rw [<- r.length]; exact e
   rw [List.filterMap_cons_none e,List.filterMap_cons_none this]; exact ih
  | some p =>
   obtain ⟨v,ev,pr⟩ := r.get i e
   rw [List.filterMap_cons_some e,List.filterMap_cons_some ev]; exact PRs.cons pr ih
theorem pick_runL (l : List PV) (a k : Nat) : ((List.range k).map (a + ·)).filterMap (λ i => l[i]?) = (l.drop a).take k := by
 induction k with
 | zero => rfl
 | succ k ih =>
  rw [List.range_succ,List.map_append,List.filterMap_append,ih,List.take_add_one]
  congr 1
  simp only [List.map_cons,List.map_nil,List.getElem?_drop]
  cases h : l[a + k]? <;> simp [h]
theorem pslice_nat (l : List PV) (a b : Nat) (hb : b <= l.length) (ha : a <= l.length) : (sliceRange (a : Int) (b : Int) 1).filterMap (λ k => l[k]?) = (l.drop a).take (b - a) := by
 rw [sliceRange_one,pick_runL]
theorem clip_nat (i : Int) (n : Nat) : ∃ a : Nat,max 0 (min (if i < 0 then i + n else i) (n : Int)) = (a : Int) /\ a <= n /\ (0 <= i -> a = min i.toNat n) := by
 by_cases h : i < 0
 ·have h1 : i + n <= n := by omega
  rw [if_pos h,Int.min_eq_left h1]
  refine ⟨(i + n).toNat,?_,Int.toNat_le.mpr h1,λ h0 => absurd h (Int.not_lt.mpr h0)⟩
  rw [Int.ofNat_toNat,Int.max_comm]
 ·rw [if_neg h]
  obtain ⟨k,rfl⟩ := Int.eq_ofNat_of_zero_le (Int.not_lt.mp h)
  rw [Int.toNat_natCast]
  by_cases hk : k <= n
  ·rw [Int.min_eq_left (Int.ofNat_le.mpr hk),Int.max_eq_right (Int.natCast_nonneg _),Nat.min_eq_left hk]
   exact ⟨k,rfl,hk,λ _ => rfl⟩
  ·have hk := Nat.le_of_lt (Nat.not_le.mp hk)
   rw [Int.min_eq_right (Int.ofNat_le.mpr hk),Int.max_eq_right (Int.natCast_nonneg _),Nat.min_eq_right hk]
   exact ⟨n,rfl,Nat.le_refl _,λ _ => rfl⟩
theorem sliceBounds_get (lo hi : Option Int) (n : Nat) : ∃ a b : Nat,sliceBounds lo hi none n = ((a : Int),(b : Int),1) /\ a <= n /\ b <= n /\
  (lo = none -> a = 0) /\ (∀ i,lo = some i -> 0 <= i -> a = min i.toNat n) /\ (hi = none -> b = n) /\ (∀ i,hi = some i -> 0 <= i -> b = min i.toNat n) := by
 have hA : ∃ a : Nat,(sliceBounds lo hi none n).1 = (a : Int) /\ a <= n /\ (lo = none -> a = 0) /\ (∀ i,lo = some i -> 0 <= i -> a = min i.toNat n) := by
  cases lo with
  | none => exact ⟨0,rfl,Nat.zero_le _,λ _ => rfl,λ i e => by cases e⟩
  | some i => obtain ⟨a,h1,h2,h3⟩ := clip_nat i n; exact ⟨a,by simpa [sliceBounds] using h1,h2,(λ e => by cases e),λ j e => by cases e; exact h3⟩
 have hB : ∃ b : Nat,(sliceBounds lo hi none n).2.1 = (b : Int) /\ b <= n /\ (hi = none -> b = n) /\ (∀ i,hi = some i -> 0 <= i -> b = min i.toNat n) := by
  cases hi with
  | none => exact ⟨n,by simp [sliceBounds],Nat.le_refl _,λ _ => rfl,λ i e => by cases e⟩
  | some i => obtain ⟨a,h1,h2,h3⟩ := clip_nat i n; exact ⟨a,by simpa [sliceBounds] using h1,h2,(λ e => by cases e),λ j e => by cases e; exact h3⟩
 obtain ⟨a,a1,a2,a3,a4⟩ := hA
 obtain ⟨b,b1,b2,b3,b4⟩ := hB
 refine ⟨a,b,?_,a2,b2,a3,a4,b3,b4⟩
 rw [<- a1,<- b1]; rfl
theorem pslice_both (l : List PV) {i j : Int} (hi : 0 <= i) (hj : 0 <= j) : pslice l (some i) (some j) = (l.take j.toNat).drop i.toNat := by
 obtain ⟨a,b,e,ha,hb,_,a2,_,b2⟩ := sliceBounds_get (some i) (some j) l.length
 unfold pslice
 rw [e,pslice_nat l a b hb ha,a2 i rfl hi,b2 j rfl hj,List.drop_take]
 by_cases h : i.toNat <= l.length
 ·rw [Nat.min_eq_left h,List.take_eq_take_iff,List.length_drop,Nat.sub_min_sub_right,Nat.sub_min_sub_right,Nat.min_assoc,Nat.min_self]
 ·have h := Nat.le_of_lt (Nat.not_le.mp h)
  rw [Nat.min_eq_right h,List.drop_length,List.drop_of_length_le h,List.take_nil,List.take_nil]
theorem pslice_hi (l : List PV) {j : Int} (hj : 0 <= j) : pslice l none (some j) = l.take j.toNat := by
 obtain ⟨a,b,e,ha,hb,a1,_,_,b2⟩ := sliceBounds_get none (some j) l.length
 unfold pslice
 rw [e,pslice_nat l a b hb ha,a1 rfl,b2 j rfl hj,List.drop_zero,Nat.sub_zero]
 rw [List.take_eq_take_iff,Nat.min_assoc,Nat.min_self]
theorem pslice_all (l : List PV) : pslice l none none = l := by
 obtain ⟨a,b,e,ha,hb,a1,_,b1,_⟩ := sliceBounds_get none none l.length
 unfold pslice
 rw [e,pslice_nat l a b hb ha,a1 rfl,b1 rfl]; simp
section
variable {T : Tr} {f : FR} {env : Env} {ls : Ls} {Fs : List AF} {H : AHeap} {E : Value -> Shared -> Prop} {s : Shared} {A : Around}
noncomputable def APart (T : Tr) (f : FR) (Fs : List AF) (H : AHeap) (e : Option Expr) (Q : Option Int -> AHeap -> Prop) (E : Value -> Shared -> Prop) : Prop := match e with
 | none => Q none H
 | some e => AE T f Fs H e (λ p H₁ => ∃ i,p = .int i /\ Q (some i) H₁) E
theorem wp_part {e : Option Expr} {Q : Option Int -> AHeap -> Prop} (h : APart T f Fs H e Q E) (ok : AOk T (.fr f :: Fs) A) (R : Rep T.C (.fr f :: Fs) H s) :
  wpAny T.C.M A (evalPart e f.env) (λ v s' => ∃ i H',IsPart v i /\ Rep T.C (.fr f :: Fs) H' s' /\ TupKeep s.heap s'.heap /\ Q i H') E s := by
 cases e with
 | none => exact wpAny_pure ⟨none,H,.none,R,TupKeep.refl _,h⟩
 | some e => exact wpAny_mono (h A s ok R) (λ v s' hh => hh.elim λ p H' pr R' k hq => by obtain ⟨i,rfl,q⟩ := hq; obtain ⟨t,rfl⟩ := pr.int_inv; exact ⟨some i,H',.int i t,R',k,q⟩) λ _ _ x => x
theorem ex2 {α β : Type} {P : α -> β -> Prop} {Q : Prop} (h : ∃ a b,P a b) (k : ∀ a b,P a b -> Q) : Q := by obtain ⟨a,b,h⟩ := h; exact k a b h
theorem AE.slice {value : Expr} {lo hi : Option Expr} {p pos : Pos} {Q : PV -> AHeap -> Prop}
  (h : AE T f Fs H value (λ q H₁ => APart T f Fs H₁ lo (λ i H₂ => APart T f Fs H₂ hi (λ j H₃ => ∃ a l,q = .ref a /\ LAt T.C H₃ a l /\ l.length <= 100000 /\ ∀ c,H₃ c = Option.none -> Q (.ref c) (upd H₃ c (.list (pslice l i j)))) E) E) E) :
  AE T f Fs H (.Subscript value (.Slice lo hi Option.none p) pos) Q E := λ A s ok R => by
 refine Subscript_ (wpAny_mono (h A s ok R) (λ v s₁ hh => hh.elim λ q H₁ qr R₁ k₁ h₁ => ?_) λ _ _ x => x)
 refine wpAny_Slice (wpAny_mono (wp_part h₁ ok R₁) (λ vl s₂ hh => ex2 hh λ i H₂ hp => ?_) λ _ _ x => x)
 have il := hp.1
 refine wpAny_mono (wp_part hp.2.2.2 ok hp.2.1) (λ vu s₃ hh => ex2 hh λ j H₃ hq => ?_) λ _ _ x => x
 have k₂ := hp.2.2.1
 have iu := hq.1
 have R₃ := hq.2.1
 have k₃ := hq.2.2.1
 obtain ⟨a,l,e,hl,hz,h₃⟩ := hq.2.2.2
 subst e
 rw [qr.ref_inv]
 refine wpAny_pure ?_
 obtain ⟨vs,n,isl,r⟩ := R₃.lat hl
 have hs := prs_size r
 have R₄ : Rep T.C (.fr f :: Fs) H₃ { s₃ with heap := s₃.heap.push { cls := .type "slice",data := .fields #[vl,vu,.none] } } := R₃.ext push_keep
 have il' := isl.push { cls := .type "slice",data := .fields #[vl,vu,.none] }
 have k₄ : TupKeep s₃.heap (s₃.heap.push { cls := .type "slice",data := .fields #[vl,vu,.none] }) := TupKeep.of_keep push_keep
 refine tail_any (T := "list") il'.isList.typeIs slot_list_getitem.lookup (wpAny_getItem_list_slice (st := Option.none) il'.isList (Heap.IsSliceOf.new _ _ _ _) il iu .none (by simp) ?_ (by rw [hs]; exact Nat.le_trans hz (by decide))) rfl
 refine ⟨_,_,PR.ref,R₄.new (o := .list (pslice l i j)) push_keep (Nat.le_refl _) ⟨_,_,IsL.new _ _,?_⟩,k₁.trans (k₂.trans (k₃.trans (k₄.trans (TupKeep.of_keep push_keep)))),h₃ _ R₄.fresh⟩
 have := (PRs.keep (k₄.trans (TupKeep.of_keep (push_keep (o := { cls := .type "list",data := .seq (slicePick vs i j Option.none) })))) _ r).pick (sliceRange (sliceBounds i j Option.none vs.size).1 (sliceBounds i j Option.none vs.size).2.1 (sliceBounds i j Option.none vs.size).2.2)
 have e1 : (slicePick vs i j Option.none).toList = (sliceRange (sliceBounds i j Option.none vs.size).1 (sliceBounds i j Option.none vs.size).2.1 (sliceBounds i j Option.none vs.size).2.2).filterMap (λ k => vs.toList[k]?) := by
  unfold slicePick; simp
 rw [e1]
 unfold pslice
 rw [hs] at this ⊢
 exact this
theorem ACall.listCopy {a : Addr} {l : List PV} {Q : PV -> AHeap -> Prop} (hl : LAt T.C H a l) (hz : l.length <= 100000) (h : ∀ c,H c = Option.none -> Q (.ref c) (upd H c (.list l))) : ACall T Fs H (.ty "list") [.ref a] Q E := λ A s v ws ok R pv prs => by
 rw [pv.ty_inv]
 obtain ⟨w,r1,rfl,pw,prs⟩ := prs.cons_inv
 rw [prs.nil_inv,pw.ref_inv]
 obtain ⟨vs,n,il,r⟩ := R.lat hl
 have hs := prs_size r
 exact call_list_seq a (.inl rfl) il rfl rfl (λ h' c' hk hD => ⟨_,_,PR.ref,R.new (o := .list l) (s' := { s with heap := h' }) hk (Nat.le_refl _) ⟨_,_,hD,PRs.keep (TupKeep.of_keep hk) _ r⟩,TupKeep.of_keep hk,h _ R.fresh⟩) (by rw [hs]; exact Nat.le_trans hz (by decide))
theorem AE.dictEmpty {pos : Pos} {Q : PV -> AHeap -> Prop} (h : ∀ c,H c = Option.none -> Q (.ref c) (upd H c (.pdict []))) : AE T f Fs H (.Dict [] [] pos) Q E := λ A s ok R =>
 wpAny_Dict_empty ⟨_,_,PR.ref,R.new (o := .pdict []) push_keep (Nat.le_refl _) ⟨⟨[],⟨_,#[],0,Heap.get?_push_size _ rfl,⟨rfl,rfl,rfl⟩,rfl,rfl,(λ x hx => by cases hx),List.nodup_nil⟩,rfl⟩,λ _ e => nomatch e⟩,TupKeep.of_keep push_keep,h _ R.fresh⟩
end
end
section
theorem lookup_pt {l : List (Pt × PV)} {e : Pt × PV} (hn : (l.map (·.1)).Nodup) (hm : e ∈ l) : l.lookup e.1 = some e.2 := by
 induction l with
 | nil => cases hm
 | cons a r ih =>
  rw [List.map_cons] at hn
  have hc := List.nodup_cons.mp hn
  rw [List.lookup_cons]
  by_cases q : e.1 = a.1
  ·rw [beq_iff_eq.mpr q]
   cases hm with
   | head => rfl
   | tail _ hm => exact absurd (q ▸ List.mem_map.mpr ⟨e,hm,rfl⟩) hc.1
  ·rw [beq_eq_false_iff_ne.mpr q]
   cases hm with
   | head => exact absurd rfl q
   | tail _ hm => exact ih hc.2 hm
section
variable {T : Tr} {f : FR} {env : Env} {ls : Ls} {Fs : List AF} {H : AHeap} {E : Value -> Shared -> Prop} {s : Shared} {A : Around}
theorem Rep.exactDict {C : Cx} (R : Rep C Fs H s) {d : Addr} {l : List (Pt × PV)} {po : Option Obj} (e : H d = some (.pdict l po)) : (∀ b,Value.ref d = .ref b -> ∃ ob,s.heap.get? b = some ob /\ ob.dict = none) /\ s.TypeIs (.ref d) "dict" := by
 obtain ⟨xs,⟨o,es,ep,ho,hx,_⟩,_⟩ := (R.objs d _ e).1.1
 exact ⟨λ b e => by injection e with e; subst e; exact ⟨o,ho,hx.2.1⟩,⟨o,ho,hx.1⟩⟩
theorem AMeth.dictPop {d : Addr} {l : List (Pt × PV)} (hH : H d = some (.pdict l)) : AMeth T Fs H "pop" (.ref d) (.bi "dict.pop") := λ A s v pl Q E ok R pv h => by
 rw [pv.ref_inv] at h ⊢
 obtain ⟨h1,h2⟩ := R.exactDict hH
 exact getMethod_builtin h2 F.plainAttrs_dict F.slot_dict_pop F.type_dict_pop h1 (h _ PR.bi)
theorem AMeth.dictGet {d : Addr} {l : List (Pt × PV)} {po : Option Obj} (hH : H d = some (.pdict l po)) : AMeth T Fs H "get" (.ref d) (.bi "dict.get") := λ A s v pl Q E ok R pv h => by
 rw [pv.ref_inv] at h ⊢
 obtain ⟨h1,h2⟩ := R.exactDict hH
 exact getMethod_builtin h2 F.plainAttrs_dict F.slot_dict_get F.type_dict_get h1 (h _ PR.bi)
theorem erase_map {α β : Type} (g : α -> β) (l : List α) : ∀ (j : Nat),(l.map g).eraseIdx j = (l.eraseIdx j).map g := by
 induction l with
 | nil => exact λ _ => rfl
 | cons x l ih =>
  intro j
  cases j with
  | zero => rfl
  | succ j => exact congrArg (g x :: ·) (ih j)
theorem keys_erase {xs : List (List Int × Addr × Value)} {j : Nat} (hn : (xs.map (·.1)).Nodup) : ((xs.eraseIdx j).map (·.1)).Nodup := hn.sublist ((List.eraseIdx_sublist xs j).map _)
theorem ACall.dictPop {d : Addr} {l : List (Pt × PV)} {p : Pt} {q : PV} {Q : PV -> AHeap -> Prop} (hH : H d = some (.pdict l)) (hl : l.lookup p = some q) (hz : l.length <= 10000) (h : Q q (upd H d (.pdict (ddel l p)))) : ACall T Fs H (.bi "dict.pop") [.ref d,pt p] Q E := λ A s v ws ok R pv prs => by
 rw [pv.bi_inv]
 obtain ⟨w,r1,rfl,pw,prs⟩ := prs.cons_inv
 obtain ⟨u,r2,rfl,pu,prs⟩ := prs.cons_inv
 rw [prs.nil_inv,pw.ref_inv]
 obtain ⟨a,rfl,hk⟩ := pt_key (C := T.C) pu
 obtain ⟨h1,hT⟩ := R.exactDict hH
 obtain ⟨xs,⟨o,es,ep,ho,hx,hd,he,his,hn⟩,r⟩ := (R.objs d _ hH).1.1
 have hcl := ok.cl
 have hsz : es.size = l.length := by rw [<- r.length,<- Array.length_toList,he,List.length_map]
 refine wpAny_call_entry F.slot_dict_pop hT F.entry_dict_pop ?_ (F.args_dict_pop_2 _ _)
 unfold Builtin.«dict.pop»
 refine wpAny_bind ?_
 unfold Builtin.Dict.keyAndDefault
 refine wpAny_bind (wpAny_notOrdered_dict hT ?_)
 show wpAny _ _ (pure (d,Value.ref a,none)) _ _ s
 refine wpAny_pure ?_
 have hkp : (keyPart (.ref a)).isSome = false := rfl
 dsimp only
 rw [hkp,if_neg (by decide)]
 refine wpAny_bind (wpAny_dictEntries ho hd (wpAny_bind (wpAny_pure ?_)))
 have hne : es.isEmpty = false := by
  cases e : es.isEmpty with
  | false => rfl
  | true =>
   have : es.size = 0 := by simpa [Array.isEmpty] using e
   rw [hsz] at this
   have : l = [] := List.length_eq_zero_iff.mp this
   subst this; cases hl
 rw [hne]
 rw [if_neg (by decide)]
 refine wpAny_bind ?_
 unfold Builtin.Dict.takeOut
 refine wpAny_holding ?_
 refine wpAny_bind ((tupleKind (intKind T.C.prog T.C.w)).pyHash (A := A.in1) (k := ptK p) (show A.units + 1 < cLine by omega) hk ?_)
 refine wpAny_bind (wpAny_dictFind_heap (knd := tupleKind (intKind T.C.prog T.C.w)) (k := ptK p) (s := { s with toks := _ }) (show A.units + 1 < cLine by omega) hk ho hd he his hn (λ hno => ?_) λ j y hj => ?_)
 ·exfalso
  obtain ⟨a',v',e',_⟩ := (atKey_of r p).2 q hl
  unfold atKey at e'
  obtain ⟨x,hx1,hx2⟩ := Option.map_eq_some_iff.mp e'
  have hm := List.mem_of_find?_eq_some hx1
  have hk1 := List.find?_some hx1
  simp at hk1
  obtain ⟨j,hj⟩ := List.mem_iff_getElem?.mp hm
  exact hno j x.2 (by rw [hj,<- hk1])
 ·obtain ⟨e,he1,he2,he3,he4⟩ := r.get hj
  have hep : e.1 = p := ptK_inj he2.symm
  have nd := r.nodup hn
  have hq : e.2 = q := by
   have := lookup_pt nd (List.mem_of_getElem? he1)
   rw [hep,hl] at this; exact (Option.some.inj this).symm
  have hes : es[j]? = some ⟨tupleKeyHash (intKind T.C.prog T.C.w) (ptK p),.ref y.1,y.2⟩ := by
   rw [<- Array.getElem?_toList,he,List.getElem?_map,hj]; rfl
  dsimp only
  refine wpAny_bind (wpAny_dictEntries ho hd ?_)
  rw [hes]
  dsimp only
  refine wpAny_bind (wpAny_updateDictKeys ho hd ?_ (by rw [hsz]; exact Nat.le_trans hz (by decide)) ?_)
  ·refine wpAny_pure ?_
   dsimp only [Option.isNone_some]
   rw [if_neg (by decide)]
   refine wpAny_bind (wpAny_letGo (wpAny_pure ⟨_,rfl,?_⟩))
   have sb : Heap.SameBut d s.heap (s.heap.update d (Obj.mapDictKeys λ x => x.eraseIdxIfInBounds j)) := Heap.SameBut.update ..
   have tk : TupKeep s.heap (s.heap.update d (Obj.mapDictKeys λ x => x.eraseIdxIfInBounds j)) := R.turnKeep (s' := { s with heap := s.heap.update d (Obj.mapDictKeys λ x => x.eraseIdxIfInBounds j) }) hH sb.extBut
   have hlt : j < es.size := (Array.getElem?_eq_some_iff.mp hes).1
   have ho' := Heap.get?_update_self (Obj.mapDictKeys λ x => x.eraseIdxIfInBounds j) ho (by
    obtain ⟨c,dd,dt,sl⟩ := o; dsimp only at hd; subst hd; rfl)
   refine ⟨q,_,hq ▸ PR.keep tk _ he4,R.turn (o' := .pdict (ddel l p)) hH sb.extBut ⟨⟨xs.eraseIdx j,⟨_,es.eraseIdxIfInBounds j,ep + 1,ho',hx.mapDictKeys _,Obj.data_mapDictKeys hd _,?_,λ x hx => IsTupleKey.keepT tk (his x (List.mem_of_mem_eraseIdx hx)),keys_erase hn⟩,?_⟩,λ _ e => nomatch e⟩,tk,h⟩
   ·rw [Array.eraseIdxIfInBounds,dif_pos hlt,Array.toList_eraseIdx,he,erase_map]
   ·rw [<- hep,<- eraseIdx_ddel nd he1]
    exact (r.keep tk).erase j
  ·rw [Array.eraseIdxIfInBounds]; split
   ·rw [Array.size_eraseIdx]; omega
   ·omega
theorem ACall.dictGet {d : Addr} {l : List (Pt × PV)} {po : Option Obj} {p : Pt} {Q : PV -> AHeap -> Prop} (hH : H d = some (.pdict l po)) (h : Q ((l.lookup p).getD .none) H) : ACall T Fs H (.bi "dict.get") [.ref d,pt p] Q E := λ A s v ws ok R pv prs => by
 rw [pv.bi_inv]
 obtain ⟨w,r1,rfl,pw,prs⟩ := prs.cons_inv
 obtain ⟨u,r2,rfl,pu,prs⟩ := prs.cons_inv
 rw [prs.nil_inv,pw.ref_inv]
 obtain ⟨a,rfl,hk⟩ := pt_key (C := T.C) pu
 obtain ⟨h1,hT⟩ := R.exactDict hH
 obtain ⟨xs,D,r⟩ := (R.objs d _ hH).1.1
 have hcl := ok.cl
 refine call_meetsIn F.slot_dict_get hT F.entry_dict_get (F.args_dict_get_2 _ _) (meetsH_dict_get (tupleKind (intKind T.C.prog T.C.w)) d a (notSys R hH)) ⟨show A.units + 1 < cLine by omega,ptK p,xs,hk,D,?_⟩
 obtain ⟨i1,i2⟩ := atKey_of r p
 cases e : l.lookup p with
 | none => rw [i1 e]; rw [e] at h; exact post_same R PR.none h
 | some q => obtain ⟨a',v',e',pr⟩ := i2 q e; rw [e']; rw [e] at h; exact post_same R pr h
theorem dict_len {C : Cx} (R : Rep C Fs H s) {d : Addr} {l : List (Pt × PV)} {po : Option Obj} (e : H d = some (.pdict l po)) : ∃ o es ep,s.heap.get? d = some o /\ o.ExactDict /\ o.data = .dict es ep /\ es.size = l.length := by
 obtain ⟨xs,⟨o,es,ep,ho,hx,hd,he,his,hn⟩,r⟩ := (R.objs d _ e).1.1
 exact ⟨o,es,ep,ho,hx,hd,by rw [<- r.length,<- Array.length_toList,he,List.length_map]⟩
theorem ACall.lenDict {d : Addr} {l : List (Pt × PV)} {po : Option Obj} {Q : PV -> AHeap -> Prop} (hH : H d = some (.pdict l po)) (hz : l.length <= 100000) (h : Q (.int l.length) H) : ACall T Fs H (.bi "len") [.ref d] Q E := λ A s v ws ok R pv prs => by
 rw [pv.bi_inv]
 obtain ⟨w,r1,rfl,pw,prs⟩ := prs.cons_inv
 rw [prs.nil_inv,pw.ref_inv]
 obtain ⟨o,es,ep,ho,hx,hd,hs⟩ := dict_len R hH
 have hT : s.TypeIs (.ref d) "dict" := ⟨o,ho,hx.1⟩
 refine Calls.call_function_entry kind_len plain_len entry_len (args_len1 _) ?_
 unfold Builtin.«len»
 refine wpAny_bind (m := oneArg "len" _) (wpAny_pure ?_)
 refine wpAny_bind (m := callSpecial? (.ref d) (Str.ofString "__len__")) (wpAny_callSpecial?_slot (name := Str.ofString "__len__") hT PySem.F.slot_dict_len
  (wpAny_call_entry PySem.F.slot_dict_len hT PySem.F.entry_dict_len ?_ (PySem.F.args_dict_len_1 _)))
 show wpAny _ _ (dictSize d >>= _) _ _ s
 unfold dictSize
 refine wpAny_bind (wpAny_bind (wpAny_dictEntries ho hd (wpAny_pure ?_)))
 show wpAny _ _ (Builtin.Dict.pendingCount d >>= _) _ _ s
 refine wpAny_bind (wpAny_pendingCount_other (notSys R hH) ?_)
 rw [show ((es.size : Int) + ((0 : Nat) : Int)) = (l.length : Int) from by rw [hs]; exact Int.add_zero _]
 refine wpAny_ret_mkInt ?_
 refine wpAny_bind (wpAny_holding (wpAny_pure ?_))
 refine wpAny_bind (wpAny_letGo ?_)
 show wpAny _ _ (if ((l.length : Nat) : Int) < 0 then _ else _) _ _ _
 rw [if_neg (by omega)]
 show wpAny _ _ (if ((l.length : Nat) : Int) >= 2 ^ 63 then _ else _) _ _ _
 rw [if_neg (by omega)]
 exact wpAny_bind (wpAny_mkInt (wpAny_pure ⟨_,rfl,post_same R PR.int h⟩))
set_option maxHeartbeats 1000000 in
end
end
section
noncomputable def rem (H : AHeap) (a : Addr) : AHeap := λ b => if b = a then none else H b
theorem rem_some {H : AHeap} {a b : Addr} {o : AO} (h : rem H a b = some o) : H b = some o /\ b ≠ a := by
 unfold rem at h; split at h
 ·cases h
 ·rename_i q; exact ⟨h,q⟩
section
variable {T : Tr} {f : FR} {env : Env} {ls : Ls} {Fs : List AF} {H : AHeap} {E : Value -> Shared -> Prop} {s : Shared} {A : Around}
theorem Rep.hideObj {C : Cx} {a : Addr} {o : Obj} {ob : AO} (R : Rep C Fs H s) (hH : H a = some ob) (ho : s.heap.get? a = some o) : Rep C (.hid a o :: Fs) (rem H a) s := by
 obtain ⟨x,y,z⟩ := R.objs a ob hH
 obtain ⟨o',ho',nt⟩ := x.there
 rw [ho] at ho'; cases ho'
 refine (R.mono λ b ob' e => (rem_some e).1).push ⟨ho,nt⟩ (λ b hb => by rw [List.mem_singleton.mp hb]; exact y.1) (λ b hb => by rw [List.mem_singleton.mp hb]; simp [rem]) (λ b hb g hg => by rw [List.mem_singleton.mp hb]; exact z g hg) λ g hg b hb hb' => ?_
 rw [List.mem_singleton.mp hb'] at hb
 have : a ∈ g.reads := by cases g with | fr f => cases hb | hid c o => exact hb | gh _ => cases hb
 exact z g hg this
theorem Rep.showObj {C : Cx} {pre post : List AF} {a : Addr} {o : Obj} {ob : AO} (R : Rep C (pre ++ .hid a o :: post) H s) (hn : New0 C a) (hs : Stands C s.heap a ob) : Rep C (pre ++ post) (upd H a ob) s := by
 obtain ⟨p1,p2,p3⟩ := List.pairwise_append.mp R.apart
 obtain ⟨q1,q2⟩ := List.pairwise_cons.mp p2
 have nf : ∀ f ∈ pre ++ post,a ∉ f.reads := λ f hf => by
  rcases List.mem_append.mp hf with hf | hf
  ·exact (p3 f hf _ (.head _)).2 a List.mem_cons_self
  ·exact (q1 f hf).1 a List.mem_cons_self
 have R' : Rep C (pre ++ post) H s := R.sub (List.Sublist.append (List.Sublist.refl _) (List.sublist_cons_self _ _))
 refine ⟨R'.ok,R'.keep,R'.gens,R'.os,R'.frs,R'.apart,λ b ob' e => ?_⟩
 unfold upd at e
 split at e
 ·cases e; rename_i q; subst q; exact ⟨hs,hn,nf⟩
 ·exact R'.objs b ob' e
structure SetParts (C : Cx) (a : Addr) (o : Obj) (l' : List Pt) (es : Array (Int × Value)) (ep : Nat) (t : SetTable) : Prop where
 ex : o.ExactSet
 data : o.data = .set es ep t
 inv : Tab.Inv t (es.toList.map (·.1))
 led : C.w.params.followText "set-order" = false -> t.led = true /\ t.plain = true
 len : l'.length = es.size
theorem setParts {C : Cx} (R : Rep C Fs H s) {a : Addr} {l : List Pt} (hH : H a = some (.pset l)) : ∃ o es ep t l',s.heap.get? a = some o /\ SetParts C a o l' es ep t /\ l'.Perm l /\ ∀ (i : Nat) (q : Pt),l'[i]? = some q -> ∃ x : Int × Value,(walkOf C.w a es ep)[i]? = some x /\ IsPt s.heap q x.2 := by
 have S := R.pset hH
 obtain ⟨o,es,ep,t,ho,hx,hd,I,hb,El⟩ := S.obj
 obtain ⟨l',hp,El'⟩ := els_perm (walkOf_perm C.w a es ep).symm El
 refine ⟨o,es,ep,t,l',ho,⟨hx,hd,I,hb,by rw [hp.length_eq,<- El.length,Array.length_toList]⟩,hp,λ i q e => ?_⟩
 obtain ⟨v,e1,p1⟩ := El'.at e
 exact ⟨_,by rw [<- Array.getElem?_toList]; exact e1,p1⟩
theorem owned_set {target : Expr} {it a : Addr} {k i n ep : Nat} {y : Value} {Q : Unit -> Shared -> Prop} {E : Value -> Shared -> Prop} {M : Program} {w : World} (hi : s.heap.get? it = some (setIterObj k i a n ep)) (h : Q () s) : wpAny (model M w) A (letOwnedTupleGo target (.ref it) y) Q E s := by
 have triv : ∀ t : Expr,(∀ y,letOwnedTupleGo t (.ref it) y = pure () \/ letOwnedTupleGo t (.ref it) y = (do
   let (.ref r,.ref a) := (Value.ref it,y) | return
   let o <- load r
   match o.cls,o.data with
   | .type n,.fields vs =>
    if ["enumerate", "zip", "dict_itemiterator", "dict_reverseitemiterator", "odict_iterator", "itertools.zip_longest", "itertools.pairwise"].contains n && vs[0]? == some (rawInt a) then
     rule "for.unpacks-the-owned-tuple"
     updateField r 0 .none
   | _,_ => pure ())) := λ t y => by cases t <;> first | exact .inl rfl | exact .inr rfl
 rcases triv target y with e | e <;> rw [e]
 ·exact wpAny_pure h
 ·clear e triv
  cases y <;> first | exact wpAny_pure h | skip
  exact wpAny_bind (wpAny_load hi (wpAny_pure h))
noncomputable def SetI (T : Tr) (env : Env) (Fs : List AF) (J : Nat -> Ls -> AHeap -> Prop) (h₁ : Heap) (it a : Addr) (o : Obj) (t : SetTable) (k ep len n : Nat) (s' : Shared) : Prop :=
 ∃ i ls' H',n = len - i /\ i <= len /\ J i ls' H' /\ Rep T.C (.fr ⟨.fn,env,ls'⟩ :: .hid it (setIterObj (slotAt T.C.w t i) i a k ep) :: .hid a o :: Fs) H' s' /\ TupKeep h₁ s'.heap
theorem set_tail {target : Expr} {body : List Stmt} {Q : AFl -> Ls -> AHeap -> Prop} {p : PV} {H₁ : AHeap} (hh : T.hd = false)
  (h : ∃ (a : Addr) (l : List Pt),p = .ref a /\ H₁ a = some (.pset l) /\ ∀ l' : List Pt,l'.Perm l -> ∃ J : Nat -> Ls -> AHeap -> Prop,J 0 ls (rem H₁ a) /\
   (∀ i q ls' H' Fs',l'[i]? = some q -> J i ls' H' -> AA T ⟨.fn,env,ls'⟩ Fs' H' target (pt q) (λ ls₁ H₁ => AX T env Fs' ls₁ H₁ body (LoopQ (J (i + 1)) (λ _ _ _ => False)) NoE) NoE) /\ ∀ ls' H',J l'.length ls' H' -> Q .next ls' (upd H' a (.pset l))) :
  ForTail T env Fs ls target body Q E p H₁ := λ A s s₁ v ok R₁ pr k₁ => by
 obtain ⟨a,l,e,hH,hl⟩ := h
 subst e
 rw [pr.ref_inv]
 obtain ⟨o,es,ep,t,l',ho,SP,hp,hw⟩ := setParts R₁ hH
 obtain ⟨J,h0,h1,h2⟩ := hl l' hp
 have S₁ := R₁.pset hH
 have hn0 := (R₁.objs a _ hH).2.1
 have nt : (Value.type "set_iterator" : Value) ≠ .type "tuple" := by decide
 refine wp_pyIter_set ho SP.ex SP.data SP.inv SP.led ?_
 have R₂ : Rep T.C (.hid a o :: .fr ⟨.fn,env,ls⟩ :: Fs) (rem H₁ a) s₁ := R₁.hideObj hH ho
 have sl : slotAt T.C.w t 0 = 0 := by unfold slotAt; split <;> rfl
 have R₄ : Rep T.C (.hid s₁.heap.objs.size (setIterObj (slotAt T.C.w t 0) 0 a es.size ep) :: .fr ⟨.fn,env,ls⟩ :: .hid a o :: Fs) (rem H₁ a) { s₁ with heap := s₁.heap.push (setIterObj 0 0 a es.size ep) } :=
  (R₂.swap).hide push_keep (Nat.le_refl _) (by rw [sl]; exact Heap.get?_push_size _ rfl) (.cls nt)
 have R₄ := R₄.swap
 generalize hit : s₁.heap.objs.size = it at R₄ ⊢
 have k₂ : TupKeep s₁.heap (s₁.heap.push (setIterObj 0 0 a es.size ep)) := TupKeep.of_keep push_keep
 refine codeAny_forLoop_any (SetI T env Fs J s₁.heap it a o t es.size ep l'.length) ?_ l'.length ⟨0,ls,_,rfl,Nat.zero_le _,h0,R₄,k₂⟩
 clear R₄ k₂ R₂ sl hit h0
 rintro n s₃ ⟨i,ls',H',rfl,hle,hJ,R₅,k₃⟩
 have hit' := (R₅.frs (.hid it _) (.tail _ (.head _))).1.1
 have ho' := (R₅.frs (.hid a o) (.tail _ (.tail _ (.head _)))).1.1
 by_cases hlt : i < l'.length
 ·obtain ⟨x,hx,px⟩ := hw i l'[i] (List.getElem?_eq_getElem hlt)
  refine wp_pyNext_set_item hit' ho' SP.ex SP.data SP.inv SP.led hx λ h' hi' sb => ?_
  obtain ⟨R₆,k₆⟩ := Rep.hidden (pre := [.fr ⟨.fn,env,ls'⟩]) (s' := { s₃ with heap := h' }) R₅ sb.extBut hi' (.cls nt)
  have kk := k₃.trans k₆
  refine owned_set (s := { s₃ with heap := h' }) hi' ?_
  refine wpAny_mono (h1 i l'[i] ls' H' (.hid it (setIterObj (slotAt T.C.w t (i + 1)) (i + 1) a es.size ep) :: .hid a o :: Fs) (List.getElem?_eq_getElem hlt) hJ A { s₃ with heap := h' } x.2 ⟨ok.frames,ok.depth,ok.units,ok.handled,ctx_more ok λ x h => .tail _ (.tail _ h)⟩ R₆ (PR.keep kk _ (PR_of_isPt px))) (λ _ s₇ hh => hh.elim λ ls₁ H₁' R₇ k₇ hX => ?_) λ _ _ e => e.elim
  refine wpAny_mono (hX A s₇ ⟨ok.frames,ok.depth,ok.units,ok.handled,ctx_more ok λ x h => .tail _ (.tail _ h)⟩ R₇) (λ fl s₈ hh => hh.elim λ b ls₂ H₂' fr R₈ k₈ hQ => ?_) λ _ _ e => e.elim
  cases b <;> cases fl <;> first | exact fr.elim | exact hQ.elim | exact ⟨_,sub_step hlt,i + 1,ls₂,H₂',rfl,hlt,hQ,R₈,kk.trans (k₇.trans k₈)⟩
 ·have hi : i = l'.length := Nat.le_antisymm hle (Nat.le_of_not_lt hlt)
  subst hi
  refine wp_pyNext_set_end (ok.handled hh) hit' ho' SP.ex SP.data SP.inv SP.led SP.len λ h' ext => ?_
  obtain ⟨R₆,k₆⟩ := Rep.unhide (pre := [.fr ⟨.fn,env,ls'⟩]) (s' := { s₃ with heap := h' }) R₅ ext
  have ho'' : h'.get? a = some o := (R₆.frs (.hid a o) (.tail _ (.head _))).1.1
  have kk := k₃.trans k₆
  have St : Stands T.C h' a (.pset l) := PSet.keep S₁ (ho''.trans ho.symm) λ b o e c d => ⟨o.slots,kk b o e c d⟩
  exact wpAny_execs_nil ⟨.next,ls',_,trivial,Rep.showObj (pre := [.fr ⟨.fn,env,ls'⟩]) R₆ hn0 St,k₁.trans kk,h2 ls' H' hJ⟩
end
end
section
noncomputable abbrev listObj (vs : Array Value) (n : Nat) : Obj := { cls := .type "list",dict := none,data := .seq vs n,slots := #[] }
theorem listObj_nt {vs : Array Value} {n : Nat} : NotTup (listObj vs n) := .cls (by show Value.type "list" ≠ Value.type "tuple"; decide)
noncomputable def CS (C : Cx) (f : FR) (mid : List AF) (D : Addr) (out : List PV) (post : List AF) (H : AHeap) (s : Shared) : Prop :=
 ∃ vs n,PRs s.heap out vs.toList /\ Rep C (.fr f :: (mid ++ .hid D (listObj vs n) :: post)) H s
noncomputable def AIfs (T : Tr) (f : FR) (Fs : List AF) (H : AHeap) : List Expr -> (Bool -> AHeap -> Prop) -> Prop
 | [],Q => Q true H
 | c :: r,Q => AT T f Fs H c (λ b H₁ => if b then AIfs T f Fs H₁ r Q else Q false H₁) NoE
noncomputable def AEmit (T : Tr) (f : FR) (D : Addr) (post : List AF) (emit : Value -> Env -> Sem Unit) (H : AHeap) (out : List PV) (K : List PV -> AHeap -> Prop) : Prop :=
 ∀ A s mid,AOk T (.fr f :: (mid ++ .hid D (listObj #[] 0) :: post)) A -> CS T.C f mid D out post H s -> wpAny T.C.M A (emit (.ref D) f.env) (λ _ s' => ∃ out' H',CS T.C f mid D out' post H' s' /\ TupKeep s.heap s'.heap /\ K out' H') NoE s
noncomputable def Sub (ls ls' : Ls) : Prop := ∀ y p,ls.lookup y = some p -> ls'.lookup y = some p
theorem Sub.refl (ls : Ls) : Sub ls ls := λ _ _ e => e
theorem Sub.cons {ls ls' : Ls} {x : Str} {p : PV} (h : Sub ls ls') (hx : ls.lookup x = none) : Sub ls ((x,p) :: ls') := λ y q e => by
 rw [List.lookup_cons]
 by_cases hy : y = x
 ·subst hy; rw [hx] at e; cases e
 ·rw [beq_eq_false_iff_ne.mpr hy]; exact h y q e
noncomputable def testLoop (ifs : List Expr) (env : Env) : Sem Bool := forIn ifs true λ c r => if r = true then do let ok <- isTrue c env (eval c env); pure (ForInStep.yield ok) else pure (ForInStep.yield r)
structure CompShape (elt : Expr) (gens : List Comprehension) (scope : Scope) (pos : Pos) (d : Nat) (target : Expr) (ifs : List Expr) (emit : Value -> Env -> Sem Unit) : Prop where
 turn : ∃ p0,∀ it acc env,compTurn (.ListComp elt gens scope pos) d it acc env = (standAt p0 >>= λ _ => pyNext it >>= λ r => match r with
  | none => pure (.done .next)
  | some v => letOwnedTupleGo target it v >>= λ _ => assign target env v >>= λ _ => testLoop ifs env >>= λ ok =>
   (if ok = true then (emit acc env >>= λ _ => again (.compLoop (.ListComp elt gens scope pos) d it acc env)) else again (.compLoop (.ListComp elt gens scope pos) d it acc env)))
 start : ∃ g,gens[d]? = some g /\ g.is_async = 0
section
variable {T : Tr} {f : FR} {env : Env} {ls : Ls} {Fs : List AF} {H : AHeap} {E : Value -> Shared -> Prop} {s : Shared} {A : Around}
theorem listObj_nc {vs : Array Value} {n : Nat} : ¬ Ctx2 (listObj vs n) := λ ⟨_,h,_⟩ => nomatch h
theorem AOk.same {Gs Gs' : List AF} (ok : AOk T Gs A) (h : envsOf Gs' = envsOf Gs) (hc : ∀ x ∈ hidsO Gs,Ctx2 x.2 -> x ∈ hidsO Gs') : AOk T Gs' A := ⟨h ▸ ok.frames,ok.depth,ok.units,ok.handled,λ v e =>
 let ⟨a,o,r,m,c⟩ := ok.ctx v e; ⟨a,o,r,hc _ m c,c⟩⟩
theorem hids_mid {pre post : List AF} {D : Addr} {o o' : Obj} (hn : ¬ Ctx2 o) : ∀ x ∈ hidsO (pre ++ .hid D o :: post),Ctx2 x.2 -> x ∈ hidsO (pre ++ .hid D o' :: post) := λ x hx hc => by
 refine hidsO_mem.mpr ((List.mem_append.mp (hidsO_mem.mp hx)).elim (List.mem_append_left _) λ h => List.mem_append_right _ ?_)
 refine (List.mem_cons.mp h).elim (λ e => ?_) (.tail _)
 injection e with e1 e2
 exact absurd (e2 ▸ hc) hn
theorem envsOf_hid {pre post : List AF} {a : Addr} {o : Obj} : envsOf (pre ++ .hid a o :: post) = envsOf (pre ++ post) := by
 induction pre with
 | nil => rfl
 | cons x pre ih =>
  cases x with
  | fr f =>
   obtain ⟨c,e,l⟩ := f
   cases c with
   | fn => exact congrArg (e :: ·) ih
   | cp cs => exact ih
  | hid b o' => exact ih
  | gh g => exact ih
theorem wp_tests {c : FK} {Fs' : List AF} {ifs : List Expr} {Q : Bool -> AHeap -> Prop} (h : AIfs T ⟨c,env,ls⟩ Fs' H ifs Q) (ok : AOk T (.fr ⟨c,env,ls⟩ :: Fs') A) (R : Rep T.C (.fr ⟨c,env,ls⟩ :: Fs') H s) :
  wpAny T.C.M A (testLoop ifs env) (PostB T (.fr ⟨c,env,ls⟩ :: Fs') s Q) NoE s := by
 have off : ∀ (ifs : List Expr) (s : Shared) (Q' : Bool -> Shared -> Prop),Q' false s -> wpAny T.C.M A (forIn ifs false λ c r => if r = true then do let ok <- isTrue c env (eval c env); pure (ForInStep.yield ok) else pure (ForInStep.yield r)) Q' NoE s := by
  intro ifs
  induction ifs with
  | nil => intro s Q' h; exact wpAny_pure h
  | cons c ifs ih => intro s Q' h; rw [List.forIn_cons]; exact wpAny_bind (wpAny_pure (ih s Q' h))
 unfold testLoop
 induction ifs generalizing s H with
 | nil => exact wpAny_pure ⟨H,R,TupKeep.refl _,h⟩
 | cons e ifs ih =>
  rw [List.forIn_cons]
  simp only [if_true]
  refine wpAny_bind (wpAny_bind (wpAny_mono (h A s ok R) (λ b s₁ hh => hh.elim λ H₁ R₁ k₁ h₁ => wpAny_pure ?_) λ _ _ x => x))
  cases b with
  | true => exact wpAny_mono (ih h₁ R₁) (λ b s₂ hh => hh.elim λ H₂ R₂ k₂ h₂ => ⟨H₂,R₂,k₁.trans k₂,h₂⟩) λ _ _ x => x
  | false => exact off ifs s₁ _ ⟨H₁,R₁,k₁,h₁⟩
theorem envs_mid {mid post : List AF} {D : Addr} {o o' : Obj} : envsOf (mid ++ .hid D o :: post) = envsOf (mid ++ .hid D o' :: post) := envsOf_hid.trans envsOf_hid.symm
theorem AOk.mid {c : FK} {ls' : Ls} {mid post : List AF} {D : Addr} {o o' : Obj} (hn : ¬ Ctx2 o) (ok : AOk T (.fr ⟨c,env,ls⟩ :: (mid ++ .hid D o :: post)) A) : AOk T (.fr ⟨c,env,ls'⟩ :: (mid ++ .hid D o' :: post)) A :=
 ok.same (by cases c with | fn => exact congrArg (env :: ·) envs_mid | cp _ => exact envs_mid) (hids_mid (pre := mid) hn)
theorem AOk.mid2 {c : FK} {ls' : Ls} {mid post : List AF} {D it : Addr} {o o' q q' : Obj} (hq : ¬ Ctx2 q) (hn : ¬ Ctx2 o) (ok : AOk T (.fr ⟨c,env,ls⟩ :: (.hid it q :: (mid ++ .hid D o :: post))) A) : AOk T (.fr ⟨c,env,ls'⟩ :: (.hid it q' :: (mid ++ .hid D o' :: post))) A :=
 ok.same (by cases c with | fn => exact congrArg (env :: ·) envs_mid | cp _ => exact envs_mid) λ x hx hc => by
  have hx : x ∈ (it,q) :: hidsO (mid ++ .hid D o :: post) := hx
  exact (List.mem_cons.mp hx).elim (λ e => absurd (by rw [e] at hc; exact hc) hq) λ h => .tail _ (hids_mid (pre := mid) hn x h hc)
theorem AOk.mid3 {c : FK} {ls' : Ls} {mid post : List AF} {D it : Addr} {o o' q' : Obj} (hn : ¬ Ctx2 o) (ok : AOk T (.fr ⟨c,env,ls⟩ :: (mid ++ .hid D o :: post)) A) : AOk T (.fr ⟨c,env,ls'⟩ :: (.hid it q' :: (mid ++ .hid D o' :: post))) A :=
 ok.same (by cases c with | fn => exact congrArg (env :: ·) envs_mid | cp _ => exact envs_mid) λ x hx hc => .tail _ (hids_mid (pre := mid) hn x hx hc)
noncomputable def LTurns (T : Tr) (c : FK) (env : Env) (ls : Ls) (target : Expr) (ifs : List Expr) (emit : Value -> Env -> Sem Unit) (D : Addr) (post : List AF) (I : Nat -> AIt -> List PV -> AHeap -> Prop) (D' : List PV -> AHeap -> Prop) : Prop :=
 ∀ n x out H',I n x out H' -> ItTurn H' x (λ p x' => ∀ Fs',AA T ⟨c,env,ls⟩ Fs' H' target p (λ ls' H₂ => Sub ls ls' /\ AIfs T ⟨c,env,ls'⟩ Fs' H₂ ifs (λ b H₃ => if b then AEmit T ⟨c,env,ls'⟩ D post emit H₃ out (λ out' H₄ => ∃ m,m < n /\ I m x' out' H₄) else ∃ m,m < n /\ I m x' out H₃)) NoE) (D' out H')
noncomputable def CLI (C : Cx) (f : FR) (it D : Addr) (mid post : List AF) (I : Nat -> AIt -> List PV -> AHeap -> Prop) (h₀ : Heap) (n : Nat) (s' : Shared) : Prop :=
 ∃ x out H' o,IsIt o x /\ I n x out H' /\ CS C f (.hid it o :: mid) D out post H' s' /\ TupKeep h₀ s'.heap
theorem comp_loop {elt target : Expr} {gens : List Comprehension} {scope : Scope} {pos : Pos} {d : Nat} {ifs : List Expr} {emit : Value -> Env -> Sem Unit} {c : FK} {D it : Addr} {mid post : List AF} {o : Obj} {x : AIt} {out : List PV} {R' : Result -> Shared -> Prop} (sh : CompShape elt gens scope pos d target ifs emit)
  (I : Nat -> AIt -> List PV -> AHeap -> Prop) (n : Nat) (hI : I n x out H) (D' : List PV -> AHeap -> Prop)
  (turn : LTurns T c env ls target ifs emit D post I D')
  (hi : IsIt o x) (ok : AOk T (.fr ⟨c,env,ls⟩ :: (.hid it o :: (mid ++ .hid D (listObj #[] 0) :: post))) A) (S : CS T.C ⟨c,env,ls⟩ (.hid it o :: mid) D out post H s)
  (hR : ∀ s' out' H',CS T.C ⟨c,env,ls⟩ mid D out' post H' s' -> TupKeep s.heap s'.heap -> D' out' H' -> R' (.ok .next) s') :
  codeAny T.C.M A (.compLoop (.ListComp elt gens scope pos) d (.ref it) (.ref D) env) R' s := by
 obtain ⟨p0,ht⟩ := sh.turn
 have hi0 := hi
 refine codeAny_loop rfl (CLI T.C ⟨c,env,ls⟩ it D mid post I s.heap) ?_ n ⟨x,out,H,o,hi,hI,S,TupKeep.refl _⟩
 rintro n s₁ ⟨x,out,H',o,hi,hI,⟨vs,k,prs,R₁⟩,k₁⟩
 show wpAny _ A ((compTurn (.ListComp elt gens scope pos) d (.ref it) (.ref D) env).onRaise (λ x => do noteFrame x env; theTreesLotGoes x)) _ _ s₁
 refine wpAny_noted ?_
 rw [ht]
 refine wpAny_bind (wpAny_standAt (wpAny_bind ?_))
 refine wp_next (pre := [.fr ⟨c,env,ls⟩]) ((AOk.mid2 (q' := o) (ls' := ls) (o' := listObj vs k) hi0.nc listObj_nc ok).hdc R₁) R₁ hi (turn n x out H' hI) (λ p x' v o' s₂ hK hi' pv R₂ k₂ => ?_) (λ s₂ hD R₂ k₂ => ?_)
 ·refine wpAny_bind (wp_letOwned (pre := [.fr ⟨c,env,ls⟩]) R₂ hi' ?_)
  refine wpAny_bind (wpAny_mono (hK _ A s₂ v (ok.mid2 hi0.nc listObj_nc) R₂ pv) (λ _ s₃ hh => hh.elim λ ls' H₃ R₃ k₃ hT => ?_) λ _ _ e => e.elim)
  refine wpAny_bind (wpAny_mono (wp_tests hT.2 (ok.mid2 hi0.nc listObj_nc) R₃) (λ b s₄ hh => hh.elim λ H₄ R₄ k₄ hb => ?_) λ _ _ e => e.elim)
  have kk := k₂.trans (k₃.trans k₄)
  have prs' := PRs.keep kk _ prs
  cases b with
  | false =>
   refine wp_neg (by decide) ?_
   obtain ⟨m,hm,hI'⟩ := hb
   exact wpAny_pure ⟨rfl,m,hm,x',out,H₄,o',hi',hI',⟨vs,k,prs',R₄.weak hT.1 λ _ _ e => e⟩,k₁.trans kk⟩
  | true =>
   refine wp_pos rfl ?_
   rw [if_pos rfl] at hb
   refine wpAny_bind (wpAny_mono (hb A s₄ (.hid it o' :: mid) (ok.mid2 hi0.nc listObj_nc) ⟨vs,k,prs',R₄⟩) (λ _ s₅ hh => ?_) λ _ _ e => e.elim)
   obtain ⟨out',H₅,⟨vs',k',prs',R₅⟩,k₅,m,hm,hI'⟩ := hh
   exact wpAny_pure ⟨rfl,m,hm,x',out',H₅,o',hi',hI',⟨vs',k',prs',R₅.weak hT.1 λ _ _ e => e⟩,k₁.trans (kk.trans k₅)⟩
 ·exact wpAny_pure (hR s₂ out H' ⟨vs,k,PRs.keep k₂ _ prs,R₂⟩ (k₁.trans k₂) hD)
end
end
section
theorem entry_range_it_iter : entryFor table "range_iterator.__iter__" = some Builtin.«dict_keyiterator.__iter__» :=
 entryFor_alias (id' := "dict_keyiterator.__iter__") (by kernel_rfl) rfl (by decide +kernel) (by kernel_rfl)
section
variable {T : Tr} {f : FR} {env : Env} {ls : Ls} {Fs : List AF} {H : AHeap} {E : Value -> Shared -> Prop} {s : Shared} {A : Around}
theorem wp_iterSelf {pre post : List AF} {it : Addr} {o : Obj} {x : AIt} {Q : Value -> Shared -> Prop} (R : Rep T.C (pre ++ .hid it o :: post) H s) (hi : IsIt o x) (h : Q (.ref it) s) : wpAny T.C.M A (pyIter (.ref it)) Q E s := by
 obtain ⟨⟨ho,_⟩,_⟩ := R.frs (.hid it o) (by simp)
 cases x with
 | list a i => exact wpAny_pyIter_listiter ⟨o,ho,hi.1,hi.2⟩ h
 | range x left =>
  have hT : s.TypeIs (.ref it) "range_iterator" := ⟨o,ho,by rw [show o = _ from hi]⟩
  refine wpAny_pyIter_slot hT F.slot_range_iterator_iter (wpAny_call_entry F.slot_range_iterator_iter hT entry_range_it_iter ?_ (F.args_range_iterator_iter_1 _))
  show wpAny _ _ (ret (.ref it)) _ _ s
  exact wpAny_pure ⟨_,rfl, "range_iterator",_,hT,F.slot_range_iterator_next.lookup,h⟩
 | keys d ob i =>
  have hT : s.TypeIs (.ref it) "dict_keyiterator" := ⟨o,ho,hi.1⟩
  refine wpAny_pyIter_slot hT F.slot_dict_keyiterator_iter (wpAny_call_entry F.slot_dict_keyiterator_iter hT F.entry_dict_keyiterator_iter ?_ (F.args_dict_keyiterator_iter_1 _))
  show wpAny _ _ (ret (.ref it)) _ _ s
  exact wpAny_pure ⟨_,rfl, "dict_keyiterator",_,hT,F.slot_dict_keyiterator_next.lookup,h⟩
theorem comp_start {elt target : Expr} {gens : List Comprehension} {scope : Scope} {pos : Pos} {d : Nat} {ifs : List Expr} {emit : Value -> Env -> Sem Unit} {it D : Addr} {pre post : List AF} {o : Obj} {x : AIt} {R' : Result -> Shared -> Prop} (sh : CompShape elt gens scope pos d target ifs emit)
  (hi : IsIt o x) (R : Rep T.C (pre ++ .hid it o :: post) H s) (h : codeAny T.C.M A (.compLoop (.ListComp elt gens scope pos) d (.ref it) (.ref D) env) R' s) :
  codeAny T.C.M A (.compStart (.ListComp elt gens scope pos) d (.ref it) (.ref D) env) R' s := by
 obtain ⟨g,hg,ha⟩ := sh.start
 refine codeAny_of_tree ?_
 show wpAny _ A ((compStart (.ListComp elt gens scope pos) d (.ref it) (.ref D) env).onRaise (λ x => do noteFrame x env; standAt theWindowsPlace)) _ _ s
 refine wpAny_notedAt ?_
 unfold compStart
 have hc : (clausesOf (.ListComp elt gens scope pos))[d]? = some g := hg
 rw [hc]
 have : ((some g).elim false λ x => x.is_async != 0) = false := by simp [ha]
 rw [this,if_neg (by decide)]
 refine wpAny_bind (wpAny_askSetting (wpAny_ite ?_))
 split
 ·exact wpAny_pure ⟨rfl,h⟩
 ·refine wpAny_bind (wpAny_rule ?_)
  dsimp only
  refine wpAny_bind (wpAny_standAt (wpAny_bind (wp_iterSelf R hi (wpAny_pure ⟨rfl,h⟩))))
noncomputable def emitElt (elt : Expr) (acc : Value) (env : Env) : Sem Unit := eval elt env >>= λ x => call (.builtin "list.append") [acc,x] >>= λ _ => pure ()
theorem AEmit.elt {elt : Expr} {D : Addr} {post : List AF} {out : List PV} {K : List PV -> AHeap -> Prop} (hz : out.length <= 100000) (h : ∀ Fs',AE T f Fs' H elt (λ v H' => K (out ++ [v]) H') NoE) : AEmit T f D post (emitElt elt) H out K := λ A s mid ok S => by
 obtain ⟨vs,n,prs,R⟩ := S
 refine wpAny_bind (wpAny_mono (h _ A s (AOk.mid listObj_nc ok) R) (λ v s₁ hh => hh.elim λ p H₁ pr R₁ k₁ h₁ => ?_) λ _ _ e => e)
 have il : IsL s₁.heap D vs n := (R₁.frs (.hid D (listObj vs n)) (by simp)).1.1
 have hs := prs_size prs
 refine wpAny_bind (call_meets slot_list_append ⟨_,il,rfl⟩ entry_list_append (args_list_append _ _) (list_append D vs n v (by rw [hs]; exact Nat.le_trans hz (by decide))) ⟨il,?_⟩)
 obtain ⟨R₂,k₂⟩ := Rep.hidden (pre := .fr f :: mid) (s' := { s₁ with heap := s₁.heap.update D (Obj.mapSeq λ x => x.push v) }) R₁ (il_keep il _) (IsL.update il _) listObj_nt
 have kk := k₁.trans k₂
 refine wpAny_pure ⟨out ++ [p],H₁,⟨_,_,?_,R₂⟩,kk,h₁⟩
 rw [Array.toList_push]
 exact (PRs.keep kk _ prs).append (PRs.cons (pr.keep k₂) PRs.nil)
noncomputable def emitNest (elt : Expr) (gens : List Comprehension) (scope : Scope) (pos : Pos) (d : Nat) (iter : Expr) (acc : Value) (env : Env) : Sem Unit :=
 eval iter env >>= λ x => standAt iter.pos >>= λ _ => foldedSetIterable iter env x >>= λ x => holding [x] (pyIter x) >>= λ it => runOwn (.compStart (.ListComp elt gens scope pos) d it acc env) env >>= λ _ => pure ()
theorem AEmit.nest {elt iter target : Expr} {gens : List Comprehension} {scope : Scope} {pos : Pos} {d : Nat} {ifs : List Expr} {emit : Value -> Env -> Sem Unit} {c : FK} {D : Addr} {post : List AF} {out : List PV} {K : List PV -> AHeap -> Prop} (sh : CompShape elt gens scope pos d target ifs emit)
  (hs : ∀ x,foldedSetIterable iter env x = pure x)
  (h : ∀ Fs',AE T ⟨c,env,ls⟩ Fs' H iter (λ p H₁ => ∃ x,AIter T (.fr ⟨c,env,ls⟩ :: Fs') H₁ p x /\ ∃ (I : Nat -> AIt -> List PV -> AHeap -> Prop) (n : Nat),I n x out H₁ /\ LTurns T c env ls target ifs emit D post I K) NoE) :
  AEmit T ⟨c,env,ls⟩ D post (emitNest elt gens scope pos d iter) H out K := λ A s mid ok S => by
 obtain ⟨vs,n,prs,R⟩ := S
 have ok' := AOk.mid (ls' := ls) (o' := listObj vs n) listObj_nc ok
 refine wpAny_bind (wpAny_mono (h _ A s ok' R) (λ v s₁ pp => pp.elim λ p H₁ pr R₁ k₁ h => ?_) λ _ _ e => e)
 obtain ⟨x,hx,I,m,hI,turn⟩ := h
 refine wpAny_bind (wpAny_standAt (wpAny_bind (wpAny_of_eq (hs v) (wpAny_bind (wpAny_holding ?_)))))
 refine hx A s₁ v _ _ ok' R₁ pr λ it o s₂ hi R₂ k₂ => ?_
 have R₂ := R₂.swap
 have kk := k₁.trans k₂
 refine wpAny_bind (wpAny_runOwn (comp_start (pre := [.fr ⟨c,env,ls⟩]) sh hi R₂ ?_))
 refine comp_loop (T := T) (mid := mid) sh I m hI K turn hi (by show AOk T _ A; exact ok'.mid3 listObj_nc) ⟨vs,n,PRs.keep kk _ prs,R₂⟩ λ s₃ out' H' S' k₃ hK => ?_
 exact wpAny_pure ⟨out',H',S',kk.trans k₃,hK⟩
theorem shape1 {elt target iter : Expr} {ifs : List Expr} {scope : Scope} {pos : Pos} : CompShape elt [⟨target,iter,ifs,0⟩] scope pos 0 target ifs (emitElt elt) :=
 ⟨⟨iter.pos,λ it acc env => by
  rw [compTurn_list]
  rfl⟩,⟨_,rfl,rfl⟩⟩
end
end
section
noncomputable def closOf (env : Env) : List (Str × NameKind) -> List (Str × Addr) -> List (Str × Addr)
 | [],acc => acc
 | (n,k) :: r,acc => if k == .free then closOf env r ((n,(env.cells.lookup n).getD 0) :: acc) else closOf env r acc
theorem closOf_step {env : Env} {n : Str} {k : NameKind} {r : List (Str × NameKind)} {acc : List (Str × Addr)} : closOf env ((n,k) :: r) acc = if (k == .free) = true then closOf env r ((n,(env.cells.lookup n).getD 0) :: acc) else closOf env r acc := rfl
theorem closureFor_eq {scope : Scope} {env : Env} (h : ∀ n,(n,NameKind.free) ∈ scope.names -> ∃ c,env.cells.lookup n = some c) : closureFor scope env = pure (closOf env scope.names []) := by
 unfold closureFor
 have main : ∀ (names : List (Str × NameKind)) (acc : List (Str × Addr)),(∀ n,(n,NameKind.free) ∈ names -> ∃ c,env.cells.lookup n = some c) ->
   (forIn names acc λ (x : Str × NameKind) cs => match x with | (name,kind) => (if (kind == NameKind.free) = true then do
     let c <- cellOf env name
     pure (ForInStep.yield ((name,c) :: cs)) else pure (ForInStep.yield cs) : Sem (ForInStep (List (Str × Addr))))) = pure (closOf env names acc) := by
  intro names
  induction names with
  | nil => intro acc _; rfl
  | cons x names ih =>
   obtain ⟨n,k⟩ := x
   intro acc hx
   rw [List.forIn_cons,closOf_step]
   by_cases hk : (k == NameKind.free) = true
   ·have hk' : k = .free := by simpa using hk
    subst hk'
    obtain ⟨c,hc⟩ := hx n (.head _)
    simp only [beq_self_eq_true,if_true]
    have : cellOf env n = pure c := by unfold cellOf; rw [hc]
    rw [this]
    simp only [pure_bind]
    rw [ih _ λ m hm => hx m (.tail _ hm),hc]; rfl
   ·rw [if_neg hk]
    dsimp only
    rw [if_neg hk]
    simp only [pure_bind]
    exact ih _ λ m hm => hx m (.tail _ hm)
 exact (congrArg (λ m : Sem (List (Str × Addr)) => m >>= λ cs => pure cs) (main scope.names [] h)).trans rfl
theorem closOf_lookup {env : Env} {x : Str} (names : List (Str × NameKind)) : ∀ (acc : List (Str × Addr)),(names.map (·.1)).Nodup -> (closOf env names acc).lookup x = if names.lookup x = some .free then some ((env.cells.lookup x).getD 0) else acc.lookup x := by
 induction names with
 | nil => exact λ _ _ => (if_neg λ h => nomatch h).symm
 | cons a r ih =>
  obtain ⟨n,k⟩ := a
  intro acc hn
  obtain ⟨h1,h2⟩ := List.nodup_cons.mp hn
  rw [closOf_step,List.lookup_cons]
  by_cases e : x = n
  ·subst e
   have hr : r.lookup x ≠ some .free := λ q => h1 (List.mem_map.mpr ⟨_,mem_of_lookup q,rfl⟩)
   rw [beq_self_eq_true]
   by_cases hk : (k == NameKind.free) = true
   ·cases eq_of_beq hk
    rw [if_pos hk,ih _ h2,if_neg hr,if_pos rfl,List.lookup_cons,beq_self_eq_true]
   ·rw [if_neg hk,ih _ h2,if_neg hr,if_neg λ q => hk (by cases q; rfl)]
  ·rw [beq_eq_false_iff_ne.mpr e]
   split
   ·rw [ih _ h2,List.lookup_cons,beq_eq_false_iff_ne.mpr e]
   ·exact ih _ h2
theorem closOf_mem {env : Env} {y : Str × Addr} (names : List (Str × NameKind)) : ∀ (acc : List (Str × Addr)),y ∈ closOf env names acc -> y ∈ acc \/ ((y.1,NameKind.free) ∈ names /\ y.2 = (env.cells.lookup y.1).getD 0) := by
 induction names with
 | nil => exact λ _ h => .inl h
 | cons a r ih =>
  obtain ⟨n,k⟩ := a
  intro acc h
  rw [closOf_step] at h
  by_cases hk : (k == NameKind.free) = true
  ·rw [if_pos hk] at h
   cases eq_of_beq hk
   refine (ih _ h).elim (λ h => (List.mem_cons.mp h).elim (λ e => ?_) .inl) λ h => .inr ⟨.tail _ h.1,h.2⟩
   subst e; exact .inr ⟨.head _,rfl⟩
  ·rw [if_neg hk] at h
   exact (ih _ h).imp id λ h => ⟨.tail _ h.1,h.2⟩
theorem closOf_apart {env : Env} (ha : env.cells.Pairwise λ x y => x.2 ≠ y.2) (names : List (Str × NameKind)) : ∀ (acc : List (Str × Addr)),(acc.map (·.1) ++ names.map (·.1)).Nodup -> (∀ y ∈ acc,y ∈ env.cells) -> (∀ n,(n,NameKind.free) ∈ names -> ∃ c,env.cells.lookup n = some c) -> acc.Pairwise (λ x y => x.2 ≠ y.2) -> (closOf env names acc).Pairwise λ x y => x.2 ≠ y.2 := by
 induction names with
 | nil => exact λ _ _ _ _ h => h
 | cons a r ih =>
  obtain ⟨n,k⟩ := a
  intro acc hn hm hx h
  rw [closOf_step]
  by_cases hk : (k == NameKind.free) = true
  ·rw [if_pos hk]
   cases eq_of_beq hk
   obtain ⟨c,hc⟩ := hx n (.head _)
   have hmem := mem_of_lookup hc
   have hp := List.perm_middle.nodup_iff.mp hn
   rw [hc]
   exact ih _ hp (λ y hy => (List.mem_cons.mp hy).elim (λ e => e ▸ hmem) (hm y)) (λ m hm => hx m (.tail _ hm)) (List.pairwise_cons.mpr ⟨λ y hy => apart_ne ha hmem (hm y hy) λ e => (List.nodup_cons.mp hp).1 (List.mem_append_left _ (e ▸ List.mem_map.mpr ⟨y,hy,rfl⟩)),h⟩)
  ·rw [if_neg hk]
   exact ih acc (hn.sublist (List.Sublist.append (List.Sublist.refl _) (List.sublist_cons_self _ _))) hm (λ m hm => hx m (.tail _ hm)) h
noncomputable def relN (ns nm : List (Str × NameKind)) : List (Str × NameKind) := ns.map λ (n,k) => if k == .free && nm.lookup n == some .cell then (n,.cell) else (n,k)
theorem relN_lookup {nm : List (Str × NameKind)} {x : Str} (ns : List (Str × NameKind)) : (relN ns nm).lookup x = (ns.lookup x).map λ k => if k == .free && nm.lookup x == some .cell then .cell else k := by
 induction ns with
 | nil => rfl
 | cons a r ih =>
  obtain ⟨n,k⟩ := a
  have e1 : relN ((n,k) :: r) nm = (n,if k == .free && nm.lookup n == some .cell then .cell else k) :: relN r nm := congrArg (· :: _) (by dsimp only; split <;> rfl)
  rw [e1,List.lookup_cons,List.lookup_cons]
  by_cases e : x = n
  ·subst e; rw [beq_self_eq_true]; rfl
  ·rw [beq_eq_false_iff_ne.mpr e]; exact ih
noncomputable def compLs (ns : List (Str × NameKind)) (ls : Ls) : Ls := ls.filter λ e => !isOwn (ns.lookup e.1)
theorem compLs_lookup {ns : List (Str × NameKind)} {x : Str} {p : PV} {ls : Ls} : (compLs ns ls).lookup x = some p -> ls.lookup x = some p /\ isOwn (ns.lookup x) = false := by
 induction ls with
 | nil => exact λ h => by cases h
 | cons e ls ih =>
  intro h
  obtain ⟨y,q⟩ := e
  unfold compLs at h ih
  rw [List.filter_cons] at h
  by_cases e : x = y
  ·subst e
   cases hc : isOwn (ns.lookup x) with
   | true =>
    rw [if_neg (by rw [hc]; decide)] at h
    rw [(ih h).2] at hc; cases hc
   | false =>
    rw [if_pos (by rw [hc]; rfl)] at h
    rw [List.lookup_cons,beq_self_eq_true] at h ⊢
    exact ⟨h,rfl⟩
  ·have hb := beq_eq_false_iff_ne.mpr e
   rw [List.lookup_cons,hb]
   split at h
   ·rw [List.lookup_cons,hb] at h
    exact ih h
   ·exact ih h
structure ScopeOk (scope : Scope) (nm : List (Str × NameKind)) : Prop where
 kind : scope.kind = .function
 nodup : (scope.names.map (·.1)).Nodup
 free : ∀ x ∈ scope.names,x.2 = .free -> nm.lookup x.1 = some .cell \/ nm.lookup x.1 = some .free
theorem cf_mem (names : List (Str × NameKind)) : ∀ (h : Heap) (acc : List (Str × Addr)),∀ y ∈ cellsFrom h.objs.size names acc,y ∈ acc \/ (h.objs.size <= y.2 /\ (pushCells h names).IsCell y.2 none) := by
 induction names with
 | nil => exact λ h acc y hy => .inl hy
 | cons e r ih =>
  intro h acc y hy
  obtain ⟨name,kind⟩ := e
  unfold cellsFrom at hy
  unfold pushCells
  by_cases hk : (kind == NameKind.cell) = true
  ·rw [if_pos hk] at hy ⊢
   rw [<- Heap.size_push (h := h) (o := { cls := .type "cell",data := .cell none })] at hy
   rcases ih _ _ y hy with hy | ⟨h1,h2⟩
   ·rcases List.mem_cons.mp hy with rfl | hy
    ·exact .inr ⟨Nat.le_refl _,_,pushCells_keeps _ _ _ _ (Heap.get?_push_size _ rfl),rfl⟩
    ·exact .inl hy
   ·rw [Heap.size_push] at h1
    exact .inr ⟨Nat.le_of_succ_le h1,h2⟩
  ·rw [if_neg hk] at hy ⊢
   exact ih h acc y hy
theorem cf_apart (names : List (Str × NameKind)) : ∀ (n : Nat) (acc : List (Str × Addr)),(∀ y ∈ acc,y.2 < n) -> acc.Pairwise (λ x y => x.2 ≠ y.2) -> (cellsFrom n names acc).Pairwise λ x y => x.2 ≠ y.2 := by
 induction names with
 | nil => exact λ n acc _ h => h
 | cons e r ih =>
  intro n acc hl hp
  obtain ⟨name,kind⟩ := e
  unfold cellsFrom
  by_cases hk : (kind == NameKind.cell) = true
  ·rw [if_pos hk]
   refine ih _ _ (λ y hy => ?_) (List.pairwise_cons.mpr ⟨λ y hy e => ?_,hp⟩)
   ·rcases List.mem_cons.mp hy with rfl | hy
    ·exact Nat.lt_succ_self n
    ·exact Nat.lt_succ_of_lt (hl y hy)
   ·have := hl y hy
    rw [<- show n = y.2 from e] at this
    exact Nat.lt_irrefl _ this
  ·rw [if_neg hk]
   exact ih n acc hl hp
theorem lookup_none {x : Str} {r : List (Str × NameKind)} (h : x ∉ r.map (·.1)) : r.lookup x = none := by
 cases e : r.lookup x with
 | none => rfl
 | some k => exact absurd (List.mem_map.mpr ⟨(x,k),mem_of_lookup e,rfl⟩) h
theorem cf_lookup {x : Str} (names : List (Str × NameKind)) : ∀ (n : Nat) (acc : List (Str × Addr)),(names.map (·.1)).Nodup ->
  (names.lookup x = some .cell -> ∃ d,(cellsFrom n names acc).lookup x = some d /\ n <= d) /\ (names.lookup x ≠ some .cell -> (cellsFrom n names acc).lookup x = acc.lookup x) := by
 induction names with
 | nil => exact λ n acc _ => ⟨(λ e => by cases e),λ _ => rfl⟩
 | cons e r ih =>
  intro n acc hn
  obtain ⟨name,kind⟩ := e
  obtain ⟨h1,h2⟩ := List.nodup_cons.mp (show (name :: r.map (·.1)).Nodup from hn)
  unfold cellsFrom
  by_cases hx : x = name
  ·subst hx
   have hr := lookup_none h1
   rw [List.lookup_cons,beq_self_eq_true]
   by_cases hk : (kind == NameKind.cell) = true
   ·rw [if_pos hk]
    have hk' : kind = .cell := by simpa using hk
    subst hk'
    refine ⟨λ _ => ⟨n,?_,Nat.le_refl n⟩,λ h => absurd rfl h⟩
    rw [(ih (n + 1) ((x,n) :: acc) h2).2 (by rw [hr]; exact λ e => by cases e),List.lookup_cons,beq_self_eq_true]
   ·rw [if_neg hk]
    have hne : kind ≠ .cell := λ e => hk (by rw [e]; rfl)
    exact ⟨λ e => absurd (Option.some.inj e) hne,λ _ => (ih n acc h2).2 (by rw [hr]; exact λ e => by cases e)⟩
  ·have hb := beq_eq_false_iff_ne.mpr hx
   rw [List.lookup_cons,hb]
   by_cases hk : (kind == NameKind.cell) = true
   ·rw [if_pos hk]
    obtain ⟨i1,i2⟩ := ih (n + 1) ((name,n) :: acc) h2
    refine ⟨λ e => (i1 e).imp λ d q => ⟨q.1,Nat.le_of_succ_le q.2⟩,λ e => (i2 e).trans ?_⟩
    rw [List.lookup_cons,hb]
   ·rw [if_neg hk]
    exact ih n acc h2
noncomputable def ownCs (L : Nat) (cs : List (Str × Addr)) : List Addr := (cs.filter λ y => decide (L < y.2)).map (·.2)
noncomputable def OwnsOk (own : List Addr) (ns : List (Str × NameKind)) (cenv : Env) : Prop := ∀ x,ns.lookup x = some .cell -> OwnCell (.cp own) cenv x
theorem wpAny_compEnv {M : Model} {A : Around} {E : Value -> Shared -> Prop} {s : Shared} {scope : Scope} {globals : Addr} {closure : List (Str × Addr)} {qual : Str} {func : Option Addr} {code : Value} {outer : Env} {builtins : Addr} {Q : Env -> Shared -> Prop}
  (hQ : ∀ h',h'.Ns s.heap.objs.size (λ _ => none) -> (∀ b o,s.heap.get? b = some o -> h'.get? b = some o) -> (∀ y ∈ cellsFrom (s.heap.objs.size + 1) scope.names closure,y ∈ closure \/ (s.heap.objs.size < y.2 /\ h'.IsCell y.2 none)) ->
   Q (newEnv scope s.heap.objs.size globals (cellsFrom (s.heap.objs.size + 1) scope.names closure) qual func code (some outer) builtins) { s with heap := h' }) :
  wpAny M A (newFunctionEnv scope globals closure [] qual func code (some outer) builtins) Q E s := by
 delta newFunctionEnv
 refine wpAny_bind (wpAny_alloc ?_)
 refine wpAny_bind (wpAny_layCells _ (λ name kind cells => by cases hkc : kind == NameKind.cell <;> simp [hkc]) _ _ _ _ ?_)
 refine wpAny_bind ?_
 rw [List.forIn_nil]
 refine wpAny_pure (wpAny_pure ?_)
 have hsz : (s.heap.push { cls := .type "dict",data := .dict #[] }).objs.size = s.heap.objs.size + 1 := Heap.size_push ..
 have h := hQ (pushCells (s.heap.push { cls := .type "dict",data := .dict #[] }) scope.names) ((Heap.Ns.new s.heap (.type "dict")).keeps (pushCells_keeps _ _)) (λ b o e => pushCells_keeps _ _ b o (Heap.get?_push_of_some _ e)) (λ y hy => (cf_mem scope.names (s.heap.push { cls := .type "dict",data := .dict #[] }) closure y (by rw [hsz]; exact hy)).imp id λ q => ⟨by have := q.1; rw [hsz] at this; exact this,q.2⟩)
 rw [show ({ s with heap := s.heap.push { cls := .type (if (some outer).isSome = true then "dict" else "frame"),data := .dict #[] } } : Shared).heap.objs.size = s.heap.objs.size + 1 from hsz]
 exact h
section
variable {T : Tr} {f : FR} {env : Env} {ls : Ls} {Fs : List AF} {H : AHeap} {E : Value -> Shared -> Prop} {s : Shared} {A : Around}
theorem comp_frame {C : Cx} {c : FK} {scope : Scope} {nm : List (Str × NameKind)} {mid : List AF} {L : Addr} {s' : Shared} (hn : env.scope.names = nm) (sc : ScopeOk scope nm) (R : Rep C (mid ++ .fr ⟨c,env,ls⟩ :: Fs) H s) (hmid : ∀ g ∈ mid,∃ a o,g = .hid a o)
  (hL : s.heap.objs.size = L) (ns : s'.heap.Ns L (λ _ => none)) (hk : ∀ b o,s.heap.get? b = some o -> s'.heap.get? b = some o) (hg : s'.gens = s.gens) (hos : s'.os = s.os)
  (hcl : ∀ y ∈ cellsFrom (L + 1) scope.names (closOf env scope.names []),y ∈ closOf env scope.names [] \/ (L < y.2 /\ s'.heap.IsCell y.2 none)) :
  ∃ cenv own,cenv = ({ newEnv scope L env.globals (cellsFrom (L + 1) scope.names (closOf env scope.names [])) env.qual none .none (some env) 0 with scope := relabel scope env } : Env) /\ cenv.scope.names = relN scope.names nm /\ OwnsOk own scope.names cenv /\
   Rep C (.fr ⟨.cp own,cenv,compLs scope.names ls⟩ :: (mid ++ .fr ⟨c,env,ls⟩ :: Fs)) H s' := by
 have F : FrOk s.heap ⟨c,env,ls⟩ := (R.frs (.fr ⟨c,env,ls⟩) (by simp)).1
 have hasF : ∀ n,(n,NameKind.free) ∈ scope.names -> ∃ d,env.cells.lookup n = some d := λ n hm => by
  have := sc.free _ hm rfl
  rw [<- hn] at this
  exact F.has n this
 have names : (relabel scope env).names = relN scope.names nm := by
  unfold relabel relN
  dsimp only
  apply List.map_congr_left
  rintro ⟨n,k⟩ _
  have e1 : env.kindOf n = nm.lookup n := by rw [<- hn]; rfl
  rw [show env.scope.kind = .function from F.kind,e1]
  simp
 have cmem : ∀ y ∈ closOf env scope.names [],y ∈ env.cells := λ y hy => by
  rcases closOf_mem _ _ hy with h | ⟨h,e⟩
  ·cases h
  ·obtain ⟨d,hd⟩ := hasF _ h
   rw [hd] at e
   have := mem_of_lookup hd
   rwa [show (y.1,d) = y from by rw [show d = y.2 from e.symm]] at this
 have clt : ∀ y ∈ closOf env scope.names [],y.2 < L := λ y hy => by
  obtain ⟨v,o,ho,_⟩ := F.cells y (cmem y hy)
  exact hL ▸ Heap.lt_size ho
 have cfl := λ x => cf_lookup (x := x) scope.names (L + 1) (closOf env scope.names []) sc.nodup
 refine ⟨_,ownCs L (cellsFrom (L + 1) scope.names (closOf env scope.names [])),rfl,names,λ x hx => ?_,?_⟩
 ·obtain ⟨d,h1,h2⟩ := (cfl x).1 hx
  exact ⟨d,List.mem_map.mpr ⟨(x,d),List.mem_filter.mpr ⟨mem_of_lookup h1,decide_eq_true h2⟩,rfl⟩,h1⟩
 have tk := TupKeep.of_keep hk
 have kx : ∀ x,((relN scope.names nm).lookup x = some .cell \/ (relN scope.names nm).lookup x = some .free) -> scope.names.lookup x = some .free \/ scope.names.lookup x = some .cell := λ x e => by
  rw [relN_lookup] at e
  cases q : scope.names.lookup x with
  | none => rw [q] at e; rcases e with e | e <;> cases e
  | some k' =>
   rw [q] at e
   simp only [Option.map_some,Option.some.injEq] at e
   by_cases hc : (k' == NameKind.free && nm.lookup x == some NameKind.cell) = true
   ·simp at hc; rw [hc.1]; exact .inl rfl
   ·rw [if_neg hc] at e
    rcases e with rfl | rfl
    ·exact .inr rfl
    ·exact .inl rfl
 have look : ∀ x,scope.names.lookup x = some .free -> ∃ d,env.cells.lookup x = some d /\ (cellsFrom (L + 1) scope.names (closOf env scope.names [])).lookup x = some d := λ x hx => by
  obtain ⟨d,hd⟩ := hasF x (mem_of_lookup hx)
  refine ⟨d,hd,((cfl x).2 (by rw [hx]; exact λ e => by cases e)).trans ?_⟩
  rw [closOf_lookup _ _ sc.nodup,if_pos hx,hd]; rfl
 have R' : Rep C (mid ++ .fr ⟨c,env,ls⟩ :: Fs) H s' := R.ext hk hg hos
 have fresh : ∀ n,L <= n -> H n = none /\ New0 C n /\ ∀ f ∈ mid ++ .fr ⟨c,env,ls⟩ :: Fs,n ∉ f.reads := λ n hn => R.fresh_ge (by rw [hL]; exact hn)
 have rd : ∀ a ∈ readsE ({ newEnv scope L env.globals (cellsFrom (L + 1) scope.names (closOf env scope.names [])) env.qual none .none (some env) 0 with scope := relabel scope env } : Env),L <= a \/ ∃ y ∈ closOf env scope.names [],y.2 = a := λ a ha => by
  rcases List.mem_cons.mp ha with e | ha
  ·exact .inl (Nat.le_of_eq e.symm)
  ·obtain ⟨y,hy,rfl⟩ := List.mem_map.mp ha
   rcases hcl y hy with h | h
   ·exact .inr ⟨y,h,rfl⟩
   ·exact .inl (Nat.le_of_lt h.1)
 refine R'.push ?_ ?_ ?_ ?_ ?_
 ·refine ⟨sc.kind,F.globals,F.builtins,⟨_,ns,λ x p e k => ?_⟩,λ y hy => ?_,λ x p e k => ?_,λ x k => ?_,cf_apart _ _ _ (λ y hy => Nat.lt_succ_of_lt (clt y hy)) (closOf_apart F.apart _ _ (by simpa using sc.nodup) (λ y hy => by cases hy) hasF List.Pairwise.nil),λ y hy => ?_,λ e => by cases e⟩
  ·exfalso
   have k : (relabel scope env).names.lookup x = some .local := k
   rw [names,relN_lookup] at k
   have := (compLs_lookup e).2
   cases q : scope.names.lookup x with
   | none => rw [q] at k; cases k
   | some k' =>
    rw [q] at k this
    simp only [Option.map_some,Option.some.injEq] at k
    split at k
    ·cases k
    ·subst k; cases this
  ·rcases hcl y hy with h | h
   ·obtain ⟨v,r⟩ := F.cells y (cmem y h)
    exact ⟨v,isCell_at r λ o e => hk _ o e⟩
   ·exact ⟨none,h.2⟩
  ·have k : (relabel scope env).names.lookup x = some .cell \/ (relabel scope env).names.lookup x = some .free := k
   rw [names] at k
   have hx : scope.names.lookup x = some .free := (kx x k).resolve_right λ q => by
    have := (compLs_lookup e).2
    rw [q] at this; cases this
   obtain ⟨d,h1,h2⟩ := look x hx
   have hck := sc.free _ (mem_of_lookup hx) rfl
   rw [<- hn] at hck
   obtain ⟨d',v,e1,r,pr⟩ := F.cellv x p (compLs_lookup e).1 hck
   rw [show env.cells.lookup x = some d from h1] at e1; cases e1
   exact ⟨d,v,h2,isCell_at r (λ o e => hk _ o e),pr.keep tk⟩
  ·have k : (relabel scope env).names.lookup x = some .cell \/ (relabel scope env).names.lookup x = some .free := k
   rw [names] at k
   rcases kx x k with hx | hx
   ·obtain ⟨d,h1,h2⟩ := look x hx
    exact ⟨d,h2⟩
   ·exact ((cfl x).1 hx).imp λ d q => q.1
  ·rcases hcl y hy with h | h
   ·exact Nat.ne_of_lt (clt y h)
   ·exact (Nat.ne_of_lt h.1).symm
 ·intro a ha
  rcases rd a ha with h | ⟨y,hy,rfl⟩
  ·exact (fresh a h).2.1.1
  ·exact (R.frs (.fr ⟨c,env,ls⟩) (by simp)).2 y.2 (List.mem_cons_of_mem _ (List.mem_map.mpr ⟨y,cmem y hy,rfl⟩))
 ·intro a ha
  rcases rd a ha with h | ⟨y,hy,rfl⟩
  ·exact (fresh a h).1
  ·cases q : H y.2 with
   | none => rfl
   | some o => exact absurd (List.mem_cons_of_mem _ (List.mem_map.mpr ⟨y,cmem y hy,rfl⟩)) ((R.objs y.2 o q).2.2 (.fr ⟨c,env,ls⟩) (by simp))
 ·intro a ha g hg
  have : L <= a := by
   rcases List.mem_cons.mp ha with e | ha
   ·exact Nat.le_of_eq e.symm
   ·obtain ⟨y,hy,rfl⟩ := List.mem_map.mp (List.mem_filter.mp ha).1
    exact Nat.le_of_lt (of_decide_eq_true (List.mem_filter.mp hy).2)
  exact (fresh a this).2.2 g hg
 ·intro g hg a ha hb
  rcases rd a hb with h | ⟨y,hy,rfl⟩
  ·refine (fresh a h).2.2 g hg ?_
   cases g with
   | fr f => cases ha
   | gh _ => cases ha
   | hid b o => exact ha
  ·have hyr : y.2 ∈ (AF.fr ⟨c,env,ls⟩).reads := List.mem_cons_of_mem _ (List.mem_map.mpr ⟨y,cmem y hy,rfl⟩)
   cases g with
   | fr f => cases ha
   | gh _ => cases ha
   | hid b o =>
    have hab : y.2 = b := List.mem_singleton.mp ha
    obtain ⟨p1,p2,p3⟩ := List.pairwise_append.mp R.apart
    obtain ⟨q1,q2⟩ := List.pairwise_cons.mp p2
    rcases List.mem_append.mp hg with hg | hg
    ·exact (p3 _ hg _ (.head _)).1 b List.mem_cons_self (hab ▸ hyr)
    ·rcases List.mem_cons.mp hg with e | hg
     ·cases e
     ·exact (q1 _ hg).2 b List.mem_cons_self (hab ▸ hyr)
end
end
section
section
variable {T : Tr} {f : FR} {env : Env} {ls : Ls} {Fs : List AF} {H : AHeap} {E : Value -> Shared -> Prop} {s : Shared} {A : Around}
theorem comp_pop {C : Cx} {cenv : Env} {own : List Addr} {l : Ls} {Gs : List AF} {h' : Heap} (R : Rep C (.fr ⟨.cp own,cenv,l⟩ :: Gs) H s) (sb : Heap.SameBut cenv.locals s.heap h') : Rep C Gs H { s with heap := h' } /\ TupKeep s.heap h' := by
 obtain ⟨a1,a2⟩ := List.pairwise_cons.mp R.apart
 have F : FrOk s.heap ⟨.cp own,cenv,l⟩ := (R.frs _ (.head _)).1
 have tk : TupKeep s.heap h' := TupKeep.of_ext sb.extBut λ o e => by
  obtain ⟨m,⟨o',es,ep,ho',hd,_⟩,_⟩ := F.ns
  rw [ho'] at e; cases e; exact .dict hd
 refine ⟨R.pop.to (s' := { s with heap := h' }) (λ b => b = cenv.locals) (λ b o hb e => (sb.2 b hb).trans e) tk (λ b h => by subst h; exact (R.frs _ (.head _)).2 _ List.mem_cons_self) (λ g hg a ha h => (a1 g hg).1 cenv.locals List.mem_cons_self (h ▸ ha))
  (λ a o e => .inl ⟨e,λ h => (R.objs a o e).2.2 _ (.head _) (by rw [h]; exact List.mem_cons_self)⟩),tk⟩
theorem comp_toHid {C : Cx} {cenv : Env} {own : List Addr} {l : Ls} {Gs : List AF} (R : Rep C (.fr ⟨.cp own,cenv,l⟩ :: Gs) H s) : ∃ o,s.heap.get? cenv.locals = some o /\ (∃ es ep,o.data = .dict es ep /\ ∀ h' : Heap,h'.get? cenv.locals = some o -> ∃ m,h'.Ns cenv.locals m) /\ Rep C (.hid cenv.locals o :: Gs) H s := by
 obtain ⟨a1,a2⟩ := List.pairwise_cons.mp R.apart
 have F : FrOk s.heap ⟨.cp own,cenv,l⟩ := (R.frs _ (.head _)).1
 obtain ⟨m,⟨o,es,ep,ho,hd,r⟩,_⟩ := F.ns
 refine ⟨o,ho,⟨es,ep,hd,λ h' e => ⟨m,o,es,ep,e,hd,r⟩⟩,R.pop.push ⟨ho,.dict hd⟩ (λ a ha => ?_) (λ a ha => ?_) (λ a ha g hg => ?_) λ g hg a ha hb => ?_⟩
 ·rw [List.mem_singleton.mp ha]; exact (R.frs _ (.head _)).2 _ List.mem_cons_self
 ·rw [List.mem_singleton.mp ha]
  cases q : H cenv.locals with
  | none => rfl
  | some o => exact absurd List.mem_cons_self ((R.objs _ o q).2.2 _ (.head _))
 ·rw [List.mem_singleton.mp ha]; exact (a1 g hg).1 _ List.mem_cons_self
 ·rw [List.mem_singleton.mp hb] at ha
  exact (a1 g hg).2 _ ha List.mem_cons_self
theorem hid_none {C : Cx} {Gs : List AF} {a : Addr} {o : Obj} (R : Rep C Gs H s) (hm : AF.hid a o ∈ Gs) : H a = none := by
 cases q : H a with
 | none => rfl
 | some ob => exact absurd List.mem_cons_self ((R.objs a ob q).2.2 _ hm)
noncomputable def CompTurns (T : Tr) (ns : List (Str × NameKind)) (nm : List (Str × NameKind)) (ls : Ls) (target : Expr) (ifs : List Expr) (emit : Value -> Env -> Sem Unit) (I : Nat -> AIt -> List PV -> AHeap -> Prop) (D' : List PV -> AHeap -> Prop) : Prop :=
 ∀ own cenv D post,cenv.scope.names = relN ns nm -> OwnsOk own ns cenv -> LTurns T (.cp own) cenv (compLs ns ls) target ifs emit D post I D'
theorem comp_run {elt target iter : Expr} {ifs : List Expr} {rest : List Comprehension} {scope : Scope} {pos : Pos} {emit : Value -> Env -> Sem Unit} {c : FK} {nm : List (Str × NameKind)} {use : Option (Value -> Sem Unit)} {Q' : Value -> Shared -> Prop} {D' : List PV -> AHeap -> Prop}
  (hh : T.hd = false) (hn : env.scope.names = nm) (sc : ScopeOk scope nm) (hs : ∀ x,foldedSetIterable iter env x = pure x) (sh : CompShape elt (⟨target,iter,ifs,0⟩ :: rest) scope pos 0 target ifs emit)
  (h : AE T ⟨c,env,ls⟩ Fs H iter (λ p H₁ => ∃ x,AIter T (.fr ⟨c,env,ls⟩ :: Fs) H₁ p x /\ ∃ (I : Nat -> AIt -> List PV -> AHeap -> Prop) (n : Nat),I n x [] H₁ /\ CompTurns T scope.names nm ls target ifs emit I D') E)
  (ok : AOk T (.fr ⟨c,env,ls⟩ :: Fs) A) (R : Rep T.C (.fr ⟨c,env,ls⟩ :: Fs) H s)
  (hpost : ∀ D own cenv l s' vs n out H',New0 T.C D -> PRs s'.heap out vs.toList -> Rep T.C (.fr ⟨.cp own,cenv,l⟩ :: .hid D (listObj vs n) :: .fr ⟨c,env,ls⟩ :: Fs) H' s' -> TupKeep s.heap s'.heap -> D' out H' -> compPost T.C.M A E use Q' (.ref D) cenv.locals (.ok .next) s') :
  wpAny T.C.M A (comprehension (.ListComp elt (⟨target,iter,ifs,0⟩ :: rest) scope pos) scope env (firstIterPos (⟨target,iter,ifs,0⟩ :: rest) pos) (newList []) false (firstIter (⟨target,iter,ifs,0⟩ :: rest) env) use) Q' E s := by
 have F : FrOk s.heap ⟨c,env,ls⟩ := (R.frs _ (.head _)).1
 have hasF : ∀ n,(n,NameKind.free) ∈ scope.names -> ∃ d,env.cells.lookup n = some d := λ n hm => by
  have := sc.free _ hm rfl
  rw [<- hn] at this
  exact F.has n this
 refine wpAny_comprehension_free (g := ⟨target,iter,ifs,0⟩) rfl hs (closureFor_eq hasF) sc.kind (λ x hx e => ?_) ?_
 ·obtain ⟨n,k⟩ := x
  have e : k = .local := e
  subst e
  exact lookup_of_mem sc.nodup hx
 show wpAny _ _ (eval iter env) _ _ _
 refine wpAny_mono (h A s ok R) (λ v s₁ pp => pp.elim λ p H₁ pr R₁ k₁ h => ?_) λ _ _ e => e
 obtain ⟨x,hx,I,n,hI,turn⟩ := h
 refine hx A s₁ v _ _ ok R₁ pr λ it o s₂ hi R₂ k₂ => ?_
 refine wpAny_newObj_type ?_ (by show (#[] : Array Value).size <= sizeLine; decide)
 have R₃ : Rep T.C (.hid it o :: .hid s₂.heap.objs.size (listObj #[] 0) :: .fr ⟨c,env,ls⟩ :: Fs) H₁ { s₂ with heap := s₂.heap.push (listObj #[] 0) } :=
  (R₂.hide push_keep (Nat.le_refl _) (Heap.get?_push_size _ rfl) listObj_nt).swap
 have hD0 : New0 T.C s₂.heap.objs.size := (R₂.fresh_ge (Nat.le_refl _)).2.1
 have k₃ : TupKeep s₂.heap (s₂.heap.push (listObj #[] 0)) := TupKeep.of_keep push_keep
 generalize s₂.heap.objs.size = D at R₃ hD0 ⊢
 refine wpAny_compEnv λ h₁ hns₁ keep4 hcl => ?_
 generalize hH2 : s₂.heap.push (listObj #[] 0) = H2 at R₃ k₃ hns₁ keep4 hcl ⊢
 obtain ⟨cenv,own,hce,hcn,hco,R₄⟩ := comp_frame (C := T.C) (s := { s₂ with heap := H2 }) (s' := { s₂ with heap := h₁ }) (mid := [.hid it o,.hid D (listObj #[] 0)]) hn sc R₃ (by intro g hg; simp at hg; rcases hg with rfl | rfl <;> exact ⟨_,_,rfl⟩) rfl hns₁ keep4 rfl rfl hcl
 have k₄ : TupKeep H2 h₁ := TupKeep.of_keep keep4
 have okc : AOk T (.fr ⟨.cp own,cenv,compLs scope.names ls⟩ :: (.hid it o :: ([] ++ .hid D (listObj #[] 0) :: .fr ⟨c,env,ls⟩ :: Fs))) A := ok.same (by cases c <;> rfl) λ x hx _ => .tail _ (.tail _ hx)
 have hce' : ({ newEnv scope H2.objs.size env.globals (cellsFrom (H2.objs.size + 1) scope.names (closOf env scope.names [])) env.qual none .none (some env) 0 with scope := relabel scope env } : Env) = cenv := hce.symm
 show codeAny T.C.M A (.compStart _ 0 (.ref it) (.ref D) { newEnv scope H2.objs.size env.globals (cellsFrom (H2.objs.size + 1) scope.names (closOf env scope.names [])) env.qual none .none (some env) 0 with scope := relabel scope env }) (compPost T.C.M A E use Q' (.ref D) H2.objs.size) _
 have hloc : H2.objs.size = cenv.locals := by rw [hce]; rfl
 rw [hce',hloc]
 refine comp_start (pre := [.fr ⟨.cp own,cenv,compLs scope.names ls⟩]) sh hi R₄ ?_
 refine comp_loop (T := T) (mid := []) (post := .fr ⟨c,env,ls⟩ :: Fs) sh I n hI D' (turn own cenv D _ hcn hco) hi okc ⟨#[],0,PRs.nil,R₄⟩ λ s₅ out H' S k₅ hD' => ?_
 obtain ⟨vs,m,prs,R₅⟩ := S
 exact hpost D own cenv _ s₅ vs m out H' hD0 prs R₅ (k₁.trans (k₂.trans (k₃.trans (k₄.trans k₅)))) hD'
theorem AE.comp {elt target iter : Expr} {ifs : List Expr} {rest : List Comprehension} {scope : Scope} {pos : Pos} {emit : Value -> Env -> Sem Unit} {c : FK} {nm : List (Str × NameKind)} {Q : PV -> AHeap -> Prop}
  (hh : T.hd = false) (hn : env.scope.names = nm) (sc : ScopeOk scope nm) (hs : ∀ x,foldedSetIterable iter env x = pure x) (sh : CompShape elt (⟨target,iter,ifs,0⟩ :: rest) scope pos 0 target ifs emit)
  (h : AE T ⟨c,env,ls⟩ Fs H iter (λ p H₁ => ∃ x,AIter T (.fr ⟨c,env,ls⟩ :: Fs) H₁ p x /\ ∃ (I : Nat -> AIt -> List PV -> AHeap -> Prop) (n : Nat),I n x [] H₁ /\ CompTurns T scope.names nm ls target ifs emit I (λ out H' => ∀ a,H' a = Option.none -> Q (.ref a) (upd H' a (.list out)))) E) :
  AE T ⟨c,env,ls⟩ Fs H (.ListComp elt (⟨target,iter,ifs,0⟩ :: rest) scope pos) Q E := λ A s ok R => by
 rw [eval_ListComp]
 refine comp_run (use := Option.none) hh hn sc hs sh h ok R λ D own cenv l s' vs n out H' hD0 prs R' k hQ => ?_
 have F : FrOk s'.heap ⟨.cp own,cenv,l⟩ := (R'.frs _ (.head _)).1
 obtain ⟨m,hm,_⟩ := F.ns
 refine ⟨m,hm,λ h' sb => ?_⟩
 obtain ⟨R₁,k₁⟩ := comp_pop R' sb
 have hd : h'.get? D = some (listObj vs n) := (R₁.frs (.hid D _) (.head _)).1.1
 have St : Stands T.C h' D (.list out) := ⟨vs,n,hd,PRs.keep k₁ _ prs⟩
 exact ⟨.ref D,_,PR.ref,Rep.showObj (pre := []) R₁ hD0 St,k.trans k₁,hQ D (hid_none R₁ (.head _))⟩
theorem AS.assignComp {elt target iter : Expr} {ifs : List Expr} {rest : List Comprehension} {scope : Scope} {pos p' pos' : Pos} {t : Str} {emit : Value -> Env -> Sem Unit} {nm : List (Str × NameKind)} {Q : AFl -> Ls -> AHeap -> Prop}
  (hh : T.hd = false) (hn : env.scope.names = nm) (hk : isOwn (nm.lookup t) = true) (sc : ScopeOk scope nm) (hs : ∀ x,foldedSetIterable iter env x = pure x) (sh : CompShape elt (⟨target,iter,ifs,0⟩ :: rest) scope pos 0 target ifs emit)
  (hsw : swapsWith (.ListComp elt (⟨target,iter,ifs,0⟩ :: rest) scope pos) (some (.Name t p')) pos'.line env = pure true)
  (h : AE T ⟨.fn,env,ls⟩ Fs H iter (λ p H₁ => ∃ x,AIter T (.fr ⟨.fn,env,ls⟩ :: Fs) H₁ p x /\ ∃ (I : Nat -> AIt -> List PV -> AHeap -> Prop) (n : Nat),I n x [] H₁ /\ CompTurns T scope.names nm ls target ifs emit I (λ out H' => ∀ a,H' a = Option.none -> Q .next ((t,.ref a) :: ls) (upd H' a (.list out)))) E) :
  AS T env Fs ls H (.Assign [.Name t p'] (.ListComp elt (⟨target,iter,ifs,0⟩ :: rest) scope pos) pos') Q E := λ A s ok R => by
 rw [arm_exec_Assign]
 rw [show swapsWithSole [.Name t p'] (.ListComp elt (⟨target,iter,ifs,0⟩ :: rest) scope pos) pos'.line env = pure true from hsw]
 refine wpAny_bind (wpAny_standAt (wpAny_bind (wpAny_pure ?_)))
 rw [if_pos rfl]
 rw [arm_evalThenUse_ListComp]
 refine wpAny_bind ?_
 show wpAny T.C.M A (comprehension (.ListComp elt (⟨target,iter,ifs,0⟩ :: rest) scope pos) scope env (firstIterPos (⟨target,iter,ifs,0⟩ :: rest) pos) (newList []) false (firstIter (⟨target,iter,ifs,0⟩ :: rest) env) (some λ v => assignAll v [assign (.Name t p') env]) >>= λ _ => pure ()) _ _ _
 refine wpAny_bind ?_
 refine comp_run hh hn sc hs sh h ok R λ D own cenv l s' vs n out H' hD0 prs R' k hQ => ?_
 show wpAny T.C.M A (assign (.Name t p') env (.ref D)) _ _ _
 obtain ⟨oL,hoL,⟨es,ep,hdL,hns⟩,R₁⟩ := comp_toHid R'
 have hd : s'.heap.get? D = some (listObj vs n) := (R₁.frs (.hid D _) (by simp)).1.1
 have St : Stands T.C s'.heap D (.list out) := ⟨vs,n,hd,prs⟩
 have hDn := hid_none R₁ (a := D) (o := listObj vs n) (by simp)
 have R₂ := (Rep.showObj (pre := [.hid cenv.locals oL]) R₁ hD0 St).swap
 refine wpAny_assign_Name (store_name R₂ (isOwn_cases hn hk) PR.ref λ s₃ R₃ k₃ => ?_)
 obtain ⟨m,hm⟩ := hns s₃.heap (R₃.frs (.hid cenv.locals oL) (by simp)).1.1
 refine ⟨m,hm,λ h' sb => ?_⟩
 obtain ⟨R₄,k₄⟩ := Rep.unhide (pre := [.fr ⟨.fn,env,(t,.ref D) :: ls⟩]) (s' := { s₃ with heap := h' }) R₃ sb.extBut
 exact wpAny_pure (wpAny_pure ⟨.next,_,_,trivial,R₄,k.trans (k₃.trans k₄),hQ D hDn⟩)
end
end
section
noncomputable def Hides (C : Cx) (B : Heap) (s₁ : Shared) (Fs : List AF) (H : AHeap) : Prop :=
 ∃ ds : List Addr,(∀ b o,b ∉ ds -> s₁.heap.get? b = some o -> B.get? b = some o) /\ ∀ d ∈ ds,H d = none /\ C.h₀.get? d = none /\ (∀ o,s₁.heap.get? d = some o -> ∃ es ep,o.data = .dict es ep) /\ ∀ f ∈ Fs,d ∉ f.hids
section
variable {C : Cx} {env : Env} {ls : Ls} {Fs : List AF} {H : AHeap} {E : Value -> Shared -> Prop} {s s₁ : Shared} {A : Around} {B : Heap}
theorem Rep.back (R : Rep C Fs H s₁) (hi : Hides C B s₁ Fs H) (st : B.StaysIn s.heap) (sl : s₁.heap.UpToSlots s.heap) (hg : s.gens = s₁.gens) (hos : s.os = s₁.os) : Rep C Fs H s /\ TupKeep s₁.heap s.heap := by
 obtain ⟨ds,h1,h2⟩ := hi
 have ex : ∀ b o,b ∉ ds -> s₁.heap.get? b = some o -> s.heap.get? b = some o := λ b o hb e => st b o (h1 b o hb e)
 have tk : TupKeep s₁.heap s.heap := λ b o e c ⟨vs,n,d⟩ => ex b o (λ hb => by obtain ⟨es,ep,q⟩ := (h2 b hb).2.2.1 o e; rw [d] at q; cases q) e
 refine ⟨⟨R.ok,λ b o e => ex b o (λ hb => by rw [(h2 b hb).2.1] at e; cases e) (R.keep b o e),hg.trans R.gens,hos.trans R.os,λ f hf => ⟨?_,(R.frs f hf).2⟩,R.apart,λ a o e => ?_⟩,tk⟩
 ·have F := (R.frs f hf).1
  cases f with
  | fr f =>
   have F : FrOk s₁.heap f := F
   obtain ⟨m,hm,hv⟩ := F.ns
   have kc : ∀ y ∈ f.env.cells,∀ o,s₁.heap.get? y.2 = some o -> s.heap.get? y.2 = some o := λ y hy o e => by
    obtain ⟨v,o',ho',hd'⟩ := F.cells y hy
    refine ex _ _ (λ hb => ?_) e
    obtain ⟨es,ep,q⟩ := (h2 _ hb).2.2.1 o' ho'
    rw [hd'] at q; cases q
   exact ⟨F.kind,F.globals,F.builtins,⟨m,sl.ns hm,λ y p a b => let ⟨v,e,r⟩ := hv y p a b; ⟨v,e,r.keep tk⟩⟩,λ y e => let ⟨v,r⟩ := F.cells y e; ⟨v,isCell_at r (kc y e)⟩,
    λ y p a b => let ⟨c,v,e,r,q⟩ := F.cellv y p a b; ⟨c,v,e,isCell_at r (kc (y,c) (mem_of_lookup e)),q.keep tk⟩,F.has,F.apart,F.locals,F.frame⟩
  | hid a o => exact ⟨ex a o (λ hb => (h2 a hb).2.2.2 _ hf List.mem_cons_self) F.1,F.2⟩
  | gh g => exact TupKeep.trans F tk
 ·obtain ⟨x,y,z⟩ := R.objs a o e
  exact ⟨Stands.keep tk (λ ob eo => ex a ob (λ hb => by rw [(h2 a hb).1] at e; cases e) eo) o x,y,z⟩
theorem Hides.pop {f : AF} (hi : Hides C B s₁ (f :: Fs) H) : Hides C B s₁ Fs H := let ⟨ds,h1,h2⟩ := hi; ⟨ds,h1,λ d hd => let ⟨a,b,c,e⟩ := h2 d hd; ⟨a,b,c,λ g hg => e g (.tail _ hg)⟩⟩
theorem hids_owns {f : AF} {a : Addr} (h : a ∈ f.hids) : a ∈ f.owns := by
 cases f with
 | fr f => cases h
 | hid b o => exact h
 | gh g => cases h
theorem apart_hids {fr : FR} {Fs : List AF} (hp : Fs.Pairwise Apart) (hf : .fr fr ∈ Fs) : ∀ g ∈ Fs,fr.env.locals ∉ g.hids := by
 induction Fs with
 | nil => cases hf
 | cons x l ih =>
  intro g hg
  obtain ⟨h1,h2⟩ := List.pairwise_cons.mp hp
  have hr : fr.env.locals ∈ (AF.fr fr).reads := List.mem_cons_self
  refine (List.mem_cons.mp hf).elim (λ e => ?_) λ hf' => (List.mem_cons.mp hg).elim (λ e h => ?_) (ih h2 hf' g)
  ·subst e
   refine (List.mem_cons.mp hg).elim (λ e h => ?_) λ hg' h => (h1 g hg').2 _ h hr
   subst e; cases h
  ·subst e; exact (h1 _ hf').1 _ (hids_owns h) hr
theorem envsOf_mem {env : Env} : ∀ {Fs : List AF},env ∈ envsOf Fs -> ∃ ls,.fr ⟨.fn,env,ls⟩ ∈ Fs := by
 intro Fs
 induction Fs with
 | nil => intro h; cases h
 | cons f r ih =>
  intro h
  have tail : env ∈ envsOf r -> ∃ ls,AF.fr ⟨.fn,env,ls⟩ ∈ f :: r := λ h => let ⟨ls,q⟩ := ih h; ⟨ls,.tail _ q⟩
  cases f with
  | fr f =>
   obtain ⟨c,e,ls⟩ := f
   cases c with
   | fn =>
    rcases List.mem_cons.mp h with rfl | h
    ·exact ⟨ls,.head _⟩
    ·exact tail h
   | cp cs => exact tail h
  | hid a o => exact tail h
  | gh g => exact tail h
theorem funFrames_of {h : Heap} {l : List Env} (x : ∀ env ∈ l,env.scope.kind = .function /\ env.frame = some env.locals /\ (∃ m,h.Ns env.locals m) /\ B.get? env.locals = none) : h.FunFrames B l := by
 induction l with
 | nil => trivial
 | cons env l ih =>
  obtain ⟨k,f,⟨m,o,es,ep,ho,hd,_⟩,hb⟩ := x env (.head _)
  exact ⟨(by rw [k]; intro q; cases q),⟨env.locals,o,f,hb,ho,λ vs q => by rw [hd] at q; cases q⟩,ih λ e he => x e (.tail _ he)⟩
noncomputable def Fly (C : Cx) (Fs : List AF) (X : String) (Q : AHeap -> Prop) (e : Value) (s : Shared) : Prop :=
 ∃ a H s₁ B a0,e = .ref a /\ Rep C Fs H s₁ /\ s.gens = s₁.gens /\ s.os = s₁.os /\ Q H /\ Heap.FlyingW B (envsOf Fs) a (.type X) a0 s.heap /\ (Hides C B s₁ Fs H /\ s₁.heap.UpToSlots s.heap) /\ C2 s.heap a
noncomputable def Err (C : Cx) (env : Env) (Fs : List AF) (X : String) (Q : Ls -> AHeap -> Prop) (e : Value) (s : Shared) : Prop :=
 (∃ a ls H s₁,e = .ref a /\ Rep C (.fr ⟨.fn,env,ls⟩ :: Fs) H s₁ /\ s.gens = s₁.gens /\ s.os = s₁.os /\ Q ls H /\ Heap.NewExc s₁.heap s.heap a X) \/
 ∃ ls,Fly C (.fr ⟨.fn,env,ls⟩ :: Fs) X (Q ls) e s
theorem Fly.mono {X : String} {Q Q' : AHeap -> Prop} {e : Value} (h : Fly C Fs X Q e s) (hq : ∀ H,Q H -> Q' H) : Fly C Fs X Q' e s := by
 obtain ⟨a,H,s₁,B,a0,x1,x2,x3,x4,x5,x6⟩ := h
 exact ⟨a,H,s₁,B,a0,x1,x2,x3,x4,hq H x5,x6⟩
theorem Err.of_fly {X : String} {Q : Ls -> AHeap -> Prop} {Q' : AHeap -> Prop} {e : Value} (h : Fly C (.fr ⟨.fn,env,ls⟩ :: Fs) X Q' e s) (hq : ∀ H,Q' H -> Q ls H) : Err C env Fs X Q e s := .inr ⟨ls,h.mono hq⟩
theorem leave_err {M : Model} {X : String} {Q : Ls -> AHeap -> Prop} {e : Value} {R : Unit -> Shared -> Prop} (hA : A.frames = some (env :: envsOf Fs)) (h : Err C env Fs X Q e s) (k : ∀ s',Fly C Fs X (λ H => ∃ ls,Q ls H) e s' -> R () s') : wpAny M A (leaving env e) R E s := by
 rcases h with ⟨a,ls,H,s₁,rfl,R₁,hg,hos,hQ,hx⟩ | ⟨ls,a,H,s₁,B,a0,rfl,R₁,hg,hos,hQ,hfl,⟨hi,sl⟩,hc2⟩
 ·let ds := (env :: envsOf Fs).filterMap (·.frame)
  have mem : ∀ e' ∈ env :: envsOf Fs,e'.scope.kind = .function /\ e'.frame = some e'.locals /\ (∃ m,s₁.heap.Ns e'.locals m) /\ (hideAll s₁.heap ds).get? e'.locals = none := λ e' he => by
   obtain ⟨ls',hm⟩ := envsOf_mem (Fs := .fr ⟨.fn,env,ls⟩ :: Fs) he
   have F : FrOk s₁.heap ⟨.fn,e',ls'⟩ := (R₁.frs _ hm).1
   obtain ⟨m,hm',_⟩ := F.ns
   exact ⟨F.kind,F.frame rfl,⟨m,hm'⟩,hideAll_none _ (List.mem_filterMap.mpr ⟨e',he,F.frame rfl⟩)⟩
  have st : (hideAll s₁.heap ds).StaysIn s₁.heap := λ b o q => of_hideAll _ q
  obtain ⟨ob,t,he,hc,hd⟩ := hx.there
  have hne : (hideAll s₁.heap ds).get? a = none := by
   cases q : (hideAll s₁.heap ds).get? a with
   | none => rfl
   | some o => have := st a o q; rw [hx.new] at this; cases this
  have ff : s.heap.FunFrames (hideAll s₁.heap ds) (env :: envsOf Fs) := funFrames_of λ e' he' => let ⟨x1,x2,⟨m,x3⟩,x4⟩ := mem e' he'; ⟨x1,x2,⟨m,ns_at x3 λ o q => hx.keeps _ _ q⟩,x4⟩
  have hi : Hides C (hideAll s₁.heap ds) s₁ Fs H := ⟨ds,λ b o hb q => hideAll_get _ q hb,λ d hdm => by
   obtain ⟨e',he',hf'⟩ := List.mem_filterMap.mp hdm
   obtain ⟨ls',hm⟩ := envsOf_mem (Fs := .fr ⟨.fn,env,ls⟩ :: Fs) he'
   obtain ⟨_,x2,⟨m,o,es,ep,ho,hd',_⟩,_⟩ := mem e' he'
   obtain rfl : e'.locals = d := by rw [x2] at hf'; exact Option.some.inj hf'
   have hr : e'.locals ∈ (AF.fr ⟨.fn,e',ls'⟩).reads := List.mem_cons_self
   refine ⟨?_,(R₁.frs _ hm).2 _ hr,λ o' q => ?_,λ g hg => apart_hids R₁.apart hm g (.tail _ hg)⟩
   ·cases q : H e'.locals with
    | none => rfl
    | some o => exact absurd hr ((R₁.objs _ _ q).2.2 _ hm)
   ·rw [ho] at q; cases q; exact ⟨es,ep,hd'⟩⟩
  refine wpAny_mono ((K2.leaving (.ref a) env).keep (e := a) (wpAny_leaving_firstW (Q := λ _ s' => ∃ h',s' = { s with heap := h' } /\ Heap.LeftW (hideAll s₁.heap ds) (env :: envsOf Fs) a ob.cls t s.heap h') (a0 := t) hA ff (mem env (.head _)).2.1 he (λ b o q => hx.keeps b o (st b o q)) hne hd rfl rfl λ h' hL => ⟨h',rfl,hL⟩) ⟨ob,he,_,hd,rfl⟩) (λ _ s' hh => ?_) λ _ _ x => x.1
  obtain ⟨⟨h',rfl,k1,⟨_,_,k2⟩,k3,k4⟩,hc2⟩ := hh
  rw [hc] at k3
  exact k _ ⟨a,H,s₁,_,t,rfl,R₁.pop,hg,hos,⟨ls,hQ⟩,⟨k1,hne,k2,k3⟩,⟨hi,(Heap.UpToSlots.of_keeps hx.keeps).trans k4⟩,hc2⟩
 ·have F : FrOk s₁.heap ⟨.fn,env,ls⟩ := (R₁.frs _ (.head _)).1
  refine wpAny_mono ((K2.leaving (.ref a) env).keep (wpAny_leaves_onW (Q := λ _ s' => ∃ h',s' = { s with heap := h' } /\ Heap.FlyingW B (envsOf Fs) a (.type X) a0 h' /\ s.heap.UpToSlots h') hA (F.frame rfl) hfl λ h' x1 x2 => ⟨h',rfl,x1,x2⟩) hc2) (λ _ s' hh => ?_) λ _ _ x => x.1
  obtain ⟨⟨h',rfl,x1,x2⟩,c2⟩ := hh
  exact k _ ⟨a,H,s₁,B,a0,rfl,R₁.pop,hg,hos,⟨ls,hQ⟩,x1,⟨hi.pop,sl.trans x2⟩,c2⟩
end
section
variable {T : Tr} {f : FR} {env : Env} {ls : Ls} {Fs : List AF} {H : AHeap} {E : Value -> Shared -> Prop} {s : Shared} {A : Around}
theorem ACode.fnE {fd : FuncData} {g : Addr} {nms : List Str} {body : List Stmt} {ps : List PV} {Q : PV -> AHeap -> Prop} {X : String} {QE : Ls -> AHeap -> Prop} (D : DefAt T.C.K g fd nms body) (hlen : ps.length = nms.length) (hn : 1 <= T.n)
  (hE : ∀ e s,Fly T.C Fs X (λ H => ∃ ls,QE ls H) e s -> E e s)
  (h : ∀ env,env.scope = fd.scope -> AX T.down env Fs (nms.zip ps) H body (RetQ Q) (Err T.C env Fs X QE)) : ACode T Fs H (.ref g) ps Q E := λ A s v vs ok R pv prs => by
 rw [pv.ref_inv]
 refine call_entry D hlen hn ok R prs λ env s₁ he ok₁ R₁ tk => ?_
 refine wpAny_mono (h env he _ s₁ ok₁ R₁) (λ fl s' hh => hh.elim λ a ls' H' fr R' k' hq => ?_) λ e s' x => ?_
 ·rcases a with _ | _ | _ | p <;> cases fl <;> first | exact fr.elim | exact hq.elim | skip
  ·exact ⟨.none,H',PR.none,R'.pop,tk.trans k',hq⟩
  ·exact ⟨p,H',fr,R'.pop,tk.trans k',hq⟩
 ·exact leave_err ok₁.frames x λ s'' y => hE _ _ y
theorem AS.raiseName {x : Str} {np pos : Pos} {X N I : String} {nm : List (Str × NameKind)} {Q : AFl -> Ls -> AHeap -> Prop} {QE : Ls -> AHeap -> Prop} (hh : T.hd = false) (hc : ExcClass X N I) (hself : isSubtype (.type X) (.type X) = pure true)
  (hmiss : T.C.mg x = Option.none) (hn : env.scope.names = nm) (hk : nm.lookup x = some .globalImplicit) (hv : bootBuiltins x = some (.type X)) (h : QE ls H)
  (hnn : x ≠ "__name__" := by decide +kernel) (hd : (x == ("__debug__" : Str)) = false := by decide) : AS T env Fs ls H (.Raise (some (.Name x np)) Option.none pos) Q (Err T.C env Fs X QE) := λ A s ok R => by
 refine Raise_classB (ok.handled hh) hc hself (load_builtin (f := ⟨.fn,env,ls⟩) R (by rw [show env.kindOf x = env.scope.names.lookup x from rfl,hn]; exact hk) hv hmiss hnn ⟨rfl,rfl⟩ hd) λ h' e hx => ?_
 exact .inl ⟨e,ls,H,s,rfl,R,rfl,rfl,h,hx⟩
theorem excFresh {C : Cx} {B : Heap} {s₁ : Shared} {l : List Env} {a : Addr} {cls a0 : Value} {h : Heap} (R : Rep C Fs H s₁) (hfl : Heap.FlyingW B l a cls a0 h) (hi : Hides C B s₁ Fs H) (sl : s₁.heap.UpToSlots h) : s₁.heap.get? a = none := by
 cases e : s₁.heap.get? a with
 | none => rfl
 | some o =>
  exfalso
  obtain ⟨ds,h1,h2⟩ := hi
  obtain ⟨-,hB,-,oe,vs,-,-,-,he,-,hd,-⟩ := hfl
  by_cases q : a ∈ ds
  ·obtain ⟨es,ep,hdo⟩ := (h2 a q).2.2.1 o e
   obtain ⟨sl',hs⟩ := sl a o e λ vs w => by rw [hdo] at w; cases w
   rw [he] at hs; cases hs
   have hd : o.data = .fields vs := hd
   rw [hdo] at hd; cases hd
  ·rw [h1 a o q e] at hB; cases hB
theorem Rep.exc {C : Cx} {s₀ s₄ : Shared} {a : Addr} {oe : Obj} (R : Rep C Fs H s₄) (R₀ : Rep C Fs H s₀) (hn : s₀.heap.get? a = none) (ho : s₄.heap.get? a = some oe) (hc : Ctx2 oe) : Rep C (.hid a oe :: Fs) H s₄ := by
 have nt : NotTup oe := λ _ ⟨vs,n,e⟩ => by obtain ⟨ws,hd,_⟩ := hc; rw [hd] at e; cases e
 have nr : ∀ g ∈ Fs,a ∉ g.reads := λ g hg h => by
  obtain ⟨o,e,_⟩ := (R₀.frs g hg).1.there a h
  rw [hn] at e; cases e
 refine R.push ⟨ho,nt⟩ (λ b hb => ?_) (λ b hb => ?_) (λ b hb g hg => ?_) λ g hg b hb hb' => ?_
 ·rw [List.mem_singleton.mp hb]
  cases e : C.h₀.get? a with
  | none => rfl
  | some o => have := R₀.keep a o e; rw [hn] at this; cases this
 ·rw [List.mem_singleton.mp hb]
  cases e : H a with
  | none => rfl
  | some o => obtain ⟨ob,h,_⟩ := (R₀.objs a o e).1.there; rw [hn] at h; cases h
 ·rw [List.mem_singleton.mp hb]; exact nr g hg
 ·rw [List.mem_singleton.mp hb'] at hb
  refine nr g hg ?_
  cases g with
  | fr f => cases hb
  | hid c o => exact hb
  | gh _ => cases hb
noncomputable def Tr.inH (T : Tr) : Tr := { T with hd := true }
theorem AS.try_ {body suite : List Stmt} {b₀ : Stmt} {x : Str} {np hp pos : Pos} {X Y : String} {nm : List (Str × NameKind)} {Q : AFl -> Ls -> AHeap -> Prop} {QE : Ls -> AHeap -> Prop}
  (hmiss : T.C.mg x = Option.none) (hn : env.scope.names = nm) (hk : nm.lookup x = some .globalImplicit) (hv : bootBuiltins x = some (.type Y))
  (hexc : isSubtype (.type Y) (.type "BaseException") = pure true) (hnt : isSubtype (.type ((Manifest.find? Y).elim "type" λ y => y.metatype)) (.type "tuple") = pure false) (hsub : isSubtype (.type X) (.type Y) = pure true)
  (h : ∀ g,AX T env (.gh g :: Fs) ls H body Q (λ e s => ∃ ls',Fly T.C (.fr ⟨.fn,env,ls'⟩ :: .gh g :: Fs) X (QE ls') e s))
  (hs : ∀ Fs' ls' H',QE ls' H' -> AX T.inH env Fs' ls' H' (b₀ :: suite) Q NoE)
  (hnn : x ≠ "__name__" := by decide +kernel) (hd : (x == ("__debug__" : Str)) = false := by decide) :
  AS T env Fs ls H (.Try body [.ExceptHandler (some (.Name x np)) Option.none (b₀ :: suite) hp] [] [] pos) Q E := λ A s ok R => by
 have R' : Rep T.C (.fr ⟨.fn,env,ls⟩ :: .gh s.heap :: Fs) H s := by
  obtain ⟨a1,a2⟩ := List.pairwise_cons.mp R.apart
  refine ⟨R.ok,R.keep,R.gens,R.os,λ g hg => ?_,List.pairwise_cons.mpr ⟨λ g hg => ?_,List.pairwise_cons.mpr ⟨λ g hg => ⟨λ a ha => (by cases ha),λ a ha h => (by cases h)⟩,a2⟩⟩,λ a o e => ?_⟩
  ·rcases List.mem_cons.mp hg with rfl | hg
   ·exact R.frs _ (.head _)
   ·rcases List.mem_cons.mp hg with rfl | hg
    ·exact ⟨TupKeep.refl _,λ a ha => by cases ha⟩
    ·exact R.frs _ (.tail _ hg)
  ·rcases List.mem_cons.mp hg with rfl | hg
   ·exact ⟨λ a ha h => (by cases h),λ a ha => (by cases ha)⟩
   ·exact a1 g hg
  ·obtain ⟨x,y,z⟩ := R.objs a o e
   refine ⟨x,y,λ g hg => ?_⟩
   rcases List.mem_cons.mp hg with rfl | hg
   ·exact z _ (.head _)
   ·rcases List.mem_cons.mp hg with rfl | hg
    ·intro h; cases h
    ·exact z _ (.tail _ hg)
 have ok' : ∀ {ls'},AOk T (.fr ⟨.fn,env,ls'⟩ :: .gh s.heap :: Fs) A := ⟨ok.frames,ok.depth,ok.units,ok.handled,ok.ctx⟩
 refine wpAny_Try_except (wpAny_mono (h s.heap A s ok' R') (λ fl s₁ hh => hh.elim λ a ls₁ H₁ fr R₁ k₁ h₁ => ?_) λ e s₁ hx => ?_)
 ·cases a <;> cases fl <;> first | exact fr.elim | skip
  ·exact wpAny_execs_nil ⟨.next,ls₁,H₁,fr,R₁.pop2,k₁,h₁⟩
  all_goals exact ⟨_,ls₁,H₁,fr,R₁.pop2,k₁,h₁⟩
 ·obtain ⟨ls',a,H',s₀,B,a0,rfl,R₀,hg,hos,hQ,hfl,⟨hi,sl⟩,hc2⟩ := hx
  have F : FrOk s₀.heap ⟨.fn,env,ls'⟩ := (R₀.frs _ (.head _)).1
  refine wpAny_mono ((K2.note (.ref a) env).keep (wpAny_looks_onW (Q := λ _ s' => ∃ h',s' = { s₁ with heap := h' } /\ Heap.HeldW B (env :: envsOf Fs) a (.type X) a0 env.locals h' /\ s₁.heap.UpToSlots h') ok.frames (F.frame rfl) hfl λ h' x1 x2 => ⟨h',rfl,x1,x2⟩) hc2) (λ _ s₂ hh => ?_) λ _ _ x => x.1
  obtain ⟨⟨h₂,rfl,f₂,u₂⟩,c₂⟩ := hh
  refine wpAny_mono ((K2.setFlight (.ref a) none).keep (wpAny_landsW (Q := λ _ s' => ∃ h',s' = { s₁ with heap := h' } /\ Heap.FlyingW B (env :: envsOf Fs) a (.type X) a0 h' /\ h₂.UpToSlots h') f₂ λ h' x1 x2 => ⟨h',rfl,x1,x2⟩) c₂) (λ _ s₃ hh => ?_) λ _ _ x => x.1
  obtain ⟨⟨h₃,rfl,f₃,u₃⟩,c₃⟩ := hh
  have R₃ := (R₀.back (s := { s₁ with heap := h₃ }) hi f₃.1 (sl.trans (u₂.trans u₃)) hg hos).1
  obtain ⟨ob,hob,hobc⟩ := f₃.there
  refine wpAny_handleBy_builtin (X := X) (T := Y) (b := true) hexc hnt hsub (load_builtin (f := ⟨.fn,env,ls'⟩) R₃ (by rw [show env.kindOf x = env.scope.names.lookup x from rfl,hn]; exact hk) hv hmiss hnn ⟨rfl,⟨ob,hob,hobc⟩,?_⟩ hd)
  rw [if_pos rfl]
  refine wpAny_mono ((K2.setFlight (.ref a) none).keep (lands_againW (Q := λ _ s' => ∃ h',s' = { s₁ with heap := h' } /\ Heap.FlyingW B (env :: envsOf Fs) a (.type X) a0 h' /\ h₃.UpToSlots h') f₃ λ h' x1 x2 => ⟨h',rfl,x1,x2⟩) c₃) (λ _ s₄ hh => ?_) λ _ _ x => x.1
  obtain ⟨⟨h₄,rfl,f₄,u₄⟩,c₄⟩ := hh
  obtain ⟨R₄,k₄⟩ := R₀.back (s := { s₁ with heap := h₄ }) hi f₄.1 (sl.trans (u₂.trans (u₃.trans u₄))) hg hos
  have kk : TupKeep s.heap h₄ := (R₄.frs (.gh s.heap) (.tail _ (.head _))).1
  obtain ⟨oe,hoe,hce⟩ := c₄
  have R₅ : Rep T.C (.fr ⟨.fn,env,ls'⟩ :: .hid a oe :: Fs) H' { s₁ with heap := h₄ } := (R₄.exc R₀ (excFresh R₀ hfl hi sl) hoe hce).swap.sub (.cons_cons _ (.cons_cons _ (List.sublist_cons_self _ _)))
  refine wpAny_mono (hs (.hid a oe :: Fs) ls' H' hQ (A.mark (some (.ref a))) _ ⟨ok.frames,ok.depth,ok.units,λ h => (nomatch h),λ v e => ⟨a,oe,(by cases e; rfl),.head _,hce⟩⟩ R₅) (λ fl s₅ hh => hh.elim λ a ls₅ H₅ fr R₅ k₅ h₅ => ⟨a,ls₅,H₅,fr,R₅.pop2,kk.trans k₅,h₅⟩) λ _ _ x => x.elim
end
end
section
section
theorem turn2a (elt t1 i1 t2 i2 : Expr) (f1 f2 : List Expr) (scope : Scope) (pos : Pos) (it acc : Value) (env : Env) : compTurn (.ListComp elt [⟨t1,i1,f1,0⟩,⟨t2,i2,f2,0⟩] scope pos) 0 it acc env = (standAt i1.pos >>= λ _ => pyNext it >>= λ r => match r with
  | none => pure (.done .next)
  | some v => letOwnedTupleGo t1 it v >>= λ _ => assign t1 env v >>= λ _ => testLoop f1 env >>= λ ok =>
   (if ok = true then (eval i2 env >>= λ x => standAt i2.pos >>= λ _ => foldedSetIterable i2 env x >>= λ x => holding [x] (pyIter x) >>= λ it' => runOwn (.compStart (.ListComp elt [⟨t1,i1,f1,0⟩,⟨t2,i2,f2,0⟩] scope pos) 1 it' acc env) env >>= λ _ => again (.compLoop (.ListComp elt [⟨t1,i1,f1,0⟩,⟨t2,i2,f2,0⟩] scope pos) 0 it acc env)) else again (.compLoop (.ListComp elt [⟨t1,i1,f1,0⟩,⟨t2,i2,f2,0⟩] scope pos) 0 it acc env))) := by rfl
theorem shape2a {elt t1 i1 t2 i2 : Expr} {f1 f2 : List Expr} {scope : Scope} {pos : Pos} : CompShape elt [⟨t1,i1,f1,0⟩,⟨t2,i2,f2,0⟩] scope pos 0 t1 f1 (emitNest elt [⟨t1,i1,f1,0⟩,⟨t2,i2,f2,0⟩] scope pos 1 i2) :=
 ⟨⟨i1.pos,λ it acc env => by rw [turn2a]; simp only [emitNest,bind_assoc,pure_bind]; try rfl⟩,⟨_,rfl,rfl⟩⟩
theorem shape2b {elt t1 i1 t2 i2 : Expr} {f1 f2 : List Expr} {scope : Scope} {pos : Pos} : CompShape elt [⟨t1,i1,f1,0⟩,⟨t2,i2,f2,0⟩] scope pos 1 t2 f2 (emitElt elt) :=
 ⟨⟨i2.pos,λ it acc env => by rfl⟩,⟨_,rfl,rfl⟩⟩
noncomputable def Ext (H H' : AHeap) : Prop := ∀ a o,H a = some o -> H' a = some o
theorem Ext.refl (H : AHeap) : Ext H H := λ _ _ e => e
theorem Ext.trans {H₁ H₂ H₃ : AHeap} (x : Ext H₁ H₂) (y : Ext H₂ H₃) : Ext H₁ H₃ := λ a o e => y a o (x a o e)
theorem Ext.upd {H H' : AHeap} {a : Addr} {o : AO} (x : Ext H H') (h : H a = none) : Ext H (upd H' a o) := λ b ob e => by
 unfold AM.upd
 split
 ·rename_i q; subst q; rw [h] at e; cases e
 ·exact x b ob e
theorem Ext.none {H H' : AHeap} {a : Addr} (x : Ext H H') (h : H' a = none) : H a = none := by
 cases e : H a with
 | none => rfl
 | some o => rw [x a o e] at h; cases h
theorem Ext.both {H H' : AHeap} {a : Addr} {o : AO} (x : Ext H H') : Ext (AM.upd H a o) (AM.upd H' a o) := λ b ob e => by
 unfold AM.upd at e ⊢
 split
 ·rename_i q; rw [if_pos q] at e; exact e
 ·rename_i q; rw [if_neg q] at e; exact x b ob e
noncomputable def Wk (H H' : AHeap) : Prop := ∀ a o,H a = some o -> H' a = some o \/ ∃ l po,o = .pdict l /\ H' a = some (.pdict l po)
theorem Ext.wk {H H' : AHeap} (x : Ext H H') : Wk H H' := λ a o e => .inl (x a o e)
theorem Wk.ext {H₁ H₂ H₃ : AHeap} (x : Ext H₁ H₂) (y : Wk H₂ H₃) : Wk H₁ H₃ := λ a o e => y a o (x a o e)
theorem Wk.unpin {H : AHeap} {d : Addr} {l : List (Pt × PV)} {po : Option Obj} (h : H d = some (.pdict l po)) : Wk (AM.upd H d (.pdict l)) H := λ a o e => by
 unfold AM.upd at e
 split at e
 ·rename_i q; cases e; exact .inr ⟨l,po,rfl,q ▸ h⟩
 ·exact .inl e
theorem Wk.none {H H' : AHeap} {a : Addr} (x : Wk H H') (h : H' a = none) : H a = none := by
 cases e : H a with
 | none => rfl
 | some o =>
  rcases x a o e with q | ⟨l,po,-,q⟩
  ·rw [q] at h; cases h
  ·rw [q] at h; cases h
theorem Wk.both {H H' : AHeap} {a : Addr} {o : AO} (x : Wk H H') : Wk (AM.upd H a o) (AM.upd H' a o) := λ b ob e => by
 unfold AM.upd at e ⊢
 split
 ·rename_i q; rw [if_pos q] at e; exact .inl e
 ·rename_i q; rw [if_neg q] at e; exact x b ob e
theorem Rep.wk {C : Cx} {Fs : List AF} {H H' : AHeap} {s : Shared} (R : Rep C Fs H' s) (h : Wk H H') : Rep C Fs H s :=
 ⟨R.ok,R.keep,R.gens,R.os,R.frs,R.apart,λ a o e => by
  rcases h a o e with q | ⟨l,po,rfl,q⟩
  ·exact R.objs a o q
  ·obtain ⟨⟨x,-⟩,y,z⟩ := R.objs a _ q
   exact ⟨⟨x,λ _ e => nomatch e⟩,y,z⟩⟩
theorem Ext.pin {H H' : AHeap} {d : Addr} {l : List (Pt × PV)} {po : Option Obj} (hd : H d = some (.pdict l)) (x : Ext (AM.upd H d (.pdict l po)) H') : Ext H (AM.upd H' d (.pdict l)) := λ a o e => by
 by_cases q : a = d
 ·subst q; rw [hd] at e; cases e; exact upd_same
 ·rw [upd_ne q]; exact x a o (by rw [upd_ne q]; exact e)
variable {T : Tr} {f : FR} {env : Env} {ls : Ls} {Fs : List AF} {H : AHeap} {E : Value -> Shared -> Prop} {s : Shared} {A : Around}
theorem AE.forget {e : Expr} {Q : PV -> AHeap -> Prop} (h : AE T f Fs H e (λ p H₁ => ∃ H₂,Wk H₂ H₁ /\ Q p H₂) E) : AE T f Fs H e Q E :=
 λ A s ok R => wpAny_mono (h A s ok R) (λ v s' ⟨p,H',a,b,c,H₂,x,d⟩ => ⟨p,H₂,a,b.wk x,c,d⟩) λ _ _ x => x
theorem AS.forget {st : Stmt} {Q : AFl -> Ls -> AHeap -> Prop} (h : AS T env Fs ls H st (λ a l H₁ => ∃ H₂,Wk H₂ H₁ /\ Q a l H₂) E) : AS T env Fs ls H st Q E :=
 λ A s ok R => wpAny_mono (h A s ok R) (λ v s' ⟨p,l,H',a,b,c,H₂,x,d⟩ => ⟨p,l,H₂,a,b.wk x,c,d⟩) λ _ _ x => x
theorem AE.pins {e : Expr} {Q : PV -> AHeap -> Prop} (h : AE T f Fs H e (λ p H₁ => Q p H₁ \/ ∃ d l,p = .ref d /\ H₁ d = some (.pdict l) /\ ∀ ob,Q p (AM.upd H₁ d (.pdict l (some ob)))) E) : AE T f Fs H e Q E :=
 λ A s ok R => wpAny_mono (h A s ok R) (λ v s' hh => by
  obtain ⟨p,H',a,b,c,q | ⟨d,l,rfl,hd,q⟩⟩ := hh
  ·exact ⟨p,H',a,b,c,q⟩
  ·obtain ⟨ob,R'⟩ := b.pin hd
   exact ⟨.ref d,_,a,R',c,q ob⟩) λ _ _ x => x
theorem ForTail.weak {target : Expr} {body : List Stmt} {Q : AFl -> Ls -> AHeap -> Prop} {p : PV} {H₁ : AHeap} (h : ForTail T env Fs ls target body (λ a l H₁ => ∃ H₂,Wk H₂ H₁ /\ Q a l H₂) E p H₁) : ForTail T env Fs ls target body Q E p H₁ := λ A s s₁ v ok R pr k =>
 wpAny_mono (h A s s₁ v ok R pr k) (λ it s₂ hc => codeAny_mono hc λ r s' hx => by
  cases r with
  | error e => exact hx
  | ok f => obtain ⟨a,l,H',fr,b,c,H₂,x,d⟩ := hx; exact ⟨a,l,H₂,fr,b.wk x,c,d⟩) λ _ _ x => x
theorem AA.nameL {c : FK} {x : Str} {pos : Pos} {p : PV} {nm : List (Str × NameKind)} {Q : Ls -> AHeap -> Prop} (hn : env.scope.names = nm) (hk : nm.lookup x = some .local) (h : Q ((x,p) :: ls) H) : AA T ⟨c,env,ls⟩ Fs H (.Name x pos) p Q E :=
 λ A s v ok R hp => wpAny_assign_Name (store_name R (.inl (by rw [show env.kindOf x = env.scope.names.lookup x from rfl,hn]; exact hk)) hp λ s' R' tk => ⟨_,H,R',tk,h⟩)
theorem ItTurn.mono {x : AIt} {K K' : PV -> AIt -> Prop} {D D' : Prop} (h : ItTurn H x K D) (hk : ∀ p x',K p x' -> K' p x') (hd : D -> D') : ItTurn H x K' D' := by
 cases x with
 | list a i => obtain ⟨l,h1,h2,h3⟩ := h; exact ⟨l,h1,λ p e => hk _ _ (h2 p e),λ e => hd (h3 e)⟩
 | keys d ob i => obtain ⟨l,h1,h2,h3⟩ := h; exact ⟨l,h1,λ p e => hk _ _ (h2 p e),λ e => hd (h3 e)⟩
 | range x left => exact ⟨λ q => hk _ _ (h.1 q),λ q => hd (h.2 q)⟩
theorem CompTurns.mono {ns nm : List (Str × NameKind)} {target : Expr} {ifs : List Expr} {emit : Value -> Env -> Sem Unit} {I : Nat -> AIt -> List PV -> AHeap -> Prop} {D D' : List PV -> AHeap -> Prop} (h : CompTurns T ns nm ls target ifs emit I D) (hd : ∀ out H,D out H -> D' out H) : CompTurns T ns nm ls target ifs emit I D' :=
 λ own cenv Dd post hc ho n x out H' hI => ItTurn.mono (h own cenv Dd post hc ho n x out H' hI) (λ _ _ k => k) (hd out H')
noncomputable def CompGives (T : Tr) (ns nm : List (Str × NameKind)) (c : FK) (env : Env) (ls : Ls) (Fs : List AF) (H : AHeap) (iter target : Expr) (ifs : List Expr) (emit : Value -> Env -> Sem Unit) (P : List PV -> AHeap -> Prop) (E : Value -> Shared -> Prop) : Prop :=
 AE T ⟨c,env,ls⟩ Fs H iter (λ p H₁ => ∃ x,AIter T (.fr ⟨c,env,ls⟩ :: Fs) H₁ p x /\ ∃ (I : Nat -> AIt -> List PV -> AHeap -> Prop) (n : Nat),I n x [] H₁ /\ CompTurns T ns nm ls target ifs emit I (λ out H' => ∃ H₂,Wk H₂ H' /\ P out H₂)) E
theorem AE.compG {elt target iter : Expr} {ifs : List Expr} {rest : List Comprehension} {scope : Scope} {pos : Pos} {emit : Value -> Env -> Sem Unit} {c : FK} {nm : List (Str × NameKind)} {Q : PV -> AHeap -> Prop}
  (hh : T.hd = false) (hn : env.scope.names = nm) (sc : ScopeOk scope nm) (hs : ∀ x,foldedSetIterable iter env x = pure x) (sh : CompShape elt (⟨target,iter,ifs,0⟩ :: rest) scope pos 0 target ifs emit)
  (h : CompGives T scope.names nm c env ls Fs H iter target ifs emit (λ out H₂ => ∀ a,H₂ a = Option.none -> Q (.ref a) (upd H₂ a (.list out))) E) :
  AE T ⟨c,env,ls⟩ Fs H (.ListComp elt (⟨target,iter,ifs,0⟩ :: rest) scope pos) Q E := by
 refine AE.forget (AE.comp hh hn sc hs sh (AE.mono h ?_))
 rintro p H₁ ⟨x,hx,I,n,hI,ht⟩
 refine ⟨x,hx,I,n,hI,ht.mono ?_⟩
 rintro out H' ⟨H₂,ex,hP⟩ a ha
 exact ⟨_,ex.both,hP a (ex.none ha)⟩
theorem AS.assignCompG {elt target iter : Expr} {ifs : List Expr} {rest : List Comprehension} {scope : Scope} {pos p' pos' : Pos} {t : Str} {emit : Value -> Env -> Sem Unit} {nm : List (Str × NameKind)} {Q : AFl -> Ls -> AHeap -> Prop}
  (hh : T.hd = false) (hn : env.scope.names = nm) (hk : isOwn (nm.lookup t) = true) (sc : ScopeOk scope nm) (hs : ∀ x,foldedSetIterable iter env x = pure x) (sh : CompShape elt (⟨target,iter,ifs,0⟩ :: rest) scope pos 0 target ifs emit)
  (hsw : swapsWith (.ListComp elt (⟨target,iter,ifs,0⟩ :: rest) scope pos) (some (.Name t p')) pos'.line env = pure true)
  (h : CompGives T scope.names nm .fn env ls Fs H iter target ifs emit (λ out H₂ => ∀ a,H₂ a = Option.none -> Q .next ((t,.ref a) :: ls) (upd H₂ a (.list out))) E) :
  AS T env Fs ls H (.Assign [.Name t p'] (.ListComp elt (⟨target,iter,ifs,0⟩ :: rest) scope pos) pos') Q E := by
 refine AS.forget (AS.assignComp hh hn hk sc hs sh hsw (AE.mono h ?_))
 rintro p H₁ ⟨x,hx,I,n,hI,ht⟩
 refine ⟨x,hx,I,n,hI,ht.mono ?_⟩
 rintro out H' ⟨H₂,ex,hP⟩ a ha
 exact ⟨_,ex.both,hP a (ex.none ha)⟩
theorem compLs_none {ns : List (Str × NameKind)} {x : Str} (h : ns.lookup x = some .local) : (compLs ns ls).lookup x = Option.none := by
 cases e : (compLs ns ls).lookup x with
 | none => rfl
 | some p => have := (compLs_lookup e).2; rw [h] at this; cases this
theorem relN_local {ns nm : List (Str × NameKind)} {x : Str} (h : ns.lookup x = some .local) : (relN ns nm).lookup x = some .local := by
 rw [relN_lookup,h]; rfl
noncomputable def CompItem (T : Tr) (ns nm : List (Str × NameKind)) (l : Ls) (H₁ : AHeap) (ifs : List Expr) (elt : Expr) (r : Option PV) : Prop :=
 ∀ own cenv Fs' H',cenv.scope.names = relN ns nm -> Ext H₁ H' -> AIfs T ⟨.cp own,cenv,l⟩ Fs' H' ifs (λ b H'' => Ext H₁ H'' /\ if b then ∃ v,r = some v /\ ∀ Fs'',AE T ⟨.cp own,cenv,l⟩ Fs'' H'' elt (λ u H₃ => u = v /\ Ext H₁ H₃) NoE else r = Option.none)
theorem AIfs.mono {ifs : List Expr} {Q Q' : Bool -> AHeap -> Prop} (h : AIfs T f Fs H ifs Q) (hq : ∀ b H,Q b H -> Q' b H) : AIfs T f Fs H ifs Q' := by
 induction ifs generalizing H with
 | nil => exact hq _ _ h
 | cons c r ih =>
  intro A s ok R
  refine wpAny_mono (h A s ok R) (λ b s' hh => hh.elim λ H' a k q => ⟨H',a,k,?_⟩) λ _ _ x => x
  cases b with
  | true => exact ih q
  | false => exact hq _ _ q
theorem AEmit.mono {D : Addr} {post : List AF} {emit : Value -> Env -> Sem Unit} {out : List PV} {K K' : List PV -> AHeap -> Prop} (h : AEmit T f D post emit H out K) (hk : ∀ out H,K out H -> K' out H) : AEmit T f D post emit H out K' :=
 λ A s mid ok S => wpAny_mono (h A s mid ok S) (λ _ s' ⟨o,H',a,b,c⟩ => ⟨o,H',a,b,hk _ _ c⟩) λ _ _ x => x
noncomputable def gather2 (n m : Nat) (g : Nat -> Nat -> Option PV) : List PV := (List.range n).flatMap λ i => (List.range m).filterMap (g i)
theorem range_filterMap_succ {g : Nat -> Option PV} {j : Nat} : (List.range (j + 1)).filterMap g = (List.range j).filterMap g ++ (match g j with | some v => [v] | Option.none => []) := by
 rw [List.range_succ,List.filterMap_append]
 congr 1
 rw [List.filterMap_cons]
 cases g j <;> rfl
theorem gather2_succ {n m : Nat} {g : Nat -> Nat -> Option PV} : gather2 (n + 1) m g = gather2 n m g ++ (List.range m).filterMap (g n) := by
 unfold gather2
 rw [List.range_succ,List.flatMap_append]; simp
theorem gather2_length {n m : Nat} {g : Nat -> Nat -> Option PV} : (gather2 n m g).length <= n * m := by
 induction n with
 | zero => simp [gather2]
 | succ n ih =>
  rw [gather2_succ,List.length_append,Nat.succ_mul]
  have := List.length_filterMap_le (g n) (List.range m)
  simp only [List.length_range] at this
  omega
noncomputable def RngAt (j m : Nat) : AIt := .range j ((m : Int) - j)
theorem RngAt.turn {H : AHeap} {j m : Nat} {K : PV -> AIt -> Prop} {D : Prop} (hle : j <= m) (h : j < m -> K (.int j) (RngAt (j + 1) m)) (hd : j = m -> D) : ItTurn H (RngAt j m) K D := by
 refine ⟨λ hp => ?_,λ e => hd (Nat.le_antisymm hle (Int.ofNat_le.mp (Int.le_of_sub_nonpos e)))⟩
 have q : RngAt (j + 1) m = .range ((j : Int) + 1) ((m : Int) - j - 1) := by
  unfold RngAt
  rw [show ((j + 1 : Nat) : Int) = (j : Int) + 1 from rfl,Int.sub_sub]
 exact q ▸ h (Int.ofNat_lt.mp (Int.lt_of_sub_pos hp))
theorem AIter.rng0 {a : Addr} {m : Nat} (hH : H a = some (.range 0 m)) (hm : m < 2 ^ 62) : AIter T Fs H (.ref a) (RngAt 0 m) := by
 have h := AIter.range (T := T) (Fs := Fs) hH (by decide) (by decide) (Int.le_trans (by decide) (Int.natCast_nonneg m)) (by exact_mod_cast hm)
 have q : (if (0 : Int) < m then (m : Int) - 0 else 0) = (m : Int) - (0 : Nat) := by split <;> omega
 rw [q] at h; exact h
theorem ext_len {i n m : Nat} {g : Nat -> Nat -> Option PV} (hlt : i < n) (hz : n * m <= 90000) : (gather2 i m g).length + m <= 90000 :=
 Nat.le_trans (Nat.add_le_add_right gather2_length m) (Nat.le_trans (by rw [<- Nat.succ_mul]; exact Nat.mul_le_mul_right _ hlt) hz)
theorem fm_len {j m : Nat} {out : List PV} {g : Nat -> Option PV} (hlt : j < m) (hz : out.length + m <= 90000) : (out ++ (List.range j).filterMap g).length <= 100000 := by
 have h3 := List.length_filterMap_le g (List.range j)
 rw [List.length_range] at h3
 rw [List.length_append]
 exact Nat.le_trans (Nat.add_le_add_left (Nat.le_trans h3 (Nat.le_of_lt hlt)) _) (Nat.le_trans hz (by decide))
noncomputable def R1I (H₁ : AHeap) (out : List PV) (g : Nat -> Option PV) (m k : Nat) (z : AIt) (o : List PV) (H' : AHeap) : Prop := ∃ j : Nat,z = RngAt j m /\ k = m - j /\ j <= m /\ o = out ++ (List.range j).filterMap g /\ Ext H₁ H'
theorem AEmit.rng {y : Str} {yp : Pos} {t1 elt i1 i2 : Expr} {ifs f1 : List Expr} {scope : Scope} {pos : Pos} {nm : List (Str × NameKind)} {own : List Addr} {cenv : Env} {l : Ls} {D : Addr} {post : List AF} {m : Nat} {H₁ : AHeap} {out : List PV} {K : List PV -> AHeap -> Prop} (g : Nat -> Option PV) (hh : T.hd = false) (hc : cenv.scope.names = relN scope.names nm) (hy : scope.names.lookup y = some .local) (hyn : l.lookup y = none) (hm : m < 2 ^ 62) (hz : out.length + m <= 90000)
  (hs : ∀ v,foldedSetIterable i2 cenv v = pure v)
  (h : ∀ Fs',AE T ⟨.cp own,cenv,l⟩ Fs' H i2 (λ q H₂ => ∃ b,q = .ref b /\ H₂ b = some (.range 0 m) /\ Ext H₁ H₂) NoE)
  (hg : ∀ j,j < m -> CompItem T scope.names nm ((y,.int j) :: l) H₁ ifs elt (g j))
  (hK : ∀ H',Ext H₁ H' -> K (out ++ (List.range m).filterMap g) H') :
  AEmit T ⟨.cp own,cenv,l⟩ D post (emitNest elt [⟨t1,i1,f1,0⟩,⟨.Name y yp,i2,ifs,0⟩] scope pos 1 i2) H out K := by
 refine AEmit.nest shape2b hs λ Fs'' => AE.mono (h Fs'') ?_
 rintro q H₂ ⟨b,rfl,hb,ex2⟩
 refine ⟨_,AIter.rng0 hb hm,R1I H₁ out g m,m,⟨0,rfl,rfl,Nat.zero_le _,(List.append_nil _).symm,ex2⟩,?_⟩
 rintro k z o H₃ ⟨j,rfl,rfl,hle2,rfl,ex3⟩
 refine RngAt.turn hle2 (λ hlt2 Fs₃ => ?_) (λ e => by subst e; exact hK _ ex3)
 refine AA.nameL hc (relN_local hy) ⟨(Sub.refl _).cons hyn,?_⟩
 refine AIfs.mono (hg j hlt2 own cenv Fs₃ H₃ hc ex3) λ b H₄ hb => ?_
 have ex4 := hb.1
 replace hb := hb.2
 cases b with
 | true =>
  rw [if_pos rfl] at hb ⊢
  refine hb.elim λ v hb => AEmit.elt (fm_len hlt2 hz) λ Fs₅ => AE.mono (hb.2 Fs₅) ?_
  rintro u H₅ ⟨rfl,ex5⟩
  exact ⟨m - (j + 1),sub_step hlt2,j + 1,rfl,rfl,hlt2,by rw [range_filterMap_succ,hb.1,List.append_assoc],ex5⟩
 | false =>
  rw [if_neg (by decide)] at hb ⊢
  exact ⟨m - (j + 1),sub_step hlt2,j + 1,rfl,rfl,hlt2,by rw [range_filterMap_succ,hb,List.append_nil],ex4⟩
noncomputable def R2I (H₁ : AHeap) (g : Nat -> Nat -> Option PV) (n m k : Nat) (z : AIt) (o : List PV) (H' : AHeap) : Prop := ∃ i : Nat,z = RngAt i n /\ k = n - i /\ i <= n /\ o = gather2 i m g /\ Ext H₁ H'
theorem CompGives.range2 {x y : Str} {xp yp : Pos} {elt i1 i2 : Expr} {ifs : List Expr} {scope : Scope} {pos : Pos} {nm : List (Str × NameKind)} {c : FK} {P : List PV -> AHeap -> Prop} {n m : Nat} (g : Nat -> Nat -> Option PV) (hh : T.hd = false) (hx : scope.names.lookup x = some .local) (hy : scope.names.lookup y = some .local) (hxy : x ≠ y) (hz : n * m <= 90000) (hn : n < 2 ^ 62) (hm : m < 2 ^ 62)
  (hs : ∀ cenv v,cenv.scope.names = relN scope.names nm -> foldedSetIterable i2 cenv v = pure v)
  (h : AE T ⟨c,env,ls⟩ Fs H i1 (λ p H₁ => ∃ a,p = .ref a /\ H₁ a = some (.range 0 n) /\
   (∀ (i : Nat) own cenv Fs' H',i < n -> cenv.scope.names = relN scope.names nm -> Ext H₁ H' -> AE T ⟨.cp own,cenv,(x,.int i) :: compLs scope.names ls⟩ Fs' H' i2 (λ q H₂ => ∃ b,q = .ref b /\ H₂ b = some (.range 0 m) /\ Ext H₁ H₂) NoE) /\
   (∀ i j : Nat,i < n -> j < m -> CompItem T scope.names nm ((y,.int j) :: (x,.int i) :: compLs scope.names ls) H₁ ifs elt (g i j)) /\ P (gather2 n m g) H₁) E) :
  CompGives T scope.names nm c env ls Fs H i1 (.Name x xp) [] (emitNest elt [⟨.Name x xp,i1,[],0⟩,⟨.Name y yp,i2,ifs,0⟩] scope pos 1 i2) P E := by
 refine AE.mono h ?_
 rintro p H₁ ⟨a,rfl,hl,h2,hg,hP⟩
 refine ⟨_,AIter.rng0 hl hn,R2I H₁ g n m,n,⟨0,rfl,rfl,Nat.zero_le _,rfl,Ext.refl _⟩,?_⟩
 rintro own cenv D post hc ho k z out H' ⟨i,rfl,rfl,hle,rfl,ex⟩
 refine RngAt.turn hle (λ hlt Fs' => ?_) (λ e => by subst e; exact ⟨H₁,ex.wk,hP⟩)
 refine AA.nameL hc (relN_local hx) ⟨(Sub.refl _).cons (compLs_none hx),?_⟩
 show AEmit _ _ _ _ _ _ _ _
 exact AEmit.rng (g i) hh hc hy (by rw [List.lookup_cons,beq_eq_false_iff_ne.mpr (Ne.symm hxy)]; exact compLs_none hy) hm (ext_len hlt hz) (λ v => hs cenv v hc) (λ Fs'' => h2 i own cenv Fs'' H' hlt hc ex) (λ j hj => hg i j hlt hj)
  λ H₃ ex3 => ⟨n - (i + 1),sub_step hlt,i + 1,rfl,rfl,hlt,by rw [gather2_succ],ex3⟩
end
end
section
section
variable {T : Tr} {f : FR} {env : Env} {ls : Ls} {Fs : List AF} {H : AHeap} {E : Value -> Shared -> Prop} {s : Shared} {A : Around}
theorem AA.tupSet {t : Expr} {k : Nat} {pos : Pos} {a : Addr} {q : Pt} {Q : Ls -> AHeap -> Prop} (hh : T.hd = false) (hH : H a = some (.pset [q])) (he : assignEach [t] f.env = [(false,assign t f.env)])
  (h : AA T f Fs H t (pt q) Q E) : AA T f Fs H (.Tuple [t] k pos) (.ref a) Q E := λ A s v ok R pv => by
 rw [pv.ref_inv,assign_Tuple]
 refine wpAny_bind (wpAny_standAt ?_)
 unfold unpack
 rw [he]
 show wpAny _ _ (do assignInOrder [assign t f.env] (<- holding [.ref a] (unpackItems (.ref a) 1 Option.none))) _ _ _
 obtain ⟨o,es,ep,tb,l',ho,SP,hp,hw⟩ := setParts R hH
 have hl' : l' = [q] := List.perm_singleton.mp hp
 subst hl'
 have hT : s.TypeIs (.ref a) "set" := ⟨o,ho,SP.ex.1⟩
 have hsz : es.size = 1 := SP.len.symm
 refine wpAny_bind (wpAny_holding ?_)
 unfold unpackItems notIterableAtAll
 refine wpAny_bind (wpAny_bind (wpAny_specialOf hT F.slot_set_iter.lookup ?_))
 refine wpAny_pure ?_
 simp only [Bool.false_eq_true,if_false]
 refine wpAny_bind (wpAny_holding (wp_pyIter_set ho SP.ex SP.data SP.inv SP.led ?_))
 have hslot : slotAt T.C.w tb 0 = 0 := by unfold slotAt; split <;> rfl
 have k1 : ∀ b o,s.heap.get? b = some o -> (s.heap.push (setIterObj 0 0 a es.size ep)).get? b = some o := push_keep
 obtain ⟨x,hx,px⟩ := hw 0 q rfl
 have hit : (s.heap.push (setIterObj 0 0 a es.size ep)).get? s.heap.objs.size = some (setIterObj (slotAt T.C.w tb 0) 0 a es.size ep) := by rw [hslot]; exact Heap.get?_push_size _ rfl
 refine wpAny_bind (wpAny_holding (show wpAny _ _ (pyNext (.ref s.heap.objs.size) >>= _) _ _ _ from wpAny_bind ?_))
 refine wp_pyNext_set_item (i := 0) hit (k1 a o ho) SP.ex SP.data SP.inv SP.led hx λ h₁ hit₁ sb₁ => ?_
 refine wpAny_bind (wpAny_holding (show wpAny _ _ (pure []) _ _ _ from wpAny_pure (wpAny_pure ?_)))
 rw [if_neg (by simp)]
 have hne : a ≠ s.heap.objs.size := Nat.ne_of_lt (Heap.lt_size ho)
 have ho₁ : h₁.get? a = some o := (sb₁.2 a hne).trans (k1 a o ho)
 refine wpAny_bind (wpAny_holding (wp_pyNext_set_end (i := 1) (ok.handled hh) hit₁ ho₁ SP.ex SP.data SP.inv SP.led hsz.symm λ h₂ ex₂ => ?_))
 simp only [Option.isSome_none,Bool.false_eq_true,if_false]
 refine wpAny_pure ?_
 have kp : ∀ b o,s.heap.get? b = some o -> h₂.get? b = some o := λ b o e => by
  have hb : b ≠ s.heap.objs.size := Nat.ne_of_lt (Heap.lt_size e)
  exact ex₂ b o hb ((sb₁.2 b hb).trans (k1 b o e))
 refine wpAny_bind (m := holding [] (assign t f.env x.2)) (wpAny_holding (wpAny_mono (h A { s with heap := h₂ } x.2 ok (R.ext kp) (PR.keep (TupKeep.of_keep kp) _ (PR_of_isPt px))) (λ _ s₂ hh => hh.elim λ ls'' H₂ R₂ k₂ h₂ => ?_) λ _ _ x => x))
 exact wpAny_pure ⟨ls'',H₂,R₂,(TupKeep.of_keep kp).trans k₂,h₂⟩
theorem ASub.topStr {value slice : Expr} {a : Addr} {x y : Str} {tk : Tok} {es : Array DictEntry} {n : Nat} {Q : PV -> AHeap -> Prop} (hl : T.C.K.lookup a = some ⟨.type "dict",none,.dict es n,#[]⟩) (hk : KeysLit T.C.w.params es.toList) (e : nsIn T.C.K a x = some (some (.str y tk)))
  (h : Q (.str y) H) (hs : ∀ t,subscripted slice false (.ref a) (.str x t) = operate [.ref a,.str x t] (getItem (.ref a) (.str x t)) := by intro _; rfl) : ASub T Fs H value slice (.ref a) (.str x) Q E := λ A s v w ok R pv pw => by
 rw [pv.ref_inv]
 obtain ⟨t,rfl⟩ := pw.str_inv
 have hm := mapOf_K (prog := T.C.prog) R.kin hl hk
 exact tail_any hm.typeIs slot_dict_getitem.lookup (wpAny_getItem_of (strKind_is T.C.prog T.C.w x t) hm (find_K hl e) (post_same R PR.str h)) (hs t)
end
end
section
theorem lk_none {α : Type} {x y : Str} {q : α} {l : List (Str × α)} (h : (x == y) = false) (e : l.lookup x = none) : ((y,q) :: l).lookup x = none := by rw [List.lookup_cons,h]; exact e
section
variable {T : Tr} {f : FR} {env : Env} {ls : Ls} {Fs : List AF} {H : AHeap} {E : Value -> Shared -> Prop} {s : Shared} {A : Around}
theorem AS.exp {e : Expr} {pos : Pos} {Q : AFl -> Ls -> AHeap -> Prop} (hs : swapsWith e none pos.line env = pure false)
  (h : AE T ⟨.fn,env,ls⟩ Fs H e (λ _ H₁ => Q .next ls H₁) E) : AS T env Fs ls H (.Expr e pos) Q E := λ A s ok R => by
 have F : FrOk s.heap ⟨.fn,env,ls⟩ := (R.frs _ (.head _)).1
 have hk : env.scope.kind = .function := F.kind
 refine wpAny_Expr_any (wpAny_mono (h A s ok R) (λ v s₁ hh => hh.elim λ p H₁ pr R₁ k₁ h₁ => ⟨.next,ls,H₁,trivial,R₁,k₁,h₁⟩) λ _ _ x => x) ?_ hs
 unfold interactive; rw [hk]; rfl
theorem AAs.nil' {c : FK} {Q : Ls -> AHeap -> Prop} (h : Q ls H) : AAs T ⟨c,env,ls⟩ Fs H [] [] Q E := AAs.nil h
theorem AAs.cons' {c : FK} {t : Expr} {ts : List Expr} {p : PV} {ps : List PV} {Q : Ls -> AHeap -> Prop} (he : assignEach (t :: ts) env = (false,assign t env) :: assignEach ts env)
  (h : AA T ⟨c,env,ls⟩ Fs H t p (λ ls' H₁ => AAs T ⟨c,env,ls'⟩ Fs H₁ ts ps Q E) E) : AAs T ⟨c,env,ls⟩ Fs H (t :: ts) (p :: ps) Q E := AAs.cons he h
theorem swaps_true {elt : Expr} {gens : List Comprehension} {scope : Scope} {pos p' : Pos} {t : Str} {line : Nat} {nm : List (Str × NameKind)} (hk : env.scope.kind = .function) (hn : env.scope.names = nm) (hl : (nm.lookup t == some .local) = true) (hline : (p'.line == pos.line) = true)
  (hf : (scope.names.any λ (n,k) => n == t && (k == .local || k == .cell)) = false) : swapsWith (.ListComp elt gens scope pos) (some (.Name t p')) line env = pure true := by
 have hb : env.blockKind = .function := by unfold Env.blockKind; rw [hk]; rfl
 have hl' : (env.kindOf t == some .local) = true := by rw [show env.kindOf t = env.scope.names.lookup t from rfl,hn]; exact hl
 unfold swapsWith
 show pure _ = pure true
 rw [hb,hl',show (Expr.ListComp elt gens scope pos).pos = pos from rfl,hline,hf]
 rfl
end
end
section
section
variable {T : Tr} {f : FR} {env : Env} {ls : Ls} {Fs : List AF} {H : AHeap} {E : Value -> Shared -> Prop} {s : Shared} {A : Around}
theorem AS.mono {st : Stmt} {Q Q' : AFl -> Ls -> AHeap -> Prop} (h : AS T env Fs ls H st Q E) (hq : ∀ a ls H,Q a ls H -> Q' a ls H) : AS T env Fs ls H st Q' E :=
 λ A s ok R => wpAny_mono (h A s ok R) (λ v s' hh => hh.elim λ a ls' H' x y z q => ⟨a,ls',H',x,y,z,hq _ _ _ q⟩) λ _ _ x => x
theorem compLs_get {ns : List (Str × NameKind)} {x : Str} {p : PV} (h : isOwn (ns.lookup x) = false) {ls : Ls} : ls.lookup x = some p -> (compLs ns ls).lookup x = some p := by
 induction ls with
 | nil => exact λ e => by cases e
 | cons e ls ih =>
  intro e
  rename_i y
  obtain ⟨y,q⟩ := y
  unfold compLs at ih ⊢
  rw [List.filter_cons]
  by_cases hy : x = y
  ·subst hy
   rw [if_pos (by rw [h]; rfl)]
   rw [List.lookup_cons,beq_self_eq_true] at e ⊢
   exact e
  ·have hb := beq_eq_false_iff_ne.mpr hy
   rw [List.lookup_cons,hb] at e
   split
   ·rw [List.lookup_cons,hb]; exact ih e
   ·exact ih e
theorem mulOk5 {n : Nat} (h : n <= 5) : IntMulOk (n : Int) (n : Int) := by
 have h : ∀ n < 6,Builtin.Int.intBits (n : Nat) <= 64 := by decide +kernel
 exact IntMulOk.of_left (h n (Nat.lt_succ_of_le ‹_›))
end
end
section
section
variable {T : Tr} {f : FR} {env : Env} {ls : Ls} {Fs : List AF} {H : AHeap} {E : Value -> Shared -> Prop} {s : Shared} {A : Around}
theorem APart.some {e : Expr} {Q : Option Int -> AHeap -> Prop} (h : AE T f Fs H e (λ p H₁ => ∃ i,p = .int i /\ Q (Option.some i) H₁) E) : APart T f Fs H (Option.some e) Q E := h
theorem pylong_small {a b : Int} (h0 : 0 <= b) (h : b < 2 ^ 30) : Builtin.divisionGoesByPylong a b = false := by
 unfold Builtin.divisionGoesByPylong
 simp only [Bool.and_eq_false_iff,decide_eq_false_iff_not]
 left
 split
 ·decide
 ·have h1 : b.natAbs < 2 ^ 30 := by omega
  have : b.natAbs.log2 < 30 := (Nat.log2_lt (by rename_i q; intro e; apply q; simp; omega)).mpr h1
  omega
end
end
section
theorem cellsFrom_lo {lo : Nat} (names : List (Str × NameKind)) : ∀ (n : Nat) (acc : List (Str × Addr)),(∀ y ∈ acc,lo <= y.2 /\ y.2 < n) -> lo <= n -> acc.Pairwise (λ x y => x.2 ≠ y.2) ->
  (∀ y ∈ cellsFrom n names acc,lo <= y.2) /\ (cellsFrom n names acc).Pairwise λ x y => x.2 ≠ y.2 := by
 induction names with
 | nil => exact λ n acc h _ hp => ⟨λ y hy => (h y hy).1,hp⟩
 | cons a r ih =>
  obtain ⟨x,k⟩ := a
  intro n acc h hl hp
  rw [cells_step]
  split
  ·exact ih (n + 1) ((x,n) :: acc) (λ y hy => (List.mem_cons.mp hy).elim (λ e => e ▸ ⟨hl,Nat.lt_succ_self _⟩) λ hy => ⟨(h y hy).1,Nat.lt_succ_of_lt (h y hy).2⟩) (Nat.le_succ_of_le hl) (List.pairwise_cons.mpr ⟨λ y hy e => Nat.ne_of_lt (h y hy).2 e.symm,hp⟩)
  ·exact ih n acc h hl hp
theorem cellsAre_mem {cm : Str -> Option Value} {cs : List (Str × Addr)} {cells : List (Addr × Obj)} (X : CellsAre cm cs cells) : ∀ y ∈ cs,∃ o,(y.2,o) ∈ cells /\ o.data = .cell (cm y.1) := by
 induction X with
 | nil => exact λ y h => by cases h
 | cons hd X ih => exact λ y h => (List.mem_cons.mp h).elim (λ e => e ▸ ⟨_,.head _,hd⟩) λ h => (ih y h).imp λ o q => ⟨.tail _ q.1,q.2⟩
theorem prs_ints {h : Heap} {vs : List Value} {xs : List Int} (X : IntsAre vs xs) : PRs h (xs.map PV.int) vs := by
 induction X with
 | nil => exact PRs.nil
 | cons n t r ih => exact PRs.cons PR.int ih
theorem law_end {C : Cx} {A : Around} {env : Env} {s₁ s : Shared} {body : List Stmt} (hh : C.h₀ = s₁.heap) (ho : C.os = s₁.os) (hA : A.frames = some [env]) (hd : A.depth <= 400) (hu : A.units <= 100) (hn : A.handled = none)
  (R : Rep C [.fr ⟨.fn,env,[("script",.ref C.scA)]⟩] (λ _ => none) s)
  (h : AX ⟨C,30,false⟩ env [] [("script",.ref C.scA)] (λ _ => none) body (λ a _ _ => a = .ret (.bool true)) NoE)
  {Q : Flow -> Shared -> Prop} {E : Value -> Shared -> Prop} (hQ : ∀ s',(∀ b o,s₁.heap.get? b = some o -> s'.heap.get? b = some o) -> s'.os = s₁.os -> s'.gens = #[] -> Q (.ret (.bool true)) s') :
  wpAny (model C.prog C.w) A (execs body env) Q E s := by
 refine wpAny_mono (h A s ⟨hA,by show A.depth + 4 * 30 + 10 <= 1000; omega,by show A.units + 20 * 30 + 100 <= 9900; omega,λ _ => hn,λ v e => by rw [hn] at e; cases e⟩ R) (λ fl s' pp => pp.elim λ a ls' H' fr R' k' hq => ?_) λ _ _ x => x.elim
 subst hq
 cases fl with
 | ret v =>
  have : v = .bool true := PR.bool_inv (h := s'.heap) fr
  subst this
  exact hQ s' (λ b o e => R'.keep b o (hh ▸ e)) (R'.os.trans ho) R'.gens
 | next => exact fr.elim
 | brk => exact fr.elim
 | cont => exact fr.elim
theorem law_rep {C : Cx} (ok : C.Ok) {scope : Scope} {name : Str} {fa : Addr} {cd : Value} {h₁ : Heap} {s₁ : Shared} {d : Nat} {tk : Nat} {m cm : Str -> Option Value} {cells : List (Addr × Obj)} (hh : C.h₀ = s₁.heap) (ho : C.os = s₁.os) (hg : s₁.gens = #[])
  (F : Fr s₁.heap s₁.heap.objs.size h₁ m) (hm : m "script" = some (.ref C.scA)) (N : News s₁.heap s₁.heap.objs.size h₁ cells) (X : CellsAre cm (cellsFrom (s₁.heap.objs.size + 1) scope.names []) cells)
  (hk : scope.kind = .function) (hl : scope.names.lookup ("script" : Str) = some .local) (hfree : scope.names.all (λ x => x.2 != .free) = true) :
  Rep C [.fr ⟨.fn,envOfC name scope s₁.heap.objs.size fa cd,[("script",.ref C.scA)]⟩] (λ _ => none) ⟨h₁,s₁.gens,s₁.drawn,tk,s₁.os⟩ := by
 obtain ⟨lo,ap⟩ := cellsFrom_lo (lo := s₁.heap.objs.size + 1) scope.names (s₁.heap.objs.size + 1) [] (λ y hy => by cases hy) (Nat.le_refl _) List.Pairwise.nil
 have one : ∀ (x : Str) (p : PV),([(("script" : Str),PV.ref C.scA)] : Ls).lookup x = some p -> x = "script" /\ p = .ref C.scA := λ x p e => by
  rw [List.lookup_cons] at e
  cases hb : x == ("script" : Str) with
  | true => rw [hb] at e; exact ⟨by simpa using hb,(Option.some.inj e).symm⟩
  | false => rw [hb] at e; cases e
 refine ⟨ok,λ b o e => F.keep b o (hh ▸ e),hg,ho.symm,λ f hf => ?_,List.pairwise_singleton _ _,λ a o e => by cases e⟩
 rw [List.mem_singleton.mp hf]
 refine ⟨⟨hk,rfl,rfl,⟨m,F.ns,λ x p e _ => ?_⟩,λ y hy => ?_,λ x p e k => ?_,λ x k => ?_,ap,λ y hy => ?_,λ _ => rfl⟩,λ a ha => ?_⟩
 ·obtain ⟨rfl,rfl⟩ := one x p e
  exact ⟨_,hm,PR.ref⟩
 ·obtain ⟨o,hm',hd⟩ := cellsAre_mem X y hy
  exact ⟨_,o,N.get hm',hd⟩
 ·obtain ⟨rfl,rfl⟩ := one x p e
  have k : scope.names.lookup ("script" : Str) = some .cell \/ scope.names.lookup ("script" : Str) = some .free := k
  rw [hl] at k
  rcases k with k | k <;> cases k
 ·have k : scope.names.lookup x = some .cell \/ scope.names.lookup x = some .free := k
  rcases k with k | k
  ·exact Option.isSome_iff_exists.mp (cellsFrom_has scope.names _ _ k)
  ·have := List.all_eq_true.mp hfree _ (mem_of_lookup k)
   simp at this
 ·exact Nat.ne_of_gt (lo y hy)
 ·rw [hh]
  have big : s₁.heap.objs.size <= a := by
   rcases List.mem_cons.mp ha with rfl | ha
   ·exact Nat.le_refl _
   ·obtain ⟨y,hy,rfl⟩ := List.mem_map.mp ha
    exact Nat.le_of_succ_le (lo y hy)
  exact Heap.get?_none_of_le big
theorem script_at {P : Params} {h : Heap} {a : Addr} {vs : List Value} {xs : List Int} (w : Well P h (.ref a) (ofPy (PyData.list (xs.map PyData.int)))) (hL : h.IsList a vs.toArray) (hI : IntsAre vs xs) : ∃ vs n,IsL h a vs n /\ PRs h (xs.map PV.int) vs.toList := by
 obtain ⟨o,ho,hc,n,hd⟩ := hL
 cases w with
 | list h1 h2 =>
  rw [ho] at h1
  cases h1
  have e : vs.toArray = _ := (Data.seq.inj hd).1.symm
  exact ⟨_,_,ho,by rw [<- e]; exact prs_ints hI⟩
theorem miss_of {p : Program} {loose : List Str} {mean : ExcName -> Option Value} {mg mb : Str -> Option Value} {h : Heap} (T : Top p loose mean mg mb h) {xs : List Str}
  (hx : xs.all (λ x => !decide (x ∈ startupNames) && !decide (x ∈ loose) && !decide (x ∈ (recsOf p).map (·.name)) && !decide (x ∈ (litsOf p).map (·.1)) && !decide (x ∈ (clssOf p loose).map (·.name))) = true) : ∀ x ∈ xs,mg x = none := λ x h => by
 have := List.all_eq_true.mp hx x h
 simp only [Bool.and_eq_true,Bool.not_eq_true',decide_eq_false_iff_not] at this
 obtain ⟨⟨⟨⟨h1,h2⟩,h3⟩,h4⟩,h5⟩ := this
 exact T.free x h1 h2 h3 h4 h5
end
section
noncomputable abbrev LN := List (Nat × PV)
inductive CT where
 | one (x : Nat)
 | many (xs : List Nat)
inductive IE where
 | int (i : Int)
 | str (s : Str)
 | none
 | bool (b : Bool)
 | var (x : Nat)
 | glob (p : PV)
 | bin (o : Operator) (a b : IE)
 | un (o : UnaryOp) (a : IE)
 | cmp (o : CmpOp) (a b : IE)
 | cmp2 (o o' : CmpOp) (a b c : IE)
 | boolop (o : BoolOp) (l : IE)
 | ife (t a b : IE)
 | nil
 | cons (a b : IE)
 | tup (l : IE)
 | list (l : IE)
 | dict
 | attr (a : IE) (x : Str)
 | sub (a i : IE)
 | slice (a lo hi : IE)
 | call (g : PV) (l : IE)
 | meth (o : IE) (x : Str) (l : IE)
 | comp (t : CT) (it fs e : IE)
 | compRR (x y : Nat) (i1 i2 fs e : IE)
inductive IT where
 | var (x : Nat)
 | tup (l : IT)
 | tupS (t : IT)
 | tupL (l : IT)
 | nil
 | cons (a b : IT)
 | attr (e : IE) (x : Str)
 | sub (e i : IE)
inductive IS where
 | skip
 | seq (a b : IS)
 | cut (a : IS)
 | expr (e : IE)
 | assign (t : IT) (e : IE)
 | assignC (x : Nat) (e : IE)
 | ite (t : IE) (a b : IS)
 | ret (e : IE)
 | brk
 | dead
 | cont
 | for_ (t : IT) (it : IE) (b : IS)
 | while_ (t : IE) (b : IS)
 | try_ (b : IS) (x : Str) (Y : String) (h : IS)
 | raise_ (x : Str) (Y : String)
set_option genCtorIdx true in
inductive Md where
 | v | t | a | o
@[irreducible] noncomputable def SBin (T : Tr) (op : Value -> Value -> Sem Value) (p q : PV) (H : AHeap) (Q : PV -> AHeap -> Prop) : Prop := ∀ Fs,ABin T Fs H op p q Q NoE
@[irreducible] noncomputable def SCmp (T : Tr) (op : CmpOp) (p q : PV) (H : AHeap) (Q : Bool -> AHeap -> Prop) : Prop := ∀ Fs,ACmp T Fs H op p q Q NoE
@[irreducible] noncomputable def STr (T : Tr) (p : PV) (H : AHeap) (Q : Bool -> AHeap -> Prop) : Prop := ∀ Fs,ATr T Fs H p Q NoE
@[irreducible] noncomputable def SGet (T : Tr) (x : Str) (p : PV) (H : AHeap) (Q : PV -> AHeap -> Prop) : Prop := ∀ Fs,AGet T Fs H x p Q NoE
@[irreducible] noncomputable def SMeth (T : Tr) (x : Str) (p : PV) (H : AHeap) (g : PV) : Prop := callee T.C.K g = true /\ ∀ Fs,AMeth T Fs H x p g
@[irreducible] noncomputable def SSub (T : Tr) (p q : PV) (H : AHeap) (Q : PV -> AHeap -> Prop) : Prop := ∀ Fs value slice,(∀ o i,subscripted slice false o i = operate [o,i] (getItem o i)) -> ASub T Fs H value slice p q Q NoE
@[irreducible] noncomputable def SSetItem (T : Tr) (p i q : PV) (H : AHeap) (Q : AHeap -> Prop) : Prop := ∀ Fs,ASetItem T Fs H p i q Q NoE
@[irreducible] noncomputable def SSetAttr (T : Tr) (x : Str) (p q : PV) (H : AHeap) (Q : AHeap -> Prop) : Prop := ∀ Fs,ASetAttr T Fs H x p q Q NoE
@[irreducible] noncomputable def SCall (T : Tr) (X : String) (g : PV) (ps : List PV) (H : AHeap) (Q : PV -> AHeap -> Prop) (R : AHeap -> Prop) : Prop :=
 ∀ Fs E,(∀ e s,Fly T.C Fs X R e s -> E e s) -> ACall T Fs H g ps Q E
noncomputable def onInts (p q : PV) (A : Int -> Int -> Prop) (B : Prop) : Prop := match p with
 | .int a => (match q with
  | .int b => A a b
  | _ => B)
 | _ => B
noncomputable def onStrs (p q : PV) (A : Str -> Str -> Prop) (B : Prop) : Prop := match p with
 | .str a => (match q with
  | .str b => A a b
  | _ => B)
 | _ => B
noncomputable def onNone (q : PV) (A B : Prop) : Prop := match q with
 | .none => A
 | _ => B
noncomputable def wBin (T : Tr) (o : Operator) (p q : PV) (H : AHeap) (Q : PV -> AHeap -> Prop) : Prop := match o with
 | .Add => onInts p q (λ a b => Q (.int (a + b)) H) (SBin T (binaryOp .Add) p q H Q)
 | .Sub => onInts p q (λ a b => Q (.int (a - b)) H) (SBin T (binaryOp .Sub) p q H Q)
 | .Mult => onInts p q (λ a b => IntMulOk a b /\ Q (.int (a * b)) H) (SBin T (binaryOp .Mult) p q H Q)
 | .Mod => onInts p q (λ a b => b ≠ 0 /\ Q (.int (a.fmod b)) H) (SBin T (binaryOp .Mod) p q H Q)
 | .FloorDiv => onInts p q (λ a b => (b ≠ 0 /\ Builtin.divisionGoesByPylong a b = false) /\ Q (.int (a.fdiv b)) H) (SBin T (binaryOp .FloorDiv) p q H Q)
 | .Pow => onInts p q (λ a b => (0 <= b /\ (Builtin.Int.intBits a : Int) * b <= 2 ^ 27) /\ Q (.int (a ^ b.toNat)) H) (SBin T (binaryOp .Pow) p q H Q)
 | _ => False
noncomputable def wAug (T : Tr) (o : Operator) (p q : PV) (H : AHeap) (Q : PV -> AHeap -> Prop) : Prop := SBin T (inplaceOp o) p q H Q
noncomputable def wCmp (T : Tr) (o : CmpOp) (p q : PV) (H : AHeap) (Q : Bool -> AHeap -> Prop) : Prop := match o with
 | .Lt => onInts p q (λ a b => Q (decide (a < b)) H) (SCmp T .Lt p q H Q)
 | .LtE => onInts p q (λ a b => Q (decide (a <= b)) H) (SCmp T .LtE p q H Q)
 | .Gt => onInts p q (λ a b => Q (decide (b < a)) H) (SCmp T .Gt p q H Q)
 | .GtE => onInts p q (λ a b => Q (decide (b <= a)) H) (SCmp T .GtE p q H Q)
 | .Eq => onInts p q (λ a b => Q (decide (a = b)) H) (onStrs p q (λ a b => Q (a == b) H) (SCmp T .Eq p q H Q))
 | .NotEq => onInts p q (λ a b => Q (!decide (a = b)) H) (onStrs p q (λ a b => Q (a != b) H) (SCmp T .NotEq p q H Q))
 | .Is => onNone q (Q p.isNone H) (SCmp T .Is p q H Q)
 | .IsNot => onNone q (Q (!p.isNone) H) (SCmp T .IsNot p q H Q)
 | .NotIn => SCmp T .In p q H (λ b H' => Q (!b) H')
 | .In => SCmp T .In p q H Q
noncomputable def wTr (T : Tr) (p : PV) (H : AHeap) (Q : Bool -> AHeap -> Prop) : Prop := match p with
 | .bool b => Q b H
 | .int i => Q (!decide (i = 0)) H
 | p => STr T p H Q
noncomputable def wFin (T : Tr) (m : Md) (Q : PV -> AHeap -> Prop) (p : PV) (H : AHeap) : Prop := match m with
 | .v => Q p H
 | .t => wTr T p H (λ b H' => Q (.bool b) H')
 | _ => False
noncomputable def wUn (T : Tr) (o : UnaryOp) (p : PV) (H : AHeap) (Q : PV -> AHeap -> Prop) : Prop := match o,p with
 | .USub,.int a => Q (.int (-a)) H
 | .Not,p => wTr T p H (λ b H' => Q (.bool (!b)) H')
 | _,_ => False
noncomputable def lkN (x : Nat) : LN -> Option PV
 | [] => Option.none
 | (y,p) :: l => cond (Nat.beq x y) (some p) (lkN x l)
noncomputable def IE.isNo : IE -> Bool
 | .none => true
 | _ => false
noncomputable def wPart (no : Bool) (lo : PV) (Q : Option Int -> Prop) : Prop := match no,lo with
 | true,_ => Q Option.none
 | false,.int i => Q (some i)
 | false,_ => False
@[irreducible] noncomputable def SSlice (T : Tr) (p : PV) (lo hi : Option Int) (H : AHeap) (Q : PV -> AHeap -> Prop) : Prop :=
 ∃ a l,p = .ref a /\ LAt T.C H a l /\ l.length <= 100000 /\ ∀ c,H c = Option.none -> Q (.ref c) (upd H c (.list (pslice l lo hi)))
inductive WComp (T : Tr) (p : PV) (H : AHeap) (step : PV -> AHeap -> (Option PV -> AHeap -> Prop) -> Prop) (Q : PV -> AHeap -> Prop) : Prop
 | list (a : Addr) (l : List PV) (e : p = .ref a) (hl : H a = some (.list l)) (hz : l.length <= 100000) (J : Nat -> List PV -> AHeap -> Prop) (h0 : J 0 [] H)
   (hk : ∀ i out H',J i out H' -> H' a = some (.list l))
   (turn : ∀ i v out H',l[i]? = some v -> J i out H' -> step v H' (λ r H'' => J (i + 1) (out ++ r.toList) H''))
   (fin : ∀ out H',J l.length out H' -> ∃ H₂,Ext H₂ H' /\ ∀ c,H₂ c = Option.none -> Q (.ref c) (upd H₂ c (.list out))) : WComp T p H step Q
 | range (a : Addr) (n : Nat) (e : p = .ref a) (hl : H a = some (.range 0 n)) (hz : n <= 100000) (J : Nat -> List PV -> AHeap -> Prop) (h0 : J 0 [] H)
   (turn : ∀ (i : Nat) out H',i < n -> J i out H' -> step (.int i) H' (λ r H'' => J (i + 1) (out ++ r.toList) H''))
   (fin : ∀ out H',J n out H' -> ∃ H₂,Ext H₂ H' /\ ∀ c,H₂ c = Option.none -> Q (.ref c) (upd H₂ c (.list out))) : WComp T p H step Q
 | dict (d : Addr) (l : List (Pt × PV)) (e : p = .ref d) (hl : H d = some (.pdict l)) (hz : l.length <= 100000) (J : Obj -> Nat -> List PV -> AHeap -> Prop) (h0 : ∀ ob,J ob 0 [] (upd H d (.pdict l (some ob))))
   (hk : ∀ ob i out H',J ob i out H' -> H' d = some (.pdict l (some ob)))
   (turn : ∀ ob i v out H',l[i]? = some v -> J ob i out H' -> step (pt v.1) H' (λ r H'' => J ob (i + 1) (out ++ r.toList) H''))
   (fin : ∀ ob out H',J ob l.length out H' -> ∃ H₂,Ext H₂ (upd H' d (.pdict l)) /\ ∀ c,H₂ c = Option.none -> Q (.ref c) (upd H₂ c (.list out))) : WComp T p H step Q
noncomputable def bindCT : CT -> PV -> LN -> Option LN
 | .one x,p,ls => some ((x,p) :: ls)
 | .many [x,y],.tup [p,q],ls => some ((y,q) :: (x,p) :: ls)
 | _,_,_ => Option.none
noncomputable def CT.vars : CT -> List Nat
 | .one x => [x]
 | .many xs => xs
noncomputable def dropN (vs : List Nat) : LN -> LN
 | [] => []
 | (y,p) :: l => cond (vs.any (Nat.beq y)) (dropN vs l) ((y,p) :: dropN vs l)
noncomputable def cutT (A : List PV -> AHeap -> Prop) (p : PV) (H : AHeap) : Prop := match p with
 | .tup ps => A ps H
 | _ => False
noncomputable def noR : AHeap -> Prop := λ _ => False
noncomputable def w (T : Tr) (X : String) : IE -> Md -> LN -> AHeap -> (AHeap -> Prop) -> (PV -> AHeap -> Prop) -> Prop
 | .int i,m,ls,H,R,Q => wFin T m Q (.int i) H
 | .str i,m,ls,H,R,Q => wFin T m Q (.str i) H
 | .none,m,ls,H,R,Q => wFin T m Q .none H
 | .bool i,m,ls,H,R,Q => wFin T m Q (.bool i) H
 | .var x,m,ls,H,R,Q => match lkN x ls with
  | some p => wFin T m Q p H
  | Option.none => False
 | .glob p,m,ls,H,R,Q => wFin T m Q p H
 | .bin o a b,m,ls,H,R,Q => w T X a .v ls H R λ p H₁ => w T X b .v ls H₁ R λ q H₂ => wBin T o p q H₂ (wFin T m Q)
 | .un o a,m,ls,H,R,Q => match m,o with
  | .t,.Not => w T X a .t ls H R λ p H₁ => match p with
   | .bool b => Q (.bool (!b)) H₁
   | _ => False
  | .v,o => w T X a .v ls H R λ p H₁ => wUn T o p H₁ Q
  | _,_ => False
 | .cmp o a b,m,ls,H,R,Q => match m with
  | .v => w T X a .v ls H R λ p H₁ => w T X b .v ls H₁ R λ q H₂ => wCmp T o p q H₂ λ c H₃ => Q (.bool c) H₃
  | .t => w T X a .v ls H R λ p H₁ => w T X b .v ls H₁ R λ q H₂ => wCmp T o p q H₂ λ c H₃ => Q (.bool c) H₃
  | _ => False
 | .cmp2 o o' a b c,m,ls,H,R,Q => match m with
  | .t => w T X a .v ls H R λ p H₁ => w T X b .v ls H₁ R λ q H₂ => wCmp T o p q H₂ λ d H₃ => cond d (w T X c .v ls H₃ R λ q' H₄ => wCmp T o' q q' H₄ λ d' H₅ => Q (.bool d') H₅) (Q (.bool false) H₃)
  | _ => False
 | .boolop o l,m,ls,H,R,Q => match m,o with
  | .t,.And => w T X l .a ls H R Q
  | .t,.Or => w T X l .o ls H R Q
  | _,_ => False
 | .ife t a b,m,ls,H,R,Q => match m with
  | .v => w T X t .t ls H R λ p H₁ => match p with
   | .bool c => cond c (w T X a .v ls H₁ R Q) (w T X b .v ls H₁ R Q)
   | _ => False
  | _ => False
 | .nil,m,ls,H,R,Q => match m with
  | .v => Q (.tup []) H
  | .a => Q (.bool true) H
  | .o => Q (.bool false) H
  | .t => False
 | .cons a b,m,ls,H,R,Q => match m with
  | .v => w T X a .v ls H R λ p H₁ => w T X b .v ls H₁ R (cutT λ ps H₂ => Q (.tup (p :: ps)) H₂)
  | .a => w T X a .t ls H R λ p H₁ => match p with
   | .bool c => cond c (w T X b .a ls H₁ R Q) (Q (.bool false) H₁)
   | _ => False
  | .o => w T X a .t ls H R λ p H₁ => match p with
   | .bool c => cond c (Q (.bool true) H₁) (w T X b .o ls H₁ R Q)
   | _ => False
  | .t => False
 | .tup l,m,ls,H,R,Q => w T X l .v ls H R (cutT λ ps H₁ => cond (Nat.ble ps.length 1000) (wFin T m Q (.tup ps) H₁) False)
 | .list l,m,ls,H,R,Q => w T X l .v ls H R (cutT λ ps H₁ => cond (Nat.ble ps.length 1000) (∀ c,H₁ c = Option.none -> wFin T m Q (.ref c) (upd H₁ c (.list ps))) False)
 | .dict,m,ls,H,R,Q => ∀ c,H c = Option.none -> wFin T m Q (.ref c) (upd H c (.pdict []))
 | .attr a x,m,ls,H,R,Q => w T X a .v ls H R λ p H₁ => SGet T x p H₁ (wFin T m Q)
 | .sub a i,m,ls,H,R,Q => w T X a .v ls H R λ p H₁ => w T X i .v ls H₁ R λ q H₂ => SSub T p q H₂ (wFin T m Q)
 | .slice a lo hi,m,ls,H,R,Q => w T X a .v ls H R λ p H₁ => w T X lo .v ls H₁ R λ i H₂ => wPart lo.isNo i λ i' => w T X hi .v ls H₂ R λ j H₃ => wPart hi.isNo j λ j' => SSlice T p i' j' H₃ (wFin T m Q)
 | .call g l,m,ls,H,R,Q => w T X l .v ls H R (cutT λ ps H₁ => SCall T X g ps H₁ (wFin T m Q) R)
 | .meth o x l,m,ls,H,R,Q => w T X o .v ls H R λ p H₁ => ∃ g,SMeth T x p H₁ g /\ w T X l .v ls H₁ R (cutT λ ps H₂ => SCall T X g (p :: ps) H₂ (wFin T m Q) R)
 | .comp t it fs e,m,ls,H,R,Q => w T X it .v ls H R λ p H₁ => WComp T p H₁ (λ v H' K => match bindCT t v (dropN t.vars ls) with
  | some ls' => w T X fs .a ls' H' noR λ b H₂ => match b with
   | .bool b => cond b (w T X e .v ls' H₂ noR λ r H₃ => K (some r) H₃) (K Option.none H₂)
   | _ => False
  | Option.none => False) (wFin T m Q)
 | .compRR x y i1 i2 fs e,m,ls,H,R,Q => ∃ (n k : Nat) (g : Nat -> Nat -> Option PV),n * k <= 90000 /\ n < 2 ^ 62 /\ k < 2 ^ 62 /\ w T X i1 .v ls H R λ p H₁ => ∃ a,p = .ref a /\ H₁ a = some (.range 0 n) /\
   (∀ (i : Nat) H',i < n -> Ext H₁ H' -> w T X i2 .v ((x,.int i) :: dropN [x,y] ls) H' noR λ q H₂ => ∃ b,q = .ref b /\ H₂ b = some (.range 0 k) /\ Ext H₁ H₂) /\
   (∀ (i j : Nat) H',i < n -> j < k -> Ext H₁ H' -> w T X fs .a ((y,.int j) :: (x,.int i) :: dropN [x,y] ls) H' noR λ b H₂ => match b with
    | .bool b => Ext H₁ H₂ /\ cond b (∃ r,g i j = some r /\ w T X e .v ((y,.int j) :: (x,.int i) :: dropN [x,y] ls) H₂ noR λ q H₃ => q = r /\ Ext H₁ H₃) (g i j = Option.none)
    | _ => False) /\
   ∀ c,H₁ c = Option.none -> wFin T m Q (.ref c) (upd H₁ c (.list (gather2 n k g)))
noncomputable def IT.len : IT -> Nat
 | .cons _ b => b.len + 1
 | _ => 0
noncomputable def lenOk (p : PV) (n : Nat) : Bool := match p with
 | .tup ps => Nat.beq ps.length n
 | _ => false
noncomputable def wT (T : Tr) (X : String) : IT -> PV -> LN -> AHeap -> (LN -> AHeap -> Prop) -> (LN -> AHeap -> Prop) -> Prop
 | .var x,p,ls,H,R,Q => Q ((x,p) :: ls) H
 | .tup l,p,ls,H,R,Q => cond (lenOk p l.len) (wT T X l p ls H R Q) False
 | .tupS t,p,ls,H,R,Q => ∃ a q,p = .ref a /\ H a = some (.pset [q]) /\ wT T X t (pt q) ls H R Q
 | .tupL l,p,ls,H,R,Q => ∃ a ps,p = .ref a /\ LAt T.C H a ps /\ Nat.beq ps.length l.len = true /\ wT T X l (.tup ps) ls H R Q
 | .nil,p,ls,H,R,Q => match p with
  | .tup [] => Q ls H
  | _ => False
 | .cons a b,p,ls,H,R,Q => match p with
  | .tup (q :: ps) => wT T X a q ls H R λ ls' H' => wT T X b (.tup ps) ls' H' R Q
  | _ => False
 | .attr e x,p,ls,H,R,Q => w T X e .v ls H (R ls) λ q H₁ => SSetAttr T x q p H₁ λ H₂ => Q ls H₂
 | .sub e i,p,ls,H,R,Q => w T X e .v ls H (R ls) λ q H₁ => w T X i .v ls H₁ (R ls) λ j H₂ => SSetItem T q j p H₂ λ H₃ => Q ls H₃
noncomputable def loopK (N : LN -> AHeap -> Prop) (Q : AFl -> LN -> AHeap -> Prop) (a : AFl) (ls : LN) (H : AHeap) : Prop := match a with
 | .next => N ls H
 | .cont => N ls H
 | .brk => Q .next ls H
 | .ret p => Q (.ret p) ls H
noncomputable def SubN : LN -> LN -> Prop
 | [],_ => True
 | (x,p) :: l,ls => lkN x ls = some p /\ SubN l ls
noncomputable def KeepN {α : Type} (L : α -> LN) (J : α -> AHeap -> Prop) (ls : LN) (H : AHeap) : Prop := ∃ b,SubN (L b) ls /\ J b H
inductive WFor (T : Tr) (p : PV) (ls : LN) (H : AHeap) (step : PV -> LN -> AHeap -> (AFl -> LN -> AHeap -> Prop) -> Prop) (Q : AFl -> LN -> AHeap -> Prop) : Prop
 | list (a : Addr) (l : List PV) (e : p = .ref a) (hl : H a = some (.list l)) (α : Type) (L : α -> LN) (J : Nat -> α -> AHeap -> Prop) (b0 : α) (s0 : SubN (L b0) ls) (h0 : J 0 b0 H)
   (hk : ∀ i b H',J i b H' -> H' a = some (.list l))
   (turn : ∀ i v b H',l[i]? = some v -> J i b H' -> step v (L b) H' (loopK (KeepN L (J (i + 1))) Q))
   (fin : ∀ b H',J l.length b H' -> Q .next (L b) H') : WFor T p ls H step Q
 | grow (a : Addr) (e : p = .ref a) (hl : ∃ l,H a = some (.list l)) (α : Type) (L : α -> LN) (J : Nat -> Nat -> α -> AHeap -> Prop) (n : Nat) (b0 : α) (s0 : SubN (L b0) ls) (h0 : J n 0 b0 H)
   (turn : ∀ n i b H',J n i b H' -> ∃ l,H' a = some (.list l) /\ (∀ v,l[i]? = some v -> step v (L b) H' (loopK (KeepN L (λ b H₂ => ∃ m,m < n /\ J m (i + 1) b H₂)) Q)) /\ (l.length <= i -> Q .next (L b) H')) : WFor T p ls H step Q
 | range (a : Addr) (n : Nat) (e : p = .ref a) (hl : H a = some (.range 0 n)) (hz : n < 2 ^ 62) (α : Type) (L : α -> LN) (J : Nat -> α -> AHeap -> Prop) (b0 : α) (s0 : SubN (L b0) ls) (h0 : J 0 b0 H)
   (turn : ∀ (i : Nat) b H',i < n -> J i b H' -> step (.int i) (L b) H' (loopK (KeepN L (J (i + 1))) Q))
   (fin : ∀ b H',J n b H' -> Q .next (L b) H') : WFor T p ls H step Q
 | dict (d : Addr) (l : List (Pt × PV)) (e : p = .ref d) (hl : H d = some (.pdict l)) (α : Type) (L : α -> LN) (J : Obj -> Nat -> α -> AHeap -> Prop) (b0 : α) (s0 : SubN (L b0) ls) (h0 : ∀ ob,J ob 0 b0 (upd H d (.pdict l (some ob))))
   (hk : ∀ ob i b H',J ob i b H' -> H' d = some (.pdict l (some ob)))
   (turn : ∀ ob i v b H',l[i]? = some v -> J ob i b H' -> step (pt v.1) (L b) H' (loopK (KeepN L (J ob (i + 1))) Q))
   (fin : ∀ ob b H',J ob l.length b H' -> Q .next (L b) (upd H' d (.pdict l))) : WFor T p ls H step Q
 | set (hh : T.hd = false) (a : Addr) (l : List Pt) (e : p = .ref a) (hl : H a = some (.pset l)) (α : Type) (L : α -> LN)
   (J : List Pt -> Nat -> α -> AHeap -> Prop) (b0 : α) (s0 : SubN (L b0) ls) (h0 : ∀ l' : List Pt,l'.Perm l -> J l' 0 b0 (rem H a))
   (turn : ∀ (l' : List Pt) i q b H',l'.Perm l -> l'[i]? = some q -> J l' i b H' -> step (pt q) (L b) H' (loopK (KeepN L (J l' (i + 1))) (λ _ _ _ => False)))
   (fin : ∀ (l' : List Pt) b H',l'.Perm l -> J l' l'.length b H' -> Q .next (L b) (upd H' a (.pset l))) : WFor T p ls H step Q
noncomputable def cutK {α : Type} (L : α -> LN) (P : α -> AHeap -> Prop) (Q : AFl -> LN -> AHeap -> Prop) (a : AFl) (ls : LN) (H : AHeap) : Prop := match a with
 | .next => KeepN L P ls H
 | .brk => Q .brk ls H
 | .cont => Q .cont ls H
 | .ret p => Q (.ret p) ls H
noncomputable def noRL : LN -> AHeap -> Prop := λ _ _ => False
structure CatchOk (X Y : String) : Prop where
 exc : isSubtype (.type Y) (.type "BaseException") = pure true
 tup : isSubtype (.type ((Manifest.find? Y).elim "type" λ y => y.metatype)) (.type "tuple") = pure false
 sub : isSubtype (.type X) (.type Y) = pure true
structure RaiseOk (Y : String) : Prop where
 cls : ∃ N I,ExcClass Y N I
 self : isSubtype (.type Y) (.type Y) = pure true
noncomputable def wS : IS -> String -> Tr -> LN -> AHeap -> (LN -> AHeap -> Prop) -> (AFl -> LN -> AHeap -> Prop) -> Prop
 | .skip,X,T,ls,H,R,Q => Q .next ls H
 | .seq a b,X,T,ls,H,R,Q => wS a X T ls H R λ fl ls' H' => match fl with
  | .next => wS b X T ls' H' R Q
  | fl => Q fl ls' H'
 | .cut a,X,T,ls,H,R,Q => ∃ (α : Type) (L : α -> LN) (P : α -> AHeap -> Prop),wS a X T ls H R (cutK L P Q) /\ ∀ b H',P b H' -> Q .next (L b) H'
 | .expr e,X,T,ls,H,R,Q => w T X e .v ls H (R ls) λ _ H' => Q .next ls H'
 | .assign t e,X,T,ls,H,R,Q => w T X e .v ls H (R ls) λ p H₁ => wT T X t p ls H₁ R λ ls' H' => Q .next ls' H'
 | .assignC x e,X,T,ls,H,R,Q => w T X e .v ls H (R ls) λ p H₁ => Q .next ((x,p) :: ls) H₁
 | .ite t a b,X,T,ls,H,R,Q => w T X t .t ls H (R ls) λ p H₁ => match p with
  | .bool c => cond c (wS a X T ls H₁ R Q) (wS b X T ls H₁ R Q)
  | _ => False
 | .ret e,X,T,ls,H,R,Q => w T X e .v ls H (R ls) λ p H₁ => Q (.ret p) ls H₁
 | .brk,X,T,ls,H,R,Q => Q .brk ls H
 | .dead,X,T,ls,H,R,Q => False
 | .cont,X,T,ls,H,R,Q => Q .cont ls H
 | .for_ t it b,X,T,ls,H,R,Q => w T X it .v ls H (R ls) λ p H₁ => WFor T p ls H₁ (λ v ls' H' K => wT T X t v ls' H' noRL λ ls'' H'' => wS b X T ls'' H'' noRL K) Q
 | .while_ t b,X,T,ls,H,R,Q => ∃ (α : Type) (L : α -> LN) (I : Nat -> α -> AHeap -> Prop) (n : Nat) (b0 : α),SubN (L b0) ls /\ I n b0 H /\ ∀ n b1 H',I n b1 H' -> w T X t .t (L b1) H' noR λ p H₁ => match p with
  | .bool c => cond c (wS b X T (L b1) H₁ noRL (loopK (KeepN L (λ b2 H₂ => ∃ m,m < n /\ I m b2 H₂)) Q)) (Q .next (L b1) H₁)
  | _ => False
 | .try_ b x Y h,X,T,ls,H,R,Q => ∃ (X' : String) (QE : LN -> AHeap -> Prop),CatchOk X' Y /\ wS b X' T ls H QE Q /\ ∀ ls' H',QE ls' H' -> wS h X T.inH ls' H' noRL Q
 | .raise_ x Y,X,T,ls,H,R,Q => X = Y /\ RaiseOk Y /\ R ls H
end
section
noncomputable abbrev GT := List (Str × PV × Bool)
noncomputable def GOk1 (C : Cx) (x : Str) (p : PV) (c : Bool) : Prop := (c = true -> callee C.K p = true) /\ match p with
 | .ref a => nsIn C.K mainGlobals x = some (some (.ref a))
 | .ty n => C.mg x = none /\ bootBuiltins x = some (.type n)
 | .bi n => C.mg x = none /\ bootBuiltins x = some (.builtin n)
 | _ => False
noncomputable def GOk (C : Cx) (G : GT) : Prop := ∀ e ∈ G,GOk1 C e.1 e.2.1 e.2.2
noncomputable def gEq : PV -> PV -> Bool
 | .ref a,.ref b => Nat.beq a b
 | .ty a,.ty b => a == b
 | .bi a,.bi b => a == b
 | _,_ => false
theorem gEq_eq {p q : PV} (h : gEq p q = true) : p = q := by
 cases p with
 | ref a => cases q with
  | ref b => exact congrArg PV.ref (Nat.eq_of_beq_eq_true h)
  | _ => cases h
 | ty a => cases q with
  | ty b => exact congrArg PV.ty (eq_of_beq (α := String) h)
  | _ => cases h
 | bi a => cases q with
  | bi b => exact congrArg PV.bi (eq_of_beq (α := String) h)
  | _ => cases h
 | _ => cases h
noncomputable def gHas (G : GT) (s : Str) (p : PV) (call : Bool) : Bool := G.any λ e => e.1 == s && gEq e.2.1 p && (!call || e.2.2)
noncomputable def gName (nm : List (Str × NameKind)) (s : Str) : Bool := nm.lookup s == some .globalImplicit && s != "__name__" && s != "__debug__"
noncomputable def vName (names : List Str) (nm : List (Str × NameKind)) (x : Nat) (s : Str) : Bool := names[x]? == some s && isVar (nm.lookup s) && s != "__debug__" && s != "__classdict__"
noncomputable def oName (names : List Str) (nm : List (Str × NameKind)) (x : Nat) (s : Str) : Bool := names[x]? == some s && isOwn (nm.lookup s)
noncomputable def lName (names : List Str) (nm : List (Str × NameKind)) (x : Nat) (s : Str) : Bool := names[x]? == some s && nm.lookup s == some .local
noncomputable def IE.isL : IE -> Bool
 | .nil => true
 | .cons _ _ => true
 | _ => false
noncomputable def scOk (scope : Scope) (nm : List (Str × NameKind)) : Bool := scope.kind == .function && decide (scope.names.map (·.1)).Nodup && scope.names.all (λ x => x.2 != .free || nm.lookup x.1 == some .cell || nm.lookup x.1 == some .free)
theorem sc_ok {scope : Scope} {nm : List (Str × NameKind)} (h : scOk scope nm = true) : ScopeOk scope nm := by
 simp only [scOk,Bool.and_eq_true,beq_iff_eq,decide_eq_true_eq,List.all_eq_true,bne_iff_ne,Bool.or_eq_true,ne_eq] at h
 obtain ⟨⟨h1,h2⟩,h4⟩ := h
 exact ⟨h1,h2,λ x hx e => by
  rcases h4 x hx with (h | h) | h
  ·exact absurd e h
  ·exact .inl h
  ·exact .inr h⟩
noncomputable def ownOk (names : List Str) (vs : List Nat) (scope : Scope) : Bool := scope.names.all λ x => !isOwn (some x.2) || ((x.1 == ".0" && !names.any (· == ".0")) || vs.any λ v => names[v]? == some x.1)
noncomputable def one {α : Type} : List α -> Option α
 | [e] => some e
 | _ => none
theorem one_ok {α : Type} {l : List α} {e : α} (h : one l = some e) : l = [e] := by
 cases l with
 | nil => cases h
 | cons x r => cases r with
  | nil => cases h; rfl
  | cons _ _ => cases h
noncomputable def two {α : Type} : List α -> Option (α × α)
 | [e,e'] => some (e,e')
 | _ => none
theorem two_ok {α : Type} {l : List α} {e : α × α} (h : two l = some e) : l = [e.1,e.2] := by
 cases l with
 | nil => cases h
 | cons x r => cases r with
  | nil => cases h
  | cons y r => cases r with
   | nil => cases h; rfl
   | cons _ _ => cases h
structure Inf where
 tag : Nat
 k : List Expr := []
 s : Str := ⟨#[]⟩
 o : Operator := .Add
 u : UnaryOp := .Not
 cs : List CmpOp := []
 b : BoolOp := .And
 c : Const := .none
 sc : Scope := default
 g : List Comprehension := []
 kw : List Keyword := []
 p : Pos := ⟨0,0,0,0⟩
 os : List (Option Expr) := []
noncomputable def inf : Expr -> Inf
 | .Constant c _ _ => { tag := 0,c := c }
 | .Name s _ => { tag := 1,s := s }
 | .BinOp l o r _ => { tag := 2,k := [l,r],o := o }
 | .UnaryOp u r _ => { tag := 3,k := [r],u := u }
 | .Compare l cs r _ => { tag := 4,k := l :: r,cs := cs }
 | .BoolOp b r _ => { tag := 5,k := r,b := b }
 | .IfExp a b c _ => { tag := 6,k := [a,b,c] }
 | .Tuple vs _ _ => { tag := 7,k := vs }
 | .List vs _ => { tag := 8,k := vs }
 | .Dict os v _ => { tag := 9,k := v,os := os }
 | .Attribute o s p => { tag := 10,k := [o],s := s,p := p }
 | .Subscript o s _ => { tag := 11,k := [o,s] }
 | .Slice a b c _ => { tag := 12,os := [a,b,c] }
 | .Call f a kw p => { tag := 13,k := f :: a,kw := kw,p := p }
 | .ListComp e g sc _ => { tag := 14,k := [e],g := g,sc := sc }
 | .Lambda .. => { tag := 15 }
 | .NamedExpr .. => { tag := 15 }
 | .Set .. => { tag := 16 }
 | .SetComp .. => { tag := 15 }
 | .DictComp .. => { tag := 15 }
 | .GeneratorExp .. => { tag := 15 }
 | .Await .. => { tag := 15 }
 | .Yield .. => { tag := 15 }
 | .YieldFrom .. => { tag := 15 }
 | .FormattedValue .. => { tag := 15 }
 | .JoinedStr .. => { tag := 15 }
 | .Starred .. => { tag := 15 }
noncomputable def InfOk (e : Expr) (i : Inf) : Prop := match i.tag with
 | 0 => ∃ k p,e = .Constant i.c k p
 | 1 => ∃ p,e = .Name i.s p
 | 2 => ∃ l r p,i.k = [l,r] /\ e = .BinOp l i.o r p
 | 3 => ∃ r p,i.k = [r] /\ e = .UnaryOp i.u r p
 | 4 => ∃ l r p,i.k = l :: r /\ e = .Compare l i.cs r p
 | 5 => ∃ p,e = .BoolOp i.b i.k p
 | 6 => ∃ a b c p,i.k = [a,b,c] /\ e = .IfExp a b c p
 | 7 => ∃ k p,e = .Tuple i.k k p
 | 8 => ∃ p,e = .List i.k p
 | 9 => ∃ p,e = .Dict i.os i.k p
 | 10 => ∃ o,i.k = [o] /\ e = .Attribute o i.s i.p
 | 11 => ∃ o s p,i.k = [o,s] /\ e = .Subscript o s p
 | 12 => ∃ a b c p,i.os = [a,b,c] /\ e = .Slice a b c p
 | 13 => ∃ f a,i.k = f :: a /\ e = .Call f a i.kw i.p
 | 14 => ∃ x p,i.k = [x] /\ e = .ListComp x i.g i.sc p
 | _ => True
theorem inf_ok (e : Expr) : InfOk e (inf e) := by
 cases e with
 | Constant => exact ⟨_,_,rfl⟩
 | Name => exact ⟨_,rfl⟩
 | BinOp => exact ⟨_,_,_,rfl,rfl⟩
 | UnaryOp => exact ⟨_,_,rfl,rfl⟩
 | Compare => exact ⟨_,_,_,rfl,rfl⟩
 | BoolOp => exact ⟨_,rfl⟩
 | IfExp => exact ⟨_,_,_,_,rfl,rfl⟩
 | Tuple => exact ⟨_,_,rfl⟩
 | List => exact ⟨_,rfl⟩
 | Dict => exact ⟨_,rfl⟩
 | Attribute => exact ⟨_,rfl,rfl⟩
 | Subscript => exact ⟨_,_,_,rfl,rfl⟩
 | Slice => exact ⟨_,_,_,_,rfl,rfl⟩
 | Call => exact ⟨_,_,rfl,rfl⟩
 | ListComp => exact ⟨_,_,rfl,rfl⟩
 | _ => exact trivial
theorem tag_eq {α : Type} {n m : Nat} {o : Option α} {x : α} (h : cond (Nat.beq n m) o none = some x) : n = m /\ o = some x := by
 cases e : Nat.beq n m with
 | true => rw [e] at h; exact ⟨Nat.eq_of_beq_eq_true e,h⟩
 | false => rw [e] at h; cases h
theorem inf_at {e : Expr} {n : Nat} {i : Inf} (hi : inf e = i) (h : i.tag = n) : InfOk e { i with tag := n } := by
 subst h; subst hi; exact inf_ok e
noncomputable def ucons {α : Type} : List α -> Option (α × List α)
 | [] => none
 | a :: l => some (a,l)
noncomputable def three {α : Type} : List α -> Option (α × α × α)
 | [a,b,c] => some (a,b,c)
 | _ => none
noncomputable def asConst (e : Expr) : Option (Const) := cond (Nat.beq (inf e).tag 0) (some (inf e).c) none
noncomputable def asName (e : Expr) : Option (Str) := cond (Nat.beq (inf e).tag 1) (some (inf e).s) none
noncomputable def asBin (e : Expr) : Option (Expr × Operator × Expr) := cond (Nat.beq (inf e).tag 2) ((two (inf e).k).map λ k => (k.1,(inf e).o,k.2)) none
noncomputable def asUn (e : Expr) : Option (UnaryOp × Expr) := cond (Nat.beq (inf e).tag 3) ((one (inf e).k).map λ k => ((inf e).u,k)) none
noncomputable def asCmp (e : Expr) : Option (Expr × List CmpOp × List Expr) := cond (Nat.beq (inf e).tag 4) ((ucons (inf e).k).map λ k => (k.1,(inf e).cs,k.2)) none
noncomputable def asBool (e : Expr) : Option (BoolOp × List Expr) := cond (Nat.beq (inf e).tag 5) (some ((inf e).b,(inf e).k)) none
noncomputable def asIf (e : Expr) : Option (Expr × Expr × Expr) := cond (Nat.beq (inf e).tag 6) (three (inf e).k) none
noncomputable def asTup (e : Expr) : Option (List Expr) := cond (Nat.beq (inf e).tag 7) (some (inf e).k) none
noncomputable def asList (e : Expr) : Option (List Expr) := cond (Nat.beq (inf e).tag 8) (some (inf e).k) none
noncomputable def asDict (e : Expr) : Option (List (Option Expr) × List Expr) := cond (Nat.beq (inf e).tag 9) (some ((inf e).os,(inf e).k)) none
noncomputable def asAttr (e : Expr) : Option (Expr × Str × Pos) := cond (Nat.beq (inf e).tag 10) ((one (inf e).k).map λ k => (k,(inf e).s,(inf e).p)) none
noncomputable def asSub (e : Expr) : Option (Expr × Expr) := cond (Nat.beq (inf e).tag 11) (two (inf e).k) none
noncomputable def asSlice (e : Expr) : Option (Option Expr × Option Expr × Option Expr) := cond (Nat.beq (inf e).tag 12) (three (inf e).os) none
noncomputable def asCall (e : Expr) : Option (Expr × List Expr × List Keyword × Pos) := cond (Nat.beq (inf e).tag 13) ((ucons (inf e).k).map λ k => (k.1,k.2,(inf e).kw,(inf e).p)) none
noncomputable def asComp (e : Expr) : Option (Expr × List Comprehension × Scope) := cond (Nat.beq (inf e).tag 14) ((one (inf e).k).map λ k => (k,(inf e).g,(inf e).sc)) none
theorem asConst_ok {e : Expr} {x} (h : asConst e = some x) : ∃ k p,e = .Constant x k p := by
 obtain ⟨ht,h⟩ := tag_eq h
 obtain ⟨k,p,he⟩ := inf_at rfl ht
 cases h
 exact ⟨k,p,he⟩
theorem asName_ok {e : Expr} {x} (h : asName e = some x) : ∃ p,e = .Name x p := by
 obtain ⟨ht,h⟩ := tag_eq h
 obtain ⟨p,he⟩ := inf_at rfl ht
 cases h
 exact ⟨p,he⟩
theorem asBin_ok {e : Expr} {x} (h : asBin e = some x) : ∃ p,e = .BinOp x.1 x.2.1 x.2.2 p := by
 obtain ⟨ht,h⟩ := tag_eq h
 obtain ⟨l,r,p,hk,he⟩ := inf_at rfl ht
 rw [show (inf e).k = _ from hk] at h; cases h
 exact ⟨p,he⟩
theorem asUn_ok {e : Expr} {x} (h : asUn e = some x) : ∃ p,e = .UnaryOp x.1 x.2 p := by
 obtain ⟨ht,h⟩ := tag_eq h
 obtain ⟨l,p,hk,he⟩ := inf_at rfl ht
 rw [show (inf e).k = _ from hk] at h; cases h
 exact ⟨p,he⟩
theorem asCmp_ok {e : Expr} {x} (h : asCmp e = some x) : ∃ p,e = .Compare x.1 x.2.1 x.2.2 p := by
 obtain ⟨ht,h⟩ := tag_eq h
 obtain ⟨l,r,p,hk,he⟩ := inf_at rfl ht
 rw [show (inf e).k = _ from hk] at h; cases h
 exact ⟨p,he⟩
theorem asBool_ok {e : Expr} {x} (h : asBool e = some x) : ∃ p,e = .BoolOp x.1 x.2 p := by
 obtain ⟨ht,h⟩ := tag_eq h
 obtain ⟨p,he⟩ := inf_at rfl ht
 cases h
 exact ⟨p,he⟩
theorem asIf_ok {e : Expr} {x} (h : asIf e = some x) : ∃ p,e = .IfExp x.1 x.2.1 x.2.2 p := by
 obtain ⟨ht,h⟩ := tag_eq h
 obtain ⟨a,b,c,p,hk,he⟩ := inf_at rfl ht
 rw [show (inf e).k = _ from hk] at h; cases h
 exact ⟨p,he⟩
theorem asTup_ok {e : Expr} {x} (h : asTup e = some x) : ∃ k p,e = .Tuple x k p := by
 obtain ⟨ht,h⟩ := tag_eq h
 obtain ⟨k,p,he⟩ := inf_at rfl ht
 cases h
 exact ⟨k,p,he⟩
theorem asList_ok {e : Expr} {x} (h : asList e = some x) : ∃ p,e = .List x p := by
 obtain ⟨ht,h⟩ := tag_eq h
 obtain ⟨p,he⟩ := inf_at rfl ht
 cases h
 exact ⟨p,he⟩
theorem asDict_ok {e : Expr} {x} (h : asDict e = some x) : ∃ p,e = .Dict x.1 x.2 p := by
 obtain ⟨ht,h⟩ := tag_eq h
 obtain ⟨p,he⟩ := inf_at rfl ht
 cases h
 exact ⟨p,he⟩
theorem asAttr_ok {e : Expr} {x} (h : asAttr e = some x) : e = .Attribute x.1 x.2.1 x.2.2 := by
 obtain ⟨ht,h⟩ := tag_eq h
 obtain ⟨o,hk,he⟩ := inf_at rfl ht
 rw [show (inf e).k = _ from hk] at h; cases h
 exact he
theorem asSub_ok {e : Expr} {x} (h : asSub e = some x) : ∃ p,e = .Subscript x.1 x.2 p := by
 obtain ⟨ht,h⟩ := tag_eq h
 obtain ⟨o,s,p,hk,he⟩ := inf_at rfl ht
 rw [show (inf e).k = _ from hk] at h; cases h
 exact ⟨p,he⟩
theorem asSlice_ok {e : Expr} {x} (h : asSlice e = some x) : ∃ p,e = .Slice x.1 x.2.1 x.2.2 p := by
 obtain ⟨ht,h⟩ := tag_eq h
 obtain ⟨a,b,c,p,hk,he⟩ := inf_at rfl ht
 rw [show (inf e).os = _ from hk] at h; cases h
 exact ⟨p,he⟩
theorem asCall_ok {e : Expr} {x} (h : asCall e = some x) : e = .Call x.1 x.2.1 x.2.2.1 x.2.2.2 := by
 obtain ⟨ht,h⟩ := tag_eq h
 obtain ⟨f,a,hk,he⟩ := inf_at rfl ht
 rw [show (inf e).k = _ from hk] at h; cases h
 exact he
theorem asComp_ok {e : Expr} {x} (h : asComp e = some x) : ∃ p,e = .ListComp x.1 x.2.1 x.2.2 p := by
 obtain ⟨ht,h⟩ := tag_eq h
 obtain ⟨x,p,hk,he⟩ := inf_at rfl ht
 rw [show (inf e).k = _ from hk] at h; cases h
 exact ⟨p,he⟩
noncomputable def baseOk (e : Expr) : Bool := !(Nat.beq (inf e).tag 13)
theorem base_ok {o : Expr} {x : Str} {env : Env} {wh : Sem Value} (h : baseOk o = true) : attributeBase o x env wh = wh := by
 cases o <;> first | rfl | cases h
noncomputable def idxOk (e : Expr) : Bool := !(Nat.beq (inf e).tag 12)
theorem idx_ok {s : Expr} (h : idxOk s = true) (o i : Value) : subscripted s false o i = operate [o,i] (getItem o i) := by
 cases s <;> first | rfl | cases h
noncomputable def plainTest (e : Expr) : Bool := !(Nat.beq (inf e).tag 3 || (Nat.beq (inf e).tag 4 || (Nat.beq (inf e).tag 5 || Nat.beq (inf e).tag 6)))
theorem plain_test {e : Expr} (h : plainTest e = true) (env : Env) (t : Sem Value) : isTrue e env t = (do let v <- t; standAt e.pos; holding [v] (truthy v)) := by
 cases e <;> first | rfl | cases h
noncomputable def foldOk (e : Expr) : Bool := !(Nat.beq (inf e).tag 16)
theorem fold_ok {e : Expr} (h : foldOk e = true) (env : Env) (x : Value) : foldedSetIterable e env x = pure x := by
 cases e <;> first | rfl | cases h
theorem marks_ok {op : CmpOp} {e : Expr} (h : foldOk e = true) : behindInMarks op e = false := by
 cases e <;> first | rfl | cases h
noncomputable def cInt (i : Int) : Const -> Bool
 | .int j => i == j
 | _ => false
noncomputable def cStr (i : Str) : Const -> Bool
 | .str j => i == j
 | _ => false
noncomputable def cBool (i : Bool) : Const -> Bool
 | .bool j => i == j
 | _ => false
noncomputable def cNone : Const -> Bool
 | .none => true
 | _ => false
theorem cInt_ok {i : Int} {c : Const} (h : cInt i c = true) : c = .int i := by cases c <;> first | cases h | (rw [eq_of_beq h])
theorem cStr_ok {i : Str} {c : Const} (h : cStr i c = true) : c = .str i := by cases c <;> first | cases h | (rw [eq_of_beq h])
theorem cBool_ok {i : Bool} {c : Const} (h : cBool i c = true) : c = .bool i := by cases c <;> first | (rw [eq_of_beq h]) | cases h
theorem cNone_ok {c : Const} (h : cNone c = true) : c = .none := by cases c <;> first | rfl | cases h
noncomputable def emp {α : Type} : List α -> Bool
 | [] => true
 | _ => false
theorem emp_ok {α : Type} {l : List α} (h : emp l = true) : l = [] := by cases l <;> first | rfl | cases h
theorem any_some {α : Type} {o : Option α} {f : α -> Bool} (h : o.any f = true) : ∃ x,o = some x /\ f x = true := by
 cases o with
 | none => cases h
 | some x => exact ⟨x,rfl,h⟩
noncomputable def oN {α : Type} : Option α -> Bool
 | none => true
 | _ => false
theorem oN_ok {α : Type} {o : Option α} (h : oN o = true) : o = none := by cases o <;> first | rfl | cases h
noncomputable def mCT (names : List Str) (nm : List (Str × NameKind)) (t : CT) (e : Expr) : Bool := match t with
 | .one x => (asName e).any (oName names nm x)
 | .many vs => (two vs).any λ v => (asTup e).any λ es => (two es).any λ x => (asName x.1).any (lName names nm v.1) && (asName x.2).any (lName names nm v.2)
noncomputable def mE (G : GT) (names : List Str) (hd : Bool) : IE -> List (Str × NameKind) -> List Expr -> Bool
 | .int i,nm,es => (one es).any λ e => (asConst e).any (cInt i)
 | .str i,nm,es => (one es).any λ e => (asConst e).any (cStr i)
 | .none,nm,es => (one es).any λ e => (asConst e).any cNone
 | .bool b,nm,es => (one es).any λ e => (asConst e).any (cBool b)
 | .var x,nm,es => (one es).any λ e => (asName e).any (vName names nm x)
 | .glob p,nm,es => (one es).any λ e => (asName e).any λ s => gName nm s && gHas G s p false
 | .bin o a b,nm,es => (one es).any λ e => (asBin e).any λ x => (o == x.2.1 && (!a.isL && !b.isL)) && (mE G names hd a nm [x.1] && mE G names hd b nm [x.2.2])
 | .un o a,nm,es => (one es).any λ e => (asUn e).any λ x => (o == x.1 && !a.isL) && mE G names hd a nm [x.2]
 | .cmp o a b,nm,es => (one es).any λ e => (asCmp e).any λ x => (one x.2.1).any λ op => (one x.2.2).any λ r => (o == op && (foldOk r && (!a.isL && !b.isL))) && (mE G names hd a nm [x.1] && mE G names hd b nm [r])
 | .cmp2 o o' a b c,nm,es => (one es).any λ e => (asCmp e).any λ x => (two x.2.1).any λ op => (two x.2.2).any λ r => (o == op.1 && (o' == op.2 && (foldOk r.2 && (!a.isL && (!b.isL && !c.isL))))) && (mE G names hd a nm [x.1] && (mE G names hd b nm [r.1] && mE G names hd c nm [r.2]))
 | .boolop o l,nm,es => (one es).any λ e => (asBool e).any λ x => (o == x.1 && l.isL) && mE G names hd l nm x.2
 | .ife t a b,nm,es => (one es).any λ e => (asIf e).any λ x => (!t.isL && (!a.isL && !b.isL)) && (mE G names hd t nm [x.1] && (mE G names hd a nm [x.2.1] && mE G names hd b nm [x.2.2]))
 | .nil,nm,es => emp es
 | .cons a b,nm,es => match es with
  | e :: r => (noStar (e :: r) && (!a.isL && b.isL)) && (mE G names hd a nm [e] && mE G names hd b nm r)
  | [] => false
 | .tup l,nm,es => (one es).any λ e => (asTup e).any λ x => l.isL && mE G names hd l nm x
 | .list l,nm,es => (one es).any λ e => (asList e).any λ x => l.isL && mE G names hd l nm x
 | .dict,nm,es => (one es).any λ e => (asDict e).any λ x => emp x.1 && emp x.2
 | .attr a y,nm,es => (one es).any λ e => (asAttr e).any λ x => (y == x.2.1 && (baseOk x.1 && !a.isL)) && mE G names hd a nm [x.1]
 | .sub a i,nm,es => (one es).any λ e => (asSub e).any λ x => (idxOk x.2 && (!a.isL && !i.isL)) && (mE G names hd a nm [x.1] && mE G names hd i nm [x.2])
 | .slice a lo hi,nm,es => (one es).any λ e => (asSub e).any λ x => (asSlice x.2).any λ z => (oN z.2.2 && (!a.isL && (!lo.isL && !hi.isL))) && (mE G names hd a nm [x.1] && ((match z.1 with
    | some e => !lo.isNo && mE G names hd lo nm [e]
    | none => lo.isNo) && (match z.2.1 with
    | some e => !hi.isNo && mE G names hd hi nm [e]
    | none => hi.isNo)))
 | .call g l,nm,es => (one es).any λ e => (asCall e).any λ x => (asName x.1).any λ s => (emp x.2.2.1 && (gName nm s && (gHas G s g true && (noStar x.2.1 && l.isL)))) && mE G names hd l nm x.2.1
 | .meth o y l,nm,es => (one es).any λ e => (asCall e).any λ x => (asAttr x.1).any λ z => (emp x.2.2.1 && (y == z.2.1 && (baseOk z.1 && (noStar x.2.1 && (Nat.blt x.2.1.length 30 && (z.2.2.endLine == x.2.2.2.line && (l.isL && !o.isL))))))) && (mE G names hd o nm [z.1] && mE G names hd l nm x.2.1)
 | .comp t it fs e,nm,es => (one es).any λ x => (asComp x).any λ x => (one x.2.1).any λ g => (!hd && (scOk x.2.2 nm && (ownOk names t.vars x.2.2 && (foldOk g.iter && (mCT names x.2.2.names t g.target && (g.is_async == 0 && (!it.isL && (fs.isL && !e.isL)))))))) &&
    (mE G names hd it nm [g.iter] && (mE G names hd fs (relN x.2.2.names nm) g.ifs && mE G names hd e (relN x.2.2.names nm) [x.1]))
 | .compRR x y i1 i2 fs e,nm,es => (one es).any λ z => (asComp z).any λ z => (two z.2.1).any λ g => (asName g.1.target).any λ s => (asName g.2.target).any λ t =>
    (!hd && (scOk z.2.2 nm && (ownOk names [x,y] z.2.2 && (foldOk g.1.iter && (foldOk g.2.iter && (lName names z.2.2.names x s && (lName names z.2.2.names y t && (s != t && (g.1.is_async == 0 && (g.2.is_async == 0 && (emp g.1.ifs && (!i1.isL && (!i2.isL && (fs.isL && !e.isL)))))))))))))) &&
    (mE G names hd i1 nm [g.1.iter] && (mE G names hd i2 (relN z.2.2.names nm) [g.2.iter] && (mE G names hd fs (relN z.2.2.names nm) g.2.ifs && mE G names hd e (relN z.2.2.names nm) [z.1])))
noncomputable def Cov (names : List Str) (l : LN) (ls : Ls) : Prop := ∀ x p,lkN x l = some p -> ∃ s,names[x]? = some s /\ ls.lookup s = some p
noncomputable def WGoal (T : Tr) (f : FR) (Fs : List AF) (H : AHeap) (m : Md) (L : Bool) (es : List Expr) (Q : PV -> AHeap -> Prop) (E : Value -> Shared -> Prop) : Prop := match m,L,es with
 | .v,true,es => AL T f Fs H es (λ ps H => Q (.tup ps) H) E
 | .v,false,[e] => AE T f Fs H e Q E
 | .t,false,[e] => AT T f Fs H e (λ b H => Q (.bool b) H) E
 | .a,true,es => AAll T f Fs H .And es (λ b H => Q (.bool b) H) E /\ (E = NoE -> AIfs T f Fs H es (λ b H => Q (.bool b) H))
 | .o,true,es => AAll T f Fs H .Or es (λ b H => Q (.bool b) H) E
 | _,_,_ => True
end
section
section
variable {T : Tr} {f : FR} {env : Env} {ls : Ls} {Fs : List AF} {H : AHeap} {E : Value -> Shared -> Prop} {names : List Str} {lsN : LN}
theorem gHas_ok {C : Cx} {G : GT} (GO : GOk C G) {s : Str} {p : PV} {c : Bool} (h : gHas G s p c = true) : GOk1 C s p c := by
 obtain ⟨e,he,h⟩ := List.any_eq_true.mp h
 simp only [Bool.and_eq_true,beq_iff_eq,Bool.or_eq_true,Bool.not_eq_true'] at h
 obtain ⟨⟨h1,h2⟩,h3⟩ := h
 have := GO e he
 rw [h1,gEq_eq h2] at this
 refine ⟨λ q => this.1 ?_,this.2⟩
 rcases h3 with h3 | h3
 ·rw [q] at h3; cases h3
 ·exact h3
theorem gName_ok {nm : List (Str × NameKind)} {s : Str} (h : gName nm s = true) : nm.lookup s = some .globalImplicit /\ s ≠ "__name__" /\ (s == ("__debug__" : Str)) = false := by
 simp only [gName,Bool.and_eq_true,beq_iff_eq,bne_iff_ne,ne_eq] at h
 exact ⟨h.1.1,h.1.2,beq_eq_false_iff_ne.mpr h.2⟩
theorem AE.gl {C : Cx} {G : GT} {nm : List (Str × NameKind)} {s : Str} {pos : Pos} {p : PV} {Q : PV -> AHeap -> Prop} {c : Bool} (hn : f.env.scope.names = nm) (h : gName nm s = true) (g : GOk1 T.C s p c) (hq : Q p H) : AE T f Fs H (.Name s pos) Q E := by
 obtain ⟨h1,h2,h3⟩ := gName_ok h
 obtain ⟨-,g⟩ := g
 cases p with
 | ref a => exact AE.glob hn h1 g hq h3
 | ty n => exact AE.ty g.1 hn h1 g.2 hq h2 h3
 | bi n => exact AE.bi g.1 hn h1 g.2 hq h2 h3
 | _ => exact g.elim
theorem vName_ok {nm : List (Str × NameKind)} {x : Nat} {s : Str} (h : vName names nm x s = true) : names[x]? = some s /\ isVar (nm.lookup s) = true /\ (s == ("__debug__" : Str)) = false /\ (s == ("__classdict__" : Str)) = false := by
 simp only [vName,Bool.and_eq_true,beq_iff_eq,bne_iff_ne,ne_eq] at h
 exact ⟨h.1.1.1,h.1.1.2,beq_eq_false_iff_ne.mpr h.1.2,beq_eq_false_iff_ne.mpr h.2⟩
theorem Cov.get (cv : Cov names lsN ls) {x : Nat} {p : PV} {s : Str} (h : lkN x lsN = some p) (hs : names[x]? = some s) : ls.lookup s = some p := by
 obtain ⟨s',h1,h2⟩ := cv x p h
 rw [hs] at h1; cases h1; exact h2
theorem lkN_cons {x y : Nat} {p : PV} {l : LN} : lkN x ((y,p) :: l) = if x = y then some p else lkN x l := by
 show cond (Nat.beq x y) _ _ = _
 by_cases h : x = y
 ·subst h; rw [Nat.beq_refl,if_pos rfl]; rfl
 ·rw [if_neg h]
  cases e : Nat.beq x y with
  | true => exact absurd (Nat.eq_of_beq_eq_true e) h
  | false => rfl
theorem names_inj (nd : names.Nodup) {x y : Nat} {s : Str} (hx : names[x]? = some s) (hy : names[y]? = some s) : x = y := by
 obtain ⟨h1,e1⟩ := List.getElem?_eq_some_iff.mp hx
 obtain ⟨h2,e2⟩ := List.getElem?_eq_some_iff.mp hy
 exact (List.getElem_inj nd).mp (e1.trans e2.symm)
theorem Cov.put (nd : names.Nodup) (cv : Cov names lsN ls) {x : Nat} {p : PV} {s : Str} (hs : names[x]? = some s) : Cov names ((x,p) :: lsN) ((s,p) :: ls) := λ y q h => by
 rw [lkN_cons] at h
 split at h
 ·cases h; rename_i e; subst e; exact ⟨s,hs,lk_here⟩
 ·rename_i e
  obtain ⟨s',h1,h2⟩ := cv y q h
  exact ⟨s',h1,lk_next (beq_eq_false_iff_ne.mpr λ e' => e (names_inj nd h1 (e' ▸ hs))) h2⟩
theorem dropN_step {vs : List Nat} {y : Nat} {q : PV} {l : LN} : dropN vs ((y,q) :: l) = cond (vs.any (Nat.beq y)) (dropN vs l) ((y,q) :: dropN vs l) := rfl
theorem lkN_drop {vs : List Nat} {x : Nat} {p : PV} {l : LN} : lkN x (dropN vs l) = some p -> lkN x l = some p /\ x ∉ vs := by
 induction l with
 | nil => exact λ h => nomatch h
 | cons a l ih =>
  obtain ⟨y,q⟩ := a
  intro h
  rw [dropN_step] at h
  rw [lkN_cons]
  cases e : vs.any (Nat.beq y) with
  | true =>
   rw [e] at h
   obtain ⟨h1,h2⟩ := ih h
   refine ⟨?_,h2⟩
   rw [if_neg,h1]
   intro exy; subst exy
   obtain ⟨z,hz,ez⟩ := List.any_eq_true.mp e
   exact h2 (Nat.eq_of_beq_eq_true ez ▸ hz)
  | false =>
   rw [e] at h
   replace h : lkN x ((y,q) :: dropN vs l) = some p := h
   rw [lkN_cons] at h
   by_cases exy : x = y
   ·subst exy
    rw [if_pos rfl] at h ⊢
    refine ⟨h,λ hm => ?_⟩
    rw [List.any_eq_true.mpr ⟨x,hm,Nat.beq_refl x⟩] at e; cases e
   ·rw [if_neg exy] at h ⊢
    exact ih h
theorem Cov.drop (nd : names.Nodup) (cv : Cov names lsN ls) {vs : List Nat} {scope : Scope} (ho : ownOk names vs scope = true) : Cov names (dropN vs lsN) (compLs scope.names ls) := λ x p h => by
 obtain ⟨h1,h2⟩ := lkN_drop h
 obtain ⟨s,h3,h4⟩ := cv x p h1
 refine ⟨s,h3,compLs_get ?_ h4⟩
 cases hl : scope.names.lookup s with
 | none => rfl
 | some k =>
 cases hi : isOwn (some k) with
 | false => rfl
 | true =>
 exfalso
 have := List.all_eq_true.mp ho _ (mem_of_lookup hl)
 rw [show isOwn (some (s,k).2) = true from hi,Bool.not_true,Bool.false_or] at this
 rcases Bool.or_eq_true_iff.mp this with this | this
 ·obtain ⟨e1,e2⟩ := Bool.and_eq_true_iff.mp this
  have hs : names.any (· == (".0" : Str)) = true := List.any_eq_true.mpr ⟨s,List.mem_of_getElem? h3,e1⟩
  rw [hs] at e2; cases e2
 obtain ⟨v,hv,ev⟩ := List.any_eq_true.mp this
 rw [beq_iff_eq] at ev
 exact h2 (names_inj nd h3 ev ▸ hv)
theorem STr.to {p : PV} {Q : Bool -> AHeap -> Prop} (h : STr T p H Q) : ATr T Fs H p Q NoE := by unfold STr at h; exact h Fs
theorem wTr_ok {p : PV} {Q : Bool -> AHeap -> Prop} (h : wTr T p H Q) : ATr T Fs H p Q NoE := by
 cases p with
 | bool b => exact ATr.bool h
 | int i => exact ATr.int h
 | none => exact STr.to h
 | str s => exact STr.to h
 | tup l => exact STr.to h
 | ref a => exact STr.to h
 | ty n => exact STr.to h
 | bi n => exact STr.to h
theorem ATr.noE {p : PV} {Q : Bool -> AHeap -> Prop} (h : ATr T Fs H p Q NoE) : ATr T Fs H p Q E := λ A s v ok R pv => wpAny_mono (h A s v ok R pv) (λ _ _ x => x) λ _ _ x => x.elim
theorem ACmp.noE {op : CmpOp} {p q : PV} {Q : Bool -> AHeap -> Prop} (h : ACmp T Fs H op p q Q NoE) : ACmp T Fs H op p q Q E := λ A s v w ok R pv pw => wpAny_mono (h A s v w ok R pv pw) (λ _ _ x => x) λ _ _ x => x.elim
theorem ABin.noE {op : Value -> Value -> Sem Value} {p q : PV} {Q : PV -> AHeap -> Prop} (h : ABin T Fs H op p q Q NoE) : ABin T Fs H op p q Q E := λ A s v w ok R pv pw => wpAny_mono (h A s v w ok R pv pw) (λ _ _ x => x) λ _ _ x => x.elim
theorem AUn.noE {op : Value -> Sem Value} {p : PV} {Q : PV -> AHeap -> Prop} (h : AUn T Fs H op p Q NoE) : AUn T Fs H op p Q E := λ A s v ok R pv => wpAny_mono (h A s v ok R pv) (λ _ _ x => x) λ _ _ x => x.elim
theorem AGet.noE {x : Str} {p : PV} {Q : PV -> AHeap -> Prop} (h : AGet T Fs H x p Q NoE) : AGet T Fs H x p Q E := λ A s v ok R pv => wpAny_mono (h A s v ok R pv) (λ _ _ x => x) λ _ _ x => x.elim
theorem ASub.noE {value slice : Expr} {p q : PV} {Q : PV -> AHeap -> Prop} (h : ASub T Fs H value slice p q Q NoE) : ASub T Fs H value slice p q Q E := λ A s v w ok R pv pw => wpAny_mono (h A s v w ok R pv pw) (λ _ _ x => x) λ _ _ x => x.elim
theorem onInts_ok {p q : PV} {A : Int -> Int -> Prop} {B P : Prop} (h : onInts p q A B) (h1 : ∀ a b,p = .int a -> q = .int b -> A a b -> P) (h2 : B -> P) : P := by
 cases p with
 | int a => cases q with
  | int b => exact h1 a b rfl rfl h
  | _ => exact h2 h
 | _ => exact h2 h
theorem onStrs_ok {p q : PV} {A : Str -> Str -> Prop} {B P : Prop} (h : onStrs p q A B) (h1 : ∀ a b,p = .str a -> q = .str b -> A a b -> P) (h2 : B -> P) : P := by
 cases p with
 | str a => cases q with
  | str b => exact h1 a b rfl rfl h
  | _ => exact h2 h
 | _ => exact h2 h
theorem onNone_ok {q : PV} {A B P : Prop} (h : onNone q A B) (h1 : q = .none -> A -> P) (h2 : B -> P) : P := by
 cases q with
 | none => exact h1 rfl h
 | _ => exact h2 h
theorem SBin.to {op : Value -> Value -> Sem Value} {p q : PV} {Q : PV -> AHeap -> Prop} (h : SBin T op p q H Q) : ABin T Fs H op p q Q NoE := by unfold SBin at h; exact h Fs
theorem SCmp.to {op : CmpOp} {p q : PV} {Q : Bool -> AHeap -> Prop} (h : SCmp T op p q H Q) : ACmp T Fs H op p q Q NoE := by unfold SCmp at h; exact h Fs
theorem wBin_ok {o : Operator} {p q : PV} {Q : PV -> AHeap -> Prop} (h : wBin T o p q H Q) : ABin T Fs H (binaryOp o) p q Q NoE := by
 cases o with
 | Add => exact onInts_ok h (λ a b e1 e2 h => by subst e1; subst e2; exact ABin.add h) SBin.to
 | Sub => exact onInts_ok h (λ a b e1 e2 h => by subst e1; subst e2; exact ABin.sub h) SBin.to
 | Mult => exact onInts_ok h (λ a b e1 e2 h => by subst e1; subst e2; exact ABin.mul h.1 h.2) SBin.to
 | Mod => exact onInts_ok h (λ a b e1 e2 h => by subst e1; subst e2; exact ABin.mod h.1 h.2) SBin.to
 | FloorDiv => exact onInts_ok h (λ a b e1 e2 h => by subst e1; subst e2; exact ABin.div h.1.1 h.1.2 h.2) SBin.to
 | Pow => exact onInts_ok h (λ a b e1 e2 h => by subst e1; subst e2; exact ABin.pow h.1.1 h.1.2 h.2) SBin.to
 | _ => exact h.elim
theorem wCmp_ok {o : CmpOp} {p q : PV} {Q : Bool -> AHeap -> Prop} (h : wCmp T o p q H Q) : ACmp T Fs H o p q Q NoE := by
 cases o with
 | Lt => exact onInts_ok h (λ a b e1 e2 h => by subst e1; subst e2; exact ACmp.lt h) SCmp.to
 | LtE => exact onInts_ok h (λ a b e1 e2 h => by subst e1; subst e2; exact ACmp.le h) SCmp.to
 | Gt => exact onInts_ok h (λ a b e1 e2 h => by subst e1; subst e2; exact ACmp.gt h) SCmp.to
 | GtE => exact onInts_ok h (λ a b e1 e2 h => by subst e1; subst e2; exact ACmp.ge h) SCmp.to
 | Eq => exact onInts_ok h (λ a b e1 e2 h => by subst e1; subst e2; exact ACmp.eqInt h) λ h => onStrs_ok h (λ a b e1 e2 h => by subst e1; subst e2; exact ACmp.eqStr h) SCmp.to
 | NotEq => exact onInts_ok h (λ a b e1 e2 h => by subst e1; subst e2; exact ACmp.neInt h) λ h => onStrs_ok h (λ a b e1 e2 h => by subst e1; subst e2; exact ACmp.neStr h) SCmp.to
 | Is => exact onNone_ok h (λ e h => by subst e; exact ACmp.isNone h) SCmp.to
 | IsNot => exact onNone_ok h (λ e h => by subst e; exact ACmp.isNotNone h) SCmp.to
 | NotIn => exact ACmp.notIn (SCmp.to h)
 | In => exact SCmp.to h
theorem wUn_ok {o : UnaryOp} {p : PV} {Q : PV -> AHeap -> Prop} (h : wUn T o p H Q) : AUn T Fs H (unaryOp o) p Q NoE := by
 cases o with
 | USub => cases p with
  | int a => exact AUn.neg h
  | _ => exact h.elim
 | Not => exact AUn.not (wTr_ok h)
 | _ => exact h.elim
theorem AT.mono {e : Expr} {Q Q' : Bool -> AHeap -> Prop} (h : AT T f Fs H e Q E) (hq : ∀ p H,Q p H -> Q' p H) : AT T f Fs H e Q' E :=
 λ A s ok R => wpAny_mono (h A s ok R) (λ v s' hh => hh.elim λ H' b c d => ⟨H',b,c,hq _ _ d⟩) λ _ _ x => x
theorem ACmp.mono {op : CmpOp} {p q : PV} {Q Q' : Bool -> AHeap -> Prop} (h : ACmp T Fs H op p q Q E) (hq : ∀ b H,Q b H -> Q' b H) : ACmp T Fs H op p q Q' E :=
 λ A s v w ok R pv pw => wpAny_mono (h A s v w ok R pv pw) (λ c s' ⟨b,e,⟨H',R',k,q⟩⟩ => ⟨b,e,⟨H',R',k,hq _ _ q⟩⟩) λ _ _ x => x
theorem AL.mono {es : List Expr} {Q Q' : List PV -> AHeap -> Prop} (h : AL T f Fs H es Q E) (hq : ∀ p H,Q p H -> Q' p H) : AL T f Fs H es Q' E :=
 λ A s pos ok R => wpAny_mono (h A s pos ok R) (λ v s' hh => hh.elim λ p H' a b c d => ⟨p,H',a,b,c,hq _ _ d⟩) λ _ _ x => x
theorem WGoal.fin {e : Expr} {m : Md} {Q : PV -> AHeap -> Prop} (h : AE T f Fs H e (wFin T m Q) E) (hp : plainTest e = true) : WGoal T f Fs H m false [e] Q E := by
 cases m with
 | v => exact h
 | t => exact AT.value (AE.mono h λ p H' h => (wTr_ok h).noE) (plain_test hp _ _)
 | a => trivial
 | o => trivial
end
end
section
noncomputable def Sound (T : Tr) (X : String) (G : GT) (names : List Str) (ie : IE) : Prop := ∀ (m : Md) {c : FK} {env : Env} {ls : Ls} {nm : List (Str × NameKind)} {Fs : List AF} {H : AHeap} {R : AHeap -> Prop} {Q : PV -> AHeap -> Prop} {E : Value -> Shared -> Prop} {es : List Expr} {l : LN},
 env.scope.names = nm -> mE G names T.hd ie nm es = true -> Cov names l ls -> (∀ e s,Fly T.C (.fr ⟨c,env,ls⟩ :: Fs) X R e s -> E e s) -> w T X ie m l H R Q -> WGoal T ⟨c,env,ls⟩ Fs H m ie.isL es Q E
section
variable {T : Tr} {X : String} {G : GT} {names : List Str}
theorem Sound.ae {ie : IE} (S : Sound T X G names ie) {c : FK} {env : Env} {ls : Ls} {nm : List (Str × NameKind)} {Fs : List AF} {H : AHeap} {R : AHeap -> Prop} {Q : PV -> AHeap -> Prop} {E : Value -> Shared -> Prop} {e : Expr} {l : LN}
  (hL : ie.isL = false) (hn : env.scope.names = nm) (hm : mE G names T.hd ie nm [e] = true) (cv : Cov names l ls) (hE : ∀ e s,Fly T.C (.fr ⟨c,env,ls⟩ :: Fs) X R e s -> E e s) (h : w T X ie .v l H R Q) : AE T ⟨c,env,ls⟩ Fs H e Q E := by
 have := S .v hn hm cv hE h
 rw [hL] at this; exact this
theorem Sound.at_ {ie : IE} (S : Sound T X G names ie) {c : FK} {env : Env} {ls : Ls} {nm : List (Str × NameKind)} {Fs : List AF} {H : AHeap} {R : AHeap -> Prop} {Q : PV -> AHeap -> Prop} {E : Value -> Shared -> Prop} {e : Expr} {l : LN}
  (hL : ie.isL = false) (hn : env.scope.names = nm) (hm : mE G names T.hd ie nm [e] = true) (cv : Cov names l ls) (hE : ∀ e s,Fly T.C (.fr ⟨c,env,ls⟩ :: Fs) X R e s -> E e s) (h : w T X ie .t l H R Q) : AT T ⟨c,env,ls⟩ Fs H e (λ b H => Q (.bool b) H) E := by
 have := S .t hn hm cv hE h
 rw [hL] at this; exact this
theorem Sound.al {ie : IE} (S : Sound T X G names ie) {c : FK} {env : Env} {ls : Ls} {nm : List (Str × NameKind)} {Fs : List AF} {H : AHeap} {R : AHeap -> Prop} {Q : PV -> AHeap -> Prop} {E : Value -> Shared -> Prop} {es : List Expr} {l : LN}
  (hL : ie.isL = true) (hn : env.scope.names = nm) (hm : mE G names T.hd ie nm es = true) (cv : Cov names l ls) (hE : ∀ e s,Fly T.C (.fr ⟨c,env,ls⟩ :: Fs) X R e s -> E e s) (h : w T X ie .v l H R Q) : AL T ⟨c,env,ls⟩ Fs H es (λ ps H => Q (.tup ps) H) E := by
 have := S .v hn hm cv hE h
 rw [hL] at this; exact this
theorem noFly {C : Cx} {Fs : List AF} {e : Value} {s : Shared} {E : Value -> Shared -> Prop} (h : Fly C Fs X noR e s) : E e s := by
 obtain ⟨a,H,s₁,B,a0,x1,x2,x3,x4,x5,x6⟩ := h
 exact x5.elim
theorem nL {b : Bool} (h : (!b) = true) : b = false := by cases b <;> first | rfl | cases h
theorem and1 {a b : Bool} (h : (a && b) = true) : a = true /\ b = true := Bool.and_eq_true_iff.mp h
theorem and3 {b0 b1 b2 : Bool} {P : Prop} (h : (b0 && (b1 && b2)) = true) (k : b0 = true -> b1 = true -> b2 = true -> P) : P := k (and1 h).1 (and1 (and1 h).2).1 (and1 (and1 h).2).2
theorem and4 {b0 b1 b2 b3 : Bool} {P : Prop} (h : (b0 && (b1 && (b2 && b3))) = true) (k : b0 = true -> b1 = true -> b2 = true -> b3 = true -> P) : P := k (and1 h).1 (and1 (and1 h).2).1 (and1 (and1 (and1 h).2).2).1 (and1 (and1 (and1 h).2).2).2
theorem and5 {b0 b1 b2 b3 b4 : Bool} {P : Prop} (h : (b0 && (b1 && (b2 && (b3 && b4)))) = true) (k : b0 = true -> b1 = true -> b2 = true -> b3 = true -> b4 = true -> P) : P := k (and1 h).1 (and1 (and1 h).2).1 (and1 (and1 (and1 h).2).2).1 (and1 (and1 (and1 (and1 h).2).2).2).1 (and1 (and1 (and1 (and1 h).2).2).2).2
theorem and6 {b0 b1 b2 b3 b4 b5 : Bool} {P : Prop} (h : (b0 && (b1 && (b2 && (b3 && (b4 && b5))))) = true) (k : b0 = true -> b1 = true -> b2 = true -> b3 = true -> b4 = true -> b5 = true -> P) : P := k (and1 h).1 (and1 (and1 h).2).1 (and1 (and1 (and1 h).2).2).1 (and1 (and1 (and1 (and1 h).2).2).2).1 (and1 (and1 (and1 (and1 (and1 h).2).2).2).2).1 (and1 (and1 (and1 (and1 (and1 h).2).2).2).2).2
theorem and8 {b0 b1 b2 b3 b4 b5 b6 b7 : Bool} {P : Prop} (h : (b0 && (b1 && (b2 && (b3 && (b4 && (b5 && (b6 && b7))))))) = true) (k : b0 = true -> b1 = true -> b2 = true -> b3 = true -> b4 = true -> b5 = true -> b6 = true -> b7 = true -> P) : P := k (and1 h).1 (and1 (and1 h).2).1 (and1 (and1 (and1 h).2).2).1 (and1 (and1 (and1 (and1 h).2).2).2).1 (and1 (and1 (and1 (and1 (and1 h).2).2).2).2).1 (and1 (and1 (and1 (and1 (and1 (and1 h).2).2).2).2).2).1 (and1 (and1 (and1 (and1 (and1 (and1 (and1 h).2).2).2).2).2).2).1 (and1 (and1 (and1 (and1 (and1 (and1 (and1 h).2).2).2).2).2).2).2
theorem and9 {b0 b1 b2 b3 b4 b5 b6 b7 b8 : Bool} {P : Prop} (h : (b0 && (b1 && (b2 && (b3 && (b4 && (b5 && (b6 && (b7 && b8)))))))) = true) (k : b0 = true -> b1 = true -> b2 = true -> b3 = true -> b4 = true -> b5 = true -> b6 = true -> b7 = true -> b8 = true -> P) : P := k (and1 h).1 (and1 (and1 h).2).1 (and1 (and1 (and1 h).2).2).1 (and1 (and1 (and1 (and1 h).2).2).2).1 (and1 (and1 (and1 (and1 (and1 h).2).2).2).2).1 (and1 (and1 (and1 (and1 (and1 (and1 h).2).2).2).2).2).1 (and1 (and1 (and1 (and1 (and1 (and1 (and1 h).2).2).2).2).2).2).1 (and1 (and1 (and1 (and1 (and1 (and1 (and1 (and1 h).2).2).2).2).2).2).2).1 (and1 (and1 (and1 (and1 (and1 (and1 (and1 (and1 h).2).2).2).2).2).2).2).2
theorem and15 {b0 b1 b2 b3 b4 b5 b6 b7 b8 b9 b10 b11 b12 b13 b14 : Bool} {P : Prop} (h : (b0 && (b1 && (b2 && (b3 && (b4 && (b5 && (b6 && (b7 && (b8 && (b9 && (b10 && (b11 && (b12 && (b13 && b14)))))))))))))) = true) (k : b0 = true -> b1 = true -> b2 = true -> b3 = true -> b4 = true -> b5 = true -> b6 = true -> b7 = true -> b8 = true -> b9 = true -> b10 = true -> b11 = true -> b12 = true -> b13 = true -> b14 = true -> P) : P := k (and1 h).1 (and1 (and1 h).2).1 (and1 (and1 (and1 h).2).2).1 (and1 (and1 (and1 (and1 h).2).2).2).1 (and1 (and1 (and1 (and1 (and1 h).2).2).2).2).1 (and1 (and1 (and1 (and1 (and1 (and1 h).2).2).2).2).2).1 (and1 (and1 (and1 (and1 (and1 (and1 (and1 h).2).2).2).2).2).2).1 (and1 (and1 (and1 (and1 (and1 (and1 (and1 (and1 h).2).2).2).2).2).2).2).1 (and1 (and1 (and1 (and1 (and1 (and1 (and1 (and1 (and1 h).2).2).2).2).2).2).2).2).1 (and1 (and1 (and1 (and1 (and1 (and1 (and1 (and1 (and1 (and1 h).2).2).2).2).2).2).2).2).2).1 (and1 (and1 (and1 (and1 (and1 (and1 (and1 (and1 (and1 (and1 (and1 h).2).2).2).2).2).2).2).2).2).2).1 (and1 (and1 (and1 (and1 (and1 (and1 (and1 (and1 (and1 (and1 (and1 (and1 h).2).2).2).2).2).2).2).2).2).2).2).1 (and1 (and1 (and1 (and1 (and1 (and1 (and1 (and1 (and1 (and1 (and1 (and1 (and1 h).2).2).2).2).2).2).2).2).2).2).2).2).1 (and1 (and1 (and1 (and1 (and1 (and1 (and1 (and1 (and1 (and1 (and1 (and1 (and1 (and1 h).2).2).2).2).2).2).2).2).2).2).2).2).2).1 (and1 (and1 (and1 (and1 (and1 (and1 (and1 (and1 (and1 (and1 (and1 (and1 (and1 (and1 h).2).2).2).2).2).2).2).2).2).2).2).2).2).2
theorem s_int (i : Int) : Sound T X G names (.int i) := λ m c env ls nm Fs H R Q E es l hn hm cv hE h => by
 replace hm := any_some hm
 obtain ⟨e,he,hm⟩ := hm
 cases one_ok he
 replace hm := any_some hm
 obtain ⟨k,hk,hm⟩ := hm
 obtain ⟨_,_,rfl⟩ := asConst_ok hk
 cases cInt_ok hm
 exact WGoal.fin (AE.int h) rfl
theorem s_str (i : Str) : Sound T X G names (.str i) := λ m c env ls nm Fs H R Q E es l hn hm cv hE h => by
 replace hm := any_some hm
 obtain ⟨e,he,hm⟩ := hm
 cases one_ok he
 replace hm := any_some hm
 obtain ⟨k,hk,hm⟩ := hm
 obtain ⟨_,_,rfl⟩ := asConst_ok hk
 cases cStr_ok hm
 exact WGoal.fin (AE.str h) rfl
theorem s_bool (i : Bool) : Sound T X G names (.bool i) := λ m c env ls nm Fs H R Q E es l hn hm cv hE h => by
 replace hm := any_some hm
 obtain ⟨e,he,hm⟩ := hm
 cases one_ok he
 replace hm := any_some hm
 obtain ⟨k,hk,hm⟩ := hm
 obtain ⟨_,_,rfl⟩ := asConst_ok hk
 cases cBool_ok hm
 exact WGoal.fin (AE.bool h) rfl
theorem s_none : Sound T X G names .none := λ m c env ls nm Fs H R Q E es l hn hm cv hE h => by
 replace hm := any_some hm
 obtain ⟨e,he,hm⟩ := hm
 cases one_ok he
 replace hm := any_some hm
 obtain ⟨k,hk,hm⟩ := hm
 obtain ⟨_,_,rfl⟩ := asConst_ok hk
 cases cNone_ok hm
 exact WGoal.fin (AE.none h) rfl
theorem s_var (x : Nat) : Sound T X G names (.var x) := λ m c env ls nm Fs H R Q E es l hn hm cv hE h => by
 replace hm := any_some hm
 obtain ⟨e,he,hm⟩ := hm
 cases one_ok he
 replace hm := any_some hm
 obtain ⟨s,hs,hm⟩ := hm
 obtain ⟨_,rfl⟩ := asName_ok hs
 obtain ⟨h1,h2,h3,h4⟩ := vName_ok hm
 have h : (match lkN x l with
  | some p => wFin T m Q p H
  | Option.none => False) := h
 cases e : lkN x l with
 | none => rw [e] at h; exact h.elim
 | some p =>
  rw [e] at h
  exact WGoal.fin (AE.name hn h2 (cv.get e h1) h h3 h4) rfl
theorem s_glob (GO : GOk T.C G) (p : PV) : Sound T X G names (.glob p) := λ m c env ls nm Fs H R Q E es l hn hm cv hE h => by
 replace hm := any_some hm
 obtain ⟨e,he,hm⟩ := hm
 cases one_ok he
 replace hm := any_some hm
 obtain ⟨s,hs,hm⟩ := hm
 obtain ⟨_,rfl⟩ := asName_ok hs
 obtain ⟨h1,h2⟩ := and1 hm
 exact WGoal.fin (AE.gl (C := T.C) (G := G) hn h1 (gHas_ok GO h2) h) rfl
theorem s_bin (o : Operator) {a b : IE} (Sa : Sound T X G names a) (Sb : Sound T X G names b) : Sound T X G names (.bin o a b) := λ m c env ls nm Fs H R Q E es l hn hm cv hE h => by
 replace hm := any_some hm
 obtain ⟨e,he,hm⟩ := hm
 cases one_ok he
 replace hm := any_some hm
 obtain ⟨x,hx,hm⟩ := hm
 obtain ⟨_,rfl⟩ := asBin_ok hx
 obtain ⟨h1,h2⟩ := and1 hm
 refine and3 h1 λ h1 h3 h4 => ?_
 obtain ⟨h2,h5⟩ := and1 h2
 rw [<- eq_of_beq h1]
 exact WGoal.fin (AE.binop (AE.mono (Sa.ae (nL h3) hn h2 cv hE h) λ p H₁ h => AE.mono (Sb.ae (nL h4) hn h5 cv hE h) λ q H₂ h => (wBin_ok h).noE)) rfl
theorem s_un (o : UnaryOp) {a : IE} (Sa : Sound T X G names a) : Sound T X G names (.un o a) := λ m c env ls nm Fs H R Q E es l hn hm cv hE h => by
 replace hm := any_some hm
 obtain ⟨e,he,hm⟩ := hm
 cases one_ok he
 replace hm := any_some hm
 obtain ⟨x,hx,hm⟩ := hm
 obtain ⟨_,rfl⟩ := asUn_ok hx
 obtain ⟨h1,h2⟩ := and1 hm
 obtain ⟨h1,h4⟩ := and1 h1
 rw [<- eq_of_beq h1]
 cases m with
 | v =>
  have h : w T X a .v l H R λ p H₁ => wUn T o p H₁ Q := by cases o <;> exact h
  exact AE.unop (AE.mono (Sa.ae (nL h4) hn h2 cv hE h) λ p H₁ h => (wUn_ok h).noE)
 | t =>
  cases o with
  | Not => exact AT.not (AT.mono (Sa.at_ (nL h4) hn h2 cv hE h) λ b H₁ h => h)
  | _ => exact h.elim
 | a => trivial
 | o => trivial
theorem s_cmp (o : CmpOp) {a b : IE} (Sa : Sound T X G names a) (Sb : Sound T X G names b) : Sound T X G names (.cmp o a b) := λ m c env ls nm Fs H R Q E es l hn hm cv hE h => by
 replace hm := any_some hm
 obtain ⟨e,he,hm⟩ := hm
 cases one_ok he
 replace hm := any_some hm
 obtain ⟨x,hx,hm⟩ := hm
 obtain ⟨_,rfl⟩ := asCmp_ok hx
 replace hm := any_some hm
 obtain ⟨op,ho,hm⟩ := hm
 replace hm := any_some hm
 obtain ⟨r,hr,hm⟩ := hm
 rw [one_ok ho,one_ok hr]
 obtain ⟨h1,h2⟩ := and1 hm
 refine and4 h1 λ h1 h3 h4 h5 => ?_
 obtain ⟨h2,h6⟩ := and1 h2
 rw [<- eq_of_beq h1]
 cases m with
 | v => exact AE.cmp (AE.mono (Sa.ae (nL h4) hn h2 cv hE h) λ p H₁ h => AE.mono (Sb.ae (nL h5) hn h6 cv hE h) λ q H₂ h => (wCmp_ok h).noE) (marks_ok h3)
 | t => exact AT.cmp (AE.mono (Sa.ae (nL h4) hn h2 cv hE h) λ p H₁ h => AE.mono (Sb.ae (nL h5) hn h6 cv hE h) λ q H₂ h => (wCmp_ok h).noE) (marks_ok h3)
 | a => trivial
 | o => trivial
theorem s_cmp2 (o o' : CmpOp) {a b d : IE} (Sa : Sound T X G names a) (Sb : Sound T X G names b) (Sd : Sound T X G names d) : Sound T X G names (.cmp2 o o' a b d) := λ m c env ls nm Fs H R Q E es l hn hm cv hE h => by
 replace hm := any_some hm
 obtain ⟨e,he,hm⟩ := hm
 cases one_ok he
 replace hm := any_some hm
 obtain ⟨x,hx,hm⟩ := hm
 obtain ⟨_,rfl⟩ := asCmp_ok hx
 replace hm := any_some hm
 obtain ⟨op,ho,hm⟩ := hm
 replace hm := any_some hm
 obtain ⟨r,hr,hm⟩ := hm
 rw [two_ok ho,two_ok hr]
 obtain ⟨h1,h2⟩ := and1 hm
 refine and6 h1 λ h1 k1 k2 k3 k4 k5 => ?_
 refine and3 h2 λ h2 m1 m2 => ?_
 rw [<- eq_of_beq h1,<- eq_of_beq k1]
 cases m with
 | t =>
  refine AT.cmp2 (AE.mono (Sa.ae (nL k3) hn h2 cv hE h) λ p H₁ h => AE.mono (Sb.ae (nL k4) hn m1 cv hE h) λ q H₂ h => (ACmp.mono (wCmp_ok h).noE λ b H₃ h => ?_)) (marks_ok k2)
  cases b with
  | true => exact AE.mono (Sd.ae (nL k5) hn m2 cv hE h) λ q' H₄ h => (wCmp_ok h).noE
  | false => exact h
 | v => exact h.elim
 | a => trivial
 | o => trivial
theorem s_boolop (o : BoolOp) {a : IE} (Sa : Sound T X G names a) : Sound T X G names (.boolop o a) := λ m c env ls nm Fs H R Q E es l hn hm cv hE h => by
 replace hm := any_some hm
 obtain ⟨e,he,hm⟩ := hm
 cases one_ok he
 replace hm := any_some hm
 obtain ⟨x,hx,hm⟩ := hm
 obtain ⟨_,rfl⟩ := asBool_ok hx
 obtain ⟨h1,h2⟩ := and1 hm
 obtain ⟨h1,h3⟩ := and1 h1
 rw [<- eq_of_beq h1]
 cases m with
 | t =>
  cases o with
  | And =>
   have := Sa .a hn h2 cv hE h
   rw [h3] at this
   exact AT.boolop this.1
  | Or =>
   have := Sa .o hn h2 cv hE h
   rw [h3] at this
   exact AT.boolop this
 | v => cases o <;> exact h.elim
 | a => trivial
 | o => trivial
theorem s_ife {a b d : IE} (Sa : Sound T X G names a) (Sb : Sound T X G names b) (Sd : Sound T X G names d) : Sound T X G names (.ife a b d) := λ m c env ls nm Fs H R Q E es l hn hm cv hE h => by
 replace hm := any_some hm
 obtain ⟨e,he,hm⟩ := hm
 cases one_ok he
 replace hm := any_some hm
 obtain ⟨x,hx,hm⟩ := hm
 obtain ⟨_,rfl⟩ := asIf_ok hx
 obtain ⟨h1,h2⟩ := and1 hm
 refine and3 h1 λ h1 k1 k2 => ?_
 refine and3 h2 λ h2 m1 m2 => ?_
 cases m with
 | v =>
  refine AE.ifexp (AT.mono (Sa.at_ (nL h1) hn h2 cv hE h) λ b' H₁ h => ?_)
  cases b' with
  | true => exact Sb.ae (nL k1) hn m1 cv hE h
  | false => exact Sd.ae (nL k2) hn m2 cv hE h
 | t => exact h.elim
 | a => trivial
 | o => trivial
theorem s_nil : Sound T X G names .nil := λ m c env ls nm Fs H R Q E es l hn hm cv hE h => by
 cases emp_ok hm
 cases m with
 | v => exact AL.nil h
 | a => exact ⟨AAll.and_nil h,λ _ => h⟩
 | o => exact AAll.or_nil h
 | t => trivial
theorem s_cons {a b : IE} (Sa : Sound T X G names a) (Sb : Sound T X G names b) : Sound T X G names (.cons a b) := λ m c env ls nm Fs H R Q E es l hn hm cv hE h => by
 cases es with
 | nil => cases hm
 | cons e r =>
  obtain ⟨h1,h2⟩ := and1 hm
  refine and3 h1 λ h1 k2 k1 => ?_
  obtain ⟨h2,m1⟩ := and1 h2
  cases m with
  | v => exact AL.cons (AE.mono (Sa.ae (nL k2) hn h2 cv hE h) λ p H₁ h => AL.mono (Sb.al k1 hn m1 cv hE h) λ ps H₂ h => h) (starEach_cons_plain h1).1
  | a =>
   refine ⟨AAll.and (AT.mono (Sa.at_ (nL k2) hn h2 cv hE h) λ b' H₁ h => ?_),λ e => ?_⟩
   ·cases b' with
    | true =>
     have := Sb .a hn m1 cv hE h
     rw [k1] at this; exact this.1
    | false => exact h
   ·subst e
    refine AT.mono (Sa.at_ (nL k2) hn h2 cv hE h) λ b' H₁ h => ?_
    cases b' with
    | true =>
     have := Sb .a hn m1 cv hE h
     rw [k1] at this; exact this.2 rfl
    | false => exact h
  | o =>
   refine AAll.or (AT.mono (Sa.at_ (nL k2) hn h2 cv hE h) λ b' H₁ h => ?_)
   cases b' with
   | true => exact h
   | false =>
    have := Sb .o hn m1 cv hE h
    rw [k1] at this; exact this
  | t => trivial
theorem ble_ok {n : Nat} {A : Prop} (h : cond (Nat.ble n 1000) A False) : n <= 1000 /\ A := by
 cases e : Nat.ble n 1000 with
 | true => rw [e] at h; exact ⟨Nat.le_of_ble_eq_true e,h⟩
 | false => rw [e] at h; exact h.elim
theorem s_tup {a : IE} (Sa : Sound T X G names a) : Sound T X G names (.tup a) := λ m c env ls nm Fs H R Q E es l hn hm cv hE h => by
 replace hm := any_some hm
 obtain ⟨e,he,hm⟩ := hm
 cases one_ok he
 replace hm := any_some hm
 obtain ⟨x,hx,hm⟩ := hm
 obtain ⟨_,_,rfl⟩ := asTup_ok hx
 obtain ⟨h1,h2⟩ := and1 hm
 exact WGoal.fin (AE.tuple (AL.mono (Sa.al h1 hn h2 cv hE h) λ ps H₁ h => ble_ok h)) rfl
theorem s_list {a : IE} (Sa : Sound T X G names a) : Sound T X G names (.list a) := λ m c env ls nm Fs H R Q E es l hn hm cv hE h => by
 replace hm := any_some hm
 obtain ⟨e,he,hm⟩ := hm
 cases one_ok he
 replace hm := any_some hm
 obtain ⟨x,hx,hm⟩ := hm
 obtain ⟨_,rfl⟩ := asList_ok hx
 obtain ⟨h1,h2⟩ := and1 hm
 exact WGoal.fin (AE.list (AL.mono (Sa.al h1 hn h2 cv hE h) λ ps H₁ h => ble_ok h)) rfl
theorem s_dict : Sound T X G names .dict := λ m c env ls nm Fs H R Q E es l hn hm cv hE h => by
 replace hm := any_some hm
 obtain ⟨e,he,hm⟩ := hm
 cases one_ok he
 replace hm := any_some hm
 obtain ⟨x,hx,hm⟩ := hm
 obtain ⟨_,rfl⟩ := asDict_ok hx
 obtain ⟨h1,h2⟩ := and1 hm
 rw [emp_ok h1,emp_ok h2]
 exact WGoal.fin (AE.dictEmpty h) rfl
theorem s_attr (y : Str) {a : IE} (Sa : Sound T X G names a) : Sound T X G names (.attr a y) := λ m c env ls nm Fs H R Q E es l hn hm cv hE h => by
 replace hm := any_some hm
 obtain ⟨e,he,hm⟩ := hm
 cases one_ok he
 replace hm := any_some hm
 obtain ⟨x,hx,hm⟩ := hm
 cases asAttr_ok hx
 obtain ⟨h1,h2⟩ := and1 hm
 refine and3 h1 λ h1 k1 k2 => ?_
 rw [<- eq_of_beq h1]
 refine WGoal.fin (AE.attr (base_ok k1) (AE.mono (Sa.ae (nL k2) hn h2 cv hE h) λ p H₁ h => ?_)) rfl
 have h : SGet T y p H₁ (wFin T m Q) := h
 unfold SGet at h; exact (h _).noE
theorem s_sub {a b : IE} (Sa : Sound T X G names a) (Sb : Sound T X G names b) : Sound T X G names (.sub a b) := λ m c env ls nm Fs H R Q E es l hn hm cv hE h => by
 replace hm := any_some hm
 obtain ⟨e,he,hm⟩ := hm
 cases one_ok he
 replace hm := any_some hm
 obtain ⟨x,hx,hm⟩ := hm
 obtain ⟨_,rfl⟩ := asSub_ok hx
 obtain ⟨h1,h2⟩ := and1 hm
 refine and3 h1 λ h1 k1 k2 => ?_
 obtain ⟨h2,m1⟩ := and1 h2
 refine WGoal.fin (AE.sub (AE.mono (Sa.ae (nL k1) hn h2 cv hE h) λ p H₁ h => AE.mono (Sb.ae (nL k2) hn m1 cv hE h) λ q H₂ h => ?_)) rfl
 have h : SSub T p q H₂ (wFin T m Q) := h
 unfold SSub at h; exact (h _ _ _ (idx_ok h1)).noE
theorem s_part {a : IE} (Sa : Sound T X G names a) {c : FK} {env : Env} {ls : Ls} {nm : List (Str × NameKind)} {Fs : List AF} {H : AHeap} {R : AHeap -> Prop} {Q : Option Int -> AHeap -> Prop} {E : Value -> Shared -> Prop} {e : Option Expr} {l : LN}
  (hL : a.isL = false) (hn : env.scope.names = nm) (hm : (match e with | some e => !a.isNo && mE G names T.hd a nm [e] | none => a.isNo) = true) (cv : Cov names l ls) (hE : ∀ e s,Fly T.C (.fr ⟨c,env,ls⟩ :: Fs) X R e s -> E e s)
  (h : w T X a .v l H R λ p H' => wPart a.isNo p λ i => Q i H') : APart T ⟨c,env,ls⟩ Fs H e Q E := by
 cases e with
 | none =>
  have hm : a.isNo = true := hm
  cases a <;> first | exact h | cases hm
 | some e =>
  obtain ⟨h1,h2⟩ := and1 hm
  rw [nL h1] at h
  refine APart.some (AE.mono (Sa.ae hL hn h2 cv hE h) λ p H' h => ?_)
  cases p <;> first | exact ⟨_,rfl,h⟩ | exact h.elim
theorem APart.mono {f : FR} {Fs : List AF} {H : AHeap} {E : Value -> Shared -> Prop} {e : Option Expr} {Q Q' : Option Int -> AHeap -> Prop} (h : APart T f Fs H e Q E) (hq : ∀ i H,Q i H -> Q' i H) : APart T f Fs H e Q' E := by
 cases e with
 | none => exact hq _ _ h
 | some e => exact AE.mono h λ p H' ⟨i,e,h⟩ => ⟨i,e,hq _ _ h⟩
theorem s_slice {a lo hi : IE} (Sa : Sound T X G names a) (Sl : Sound T X G names lo) (Sh : Sound T X G names hi) : Sound T X G names (.slice a lo hi) := λ m c env ls nm Fs H R Q E es l hn hm cv hE h => by
 replace hm := any_some hm
 obtain ⟨e,he,hm⟩ := hm
 cases one_ok he
 replace hm := any_some hm
 obtain ⟨x,hx,hm⟩ := hm
 obtain ⟨_,rfl⟩ := asSub_ok hx
 replace hm := any_some hm
 obtain ⟨z,hz,hm⟩ := hm
 obtain ⟨_,hz⟩ := asSlice_ok hz
 rw [hz]
 obtain ⟨h1,h2⟩ := and1 hm
 refine and4 h1 λ h1 k1 k2 k3 => ?_
 refine and3 h2 λ h2 m1 m2 => ?_
 rw [oN_ok h1]
 refine WGoal.fin (AE.slice (AE.mono (Sa.ae (nL k1) hn h2 cv hE h) λ p H₁ h => APart.mono (s_part Sl (nL k2) hn m1 cv hE h) λ i H₂ h => APart.mono (s_part Sh (nL k3) hn m2 cv hE h) λ j H₃ h => ?_)) rfl
 have h : SSlice T p i j H₃ (wFin T m Q) := h
 unfold SSlice at h; exact h
theorem s_call (GO : GOk T.C G) (g : PV) {a : IE} (Sa : Sound T X G names a) : Sound T X G names (.call g a) := λ m c env ls nm Fs H R Q E es l hn hm cv hE h => by
 replace hm := any_some hm
 obtain ⟨e,he,hm⟩ := hm
 cases one_ok he
 replace hm := any_some hm
 obtain ⟨x,hx,hm⟩ := hm
 cases asCall_ok hx
 replace hm := any_some hm
 obtain ⟨s,hs,hm⟩ := hm
 obtain ⟨_,hs⟩ := asName_ok hs
 obtain ⟨h1,h2⟩ := and1 hm
 refine and5 h1 λ k1 h1 k2 k3 k4 => ?_
 rw [hs,emp_ok k1]
 have g1 := gHas_ok GO k2
 refine WGoal.fin (AE.call (λ _ => rfl) k3 (AE.gl (C := T.C) (G := G) hn h1 g1 ⟨g1.1 rfl,AL.mono (Sa.al k4 hn h2 cv hE h) λ ps H₁ h => ?_⟩)) rfl
 have h : SCall T X g ps H₁ (wFin T m Q) R := h
 unfold SCall at h; exact h _ _ hE
theorem s_meth (y : Str) {o a : IE} (So : Sound T X G names o) (Sa : Sound T X G names a) : Sound T X G names (.meth o y a) := λ m c env ls nm Fs H R Q E es l hn hm cv hE h => by
 replace hm := any_some hm
 obtain ⟨e,he,hm⟩ := hm
 cases one_ok he
 replace hm := any_some hm
 obtain ⟨x,hx,hm⟩ := hm
 cases asCall_ok hx
 replace hm := any_some hm
 obtain ⟨z,hz,hm⟩ := hm
 obtain ⟨h1,h2⟩ := and1 hm
 refine and8 h1 λ k1 h1 k2 k3 k4 k5 k6 k7 => ?_
 obtain ⟨h2,m1⟩ := and1 h2
 rw [asAttr_ok hz,emp_ok k1,<- eq_of_beq h1]
 refine WGoal.fin (AE.meth (base_ok k2) k3 (Nat.le_of_ble_eq_true k4) k5 (AE.mono (So.ae (nL k7) hn h2 cv hE h) λ p H₁ h => ?_)) rfl
 obtain ⟨g,hg,h⟩ := h
 unfold SMeth at hg
 refine ⟨g,hg.1,hg.2 _,AL.mono (Sa.al k6 hn m1 cv hE h) λ ps H₂ h => ?_⟩
 have h : SCall T X g (p :: ps) H₂ (wFin T m Q) R := h
 unfold SCall at h; exact h _ _ hE
theorem lName_ok {nm : List (Str × NameKind)} {x : Nat} {s : Str} (h : lName names nm x s = true) : names[x]? = some s /\ nm.lookup s = some .local := by
 obtain ⟨h1,h2⟩ := and1 h
 exact ⟨eq_of_beq h1,eq_of_beq h2⟩
theorem mCT_cases {t : CT} {nm : List (Str × NameKind)} {e : Expr} (h : mCT names nm t e = true) :
  (∃ x s p,t = .one x /\ e = .Name s p /\ names[x]? = some s /\ isOwn (nm.lookup s) = true) \/
  ∃ x y s t' p q k r,t = .many [x,y] /\ e = .Tuple [.Name s p,.Name t' q] k r /\ (names[x]? = some s /\ nm.lookup s = some .local) /\ names[y]? = some t' /\ nm.lookup t' = some .local := by
 cases t with
 | one x =>
  obtain ⟨s,hs,hm⟩ := any_some h
  obtain ⟨p,rfl⟩ := asName_ok hs
  obtain ⟨h1,h2⟩ := and1 hm
  exact .inl ⟨x,s,p,rfl,rfl,eq_of_beq h1,h2⟩
 | many vs =>
  replace h := any_some h
  obtain ⟨v,hv,h⟩ := h
  replace h := any_some h
  obtain ⟨es,he,h⟩ := h
  obtain ⟨k,r,rfl⟩ := asTup_ok he
  replace h := any_some h
  obtain ⟨x,hx,h⟩ := h
  obtain ⟨h1,h2⟩ := and1 h
  obtain ⟨s,hs,h1⟩ := any_some h1
  obtain ⟨t,ht,h2⟩ := any_some h2
  obtain ⟨p,e1⟩ := asName_ok hs
  obtain ⟨q,e2⟩ := asName_ok ht
  refine .inr ⟨v.1,v.2,s,t,p,q,k,r,by rw [two_ok hv],by rw [two_ok hx,e1,e2],lName_ok h1,lName_ok h2⟩
theorem mCT_vars {t : CT} {nm : List (Str × NameKind)} {e : Expr} (h : mCT names nm t e = true) : ∀ v ∈ t.vars,∃ s,names[v]? = some s /\ isOwn (nm.lookup s) = true := by
 rcases mCT_cases h with ⟨x,s,p,rfl,rfl,h1,h2⟩ | ⟨x,y,s,t,p,q,k,r,rfl,rfl,h1,h2⟩
 ·intro v hv; rw [List.mem_singleton.mp hv]; exact ⟨_,h1,h2⟩
 ·intro v hv
  rcases List.mem_cons.mp hv with rfl | hv
  ·exact ⟨_,h1.1,by rw [h1.2]; rfl⟩
  ·rw [List.mem_singleton.mp hv]; exact ⟨_,h2.1,by rw [h2.2]; rfl⟩
theorem bindCT_two {x y : Nat} {p : PV} {l l' : LN} (hb : bindCT (.many [x,y]) p l = some l') : ∃ p1 p2,p = .tup [p1,p2] /\ l' = (y,p2) :: (x,p1) :: l := by
 cases p with
 | tup ps =>
  cases ps with
  | nil => cases hb
  | cons a r => cases r with
   | nil => cases hb
   | cons b r => cases r with
    | nil => cases hb; exact ⟨a,b,rfl,rfl⟩
    | cons _ _ => cases hb
 | _ => cases hb
theorem AA.nameO {own : List Addr} {x : Str} {pos : Pos} {p : PV} {env : Env} {ls : Ls} {ns nm : List (Str × NameKind)} {Fs : List AF} {H : AHeap} {Q : Ls -> AHeap -> Prop} {E : Value -> Shared -> Prop} (hn : env.scope.names = relN ns nm) (ho : OwnsOk own ns env) (hk : isOwn (ns.lookup x) = true) (h : Q ((x,p) :: ls) H) : AA T ⟨.cp own,env,ls⟩ Fs H (.Name x pos) p Q E :=
 λ A s v ok R hp => wpAny_assign_Name (store_name R (by
  rw [show env.kindOf x = env.scope.names.lookup x from rfl,hn,relN_lookup]
  have ho := ho x
  cases e : ns.lookup x with
  | none => rw [e] at hk; cases hk
  | some k => cases k with
   | «local» => exact .inl rfl
   | cell => exact .inr ⟨rfl,ho e⟩
   | _ => rw [e] at hk; cases hk) hp λ s' R' tk => ⟨_,H,R',tk,h⟩)
theorem bind_ok (hh : T.hd = false) (nd : names.Nodup) {t : CT} {own : List Addr} {env : Env} {ns nm : List (Str × NameKind)} {e : Expr} {ls : Ls} {l l' : LN} {p : PV} {Fs : List AF} {H : AHeap} {Q : Ls -> AHeap -> Prop} {E : Value -> Shared -> Prop} (hn : env.scope.names = relN ns nm) (ho : OwnsOk own ns env) (h : mCT names ns t e = true) (cv : Cov names l ls) (hb : bindCT t p l = some l')
  (hq : ∀ ls',Cov names l' ls' -> (∀ y q,(∀ v ∈ t.vars,names[v]? ≠ some y) -> ls.lookup y = some q -> ls'.lookup y = some q) -> Q ls' H) : AA T ⟨.cp own,env,ls⟩ Fs H e p Q E := by
 rcases mCT_cases h with ⟨x,s,p',rfl,rfl,h1,h2⟩ | ⟨x,y,s,t,p',q,k,r,rfl,rfl,h1,h2⟩
 ·cases hb
  exact AA.nameO hn ho h2 (hq _ (cv.put nd h1) λ y q hy e => lk_next (beq_eq_false_iff_ne.mpr λ e' => hy _ (.head _) (e' ▸ h1)) e)
 ·obtain ⟨p1,p2,rfl,rfl⟩ := bindCT_two hb
  refine AA.tup rfl rfl (AAs.cons' rfl (AA.nameO hn ho (by rw [h1.2]; rfl) (AAs.cons' rfl (AA.nameO hn ho (by rw [h2.2]; rfl) (AAs.nil' (hq _ ((cv.put nd h1.1).put nd h2.1) λ y q hy e => ?_))))))
  exact lk_next (beq_eq_false_iff_ne.mpr λ e' => hy _ (.tail _ (.head _)) (e' ▸ h2.1)) (lk_next (beq_eq_false_iff_ne.mpr λ e' => hy _ (.head _) (e' ▸ h1.1)) e)
noncomputable def stepC (T : Tr) (X : String) (t : CT) (fs e : IE) (l : LN) (v : PV) (H' : AHeap) (K : Option PV -> AHeap -> Prop) : Prop := match bindCT t v (dropN t.vars l) with
  | some ls' => w T X fs .a ls' H' noR λ b H₂ => match b with
   | .bool b => cond b (w T X e .v ls' H₂ noR λ r H₃ => K (some r) H₃) (K Option.none H₂)
   | _ => False
  | Option.none => False
theorem comp_turn (hh : T.hd = false) (nd : names.Nodup) {t : CT} {fs e : IE} (Sf : Sound T X G names fs) (Se : Sound T X G names e) {scope : Scope} {nm : List (Str × NameKind)} {target elt : Expr} {ifs : List Expr} {ls : Ls} {l : LN} (cv : Cov names l ls)
  (ho : ownOk names t.vars scope = true) (hmt : mCT names scope.names t target = true) (hlf : fs.isL = true) (hle : e.isL = false) (hmf : mE G names T.hd fs (relN scope.names nm) ifs = true) (hme : mE G names T.hd e (relN scope.names nm) [elt] = true)
  {own : List Addr} {cenv : Env} (hc : cenv.scope.names = relN scope.names nm) (hco : OwnsOk own scope.names cenv) {D : Addr} {post : List AF} {Fs' : List AF} {H' : AHeap} {out : List PV} (hz : out.length <= 100000) {v : PV} {K : List PV -> AHeap -> Prop} (h : stepC T X t fs e l v H' λ r H'' => K (out ++ r.toList) H'') :
  AA T ⟨.cp own,cenv,compLs scope.names ls⟩ Fs' H' target v (λ ls' H₂ => Sub (compLs scope.names ls) ls' /\ AIfs T ⟨.cp own,cenv,ls'⟩ Fs' H₂ ifs (λ b H₃ => if b then AEmit T ⟨.cp own,cenv,ls'⟩ D post (emitElt elt) H₃ out (λ out' H₄ => out'.length <= out.length + 1 /\ K out' H₄) else K out H₃)) NoE := by
 cases hb : bindCT t v (dropN t.vars l) with
 | none => unfold stepC at h; rw [hb] at h; exact h.elim
 | some l' =>
  unfold stepC at h
  rw [hb] at h
  refine bind_ok hh nd hc hco hmt (cv.drop nd ho) hb λ ls' cv' keep => ⟨λ y q hy => keep y q (λ v hv ev => ?_) hy,?_⟩
  ·obtain ⟨s,h1,h2⟩ := mCT_vars hmt v hv
   have ey : s = y := Option.some.inj (h1.symm.trans ev)
   subst ey
   rw [(compLs_lookup hy).2] at h2; cases h2
  ·have hf := Sf .a (E := NoE) (c := .cp own) (Fs := Fs') (es := ifs) hc hmf cv' (λ _ _ => noFly) h
   rw [hlf] at hf
   refine AIfs.mono (hf.2 rfl) λ b H₂ hb2 => ?_
   cases b with
   | true =>
    rw [if_pos rfl]
    exact AEmit.elt hz λ Fs'' => AE.mono (Se.ae hle hc hme cv' (λ _ _ => noFly) hb2) λ r H₃ h => ⟨by simp,h⟩
   | false =>
    rw [if_neg (by decide)]
    have hb2 : K (out ++ (Option.none : Option PV).toList) H₂ := hb2
    rw [Option.toList_none,List.append_nil] at hb2
    exact hb2
noncomputable def CompIs (T : Tr) (c : FK) (env : Env) (ls : Ls) (nm : List (Str × NameKind)) (Fs : List AF) (H : AHeap) (v : Expr) (P : List PV -> AHeap -> Prop) (E : Value -> Shared -> Prop) : Prop :=
 ∃ elt target iter ifs rest scope pos emit,v = .ListComp elt (⟨target,iter,ifs,0⟩ :: rest) scope pos /\ T.hd = false /\ ScopeOk scope nm /\ (∀ env x,foldedSetIterable iter env x = pure x) /\ CompShape elt (⟨target,iter,ifs,0⟩ :: rest) scope pos 0 target ifs emit /\ CompGives T scope.names nm c env ls Fs H iter target ifs emit P E
noncomputable def newList (Q : PV -> AHeap -> Prop) (out : List PV) (H : AHeap) : Prop := ∀ a,H a = Option.none -> Q (.ref a) (upd H a (.list out))
theorem CompIs.ae {c : FK} {env : Env} {ls : Ls} {nm : List (Str × NameKind)} {Fs : List AF} {H : AHeap} {v : Expr} {Q : PV -> AHeap -> Prop} {E : Value -> Shared -> Prop} (hn : env.scope.names = nm) (h : CompIs T c env ls nm Fs H v (newList Q) E) : AE T ⟨c,env,ls⟩ Fs H v Q E := by
 obtain ⟨elt,target,iter,ifs,rest,scope,pos,emit,rfl,hh,sc,hf,sh,h⟩ := h
 exact AE.compG hh hn sc (hf env) sh h
theorem turn_step {S : Ls -> Prop} {own : List Addr} {cenv : Env} {D : Addr} {post Fs' : List AF} {H' : AHeap} {target : Expr} {ifs : List Expr} {emit : Value -> Env -> Sem Unit} {v : PV} {out : List PV} {i : Nat} {K K2 : List PV -> AHeap -> Prop} {ls₀ : Ls}
  (h : AA T ⟨.cp own,cenv,ls₀⟩ Fs' H' target v (λ ls' H₂ => S ls' /\ AIfs T ⟨.cp own,cenv,ls'⟩ Fs' H₂ ifs (λ b H₃ => if b then AEmit T ⟨.cp own,cenv,ls'⟩ D post emit H₃ out (λ out' H₄ => out'.length <= out.length + 1 /\ K out' H₄) else K out H₃)) NoE)
  (hlo : out.length <= i) (next : ∀ out' H₄,out'.length <= i + 1 -> K out' H₄ -> K2 out' H₄) :
  AA T ⟨.cp own,cenv,ls₀⟩ Fs' H' target v (λ ls' H₂ => S ls' /\ AIfs T ⟨.cp own,cenv,ls'⟩ Fs' H₂ ifs (λ b H₃ => if b then AEmit T ⟨.cp own,cenv,ls'⟩ D post emit H₃ out K2 else K2 out H₃)) NoE :=
 AA.mono h λ ls' H₂ hx => ⟨hx.1,AIfs.mono hx.2 λ b H₃ hb => by
  cases b with
  | true => exact AEmit.mono hb λ out' H₄ hx => next out' H₄ (Nat.le_trans hx.1 (Nat.succ_le_succ hlo)) hx.2
  | false => exact next out H₃ (Nat.le_succ_of_le hlo) hb⟩
noncomputable def LI (a : Addr) (li : List PV) (J : Nat -> List PV -> AHeap -> Prop) (n : Nat) (y : AIt) (out : List PV) (H' : AHeap) : Prop := ∃ i,y = .list a i /\ n = li.length - i /\ i <= li.length /\ out.length <= i /\ J i out H'
noncomputable def DI (d : Addr) (ob : Obj) (li : List (Pt × PV)) (J : Nat -> List PV -> AHeap -> Prop) (n : Nat) (y : AIt) (out : List PV) (H' : AHeap) : Prop := ∃ i,y = .keys d ob i /\ n = li.length - i /\ i <= li.length /\ out.length <= i /\ J i out H'
noncomputable def RI (n : Nat) (J : Nat -> List PV -> AHeap -> Prop) (k : Nat) (y : AIt) (out : List PV) (H' : AHeap) : Prop := ∃ i : Nat,y = RngAt i n /\ k = n - i /\ i <= n /\ out.length <= i /\ J i out H'
theorem g_comp (nd : names.Nodup) (t : CT) {it fs e : IE} (Si : Sound T X G names it) (Sf : Sound T X G names fs) (Se : Sound T X G names e) {c : FK} {env : Env} {ls : Ls} {nm : List (Str × NameKind)} {Fs : List AF} {H : AHeap} {R : AHeap -> Prop} {Q : PV -> AHeap -> Prop} {E : Value -> Shared -> Prop} {es : List Expr} {l : LN}
  (hn : env.scope.names = nm) (hm : mE G names T.hd (.comp t it fs e) nm es = true) (cv : Cov names l ls) (hE : ∀ e s,Fly T.C (.fr ⟨c,env,ls⟩ :: Fs) X R e s -> E e s) (h : w T X (.comp t it fs e) .v l H R Q) : ∃ v,es = [v] /\ CompIs T c env ls nm Fs H v (newList Q) E := by
 replace hm := any_some hm
 obtain ⟨ex,he,hm⟩ := hm
 cases one_ok he
 replace hm := any_some hm
 obtain ⟨x,hx,hm⟩ := hm
 obtain ⟨_,rfl⟩ := asComp_ok hx
 replace hm := any_some hm
 obtain ⟨g,hg,hm⟩ := hm
 obtain ⟨h1,h2⟩ := and1 hm
 refine and9 h1 λ h1 k8 k7 k6 k5 k0 k3 k2 k1 => ?_
 refine and3 h2 λ h2 m2 m1 => ?_
 have hh := nL h1
 obtain ⟨target,iter,ifs,as⟩ := g
 cases eq_of_beq k0
 rw [one_ok hg]
 refine ⟨_,rfl,_,_,_,_,_,_,_,_,rfl,hh,sc_ok k8,λ env x => fold_ok k6 env x,shape1,AE.pins (AE.mono (Si.ae (nL k3) hn h2 cv hE h) λ p H₁ h => ?_)⟩
 have h : WComp T p H₁ (stepC T X t fs e l) Q := h
 cases h with
 | list a li e1 hl hz J h0 hk turn fin =>
  subst e1
  refine .inl ⟨.list a 0,AIter.list hl,LI a li J,li.length,⟨0,rfl,rfl,Nat.zero_le _,Nat.zero_le _,h0⟩,?_⟩
  rintro own cenv D post hc hco n y out H' ⟨i,rfl,rfl,hle,hlo,hJ⟩
  refine ⟨li,hk i out H' hJ,λ v ev Fs' => ?_,λ ev => ?_⟩
  ·have hlt := (List.getElem?_eq_some_iff.mp ev).1
   exact turn_step (comp_turn hh nd Sf Se cv k7 k5 k2 (nL k1) m2 m1 hc hco (D := D) (post := post) (Fs' := Fs') (Nat.le_trans hlo (Nat.le_trans hle hz)) (K := J (i + 1)) (turn i v out H' ev hJ)) hlo λ out' H₄ hl' hJ' => ⟨_,sub_step hlt,i + 1,rfl,rfl,hlt,hl',hJ'⟩
  ·have hi : i = li.length := Nat.le_antisymm hle (List.getElem?_eq_none_iff.mp ev)
   subst hi
   obtain ⟨H₂,ex,hq⟩ := fin out H' hJ
   exact ⟨H₂,ex.wk,hq⟩
 | dict d li e1 hl hz J h0 hk turn fin =>
  subst e1
  refine .inr ⟨d,li,rfl,hl,λ ob => ⟨.keys d ob 0,AIter.keys upd_same,DI d ob li (J ob),li.length,⟨0,rfl,rfl,Nat.zero_le _,Nat.zero_le _,h0 ob⟩,?_⟩⟩
  rintro own cenv D post hc hco n y out H' ⟨i,rfl,rfl,hle,hlo,hJ⟩
  refine ⟨li,hk ob i out H' hJ,λ v ev Fs' => ?_,λ ev => ?_⟩
  ·have hlt := (List.getElem?_eq_some_iff.mp ev).1
   exact turn_step (comp_turn hh nd Sf Se cv k7 k5 k2 (nL k1) m2 m1 hc hco (D := D) (post := post) (Fs' := Fs') (Nat.le_trans hlo (Nat.le_trans hle hz)) (K := J ob (i + 1)) (turn ob i v out H' ev hJ)) hlo λ out' H₄ hl' hJ' => ⟨_,sub_step hlt,i + 1,rfl,rfl,hlt,hl',hJ'⟩
  ·have hi : i = li.length := Nat.le_antisymm hle (List.getElem?_eq_none_iff.mp ev)
   subst hi
   obtain ⟨H₂,ex,hq⟩ := fin ob out H' hJ
   exact ⟨H₂,Wk.ext ex (Wk.unpin (hk ob _ out H' hJ)),hq⟩
 | range a n e1 hl hz J h0 turn fin =>
  subst e1
  refine .inl ⟨_,AIter.rng0 hl (Nat.lt_of_le_of_lt hz (by decide)),RI n J,n,⟨0,rfl,rfl,Nat.zero_le _,Nat.zero_le _,h0⟩,?_⟩
  rintro own cenv D post hc hco k y out H' ⟨i,rfl,rfl,hle,hlo,hJ⟩
  refine RngAt.turn hle (λ hlt Fs' => ?_) (λ e => by subst e; obtain ⟨H₂,ex,hq⟩ := fin out H' hJ; exact ⟨H₂,ex.wk,hq⟩)
  exact turn_step (comp_turn hh nd Sf Se cv k7 k5 k2 (nL k1) m2 m1 hc hco (D := D) (post := post) (Fs' := Fs') (Nat.le_trans hlo (Nat.le_trans hle hz)) (K := J (i + 1)) (turn i out H' hlt hJ)) hlo λ out' H₄ hl' hJ' => ⟨_,sub_step hlt,i + 1,rfl,rfl,hlt,hl',hJ'⟩
theorem s_comp (nd : names.Nodup) (t : CT) {it fs e : IE} (Si : Sound T X G names it) (Sf : Sound T X G names fs) (Se : Sound T X G names e) : Sound T X G names (.comp t it fs e) := λ m c env ls nm Fs H R Q E es l hn hm cv hE h => by
 obtain ⟨v,rfl,hc⟩ := g_comp nd t Si Sf Se (Q := wFin T m Q) hn hm cv hE h
 obtain ⟨_,_,_,_,_,_,_,_,rfl,_⟩ := id hc
 exact WGoal.fin (hc.ae hn) rfl
end
end
section
section
variable {T : Tr} {X : String} {G : GT} {names : List Str}
theorem small {G : Prop} (h : ∀ P : Prop,(G -> P) -> P) : G := h G id
theorem g_compRR (nd : names.Nodup) (x y : Nat) {i1 i2 fs e : IE} (S1 : Sound T X G names i1) (S2 : Sound T X G names i2) (Sf : Sound T X G names fs) (Se : Sound T X G names e) {c : FK} {env : Env} {ls : Ls} {nm : List (Str × NameKind)} {Fs : List AF} {H : AHeap} {R : AHeap -> Prop} {Q : PV -> AHeap -> Prop} {E : Value -> Shared -> Prop} {es : List Expr} {l : LN}
  (hn : env.scope.names = nm) (hm : mE G names T.hd (.compRR x y i1 i2 fs e) nm es = true) (cv : Cov names l ls) (hE : ∀ e s,Fly T.C (.fr ⟨c,env,ls⟩ :: Fs) X R e s -> E e s) (h : w T X (.compRR x y i1 i2 fs e) .v l H R Q) : ∃ v,es = [v] /\ CompIs T c env ls nm Fs H v (newList Q) E := by
 refine small λ P kk => ?_
 replace hm := any_some hm
 obtain ⟨ex,he,hm⟩ := hm
 have he := one_ok he
 replace hm := any_some hm
 obtain ⟨z,hz,hm⟩ := hm
 obtain ⟨_,hz⟩ := asComp_ok hz
 replace hm := any_some hm
 obtain ⟨g,hg,hm⟩ := hm
 replace hm := any_some hm
 obtain ⟨s,hs,hm⟩ := hm
 replace hm := any_some hm
 obtain ⟨t,ht,hm⟩ := hm
 obtain ⟨h1,h2⟩ := and1 hm
 refine and15 h1 λ h1 k1 k2 k3 k4 k5 k6 k7 k8 k9 ka kb kc kd ke => ?_
 refine and4 h2 λ m1 m2 m3 m4 => ?_
 have hh := nL h1
 clear hm
 obtain ⟨⟨t1,it1,f1,a1⟩,⟨t2,it2,f2,a2⟩⟩ := g
 have e1 : a1 = 0 := eq_of_beq k8
 have e2 : a2 = 0 := eq_of_beq k9
 obtain ⟨p1,e3⟩ := asName_ok hs
 obtain ⟨p2,e4⟩ := asName_ok ht
 have e3 : t1 = .Name s p1 := e3
 have e4 : t2 = .Name t p2 := e4
 have e5 : f1 = [] := emp_ok ka
 obtain ⟨hx,hxl⟩ := lName_ok k5
 obtain ⟨hy,hyl⟩ := lName_ok k6
 have hst : s ≠ t := bne_iff_ne.mp k7
 refine kk ?_
 subst he hz e1 e2 e3 e4 e5
 rw [two_ok hg]
 obtain ⟨n,k,gg,b1,b2,b3,h⟩ := h
 have cv0 := cv.drop nd k2
 refine ⟨_,rfl,_,_,_,_,_,_,_,_,rfl,hh,sc_ok k1,λ env x => fold_ok k3 env x,shape2a,CompGives.range2 gg hh hxl hyl hst b1 b2 b3 (λ cenv v _ => fold_ok k4 _ v) (AE.mono (S1.ae (nL kb) hn m1 cv hE h) λ p H₁ h => ?_)⟩
 obtain ⟨a,rfl,hl,hi,hj,hf⟩ := h
 refine ⟨a,rfl,hl,λ i own cenv Fs' H' hlt hc ex => S2.ae (nL kc) hc m2 (cv0.put nd hx) (λ _ _ => noFly) (hi i H' hlt ex),λ i j h1 h2 own cenv Fs' H' hc ex => ?_,hf⟩
 have cv2 := (cv0.put nd hx (p := .int i)).put nd hy (p := .int j)
 have hf := Sf .a (E := NoE) (c := .cp own) (Fs := Fs') (es := f2) hc m3 cv2 (λ _ _ => noFly) (hj i j H' h1 h2 ex)
 rw [kd] at hf
 refine AIfs.mono (hf.2 rfl) λ b H₂ hb => ⟨hb.1,?_⟩
 cases b with
 | true =>
  obtain ⟨-,r,hr,hb⟩ := hb
  rw [if_pos rfl]
  exact ⟨r,hr,λ Fs'' => Se.ae (nL ke) hc m4 cv2 (λ _ _ => noFly) hb⟩
 | false =>
  rw [if_neg (by decide)]
  exact hb.2
theorem s_compRR (nd : names.Nodup) (x y : Nat) {i1 i2 fs e : IE} (S1 : Sound T X G names i1) (S2 : Sound T X G names i2) (Sf : Sound T X G names fs) (Se : Sound T X G names e) : Sound T X G names (.compRR x y i1 i2 fs e) := λ m c env ls nm Fs H R Q E es l hn hm cv hE h => by
 obtain ⟨v,rfl,hc⟩ := g_compRR nd x y S1 S2 Sf Se (Q := wFin T m Q) hn hm cv hE h
 obtain ⟨_,_,_,_,_,_,_,_,rfl,_⟩ := id hc
 exact WGoal.fin (hc.ae hn) rfl
theorem w_sound (GO : GOk T.C G) (nd : names.Nodup) (ie : IE) : Sound T X G names ie := by
 induction ie with
 | int i => exact s_int i
 | str i => exact s_str i
 | none => exact s_none
 | bool b => exact s_bool b
 | var x => exact s_var x
 | glob p => exact s_glob GO p
 | bin o a b ha hb => exact s_bin o ha hb
 | un o a ha => exact s_un o ha
 | cmp o a b ha hb => exact s_cmp o ha hb
 | cmp2 o o' a b c ha hb hc => exact s_cmp2 o o' ha hb hc
 | boolop o l hl => exact s_boolop o hl
 | ife t a b ht ha hb => exact s_ife ht ha hb
 | nil => exact s_nil
 | cons a b ha hb => exact s_cons ha hb
 | tup l hl => exact s_tup hl
 | list l hl => exact s_list hl
 | dict => exact s_dict
 | attr a x ha => exact s_attr x ha
 | sub a i ha hi => exact s_sub ha hi
 | slice a lo hi h1 h2 h3 => exact s_slice h1 h2 h3
 | call g l hl => exact s_call GO g hl
 | meth o x l ho hl => exact s_meth x ho hl
 | comp t it fs e h1 h2 h3 => exact s_comp nd t h1 h2 h3
 | compRR x y i1 i2 fs e h1 h2 h3 h4 => exact s_compRR nd x y h1 h2 h3 h4
theorem g_any (GO : GOk T.C G) (nd : names.Nodup) {e : IE} {c : FK} {env : Env} {ls : Ls} {nm : List (Str × NameKind)} {Fs : List AF} {H : AHeap} {R : AHeap -> Prop} {Q : PV -> AHeap -> Prop} {E : Value -> Shared -> Prop} {v : Expr} {l : LN} {x}
  (hc : asComp v = some x) (hl : e.isL = false) (hn : env.scope.names = nm) (hm : mE G names T.hd e nm [v] = true) (cv : Cov names l ls) (hE : ∀ e s,Fly T.C (.fr ⟨c,env,ls⟩ :: Fs) X R e s -> E e s) (h : w T X e .v l H R Q) : CompIs T c env ls nm Fs H v (newList Q) E := by
 obtain ⟨p,rfl⟩ := asComp_ok hc
 cases e with
 | comp t it fs e =>
  obtain ⟨v,hv,h⟩ := g_comp nd t (w_sound GO nd it) (w_sound GO nd fs) (w_sound GO nd e) hn hm cv hE h
  cases hv; exact h
 | compRR x y i1 i2 fs e =>
  obtain ⟨v,hv,h⟩ := g_compRR nd x y (w_sound GO nd i1) (w_sound GO nd i2) (w_sound GO nd fs) (w_sound GO nd e) hn hm cv hE h
  cases hv; exact h
 | cons => cases hl
 | _ => cases hm
end
end
section
noncomputable def IT.isL : IT -> Bool
 | .nil => true
 | .cons _ _ => true
 | _ => false
noncomputable def mT (G : GT) (names : List Str) (hd : Bool) (nm : List (Str × NameKind)) : IT -> List Expr -> Bool
 | .var x,es => (one es).any λ e => (asName e).any (oName names nm x)
 | .tup l,es => (one es).any λ e => (asTup e).any λ vs => (l.isL && Nat.beq vs.length l.len) && mT G names hd nm l vs
 | .tupL l,es => (one es).any λ e => (asTup e).any λ vs => (l.isL && Nat.beq vs.length l.len) && mT G names hd nm l vs
 | .tupS t,es => (one es).any λ e => (asTup e).any λ vs => (one vs).any λ v => (!hd && (!t.isL && noStar [v])) && mT G names hd nm t [v]
 | .nil,es => emp es
 | .cons a b,es => match es with
  | e :: r => (noStar (e :: r) && (!a.isL && b.isL)) && (mT G names hd nm a [e] && mT G names hd nm b r)
  | [] => false
 | .attr a y,es => (one es).any λ e => (asAttr e).any λ x => (y == x.2.1 && !a.isL) && mE G names hd a nm [x.1]
 | .sub a i,es => (one es).any λ e => (asSub e).any λ x => (!a.isL && !i.isL) && (mE G names hd a nm [x.1] && mE G names hd i nm [x.2])
noncomputable def TGoal (T : Tr) (env : Env) (ls : Ls) (Fs : List AF) (H : AHeap) (L : Bool) (es : List Expr) (p : PV) (Q : Ls -> AHeap -> Prop) (E : Value -> Shared -> Prop) : Prop := match L,es with
 | true,es => noStar es = true /\ ∀ ps,p = .tup ps -> AAs T ⟨.fn,env,ls⟩ Fs H es ps Q E
 | false,[e] => AA T ⟨.fn,env,ls⟩ Fs H e p Q E
 | _,_ => True
section
variable {T : Tr} {X : String} {G : GT} {names : List Str}
theorem assignEach_plain {e : Expr} {es : List Expr} {env : Env} (h : noStar (e :: es) = true) : assignEach (e :: es) env = (false,assign e env) :: assignEach es env := by
 cases e <;> first | rfl | cases h
theorem noStar_tail {e : Expr} {es : List Expr} (h : noStar (e :: es) = true) : noStar es = true := (starEach_cons_plain (env := default) h).2
theorem assignEach_len {env : Env} {es : List Expr} (h : noStar es = true) : (assignEach es env).length = es.length /\ (assignEach es env).findIdx? (·.1) = none := by
 induction es with
 | nil => exact ⟨rfl,rfl⟩
 | cons e es ih =>
  obtain ⟨h1,h2⟩ := ih (noStar_tail h)
  rw [assignEach_plain h]
  exact ⟨by rw [List.length_cons,List.length_cons,h1],by rw [List.findIdx?_cons,h2]; rfl⟩
theorem Cov.storeH (nd : names.Nodup) {l : LN} {ls : Ls} (cv : Cov names l ls) {x : Nat} {nm : List (Str × NameKind)} {s : Str} {p : PV} (h : oName names nm x s = true) : isOwn (nm.lookup s) = true /\ Cov names ((x,p) :: l) ((s,p) :: ls) := by
 obtain ⟨h1,h2⟩ := and1 h
 exact ⟨h2,cv.put nd (eq_of_beq h1)⟩
noncomputable def QL (names : List Str) (Q : LN -> AHeap -> Prop) (ls : Ls) (H : AHeap) : Prop := ∃ l,Cov names l ls /\ Q l H
theorem wT_sound (GO : GOk T.C G) (nd : names.Nodup) (it : IT) : ∀ {env : Env} {ls : Ls} {nm : List (Str × NameKind)} {Fs : List AF} {H : AHeap} {R : LN -> AHeap -> Prop} {Q : LN -> AHeap -> Prop} {E : Value -> Shared -> Prop} {es : List Expr} {l : LN} {p : PV},
  env.scope.names = nm -> mT G names T.hd nm it es = true -> Cov names l ls -> (∀ l ls e s,Cov names l ls -> Fly T.C (.fr ⟨.fn,env,ls⟩ :: Fs) X (R l) e s -> E e s) -> wT T X it p l H R Q -> TGoal T env ls Fs H it.isL es p (QL names Q) E := by
 induction it with
 | var x =>
  intro env ls nm Fs H R Q E es l p hn hm cv hE h
  replace hm := any_some hm
  obtain ⟨e,he,hm⟩ := hm
  cases one_ok he
  replace hm := any_some hm
  obtain ⟨s,hs,hm⟩ := hm
  obtain ⟨_,rfl⟩ := asName_ok hs
  obtain ⟨h1,h2⟩ := cv.storeH nd (p := p) hm
  exact AA.name hn h1 ⟨_,h2,h⟩
 | tup t ih =>
  intro env ls nm Fs H R Q E es l p hn hm cv hE h
  replace hm := any_some hm
  obtain ⟨e,he,hm⟩ := hm
  cases one_ok he
  replace hm := any_some hm
  obtain ⟨vs,hs,hm⟩ := hm
  obtain ⟨_,_,rfl⟩ := asTup_ok hs
  obtain ⟨h1,h2⟩ := and1 hm
  obtain ⟨h3,h4⟩ := and1 h1
  have h : cond (lenOk p t.len) (wT T X t p l H R Q) False := h
  cases hk : lenOk p t.len with
  | false => rw [hk] at h; exact h.elim
  | true =>
   rw [hk] at h
   have := ih hn h2 cv hE h
   rw [h3] at this
   cases p with
   | tup ps =>
    obtain ⟨q1,q2⟩ := assignEach_len (env := env) this.1
    exact AA.tup (q1.trans ((Nat.eq_of_beq_eq_true h4).trans (Nat.eq_of_beq_eq_true hk).symm)) q2 (this.2 ps rfl)
   | _ => cases hk
 | tupL t ih =>
  intro env ls nm Fs H R Q E es l p hn hm cv hE h
  replace hm := any_some hm
  obtain ⟨e,he,hm⟩ := hm
  cases one_ok he
  replace hm := any_some hm
  obtain ⟨vs,hs,hm⟩ := hm
  obtain ⟨_,_,rfl⟩ := asTup_ok hs
  obtain ⟨h1,h2⟩ := and1 hm
  obtain ⟨h3,h4⟩ := and1 h1
  obtain ⟨a,ps,rfl,hl,hk,h⟩ := h
  have := ih hn h2 cv hE h
  rw [h3] at this
  obtain ⟨q1,q2⟩ := assignEach_len (env := env) this.1
  exact AA.tupList hl (q1.trans ((Nat.eq_of_beq_eq_true h4).trans (Nat.eq_of_beq_eq_true hk).symm)) q2 (this.2 ps rfl)
 | tupS t ih =>
  intro env ls nm Fs H R Q E es l p hn hm cv hE h
  replace hm := any_some hm
  obtain ⟨e,he,hm⟩ := hm
  cases one_ok he
  replace hm := any_some hm
  obtain ⟨vs,hs,hm⟩ := hm
  obtain ⟨_,_,rfl⟩ := asTup_ok hs
  replace hm := any_some hm
  obtain ⟨v,hv,hm⟩ := hm
  rw [one_ok hv]
  obtain ⟨h1,h2⟩ := and1 hm
  refine and3 h1 λ h1 h3 h4 => ?_
  obtain ⟨a,q,rfl,hH,h⟩ := h
  have := ih hn h2 cv hE h
  rw [nL h3] at this
  exact AA.tupSet (nL h1) hH (assignEach_plain h4) this
 | nil =>
  intro env ls nm Fs H R Q E es l p hn hm cv hE h
  cases emp_ok hm
  cases p with
  | tup ps => cases ps with
   | nil => exact ⟨rfl,λ ps e => by cases e; exact AAs.nil ⟨l,cv,h⟩⟩
   | cons _ _ => exact h.elim
  | _ => exact h.elim
 | cons a b iha ihb =>
  intro env ls nm Fs H R Q E es l p hn hm cv hE h
  cases es with
  | nil => cases hm
  | cons e r =>
   obtain ⟨h1,h2⟩ := and1 hm
   refine and3 h1 λ h1 h3 h4 => ?_
   obtain ⟨h2,h5⟩ := and1 h2
   cases p with
   | tup ps => cases ps with
    | nil => exact h.elim
    | cons q ps =>
     have h : wT T X a q l H R λ l' H' => wT T X b (.tup ps) l' H' R Q := h
     refine ⟨h1,λ ps' e => ?_⟩
     cases e
     have := iha hn h2 cv hE h
     rw [nL h3] at this
     refine AAs.cons' (assignEach_plain h1) (AA.mono this λ ls' H' ⟨l',cv',h'⟩ => ?_)
     have := ihb hn h5 cv' hE h'
     rw [h4] at this
     exact this.2 ps rfl
   | _ => exact h.elim
 | attr a y =>
  intro env ls nm Fs H R Q E es l p hn hm cv hE h
  replace hm := any_some hm
  obtain ⟨e,he,hm⟩ := hm
  cases one_ok he
  replace hm := any_some hm
  obtain ⟨x,hx,hm⟩ := hm
  cases asAttr_ok hx
  obtain ⟨h1,h2⟩ := and1 hm
  obtain ⟨h1,h3⟩ := and1 h1
  rw [<- eq_of_beq h1]
  refine AA.attr (AE.mono ((w_sound GO nd a).ae (nL h3) hn h2 cv (λ e s => hE l ls e s cv) h) λ q H₁ h => ?_)
  have h : SSetAttr T y q p H₁ (λ H₂ => Q l H₂) := h
  unfold SSetAttr at h
  exact λ A s v u ok R pv pu => wpAny_mono (h _ A s v u ok R pv pu) (λ _ s' hh => hh.elim λ H' R' k hq => ⟨H',R',k,l,cv,hq⟩) λ _ _ x => x.elim
 | sub a i =>
  intro env ls nm Fs H R Q E es l p hn hm cv hE h
  replace hm := any_some hm
  obtain ⟨e,he,hm⟩ := hm
  cases one_ok he
  replace hm := any_some hm
  obtain ⟨x,hx,hm⟩ := hm
  obtain ⟨_,rfl⟩ := asSub_ok hx
  obtain ⟨h1,h2⟩ := and1 hm
  obtain ⟨h1,h3⟩ := and1 h1
  obtain ⟨h2,h4⟩ := and1 h2
  refine AA.sub (AE.mono ((w_sound GO nd a).ae (nL h1) hn h2 cv (λ e s => hE l ls e s cv) h) λ q H₁ h => AE.mono ((w_sound GO nd i).ae (nL h3) hn h4 cv (λ e s => hE l ls e s cv) h) λ j H₂ h => ?_)
  have h : SSetItem T q j p H₂ (λ H₃ => Q l H₃) := h
  unfold SSetItem at h
  exact λ A s v w u ok R pv pw pu => wpAny_mono (h _ A s v w u ok R pv pw pu) (λ _ s' hh => hh.elim λ H' R' k hq => ⟨H',R',k,l,cv,hq⟩) λ _ _ x => x.elim
end
end
section
structure InfS where
 tag : Nat
 ts : List Expr := []
 v : Option Expr := none
 v2 : Option Expr := none
 o : Operator := .Add
 a : List Stmt := []
 b : List Stmt := []
 c : List Stmt := []
 h : List ExceptHandler := []
 p : Pos := ⟨0,0,0,0⟩
noncomputable def infS : Stmt -> InfS
 | .Return v p => { tag := 0,v := v,p := p }
 | .Assign ts v p => { tag := 1,ts := ts,v := some v,p := p }
 | .AugAssign t o v p => { tag := 2,ts := [t],o := o,v := some v,p := p }
 | .For t i b e p => { tag := 3,ts := [t],v := some i,a := b,b := e,p := p }
 | .While t b e p => { tag := 4,v := some t,a := b,b := e,p := p }
 | .If t b e p => { tag := 5,v := some t,a := b,b := e,p := p }
 | .Raise e c p => { tag := 6,v := e,v2 := c,p := p }
 | .Try a h b c p => { tag := 7,a := a,b := b,c := c,h := h,p := p }
 | .Expr v p => { tag := 8,v := some v,p := p }
 | .Pass p => { tag := 9,p := p }
 | .Break p => { tag := 10,p := p }
 | .Continue p => { tag := 11,p := p }
 | .FunctionDef .. => { tag := 12 }
 | .AsyncFunctionDef .. => { tag := 12 }
 | .ClassDef .. => { tag := 12 }
 | .Delete .. => { tag := 12 }
 | .TypeAlias .. => { tag := 12 }
 | .AnnAssign .. => { tag := 12 }
 | .AsyncFor .. => { tag := 12 }
 | .With .. => { tag := 12 }
 | .AsyncWith .. => { tag := 12 }
 | .Match .. => { tag := 12 }
 | .TryStar .. => { tag := 12 }
 | .Assert .. => { tag := 12 }
 | .Import .. => { tag := 12 }
 | .ImportFrom .. => { tag := 12 }
 | .Global .. => { tag := 12 }
 | .Nonlocal .. => { tag := 12 }
noncomputable def InfSOk (s : Stmt) (i : InfS) : Prop := match i.tag with
 | 0 => s = .Return i.v i.p
 | 1 => ∃ v,i.v = some v /\ s = .Assign i.ts v i.p
 | 2 => ∃ t v,i.v = some v /\ i.ts = [t] /\ s = .AugAssign t i.o v i.p
 | 3 => ∃ t v,i.v = some v /\ i.ts = [t] /\ s = .For t v i.a i.b i.p
 | 4 => ∃ v,i.v = some v /\ s = .While v i.a i.b i.p
 | 5 => ∃ v,i.v = some v /\ s = .If v i.a i.b i.p
 | 6 => s = .Raise i.v i.v2 i.p
 | 7 => s = .Try i.a i.h i.b i.c i.p
 | 8 => ∃ v,i.v = some v /\ s = .Expr v i.p
 | 9 => s = .Pass i.p
 | 10 => s = .Break i.p
 | 11 => s = .Continue i.p
 | _ => True
theorem infS_ok (s : Stmt) : InfSOk s (infS s) := by
 cases s with
 | Return => exact rfl
 | Assign => exact ⟨_,rfl,rfl⟩
 | AugAssign => exact ⟨_,_,rfl,rfl,rfl⟩
 | For => exact ⟨_,_,rfl,rfl,rfl⟩
 | While => exact ⟨_,rfl,rfl⟩
 | If => exact ⟨_,rfl,rfl⟩
 | Raise => exact rfl
 | Try => exact rfl
 | Expr => exact ⟨_,rfl,rfl⟩
 | Pass => exact rfl
 | Break => exact rfl
 | Continue => exact rfl
 | _ => exact trivial
theorem infS_at {s : Stmt} {n : Nat} (h : Nat.beq (infS s).tag n = true) : InfSOk s { infS s with tag := n } := by
 have := infS_ok s
 rw [<- Nat.eq_of_beq_eq_true h]; exact this
noncomputable def noComp (e : Expr) : Bool := Nat.blt (inf e).tag 14
theorem swaps_none {v : Expr} (h : noComp v = true) (t : Option Expr) (line : Nat) (env : Env) : swapsWith v t line env = pure false := by
 cases v <;> first | rfl | cases h
noncomputable def noSwap (t v : Expr) : Bool := !(Nat.beq (inf v).tag 7 && (Nat.beq (inf t).tag 7 || Nat.beq (inf t).tag 8))
theorem noSwap_ok {t v : Expr} (h : noSwap t v = true) (env : Env) : swappedStores [t] v env = pure none := by
 cases t with
 | Tuple => cases v <;> first | exact rfl | cases h
 | List => cases v <;> first | exact rfl | cases h
 | _ => exact rfl
noncomputable def swB (scope : Scope) (s : Str) (nm : List (Str × NameKind)) (l1 l2 : Nat) : Bool := nm.lookup s == some .local && (l1 == l2 && !(scope.names.any λ x => x.1 == s && (x.2 == .local || x.2 == .cell)))
noncomputable def endPos (e : Expr) : Pos := e.pos
noncomputable def namePos (e : Expr) : Pos := e.pos
noncomputable def swF (nm : List (Str × NameKind)) (tg v : Expr) : Bool := (asComp v).any λ c => !((asName tg).any λ n => swB c.2.2 n nm (namePos tg).line (endPos v).line)
noncomputable def IS.isSt : IS -> Bool
 | .skip => false
 | .seq _ _ => false
 | _ => true
noncomputable def asH : ExceptHandler -> Option (Expr × List Stmt)
 | .ExceptHandler (some e) none b _ => some (e,b)
 | _ => none
theorem asH_ok {h : ExceptHandler} {x} (e : asH h = some x) : ∃ p,h = .ExceptHandler (some x.1) none x.2 p := by
 obtain ⟨t,n,b,p⟩ := h
 cases t with
 | none => cases e
 | some t => cases n with
  | none => cases e; exact ⟨p,rfl⟩
  | some _ => cases e
noncomputable def mS (G : GT) (names : List Str) (nm : List (Str × NameKind)) : IS -> (hd rz : Bool) -> List Stmt -> Bool
 | .skip,hd,rz,ss => emp ss
 | .seq a b,hd,rz,ss => match ss with
  | s :: r => a.isSt && (!b.isSt && (mS G names nm a hd rz [s] && mS G names nm b hd rz r))
  | [] => false
 | .cut a,hd,rz,ss => a.isSt && mS G names nm a hd rz ss
 | .expr e,hd,rz,ss => (one ss).any λ s => Nat.beq (infS s).tag 8 && (infS s).v.any λ v => (noComp v && !e.isL) && mE G names hd e nm [v]
 | .assign t e,hd,rz,ss => (one ss).any λ s => Nat.beq (infS s).tag 1 && (one (infS s).ts).any λ tg => (infS s).v.any λ v => (noStar [tg] && (!t.isL && (!e.isL && ((noComp v || swF nm tg v) && noSwap tg v)))) && (mE G names hd e nm [v] && mT G names hd nm t [tg])
 | .assignC x e,hd,rz,ss => (one ss).any λ s => Nat.beq (infS s).tag 1 && (one (infS s).ts).any λ tg => (infS s).v.any λ v => (asName tg).any λ n => (asComp v).any λ c =>
   (oName names nm x n && !e.isL) && (swB c.2.2 n nm (namePos tg).line (endPos v).line && mE G names hd e nm [v])
 | .ite t a b,hd,rz,ss => (one ss).any λ s => Nat.beq (infS s).tag 5 && (infS s).v.any λ v => (!t.isL && (!a.isSt && !b.isSt)) && (mE G names hd t nm [v] && (mS G names nm a hd rz (infS s).a && mS G names nm b hd rz (infS s).b))
 | .ret e,hd,rz,ss => (one ss).any λ s => Nat.beq (infS s).tag 0 && (infS s).v.any λ v => !e.isL && mE G names hd e nm [v]
 | .dead,hd,rz,ss => true
 | .brk,hd,rz,ss => (one ss).any λ s => Nat.beq (infS s).tag 10
 | .cont,hd,rz,ss => (one ss).any λ s => Nat.beq (infS s).tag 11
 | .for_ t it b,hd,rz,ss => (one ss).any λ s => Nat.beq (infS s).tag 3 && (one (infS s).ts).any λ tg => (infS s).v.any λ v => (emp (infS s).b && (foldOk v && (!t.isL && (!it.isL && !b.isSt)))) && (mE G names hd it nm [v] && (mT G names hd nm t [tg] && mS G names nm b hd false (infS s).a))
 | .while_ t b,hd,rz,ss => (one ss).any λ s => Nat.beq (infS s).tag 4 && (infS s).v.any λ v => (emp (infS s).b && (!t.isL && !b.isSt)) && (mE G names hd t nm [v] && mS G names nm b hd false (infS s).a)
 | .try_ b x Y h,hd,rz,ss => (one ss).any λ s => Nat.beq (infS s).tag 7 && (one (infS s).h).any λ hh => (asH hh).any λ eb => (asName eb.1).any λ n => (x == n && (gName nm n && (gHas G n (.ty Y) false && (emp (infS s).b && (emp (infS s).c && (!emp eb.2 && (!b.isSt && !h.isSt))))))) && (mS G names nm b hd false (infS s).a && mS G names nm h true false eb.2)
 | .raise_ x Y,hd,rz,ss => (one ss).any λ s => Nat.beq (infS s).tag 6 && (infS s).v.any λ v => (asName v).any λ n => rz && (!hd && (oN (infS s).v2 && (x == n && (gName nm n && gHas G n (.ty Y) false))))
end
section
noncomputable def QS (names : List Str) (Q : AFl -> LN -> AHeap -> Prop) (a : AFl) (ls : Ls) (H : AHeap) : Prop := ∃ l,Cov names l ls /\ Q a l H
noncomputable def FlyE (C : Cx) (env : Env) (Fs : List AF) (names : List Str) (X : String) (R : LN -> AHeap -> Prop) (E : Value -> Shared -> Prop) : Prop := ∀ l ls e s,Cov names l ls -> Fly C (.fr ⟨.fn,env,ls⟩ :: Fs) X (R l) e s -> E e s
noncomputable def RzE (C : Cx) (env : Env) (Fs : List AF) (names : List Str) (X : String) (R : LN -> AHeap -> Prop) (E : Value -> Shared -> Prop) : Prop := ∀ e s,Err C env Fs X (λ ls H => ∃ l,Cov names l ls /\ R l H) e s -> E e s
noncomputable def SGoal (T : Tr) (env : Env) (ls : Ls) (Fs : List AF) (H : AHeap) (st : Bool) (ss : List Stmt) (Q : AFl -> Ls -> AHeap -> Prop) (E : Value -> Shared -> Prop) : Prop := match st,ss with
 | true,[s] => AS T env Fs ls H s Q E
 | false,ss => AX T env Fs ls H ss Q E
 | _,_ => True
noncomputable def SSound (G : GT) (names : List Str) (is : IS) : Prop := ∀ {T : Tr} {X : String} {rz : Bool} {env : Env} {ls : Ls} {nm : List (Str × NameKind)} {Fs : List AF} {H : AHeap} {R : LN -> AHeap -> Prop} {Q : AFl -> LN -> AHeap -> Prop} {E : Value -> Shared -> Prop} {ss : List Stmt} {l : LN},
 GOk T.C G -> env.scope.kind = .function -> env.scope.names = nm -> mS G names nm is T.hd rz ss = true -> Cov names l ls -> FlyE T.C env Fs names X R E -> (rz = true -> RzE T.C env Fs names X R E) -> wS is X T l H R Q -> SGoal T env ls Fs H is.isSt ss (QS names Q) E
theorem noFlyE {C : Cx} {env : Env} {Fs : List AF} {names : List Str} {X : String} {E : Value -> Shared -> Prop} : FlyE C env Fs names X noRL E := λ l ls e s _ h => by
 obtain ⟨a,H,s₁,B,a0,x1,x2,x3,x4,x5,x6⟩ := h
 exact x5.elim
section
variable {G : GT} {names : List Str}
theorem SSound.ax {is : IS} (S : SSound G names is) {T : Tr} {X : String} {rz : Bool} {env : Env} {ls : Ls} {nm : List (Str × NameKind)} {Fs : List AF} {H : AHeap} {R : LN -> AHeap -> Prop} {Q : AFl -> LN -> AHeap -> Prop} {E : Value -> Shared -> Prop} {ss : List Stmt} {l : LN}
  (hL : is.isSt = false) (GO : GOk T.C G) (hk : env.scope.kind = .function) (hn : env.scope.names = nm) (hm : mS G names nm is T.hd rz ss = true) (cv : Cov names l ls) (hE : FlyE T.C env Fs names X R E) (hR : rz = true -> RzE T.C env Fs names X R E) (h : wS is X T l H R Q) : AX T env Fs ls H ss (QS names Q) E := by
 have := S GO hk hn hm cv hE hR h
 rw [hL] at this; exact this
theorem SSound.as {is : IS} (S : SSound G names is) {T : Tr} {X : String} {rz : Bool} {env : Env} {ls : Ls} {nm : List (Str × NameKind)} {Fs : List AF} {H : AHeap} {R : LN -> AHeap -> Prop} {Q : AFl -> LN -> AHeap -> Prop} {E : Value -> Shared -> Prop} {s : Stmt} {l : LN}
  (hL : is.isSt = true) (GO : GOk T.C G) (hk : env.scope.kind = .function) (hn : env.scope.names = nm) (hm : mS G names nm is T.hd rz [s] = true) (cv : Cov names l ls) (hE : FlyE T.C env Fs names X R E) (hR : rz = true -> RzE T.C env Fs names X R E) (h : wS is X T l H R Q) : AS T env Fs ls H s (QS names Q) E := by
 have := S GO hk hn hm cv hE hR h
 rw [hL] at this; exact this
theorem t_skip : SSound G names .skip := λ {T X rz env ls nm Fs H R Q E ss l} GO hk hn hm cv hE hR h => by
 cases emp_ok hm
 exact AX.nil ⟨l,cv,h⟩
theorem t_seq {a b : IS} (Sa : SSound G names a) (Sb : SSound G names b) : SSound G names (.seq a b) := λ {T X rz env ls nm Fs H R Q E ss l} GO hk hn hm cv hE hR h => by
 cases ss with
 | nil => cases hm
 | cons s r =>
  refine and4 hm λ h1 h2 h3 h4 => ?_
  refine AX.cons (AS.mono (Sa.as h1 GO hk hn h3 cv hE hR h) ?_)
  rintro fl ls' H' ⟨l',cv',h'⟩
  cases fl with
  | next => exact Sb.ax (nL h2) GO hk hn h4 cv' hE hR h'
  | _ => exact ⟨l',cv',h'⟩
theorem subN_get {ls : LN} {x : Nat} {p : PV} : ∀ {l : LN},SubN l ls -> lkN x l = some p -> lkN x ls = some p := by
 intro l
 induction l with
 | nil => exact λ _ h => nomatch h
 | cons a l ih =>
  obtain ⟨y,q⟩ := a
  intro hs h
  rw [lkN_cons] at h
  split at h
  ·cases h; rename_i e; subst e; exact hs.1
  ·exact ih hs.2 h
theorem Cov.sub {l l' : LN} {ls : Ls} (cv : Cov names l ls) (h : SubN l' l) : Cov names l' ls := λ x p e => cv x p (subN_get h e)
theorem t_cut {a : IS} (Sa : SSound G names a) : SSound G names (.cut a) := λ {T X rz env ls nm Fs H R Q E ss l} GO hk hn hm cv hE hR h => by
 obtain ⟨h1,hm⟩ := and1 hm
 obtain ⟨α,L,P,h,k⟩ := h
 have := Sa GO hk hn hm cv hE hR h
 rw [h1] at this
 cases ss with
 | nil => trivial
 | cons s r => cases r with
  | cons _ _ => trivial
  | nil =>
   refine AS.mono this ?_
   rintro fl ls' H' ⟨l',cv',h'⟩
   cases fl with
   | next =>
    obtain ⟨b,hs,hp⟩ := h'
    exact ⟨L b,cv'.sub hs,k b H' hp⟩
   | _ => exact ⟨l',cv',h'⟩
theorem t_expr (nd : names.Nodup) (e : IE) : SSound G names (.expr e) := λ {T X rz env ls nm Fs H R Q E ss l} GO hk hn hm cv hE hR h => by
 replace hm := any_some hm
 obtain ⟨s,hs,hm⟩ := hm
 cases one_ok hs
 obtain ⟨h1,hm⟩ := and1 hm
 replace hm := any_some hm
 obtain ⟨v,hv,hm⟩ := hm
 obtain ⟨v',hv',hs'⟩ := infS_at h1
 cases hv'.symm.trans hv
 have hs' : s = .Expr v (infS s).p := hs'
 rw [hs']
 obtain ⟨h2,h3⟩ := and1 hm
 obtain ⟨h2,h4⟩ := and1 h2
 exact AS.exp (swaps_none h2 _ _ _) (AE.mono ((w_sound GO nd e).ae (nL h4) hn h3 cv (λ e s => hE l ls e s cv) h) λ p H' h => ⟨l,cv,h⟩)
theorem swF_ok {env : Env} {nm : List (Str × NameKind)} {tg v : Expr} {line : Nat} (hn : env.scope.names = nm) (h : swF nm tg v = true) : swapsWith v (some tg) line env = pure false := by
 replace h := any_some h
 obtain ⟨c,hc,h⟩ := h
 obtain ⟨p,rfl⟩ := asComp_ok hc
 have h := nL h
 cases tg with
 | Name s p' =>
  have h : swB c.2.2 s nm p'.line p.line = false := h
  unfold swapsWith
  dsimp only
  rw [show env.kindOf s = nm.lookup s by rw [<- hn]; rfl]
  cases q : (env.blockKind == ScopeKind.function) with
  | false => rfl
  | true =>
   unfold swB at h
   show (pure (nm.lookup s == some .local && p'.line == p.line && !(c.2.2.names.any λ x => x.1 == s && (x.2 == .local || x.2 == .cell))) : Sem Bool) = pure false
   rw [Bool.and_assoc]
   exact congrArg pure h
 | _ => rfl
theorem t_assign (nd : names.Nodup) (t : IT) (e : IE) : SSound G names (.assign t e) := λ {T X rz env ls nm Fs H R Q E ss l} GO hk hn hm cv hE hR h => by
 replace hm := any_some hm
 obtain ⟨s,hs,hm⟩ := hm
 cases one_ok hs
 obtain ⟨h1,hm⟩ := and1 hm
 replace hm := any_some hm
 obtain ⟨tg,ht,hm⟩ := hm
 replace hm := any_some hm
 obtain ⟨v,hv,hm⟩ := hm
 obtain ⟨v',hv',hs'⟩ := infS_at h1
 cases hv'.symm.trans hv
 have hs' : s = .Assign (infS s).ts v (infS s).p := hs'
 rw [one_ok ht] at hs'
 rw [hs']
 obtain ⟨h2,h3⟩ := and1 hm
 refine and5 h2 λ k1 k2 k3 k4 k5 => ?_
 obtain ⟨h3,h4⟩ := and1 h3
 have hsw : swapsWith v (some tg) (infS s).p.line env = pure false := by
  rcases Bool.or_eq_true_iff.mp k4 with k4 | k4
  ·exact swaps_none k4 _ _ _
  ·exact swF_ok hn k4
 refine AS.assign1 hsw (noSwap_ok k5 env) (assignEach_plain k1) (AE.mono ((w_sound GO nd e).ae (nL k3) hn h3 cv (λ e s => hE l ls e s cv) h) λ p H' h => ?_)
 have := wT_sound GO nd t hn h4 cv hE h
 rw [nL k2] at this
 exact AA.mono this λ ls' H'' h => h
theorem t_assignC (nd : names.Nodup) (x : Nat) (e : IE) : SSound G names (.assignC x e) := λ {T X rz env ls nm Fs H R Q E ss l} GO hk hn hm cv hE hR h => by
 replace hm := any_some hm
 obtain ⟨s,hs,hm⟩ := hm
 cases one_ok hs
 obtain ⟨h1,hm⟩ := and1 hm
 replace hm := any_some hm
 obtain ⟨tg,ht,hm⟩ := hm
 replace hm := any_some hm
 obtain ⟨v,hv,hm⟩ := hm
 replace hm := any_some hm
 obtain ⟨n,hn',hm⟩ := hm
 replace hm := any_some hm
 obtain ⟨c,hc,hm⟩ := hm
 obtain ⟨v',hv',hs'⟩ := infS_at h1
 cases hv'.symm.trans hv
 have hs' : s = .Assign (infS s).ts v (infS s).p := hs'
 rw [one_ok ht] at hs'
 rw [hs']
 obtain ⟨p',rfl⟩ := asName_ok hn'
 obtain ⟨h2,h3⟩ := and1 hm
 obtain ⟨h2,k1⟩ := and1 h2
 obtain ⟨h3,h4⟩ := and1 h3
 refine and3 h3 λ j1 j2 j3 => ?_
 have g := g_any GO nd (Q := λ p H₁ => Q .next ((x,p) :: l) H₁) hc (nL k1) hn h4 cv (λ e s => hE l ls e s cv) h
 obtain ⟨elt,target,iter,ifs,rest,scope,pos,emit,rfl,hh,sc,hf,sh,g⟩ := g
 cases hc
 refine AS.assignCompG hh hn (cv.storeH nd (p := .none) h2).1 sc (hf env) sh (swaps_true hk hn j1 j2 (nL j3)) (AE.mono g ?_)
 rintro p H₁ ⟨y,hy,I,k,hI,ht⟩
 refine ⟨y,hy,I,k,hI,ht.mono λ out H' ⟨H₂,ex,hp⟩ => ⟨H₂,ex,λ a ha => ?_⟩⟩
 exact ⟨_,(cv.storeH nd h2).2,hp a ha⟩
theorem t_ite (nd : names.Nodup) (t : IE) {a b : IS} (Sa : SSound G names a) (Sb : SSound G names b) : SSound G names (.ite t a b) := λ {T X rz env ls nm Fs H R Q E ss l} GO hk hn hm cv hE hR h => by
 replace hm := any_some hm
 obtain ⟨s,hs,hm⟩ := hm
 cases one_ok hs
 obtain ⟨h1,hm⟩ := and1 hm
 replace hm := any_some hm
 obtain ⟨v,hv,hm⟩ := hm
 obtain ⟨v',hv',hs'⟩ := infS_at h1
 cases hv'.symm.trans hv
 have hs' : s = .If v (infS s).a (infS s).b (infS s).p := hs'
 rw [hs']
 obtain ⟨h2,h3⟩ := and1 hm
 refine and3 h2 λ k1 k2 k3 => ?_
 refine and3 h3 λ h3 h4 h5 => ?_
 refine AS.ite (AT.mono ((w_sound GO nd t).at_ (nL k1) hn h3 cv (λ e s => hE l ls e s cv) h) λ c H₁ h => ?_)
 cases c with
 | true => exact Sa.ax (nL k2) GO hk hn h4 cv hE hR h
 | false => exact Sb.ax (nL k3) GO hk hn h5 cv hE hR h
theorem t_ret (nd : names.Nodup) (e : IE) : SSound G names (.ret e) := λ {T X rz env ls nm Fs H R Q E ss l} GO hk hn hm cv hE hR h => by
 replace hm := any_some hm
 obtain ⟨s,hs,hm⟩ := hm
 cases one_ok hs
 obtain ⟨h1,hm⟩ := and1 hm
 replace hm := any_some hm
 obtain ⟨v,hv,hm⟩ := hm
 have hs' : s = .Return (infS s).v (infS s).p := infS_at h1
 rw [hs',hv]
 obtain ⟨h2,h3⟩ := and1 hm
 exact AS.ret (AE.mono ((w_sound GO nd e).ae (nL h2) hn h3 cv (λ e s => hE l ls e s cv) h) λ p H' h => ⟨l,cv,h⟩)
theorem t_brk : SSound G names .brk := λ {T X rz env ls nm Fs H R Q E ss l} GO hk hn hm cv hE hR h => by
 replace hm := any_some hm
 obtain ⟨s,hs,hm⟩ := hm
 cases one_ok hs
 have hs' : s = .Break (infS s).p := infS_at hm
 rw [hs']
 exact AS.brk ⟨l,cv,h⟩
theorem t_dead : SSound G names .dead := λ {T X rz env ls nm Fs H R Q E ss l} GO hk hn hm cv hE hR h => h.elim
theorem t_cont : SSound G names .cont := λ {T X rz env ls nm Fs H R Q E ss l} GO hk hn hm cv hE hR h => by
 replace hm := any_some hm
 obtain ⟨s,hs,hm⟩ := hm
 cases one_ok hs
 have hs' : s = .Continue (infS s).p := infS_at hm
 rw [hs']
 exact AS.cont ⟨l,cv,h⟩
theorem loop_ok {J : LN -> AHeap -> Prop} {J' : Ls -> AHeap -> Prop} {Q : AFl -> LN -> AHeap -> Prop} (hJ : ∀ l ls H,Cov names l ls -> J l H -> J' ls H) {a : AFl} {ls : Ls} {H : AHeap} (h : QS names (loopK J Q) a ls H) : LoopQ J' (QS names Q) a ls H := by
 obtain ⟨l,cv,h⟩ := h
 cases a with
 | next => exact hJ l ls H cv h
 | cont => exact hJ l ls H cv h
 | brk => exact ⟨l,cv,h⟩
 | ret p => exact ⟨l,cv,h⟩
theorem t_for (nd : names.Nodup) (t : IT) (it : IE) {b : IS} (Sb : SSound G names b) : SSound G names (.for_ t it b) := λ {T X rz env ls nm Fs H R Q E ss l} GO hk hn hm cv hE hR h => by
 replace hm := any_some hm
 obtain ⟨s,hs,hm⟩ := hm
 cases one_ok hs
 obtain ⟨h1,hm⟩ := and1 hm
 replace hm := any_some hm
 obtain ⟨tg,ht,hm⟩ := hm
 replace hm := any_some hm
 obtain ⟨v,hv,hm⟩ := hm
 obtain ⟨t',v',hv',ht',hs'⟩ := infS_at h1
 cases hv'.symm.trans hv
 have ht' : (infS s).ts = [t'] := ht'
 rw [ht'] at ht
 cases ht
 have hs' : s = .For tg v (infS s).a (infS s).b (infS s).p := hs'
 rw [hs']
 obtain ⟨h2,h3⟩ := and1 hm
 refine and5 h2 λ k2 k3 k4 k5 k6 => ?_
 refine and3 h3 λ h3 h4 h5 => ?_
 rw [emp_ok k2]
 have A0 := (w_sound GO nd it).ae (nL k5) hn h3 cv (λ e s => hE l ls e s cv) h
 have body : ∀ {Fs' : List AF} {v : PV} {l' : LN} {ls' : Ls} {H' : AHeap} {J : LN -> AHeap -> Prop} {J' : Ls -> AHeap -> Prop} {Q : AFl -> LN -> AHeap -> Prop},Cov names l' ls' -> (∀ l ls H,Cov names l ls -> J l H -> J' ls H) ->
   wT T X t v l' H' noRL (λ ls'' H'' => wS b X T ls'' H'' noRL (loopK J Q)) -> AA T ⟨.fn,env,ls'⟩ Fs' H' tg v (λ ls₁ H₁ => AX T env Fs' ls₁ H₁ (infS s).a (LoopQ J' (QS names Q)) NoE) NoE := by
  intro Fs' v l' ls' H' J J' Q cv' hJ hw
  have := wT_sound GO nd t (Fs := Fs') (E := NoE) hn h4 cv' noFlyE hw
  rw [nL k4] at this
  exact AA.mono this λ ls₁ H₁ ⟨l₁,cv₁,hx⟩ => AX.mono (Sb.ax (nL k6) GO hk hn h5 cv₁ noFlyE (λ e => by cases e) hx) λ a ls₂ H₂ hq => loop_ok hJ hq
 refine AS.forTail (λ x => fold_ok k3 env x) (AE.pins (AE.mono A0 λ p H₁ h => ?_))
 have h : WFor T p l H₁ (λ v ls' H' K => wT T X t v ls' H' noRL λ ls'' H'' => wS b X T ls'' H'' noRL K) Q := h
 cases h with
 | list a li e1 hl α L J b0 s0 h0 hkp turn fin =>
  refine .inl (for_tail (it_list ⟨a,li,e1,hl,λ i ls H => ∃ b,Cov names (L b) ls /\ J i b H,⟨b0,cv.sub s0,h0⟩,?_,?_,?_⟩))
  ·rintro i ls' H' ⟨l',-,hJ⟩; exact hkp i l' H' hJ
  ·rintro i v ls' H' Fs' ev ⟨l',cv',hJ⟩
   exact body cv' (λ l ls H c ⟨b,hs,hj⟩ => ⟨b,c.sub hs,hj⟩) (turn i v l' H' ev hJ)
  ·rintro ls' H' ⟨l',cv',hJ⟩; exact ⟨L l',cv',fin l' H' hJ⟩
 | dict d li e1 hl α L J b0 s0 h0 hkp turn fin =>
  refine .inr ⟨d,li,e1,hl,λ ob => ?_⟩
  subst e1
  refine ForTail.weak (for_tail ⟨.keys d ob 0,AIter.keys upd_same,λ n x ls H => ∃ i b,x = .keys d ob i /\ n = li.length - i /\ i <= li.length /\ Cov names (L b) ls /\ J ob i b H,li.length,⟨0,b0,rfl,rfl,Nat.zero_le _,cv.sub s0,h0 ob⟩,?_⟩)
  rintro n x ls' H' ⟨i,b,rfl,rfl,hle,cv',hJ⟩
  refine ⟨li,hkp ob i b H' hJ,λ e he Fs' => ?_,λ he => ?_⟩
  ·have hlt := (List.getElem?_eq_some_iff.mp he).1
   refine AA.mono (body (J' := λ ls₂ H₂ => ∃ m,m < li.length - i /\ ∃ i' b,AIt.keys d ob (i + 1) = .keys d ob i' /\ m = li.length - i' /\ i' <= li.length /\ Cov names (L b) ls₂ /\ J ob i' b H₂) cv' (λ l ls H c ⟨b,hs,hj⟩ => ⟨_,sub_step hlt,i + 1,b,rfl,rfl,hlt,c.sub hs,hj⟩) (turn ob i e b H' he hJ)) λ ls₁ H₁ hx => AX.mono hx λ a ls₂ H₂ hq => ?_
   cases a with
   | next => exact hq
   | cont => exact hq
   | brk => exact ⟨H₂,(Ext.refl _).wk,hq⟩
   | ret p => exact ⟨H₂,(Ext.refl _).wk,hq⟩
  ·have hi : i = li.length := Nat.le_antisymm hle (List.getElem?_eq_none_iff.mp he)
   subst hi
   exact ⟨_,Wk.unpin (hkp ob _ b H' hJ),L b,cv',fin ob b H' hJ⟩
 | grow a e1 hl α L J n b0 s0 h0 turn =>
  refine .inl (for_tail (it_grow ⟨a,e1,hl,λ n i ls H => ∃ b,Cov names (L b) ls /\ J n i b H,n,⟨b0,cv.sub s0,h0⟩,?_⟩))
  rintro n i ls' H' ⟨l',cv',hJ⟩
  obtain ⟨li,x1,x2,x3⟩ := turn n i l' H' hJ
  exact ⟨li,x1,λ v Fs' ev => body (J := KeepN L λ b2 H₂ => ∃ m,m < n /\ J m (i + 1) b2 H₂) cv' (λ l ls H c ⟨b2,hs,m,hm,hj⟩ => ⟨m,hm,b2,c.sub hs,hj⟩) (x2 v ev),λ hle => ⟨L l',cv',x3 hle⟩⟩
 | range a n e1 hl hz α L J b0 s0 h0 turn fin =>
  refine .inl (for_tail (it_range ⟨a,n,e1,hl,hz,λ i ls H => ∃ b,Cov names (L b) ls /\ J i b H,⟨b0,cv.sub s0,h0⟩,?_,?_⟩))
  ·rintro i ls' H' Fs' hi ⟨l',cv',hJ⟩
   exact body cv' (λ l ls H c ⟨b,hs,hj⟩ => ⟨b,c.sub hs,hj⟩) (turn i l' H' hi hJ)
  ·rintro ls' H' ⟨l',cv',hJ⟩; exact ⟨L l',cv',fin l' H' hJ⟩
 | set hh a li e1 hl α L J b0 s0 h0 turn fin =>
  refine .inl (set_tail hh ⟨a,li,e1,hl,λ l' hp => ⟨λ i ls H => ∃ b,Cov names (L b) ls /\ J l' i b H,⟨b0,cv.sub s0,h0 l' hp⟩,?_,?_⟩⟩)
  ·rintro i q ls' H' Fs' ev ⟨l₂,cv',hJ⟩
   exact AA.mono (body (J' := λ ls H => ∃ b,Cov names (L b) ls /\ J l' (i + 1) b H) cv' (λ l ls H c ⟨b,hs,hj⟩ => ⟨b,c.sub hs,hj⟩) (turn l' i q l₂ H' hp ev hJ)) λ ls₁ H₁ hx => AX.mono hx λ a ls₂ H₂ hq => by
    cases a with
    | next => exact hq
    | cont => exact hq
    | brk => obtain ⟨_,_,h⟩ := hq; exact h.elim
    | ret p => obtain ⟨_,_,h⟩ := hq; exact h.elim
  ·rintro ls' H' ⟨l₂,cv',hJ⟩; exact ⟨L l₂,cv',fin l' l₂ H' hp hJ⟩
theorem t_while (nd : names.Nodup) (t : IE) {b : IS} (Sb : SSound G names b) : SSound G names (.while_ t b) := λ {T X rz env ls nm Fs H R Q E ss l} GO hk hn hm cv hE hR h => by
 replace hm := any_some hm
 obtain ⟨s,hs,hm⟩ := hm
 cases one_ok hs
 obtain ⟨h1,hm⟩ := and1 hm
 replace hm := any_some hm
 obtain ⟨v,hv,hm⟩ := hm
 obtain ⟨v',hv',hs'⟩ := infS_at h1
 cases hv'.symm.trans hv
 have hs' : s = .While v (infS s).a (infS s).b (infS s).p := hs'
 rw [hs']
 obtain ⟨h2,h3⟩ := and1 hm
 refine and3 h2 λ k1 k2 k3 => ?_
 obtain ⟨h3,h4⟩ := and1 h3
 rw [emp_ok k1]
 obtain ⟨α,L,I,n,b0,s0,h0,turn⟩ := h
 refine AS.while_ (λ n ls H => ∃ b,Cov names (L b) ls /\ I n b H) n ⟨b0,cv.sub s0,h0⟩ ?_
 rintro n ls' H' ⟨l',cv',hI⟩
 refine AT.mono ((w_sound GO nd t).at_ (R := noR) (nL k2) hn h3 cv' (λ e s => noFly) (turn n l' H' hI)) λ c H₁ h => ?_
 cases c with
 | true =>
  rw [if_pos rfl]
  exact AX.mono (Sb.ax (nL k3) GO hk hn h4 cv' noFlyE (λ e => by cases e) h) λ a ls₂ H₂ hq => loop_ok (J := KeepN L λ b2 H₂ => ∃ m,m < n /\ I m b2 H₂) (λ l ls H c ⟨b2,hs,m,hm,hj⟩ => ⟨m,hm,b2,c.sub hs,hj⟩) hq
 | false =>
  rw [if_neg (by decide)]
  exact ⟨L l',cv',h⟩
theorem t_try (x : Str) (Y : String) {b h' : IS} (Sb : SSound G names b) (Sh : SSound G names h') : SSound G names (.try_ b x Y h') := λ {T X rz env ls nm Fs H R Q E ss l} GO hk hn hm cv hE hR h => by
 replace hm := any_some hm
 obtain ⟨s,hs,hm⟩ := hm
 cases one_ok hs
 obtain ⟨h1,hm⟩ := and1 hm
 replace hm := any_some hm
 obtain ⟨hh,hv,hm⟩ := hm
 replace hm := any_some hm
 obtain ⟨eb,he,hm⟩ := hm
 replace hm := any_some hm
 obtain ⟨n,hn',hm⟩ := hm
 have hs' : s = .Try (infS s).a (infS s).h (infS s).b (infS s).c (infS s).p := infS_at h1
 obtain ⟨p',heb⟩ := asName_ok hn'
 obtain ⟨p'',hhe⟩ := asH_ok he
 obtain ⟨h2,h3⟩ := and1 hm
 refine and8 h2 λ k1 k2 k3 k4 k5 k6 k7 k8 => ?_
 obtain ⟨h3,h4⟩ := and1 h3
 rw [hs',one_ok hv,hhe,heb,emp_ok k4,emp_ok k5]
 obtain ⟨q1,q2,q3⟩ := gName_ok k2
 have g1 := (gHas_ok GO k3).2
 obtain ⟨X',QE,ct,hb,hsu⟩ := h
 cases hc : eb.2 with
 | nil => rw [hc] at k6; cases k6
 | cons b₀ suite =>
  rw [hc] at h4
  refine AS.try_ (X := X') (QE := λ ls' H' => ∃ l',Cov names l' ls' /\ QE l' H') g1.1 hn q1 g1.2 ct.exc ct.tup ct.sub (λ g => ?_) ?_ q2 q3
  ·exact Sb.ax (nL k7) GO hk hn h3 cv (λ l' ls' e s cv' hf => ⟨ls',hf.mono λ H' hq => ⟨l',cv',hq⟩⟩) (λ e => by cases e) hb
  ·rintro Fs' ls' H' ⟨l',cv',hq⟩
   exact Sh.ax (T := T.inH) (nL k8) GO hk hn h4 cv' noFlyE (λ e => by cases e) (hsu l' H' hq)
theorem t_raise (x : Str) (Y : String) : SSound G names (.raise_ x Y) := λ {T X rz env ls nm Fs H R Q E ss l} GO hk hn hm cv hE hR h => by
 replace hm := any_some hm
 obtain ⟨s,hs,hm⟩ := hm
 cases one_ok hs
 obtain ⟨h1,hm⟩ := and1 hm
 replace hm := any_some hm
 obtain ⟨v,hv,hm⟩ := hm
 replace hm := any_some hm
 obtain ⟨n,hn',hm⟩ := hm
 have hs' : s = .Raise (infS s).v (infS s).v2 (infS s).p := infS_at h1
 obtain ⟨p',rfl⟩ := asName_ok hn'
 refine and6 hm λ k1 k2 k3 k4 k5 k6 => ?_
 rw [hs',hv,oN_ok k3]
 obtain ⟨q1,q2,q3⟩ := gName_ok k5
 have g1 := (gHas_ok GO k6).2
 obtain ⟨rfl,⟨⟨N,I,okc⟩,oks⟩,h⟩ := h
 exact λ A s ok' R' => wpAny_mono (AS.raiseName (QE := λ ls H => ∃ l,Cov names l ls /\ R l H) (nL k2) okc oks g1.1 hn q1 g1.2 ⟨l,cv,h⟩ q2 q3 A s ok' R') (λ _ _ x => x) (hR k1)
theorem wS_sound (nd : names.Nodup) (is : IS) : SSound G names is := by
 induction is with
 | skip => exact t_skip
 | seq a b ha hb => exact t_seq ha hb
 | cut a ha => exact t_cut ha
 | expr e => exact t_expr nd e
 | assign t e => exact t_assign nd t e
 | assignC x e => exact t_assignC nd x e
 | ite t a b ha hb => exact t_ite nd t ha hb
 | ret e => exact t_ret nd e
 | brk => exact t_brk
 | dead => exact t_dead
 | cont => exact t_cont
 | for_ t it b hb => exact t_for nd t it hb
 | while_ t b hb => exact t_while nd t hb
 | try_ b x Y h hb hh => exact t_try x Y hb hh
 | raise_ x Y => exact t_raise x Y
end
end
section
noncomputable def zipN : Nat -> List PV -> LN
 | _,[] => []
 | n,p :: ps => (n,p) :: zipN (n + 1) ps
noncomputable def retK (Q : PV -> AHeap -> Prop) (a : AFl) (_ : LN) (H : AHeap) : Prop := match a with
 | .next => Q .none H
 | .ret p => Q p H
 | _ => False
section
variable {T : Tr} {X : String} {H : AHeap} {R : AHeap -> Prop}
theorem zipN_get {names : List Str} {ps : List PV} : ∀ {n x : Nat} {p : PV},lkN x (zipN n ps) = some p -> ∃ i,x = n + i /\ ps[i]? = some p := by
 induction ps with
 | nil => exact λ h => nomatch h
 | cons q ps ih =>
  intro n x p h
  replace h : lkN x ((n,q) :: zipN (n + 1) ps) = some p := h
  rw [lkN_cons] at h
  split at h
  ·cases h; rename_i e; exact ⟨0,e,rfl⟩
  ·obtain ⟨i,e,h⟩ := ih h
   exact ⟨i + 1,e.trans (Nat.add_right_comm n 1 i),h⟩
theorem lookup_zip {names nms : List Str} : ∀ {ps : List PV} {i : Nat} {s : Str} {p : PV},nms.Nodup -> nms[i]? = some s -> ps[i]? = some p -> (nms.zip ps).lookup s = some p := by
 induction nms with
 | nil => exact λ _ h => nomatch h
 | cons n nms ih =>
  intro ps i s p nd h h'
  cases ps with
  | nil => cases h'
  | cons q ps =>
   cases i with
   | zero => cases h; cases h'; exact lk_here
   | succ i =>
    obtain ⟨n1,n2⟩ := List.nodup_cons.mp nd
    exact lk_next (beq_eq_false_iff_ne.mpr λ e => n1 (e ▸ List.mem_of_getElem? h)) (ih n2 h h')
theorem cov_zip {names nms : List Str} {ps : List PV} (nd : names.Nodup) (hp : names.take nms.length = nms) (hl : ps.length = nms.length) : Cov names (zipN 0 ps) (nms.zip ps) := λ x p h => by
 obtain ⟨i,rfl,hi⟩ := zipN_get (names := names) h
 have hlt := (List.getElem?_eq_some_iff.mp hi).1
 rw [hl] at hlt
 refine ⟨nms[i],?_,lookup_zip (names := names) (hp ▸ nd.sublist (List.take_sublist _ _)) (List.getElem?_eq_getElem hlt) hi⟩
 have e : nms[i]? = names[0 + i]? := by
  rw [Nat.zero_add]
  conv => lhs; rw [<- hp]
  rw [List.getElem?_take,if_pos hlt]
 rw [<- e]; exact List.getElem?_eq_getElem hlt
@[irreducible] noncomputable def SCode (T : Tr) (X : String) (g : PV) (ps : List PV) (H : AHeap) (Q : PV -> AHeap -> Prop) (R : AHeap -> Prop) : Prop :=
 ∀ Fs E,(∀ e s,Fly T.C Fs X R e s -> E e s) -> ACode T Fs H g ps Q E
theorem SCode.call {g : PV} {ps : List PV} {Q Q' : PV -> AHeap -> Prop} (h : SCode T X g ps H Q R) (hq : ∀ p H,Q p H -> Q' p H) : SCall T X g ps H Q' R := by
 unfold SCode at h; unfold SCall
 exact λ Fs E hE => (h Fs E hE).call.mono hq
theorem SCode.post {g : PV} {ps : List PV} {Q₀ : PV -> AHeap -> Prop} (h : ∀ Q : PV -> AHeap -> Prop,(∀ p H',Q₀ p H' -> Q p H') -> SCode T X g ps H Q R) : SCode T X g ps H Q₀ R := h Q₀ λ _ _ h => h
theorem SCode.mono {g : PV} {ps : List PV} {Q Q' : PV -> AHeap -> Prop} (h : SCode T X g ps H Q R) (hq : ∀ p H,Q p H -> Q' p H) : SCode T X g ps H Q' R := by
 unfold SCode at h ⊢
 exact λ Fs E hE => (h Fs E hE).mono hq λ _ _ x => x
theorem SCode.fn {G : GT} {names nms : List Str} {g : Addr} {fd : FuncData} {body : List Stmt} {ir : IS} {ps : List PV} {Q : PV -> AHeap -> Prop} (GO : GOk T.C G) (nd : names.Nodup) (D : DefAt T.C.K g fd nms body) (hp : names.take nms.length = nms)
  (hm : mS G names fd.scope.names ir T.hd true body = true) (hs : ir.isSt = false) (hn : 1 <= T.n) (hl : ps.length = nms.length) (h : wS ir X T.down (zipN 0 ps) H (λ _ H => R H) (retK Q)) : SCode T X (.ref g) ps H Q R := by
 unfold SCode
 intro Fs E hE
 refine ACode.fnE (X := X) (QE := λ ls H => ∃ l,Cov names l ls /\ R H) D hl hn (λ e s hf => hE e s (hf.mono λ H' ⟨ls,l,cv,hr⟩ => hr)) λ env he => ?_
 refine AX.mono (SSound.ax (wS_sound nd ir) (E := Err T.C env Fs X λ ls H => ∃ l,Cov names l ls /\ R H) hs GO (by rw [he]; exact D.kind) (congrArg Scope.names he) hm (cov_zip nd hp hl) (λ l ls e s cv hf => Err.of_fly hf λ H hr => ⟨l,cv,hr⟩) (λ _ e s hx => hx) h) ?_
 rintro a ls H' ⟨l,cv,hq⟩
 cases a <;> exact hq
theorem SCall.of {g : PV} {ps : List PV} {Q : PV -> AHeap -> Prop} (h : ∀ Fs,ACall T Fs H g ps Q NoE) : SCall T X g ps H Q R := by
 unfold SCall; exact λ Fs E _ => (h Fs).noE
theorem SCmp.of {op : CmpOp} {p q : PV} {Q : Bool -> AHeap -> Prop} (h : ∀ Fs,ACmp T Fs H op p q Q NoE) : SCmp T op p q H Q := by unfold SCmp; exact h
theorem STr.of {p : PV} {Q : Bool -> AHeap -> Prop} (h : ∀ Fs,ATr T Fs H p Q NoE) : STr T p H Q := by unfold STr; exact h
theorem SBin.of {op : Value -> Value -> Sem Value} {p q : PV} {Q : PV -> AHeap -> Prop} (h : ∀ Fs,ABin T Fs H op p q Q NoE) : SBin T op p q H Q := by unfold SBin; exact h
theorem SSetItem.of {p i q : PV} {Q : AHeap -> Prop} (h : ∀ Fs,ASetItem T Fs H p i q Q NoE) : SSetItem T p i q H Q := by unfold SSetItem; exact h
theorem SMeth.of {x : Str} {p g : PV} (hc : callee T.C.K g = true) (h : ∀ Fs,AMeth T Fs H x p g) : SMeth T x p H g := by unfold SMeth; exact ⟨hc,h⟩
theorem SSub.of {p q : PV} {Q : PV -> AHeap -> Prop} (h : ∀ Fs value slice,(∀ o i,subscripted slice false o i = operate [o,i] (getItem o i)) -> ASub T Fs H value slice p q Q NoE) : SSub T p q H Q := by unfold SSub; exact h
theorem SGet.inst {x c d : Addr} {l : Ls} {name : Str} {p : PV} {Q : PV -> AHeap -> Prop} (hc : ClsOk T.C.K c) (hn : findIn T.C.K (.ref c) name = some none) (hx : H x = some (.inst c d)) (hd : H d = some (.attrs l)) (hl : l.lookup name = some p) (hp : p.handed = true) (h : Q p H) : SGet T name (.ref x) H Q := by
 unfold SGet; exact λ Fs => AGet.inst hc hn hx hd hl hp h
theorem SMeth.own {x c d g : Addr} {l : Ls} {name : Str} (hg : callee T.C.K (.ref g) = true) (hc : ClsOk T.C.K c) (hf : findIn T.C.K (.ref c) name = some (some (.ref g))) (ht : typeIn T.C.K (.ref g) = some (.type "function")) (hx : H x = some (.inst c d)) (hd : H d = some (.attrs l)) (hl : l.lookup name = none) : SMeth T name (.ref x) H (.ref g) :=
 SMeth.of hg λ Fs => AMeth.own hc hf ht hx hd hl
theorem SSetAttr.inst {x c d : Addr} {l : Ls} {name : Str} {p : PV} {Q : AHeap -> Prop} (hc : ClsOk T.C.K c) (hn : findIn T.C.K (.ref c) name = some none) (hx : H x = some (.inst c d)) (hd : H d = some (.attrs l)) (hz : l.length <= 10000) (h : Q (upd H d (.attrs ((name,p) :: l)))) : SSetAttr T name (.ref x) p H Q := by
 unfold SSetAttr; exact λ Fs => ASetAttr.inst hc hn hx hd hz h
theorem SSub.list {a : Addr} {l : List PV} {k : Int} {p : PV} {Q : PV -> AHeap -> Prop} (hH : H a = some (.list l)) (h0 : 0 <= k) (hk : k < 2 ^ 63) (hx : l[k.toNat]? = some p) (h : Q p H) : SSub T (.ref a) (.int k) H Q :=
 SSub.of λ Fs v s hs => ASub.list hH h0 hk hx h λ u => hs _ _
theorem SSub.tup {l : List PV} {k : Int} {p : PV} {Q : PV -> AHeap -> Prop} (h0 : 0 <= k) (hk : k < 2 ^ 63) (hx : l[k.toNat]? = some p) (h : Q p H) : SSub T (.tup l) (.int k) H Q :=
 SSub.of λ Fs v s hs => ASub.tup h0 hk hx h λ a u => hs _ _
theorem SSub.dict {d : Addr} {l : List (Pt × PV)} {po : Option Obj} {p : Pt} {q : PV} {Q : PV -> AHeap -> Prop} (hH : H d = some (.pdict l po)) (hl : l.lookup p = some q) (h : Q q H) : SSub T (.ref d) (pt p) H Q :=
 SSub.of λ Fs v s hs => ASub.dict hH hl h λ a => hs _ _
theorem SSetItem.list {a : Addr} {l : List PV} {k : Int} {q : PV} {Q : AHeap -> Prop} (hH : H a = some (.list l)) (h0 : 0 <= k) (hk : k < l.length) (hz : l.length <= 100000) (h : Q (upd H a (.list (l.set k.toNat q)))) : SSetItem T (.ref a) (.int k) q H Q := SSetItem.of λ Fs => ASetItem.list hH h0 hk hz h
theorem SSetItem.dict {d : Addr} {l : List (Pt × PV)} {p : Pt} {q : PV} {Q : AHeap -> Prop} (hH : H d = some (.pdict l)) (hz : l.length <= 10000) (h : Q (upd H d (.pdict (dput l p q)))) : SSetItem T (.ref d) (pt p) q H Q := SSetItem.of λ Fs => ASetItem.dict hH hz h
theorem SSlice.mk {a : Addr} {l : List PV} {lo hi : Option Int} {Q : PV -> AHeap -> Prop} (hl : LAt T.C H a l) (hz : l.length <= 100000) (h : ∀ c,H c = Option.none -> Q (.ref c) (upd H c (.list (pslice l lo hi)))) : SSlice T (.ref a) lo hi H Q := by
 unfold SSlice; exact ⟨a,l,rfl,hl,hz,h⟩
theorem SMeth.append {a : Addr} {l : List PV} (hH : H a = some (.list l)) : SMeth T "append" (.ref a) H (.bi "list.append") := SMeth.of rfl λ Fs => AMeth.listAppend hH
theorem SCall.append {a : Addr} {l : List PV} {p : PV} {Q : PV -> AHeap -> Prop} (hH : H a = some (.list l)) (hz : l.length <= 100000) (h : Q .none (upd H a (.list (l ++ [p])))) : SCall T X (.bi "list.append") [.ref a,p] H Q R := SCall.of λ Fs => ACall.listAppend hH hz h
theorem SMeth.add {a : Addr} {l : List Pt} (hH : H a = some (.pset l)) : SMeth T "add" (.ref a) H (.bi "set.add") := SMeth.of rfl λ Fs => AMeth.setAdd hH
theorem SCall.add {a : Addr} {l : List Pt} (p : Pt) {Q : PV -> AHeap -> Prop} (hH : H a = some (.pset l)) (hb : InBox p) (h : ∀ l',l'.Nodup -> (∀ q,q ∈ l' ↔ q = p \/ q ∈ l) -> Q .none (upd H a (.pset l'))) : SCall T X (.bi "set.add") [.ref a,pt p] H Q R := SCall.of λ Fs => ACall.setAdd hH hb h
theorem SMeth.popS {a : Addr} {l : List Pt} (hH : H a = some (.pset l)) : SMeth T "pop" (.ref a) H (.bi "set.pop") := SMeth.of rfl λ Fs => AMeth.setPop hH
theorem SCall.popS {a : Addr} {l : List Pt} {Q : PV -> AHeap -> Prop} (hH : H a = some (.pset l)) (hne : l ≠ []) (h : ∀ p l',p ∈ l -> l'.Nodup -> (∀ q,q ∈ l' ↔ q ∈ l /\ q ≠ p) -> l'.length + 1 = l.length -> Q (pt p) (upd H a (.pset l'))) : SCall T X (.bi "set.pop") [.ref a] H Q R := SCall.of λ Fs => ACall.setPop hH hne h
theorem SMeth.update {a : Addr} {l : List Pt} (hH : H a = some (.pset l)) : SMeth T "update" (.ref a) H (.bi "set.update") := SMeth.of rfl λ Fs => AMeth.setUpdate hH
theorem SCall.update {a b : Addr} {l m : List Pt} {Q : PV -> AHeap -> Prop} (hH : H a = some (.pset l)) (hb : H b = some (.pset m)) (hne : a ≠ b) (h : ∀ l',l'.Nodup -> (∀ q,q ∈ l' ↔ q ∈ l \/ q ∈ m) -> Q .none (upd H a (.pset l'))) : SCall T X (.bi "set.update") [.ref a,.ref b] H Q R := SCall.of λ Fs => ACall.setUpdate hH hb hne h
theorem SCall.set0 {Q : PV -> AHeap -> Prop} (h : ∀ a,H a = Option.none -> Q (.ref a) (upd H a (.pset []))) : SCall T X (.ty "set") [] H Q R := SCall.of λ Fs => ACall.setNew h
theorem SCall.lenL {a : Addr} {l : List PV} {Q : PV -> AHeap -> Prop} (hH : LAt T.C H a l) (hz : l.length <= 100000) (h : Q (.int l.length) H) : SCall T X (.bi "len") [.ref a] H Q R := SCall.of λ Fs => ACall.lenList hH hz h
theorem SCall.lenS {a : Addr} {l : List Pt} {Q : PV -> AHeap -> Prop} (hH : H a = some (.pset l)) (h : Q (.int l.length) H) : SCall T X (.bi "len") [.ref a] H Q R := SCall.of λ Fs => ACall.lenSet hH h
theorem SCall.range1 {n : Int} {Q : PV -> AHeap -> Prop} (h : ∀ c,H c = Option.none -> Q (.ref c) (upd H c (.range 0 n))) : SCall T X (.ty "range") [.int n] H Q R := SCall.of λ Fs => ACall.range1 h
theorem SCall.lenD {d : Addr} {l : List (Pt × PV)} {Q : PV -> AHeap -> Prop} (hH : H d = some (.pdict l)) (hz : l.length <= 100000) (h : Q (.int l.length) H) : SCall T X (.bi "len") [.ref d] H Q R := SCall.of λ Fs => ACall.lenDict hH hz h
theorem SMeth.popD {d : Addr} {l : List (Pt × PV)} (hH : H d = some (.pdict l)) : SMeth T "pop" (.ref d) H (.bi "dict.pop") := SMeth.of rfl λ Fs => AMeth.dictPop hH
theorem SCall.popD {d : Addr} {l : List (Pt × PV)} (p : Pt) {q : PV} {Q : PV -> AHeap -> Prop} (hH : H d = some (.pdict l)) (hl : l.lookup p = some q) (hz : l.length <= 10000) (h : Q q (upd H d (.pdict (ddel l p)))) : SCall T X (.bi "dict.pop") [.ref d,pt p] H Q R := SCall.of λ Fs => ACall.dictPop hH hl hz h
theorem SMeth.getD {d : Addr} {l : List (Pt × PV)} {po : Option Obj} (hH : H d = some (.pdict l po)) : SMeth T "get" (.ref d) H (.bi "dict.get") := SMeth.of rfl λ Fs => AMeth.dictGet hH
theorem SCall.getD {d : Addr} {l : List (Pt × PV)} {po : Option Obj} (p : Pt) {Q : PV -> AHeap -> Prop} (hH : H d = some (.pdict l po)) (h : Q ((l.lookup p).getD .none) H) : SCall T X (.bi "dict.get") [.ref d,pt p] H Q R := SCall.of λ Fs => ACall.dictGet hH h
theorem SCall.listC {a : Addr} {l : List PV} {Q : PV -> AHeap -> Prop} (hl : LAt T.C H a l) (hz : l.length <= 100000) (h : ∀ c,H c = Option.none -> Q (.ref c) (upd H c (.list l))) : SCall T X (.ty "list") [.ref a] H Q R := SCall.of λ Fs => ACall.listCopy hl hz h
theorem SCall.cls0 {c : Addr} {Q : PV -> AHeap -> Prop} (hm : makesIn T.C.K c = true) (hi : findIn T.C.K (.ref c) "__init__" = some (some (.builtin "object.__init__"))) (h : ∀ x d,x ≠ d -> H x = none -> H d = none -> Q (.ref x) (upd (upd H d (.attrs [])) x (.inst c d))) : SCall T X (.ref c) [] H Q R :=
 SCall.of λ Fs => ACode.call (ACode.cls0 hm hi h)
theorem SCall.cls {c fI : Addr} {ps : List PV} {Q : PV -> AHeap -> Prop} (hm : makesIn T.C.K c = true) (hi : findIn T.C.K (.ref c) "__init__" = some (some (.ref fI))) (ht : typeIn T.C.K (.ref fI) = some (.type "function")) (hn : 1 <= T.n)
  (h : ∀ x d,x ≠ d -> H x = none -> H d = none -> SCode T.down X (.ref fI) (.ref x :: ps) (upd (upd H d (.attrs [])) x (.inst c d)) (λ p H' => p = .none /\ Q (.ref x) H') noR) : SCall T X (.ref c) ps H Q R := by
 refine SCall.of λ Fs => ACode.call (ACode.cls hm hi ht hn λ x d hxd hx hd => ?_)
 have := h x d hxd hx hd
 unfold SCode at this
 exact this Fs NoE λ e s => noFly
theorem SCmp.inD {d : Addr} {l : List (Pt × PV)} {po : Option Obj} (p : Pt) {Q : Bool -> AHeap -> Prop} (hH : H d = some (.pdict l po)) (h : Q (l.lookup p).isSome H) : SCmp T .In (pt p) (.ref d) H Q := SCmp.of λ Fs => ACmp.inDict hH h
theorem SCmp.inS {a : Addr} {l : List Pt} (p : Pt) {Q : Bool -> AHeap -> Prop} (hH : H a = some (.pset l)) (hb : InBox p) (h : Q (decide (p ∈ l)) H) : SCmp T .In (pt p) (.ref a) H Q := SCmp.of λ Fs => ACmp.inSet hH hb h
theorem SCmp.inL {a : Addr} {l : List PV} {p : PV} {ds : List Dat} {d : Dat} {Q : Bool -> AHeap -> Prop} (hl : LAt T.C H a l) (hds : All2 (HD T.C H 8) l ds) (hp : HD T.C H 8 p d) (h : ∀ b,(b = true ↔ d ∈ ds) -> Q b H) : SCmp T .In p (.ref a) H Q := SCmp.of λ Fs => ACmp.inList hl hds hp h
theorem SCmp.eqD {p q : PV} {d e : Dat} {Q : Bool -> AHeap -> Prop} (hp : HD T.C H 9 p d) (hq : HD T.C H 9 q e) (h : ∀ b,(b = true ↔ d = e) -> Q b H) : SCmp T .Eq p q H Q := SCmp.of λ Fs => ACmp.eqData hp hq h
theorem SCmp.neD {p q : PV} {d e : Dat} {Q : Bool -> AHeap -> Prop} (hp : HD T.C H 9 p d) (hq : HD T.C H 9 q e) (h : ∀ b,(b = true ↔ d ≠ e) -> Q b H) : SCmp T .NotEq p q H Q := SCmp.of λ Fs => ACmp.neData hp hq h
theorem SCmp.neB {a b : Bool} {Q : Bool -> AHeap -> Prop} (h : Q (a != b) H) : SCmp T .NotEq (.bool a) (.bool b) H Q := SCmp.of λ Fs => ACmp.neBool h
theorem STr.list {a : Addr} {l : List PV} {Q : Bool -> AHeap -> Prop} (hH : LAt T.C H a l) (hz : l.length <= 100000) (h : Q (!l.isEmpty) H) : STr T (.ref a) H Q := STr.of λ Fs => ATr.list hH hz h
theorem STr.set {a : Addr} {l : List Pt} {Q : Bool -> AHeap -> Prop} (hH : H a = some (.pset l)) (h : Q (!l.isEmpty) H) : STr T (.ref a) H Q := STr.of λ Fs => ATr.set hH h
theorem SBin.addL {a b : Addr} {l m : List PV} {Q : PV -> AHeap -> Prop} (hl : LAt T.C H a l) (hm : LAt T.C H b m) (hz : l.length + m.length <= 100000) (h : ∀ c,H c = Option.none -> Q (.ref c) (upd H c (.list (l ++ m)))) : SBin T (binaryOp .Add) (.ref a) (.ref b) H Q := SBin.of λ Fs => ABin.addList hl hm hz h
theorem SBin.mulL {a : Addr} {p : PV} {n : Int} {Q : PV -> AHeap -> Prop} (hH : H a = some (.list [p])) (h0 : 0 <= n) (hn : n <= 100000) (h : ∀ c,H c = Option.none -> Q (.ref c) (upd H c (.list (List.replicate n.toNat p)))) : SBin T (binaryOp .Mult) (.ref a) (.int n) H Q := SBin.of λ Fs => ABin.mulList hH h0 hn h
theorem br_dec {φ A B : Prop} [Decidable φ] (h : φ -> A) (h' : ¬ φ -> B) : cond (decide φ) A B := by
 by_cases hp : φ
 ·rw [decide_eq_true hp]; exact h hp
 ·rw [decide_eq_false hp]; exact h' hp
theorem br_ndec {φ A B : Prop} [Decidable φ] (h : ¬ φ -> A) (h' : φ -> B) : cond (!decide φ) A B := by
 by_cases hp : φ
 ·rw [decide_eq_true hp]; exact h' hp
 ·rw [decide_eq_false hp]; exact h hp
theorem br {b : Bool} {A B : Prop} (h : b = true -> A) (h' : b = false -> B) : cond b A B := by
 cases b with
 | true => exact h rfl
 | false => exact h' rfl
theorem br_beq {α : Type} [BEq α] [LawfulBEq α] {a b : α} {A B : Prop} (h : a = b -> A) (h' : a ≠ b -> B) : cond (a == b) A B := br (λ e => h (eq_of_beq e)) λ e => h' (beq_eq_false_iff_ne.mp e)
theorem br_bne {α : Type} [BEq α] [LawfulBEq α] {a b : α} {A B : Prop} (h : a ≠ b -> A) (h' : a = b -> B) : cond (a != b) A B := br (λ e => h (bne_iff_ne.mp e)) λ e => h' (by
 by_cases q : a = b
 ·exact q
 ·rw [bne_iff_ne.mpr q] at e; cases e)
theorem M.append {a : Addr} {l : List PV} {p : PV} {Q : PV -> AHeap -> Prop} (hH : H a = some (.list l)) (hz : l.length <= 100000) (h : Q .none (upd H a (.list (l ++ [p])))) : ∃ g,SMeth T "append" (.ref a) H g /\ SCall T X g [.ref a,p] H Q R := ⟨_,SMeth.append hH,SCall.append hH hz h⟩
theorem M.add {a : Addr} {l : List Pt} (p : Pt) {Q : PV -> AHeap -> Prop} (hH : H a = some (.pset l)) (hb : InBox p) (h : ∀ l',l'.Nodup -> (∀ q,q ∈ l' ↔ q = p \/ q ∈ l) -> Q .none (upd H a (.pset l'))) : ∃ g,SMeth T "add" (.ref a) H g /\ SCall T X g [.ref a,pt p] H Q R := ⟨_,SMeth.add hH,SCall.add p hH hb h⟩
theorem M.popS {a : Addr} {l : List Pt} {Q : PV -> AHeap -> Prop} (hH : H a = some (.pset l)) (hne : l ≠ []) (h : ∀ p l',p ∈ l -> l'.Nodup -> (∀ q,q ∈ l' ↔ q ∈ l /\ q ≠ p) -> l'.length + 1 = l.length -> Q (pt p) (upd H a (.pset l'))) : ∃ g,SMeth T "pop" (.ref a) H g /\ SCall T X g [.ref a] H Q R := ⟨_,SMeth.popS hH,SCall.popS hH hne h⟩
theorem M.popD {d : Addr} {l : List (Pt × PV)} (p : Pt) {q : PV} {Q : PV -> AHeap -> Prop} (hH : H d = some (.pdict l)) (hl : l.lookup p = some q) (hz : l.length <= 10000) (h : Q q (upd H d (.pdict (ddel l p)))) : ∃ g,SMeth T "pop" (.ref d) H g /\ SCall T X g [.ref d,pt p] H Q R := ⟨_,SMeth.popD hH,SCall.popD p hH hl hz h⟩
theorem M.getD {d : Addr} {l : List (Pt × PV)} {po : Option Obj} (p : Pt) {Q : PV -> AHeap -> Prop} (hH : H d = some (.pdict l po)) (h : Q ((l.lookup p).getD .none) H) : ∃ g,SMeth T "get" (.ref d) H g /\ SCall T X g [.ref d,pt p] H Q R := ⟨_,SMeth.getD hH,SCall.getD p hH h⟩
theorem M.own {x : PV} {m : Str} {g : PV} {ps : List PV} {Q : PV -> AHeap -> Prop} (h : SMeth T m x H g) (hc : SCall T X g (x :: ps) H Q R) : ∃ g,SMeth T m x H g /\ SCall T X g (x :: ps) H Q R := ⟨_,h,hc⟩
end
end
section
theorem fresh {H : AHeap} {o : AO} {Q : PV -> AHeap -> Prop} (h : ∀ c H',H c = none -> Ext H H' -> H' c = some o -> Q (.ref c) H') : ∀ c,H c = none -> Q (.ref c) (upd H c o) := λ c hc => h c _ hc (Ext.upd (Ext.refl _) hc) upd_same
theorem br_in {b : Bool} {φ A B : Prop} (hb : b = true ↔ φ) (h : φ -> A) (h' : ¬ φ -> B) : cond b A B := by
 cases b with
 | true => exact h (hb.mp rfl)
 | false => exact h' λ q => by have := hb.mpr q; cases this
theorem br_nin {b : Bool} {φ A B : Prop} (hb : b = true ↔ φ) (h : ¬ φ -> A) (h' : φ -> B) : cond (!b) A B := by
 cases b with
 | true => exact h' (hb.mp rfl)
 | false => exact h λ q => by have := hb.mpr q; cases this
section
variable {T : Tr} {X : String} {H : AHeap} {R : AHeap -> Prop}
theorem SSub.pt0 {z : Pt} {Q : PV -> AHeap -> Prop} (h : Q (.int z.1) H) : SSub T (pt z) (.int 0) H Q := SSub.tup (l := [.int z.1,.int z.2]) (by decide) (by decide) rfl h
theorem SSub.pt1 {z : Pt} {Q : PV -> AHeap -> Prop} (h : Q (.int z.2) H) : SSub T (pt z) (.int 1) H Q := SSub.tup (l := [.int z.1,.int z.2]) (by decide) (by decide) rfl h
theorem w_var {x : Nat} {ls : LN} {p : PV} {Q : PV -> AHeap -> Prop} (h : lkN x ls = some p) (hq : Q p H) : w T X (.var x) .v ls H R Q := by
 show (match lkN x ls with
  | some p => wFin T .v Q p H
  | Option.none => False)
 rw [h]; exact hq
theorem wS_seq {a b : IS} {ls : LN} {R : LN -> AHeap -> Prop} {Q : AFl -> LN -> AHeap -> Prop} (h : wS a X T ls H R λ fl ls' H' => match fl with
  | .next => wS b X T ls' H' R Q
  | fl => Q fl ls' H') : wS (.seq a b) X T ls H R Q := h
theorem wS_ite {t : IE} {a b : IS} {ls : LN} {R : LN -> AHeap -> Prop} {Q : AFl -> LN -> AHeap -> Prop} (h : w T X t .t ls H (R ls) λ p H₁ => match p with
  | .bool c => cond c (wS a X T ls H₁ R Q) (wS b X T ls H₁ R Q)
  | _ => False) : wS (.ite t a b) X T ls H R Q := h
theorem fm {a b : Int} {m : Nat} (hb : b = m) (h : 0 < m) : ∃ k : Nat,a.fmod b = k /\ k < m := by
 subst hb
 obtain ⟨k,hk⟩ := Int.eq_ofNat_of_zero_le (Int.fmod_nonneg_of_pos a (b := (m : Int)) (Int.ofNat_lt.mpr h))
 exact ⟨k,hk,Int.ofNat_lt.mp (hk ▸ Int.fmod_lt_of_pos a (b := (m : Int)) (Int.ofNat_lt.mpr h))⟩
theorem divOk {a : Int} {n : Nat} (h0 : 0 < n) (h5 : n <= 1000) : ((n : Int) ≠ 0 /\ Builtin.divisionGoesByPylong a (n : Int) = false) := ⟨by omega,pylong_small (by omega) (by omega)⟩
theorem law_ax {C : Cx} {G : GT} {names : List Str} {g : Addr} {fd : FuncData} {body : List Stmt} {ir : IS} {X : String} (GO : GOk C G) (nd : names.Nodup) (D : DefAt C.K g fd ["script"] body) (hp : names.take 1 = [("script" : Str)])
  (hm : mS G names fd.scope.names ir false true body = true) (hs : ir.isSt = false) (h : wS ir X ⟨C,30,false⟩ [(0,.ref C.scA)] (λ _ => Option.none) noRL (λ a _ _ => a = .ret (.bool true))) :
  ∀ env,env.scope = fd.scope -> AX ⟨C,30,false⟩ env [] [("script",.ref C.scA)] (λ _ => Option.none) body (λ a _ _ => a = .ret (.bool true)) NoE := λ env he => by
 refine AX.mono (SSound.ax (wS_sound nd ir) (T := ⟨C,30,false⟩) (E := NoE) hs GO (by rw [he]; exact D.kind) (congrArg Scope.names he) hm (cov_zip (nms := [("script" : Str)]) (ps := [.ref C.scA]) nd hp rfl) noFlyE (λ _ e s hx => by
  rcases hx with ⟨a,ls,H,s₁,_,_,_,_,⟨l,cv,hx⟩,_⟩ | ⟨ls,a,H,s₁,B,a0,x1,x2,x3,x4,⟨l,cv,hx⟩,x6⟩
  ·exact hx.elim
  ·exact hx.elim) h) ?_
 rintro a ls H' ⟨l,cv,hq⟩
 exact hq
end
end
section
section
variable {T : Tr} {X : String} {Fs : List AF} {H : AHeap} {E : Value -> Shared -> Prop} {R : AHeap -> Prop}
theorem ASub.str {value slice : Expr} {x : Str} {k : Int} {c : Nat} {Q : PV -> AHeap -> Prop} (h0 : 0 <= k) (hk : k < 2 ^ 63) (hx : (seqIndex? k x.length).bind (x.cps[·]?) = some c) (h : Q (.str ⟨#[c]⟩) H)
  (hs : ∀ a u,subscripted slice false (.str x a) (.int k u) = operate [.str x a,.int k u] (getItem (.str x a) (.int k u)) := by intro _ _; rfl) : ASub T Fs H value slice (.str x) (.int k) Q E := λ A s v w ok R pv pw => by
 obtain ⟨a,rfl⟩ := pv.str_inv
 obtain ⟨t,rfl⟩ := pw.int_inv
 refine tail_any (typeIs_str s x a) slot_str_getitem.lookup (getItem_str ?_ hx (post_same (s' := { s with toks := s.toks + 1 }) R PR.str h)) (hs a t)
 have h1 : ¬ k < -(2 ^ 63 : Int) := by omega
 have h2 : ¬ k >= 2 ^ 63 := by omega
 rw [decide_eq_false h1,decide_eq_false h2]; rfl
theorem SSub.bw {k : Int} {Q : PV -> AHeap -> Prop} (h0 : 0 <= k) (hk : k < 2) (h : ∀ s : Str,s = "b" \/ s = "w" -> (s = "b" ↔ k = 0) -> Q (.str s) H) : SSub T (.str "bw") (.int k) H Q := by
 have : k = 0 \/ k = 1 := by omega
 rcases this with rfl | rfl
 ·exact SSub.of λ Fs v s hs => ASub.str (c := 98) (by decide) (by decide) (by rfl) (h "b" (.inl rfl) (by simp)) λ a u => hs _ _
 ·exact SSub.of λ Fs v s hs => ASub.str (c := 119) (by decide) (by decide) (by rfl) (h "w" (.inr rfl) (by decide +kernel)) λ a u => hs _ _
end
end
section
noncomputable def inG (n : Nat) (p : Pt) : Prop := (0 <= p.1 /\ p.1 < n) /\ 0 <= p.2 /\ p.2 < n
noncomputable def nb (p : Pt) : List Pt := [(p.1 - 1,p.2),(p.1 + 1,p.2),(p.1,p.2 - 1),(p.1,p.2 + 1)]
theorem nb_symm {p q : Pt} (h : q ∈ nb p) : p ∈ nb q := by
 obtain ⟨a,b⟩ := p
 have s (x : Int) : x - 1 + 1 = x := Int.sub_add_cancel x 1
 have t (x : Int) : x + 1 - 1 = x := Int.add_sub_cancel x 1
 have one : ∀ {z : Pt} {l : List Pt},z ∈ l -> ∀ y : Pt,y = z -> y ∈ l := λ h _ e => e ▸ h
 rcases List.mem_cons.mp h with rfl | h
 ·exact one (.tail _ (.head _)) _ (by show (a,b) = (a - 1 + 1,b); rw [s])
 rcases List.mem_cons.mp h with rfl | h
 ·exact one (.head _) _ (by show (a,b) = (a + 1 - 1,b); rw [t])
 rcases List.mem_cons.mp h with rfl | h
 ·exact one (.tail _ (.tail _ (.tail _ (.head _)))) _ (by show (a,b) = (a,b - 1 + 1); rw [s])
 ·rw [List.mem_singleton.mp h]
  exact one (.tail _ (.tail _ (.head _))) _ (by show (a,b) = (a,b + 1 - 1); rw [t])
noncomputable def grid (n : Nat) : List Pt := (List.range n).flatMap λ i : Nat => (List.range n).map λ j : Nat => (((i : Int),(j : Int)) : Pt)
theorem mem_grid {n : Nat} {p : Pt} : p ∈ grid n ↔ inG n p := by
 obtain ⟨a,b⟩ := p
 simp only [grid,inG,List.mem_flatMap,List.mem_map,List.mem_range,Prod.mk.injEq]
 constructor
 ·rintro ⟨i,hi,j,hj,rfl,rfl⟩; omega
 ·rintro ⟨⟨h1,h2⟩,h3,h4⟩; exact ⟨a.toNat,by omega,b.toNat,by omega,by omega,by omega⟩
theorem grid_length {n : Nat} : (grid n).length = n * n := by
 simp only [grid,List.length_flatMap,List.length_map,List.length_range]
 rw [List.map_const',List.length_range,List.sum_replicate_nat]
theorem filter_lt {l : List Pt} {f g : Pt -> Bool} (h : ∀ x,g x = true -> f x = true) {q : Pt} (hq : q ∈ l) (h1 : f q = true) (h2 : g q = false) : (l.filter g).length < (l.filter f).length := by
 induction l with
 | nil => cases hq
 | cons y l ih =>
  have le : ∀ l : List Pt,(l.filter g).length <= (l.filter f).length := λ l => by
   induction l with
   | nil => simp
   | cons z l ih2 =>
    rw [List.filter_cons,List.filter_cons]
    cases hg : g z
    ·rw [if_neg (by decide)]; split
     ·rw [List.length_cons]; omega
     ·exact ih2
    ·rw [if_pos rfl,if_pos (h z hg),List.length_cons,List.length_cons]; omega
  rw [List.filter_cons,List.filter_cons]
  rcases List.mem_cons.mp hq with rfl | hq
  ·rw [h1,h2]; have := le l; simp; omega
  ·have := ih hq
   cases hg : g y
   ·rw [if_neg (by decide)]; split
    ·rw [List.length_cons]; omega
    ·exact this
   ·rw [if_pos rfl,if_pos (h y hg),List.length_cons,List.length_cons]; omega
theorem nodup_le {l m : List Pt} (hn : l.Nodup) (h : ∀ x ∈ l,x ∈ m) : l.length <= m.length := by
 induction l generalizing m with
 | nil => simp
 | cons y l ih =>
  obtain ⟨h1,h2⟩ := List.nodup_cons.mp hn
  have hy := h y (.head _)
  have := ih (m := m.erase y) h2 λ x hx => (List.mem_erase_of_ne (λ e : x = y => h1 (e ▸ hx))).mpr (h x (.tail _ hx))
  rw [List.length_erase_of_mem hy] at this
  have : 0 < m.length := List.length_pos_of_mem hy
  simp; omega
noncomputable def left (n : Nat) (P : List Pt) : Nat := ((grid n).filter λ z => !decide (z ∈ P)).length
theorem left_lt {n : Nat} {P P₁ : List Pt} {q : Pt} (hq : inG n q) (h1 : q ∉ P) (h2 : q ∈ P₁) (h3 : ∀ z ∈ P,z ∈ P₁) : left n P₁ < left n P := by
 refine filter_lt (q := q) (λ x hx => ?_) (mem_grid.mpr hq) (by simp [h1]) (by simp [h2])
 simp only [Bool.not_eq_true',decide_eq_false_iff_not] at hx ⊢
 exact λ hp => hx (h3 x hp)
inductive Reach (n : Nat) (G : Pt -> Option Str) (c : Str) (p : Pt) : Pt -> Prop
 | refl : inG n p -> G p = some c -> Reach n G c p p
 | step {q z : Pt} : Reach n G c p q -> z ∈ nb q -> inG n z -> G z = some c -> Reach n G c p z
section
variable {n : Nat} {G : Pt -> Option Str} {c : Str} {p q z : Pt}
theorem Reach.inG (h : Reach n G c p q) : inG n q := by cases h <;> assumption
theorem Reach.col (h : Reach n G c p q) : G q = some c := by cases h <;> assumption
theorem Reach.start (h : Reach n G c p q) : AM.inG n p /\ G p = some c := by
 induction h with
 | refl a b => exact ⟨a,b⟩
 | step _ _ _ _ ih => exact ih
theorem Reach.trans (h : Reach n G c p q) (h' : Reach n G c q z) : Reach n G c p z := by
 induction h' with
 | refl a b => exact h
 | step _ a b e ih => exact ih.step a b e
theorem Reach.symm (h : Reach n G c p q) : Reach n G c q p := by
 induction h with
 | refl a b => exact .refl a b
 | step h1 a b e ih => exact Reach.trans (.step (.refl b e) (nb_symm a) h1.inG h1.col) ih
noncomputable def Free (n : Nat) (G : Pt -> Option Str) (q : Pt) : Prop := ∃ z ∈ nb q,inG n z /\ G z = none
noncomputable def Surr (n : Nat) (G : Pt -> Option Str) (c : Str) (p : Pt) : Prop := ∀ q,Reach n G c p q -> ¬ Free n G q
structure MG (n : Nat) (G : Pt -> Option Str) (c : Str) (p : Pt) (P W : List Pt) (sur : Bool) : Prop where
 start : p ∈ P \/ p ∈ W
 reach : ∀ q,q ∈ P \/ q ∈ W -> Reach n G c p q
 closed : ∀ q ∈ P,∀ z ∈ nb q,AM.inG n z -> G z = some c -> z ∈ P \/ z ∈ W
 sur : sur = true ↔ ∀ q ∈ P,¬ Free n G q
 apart : ∀ q ∈ P,q ∉ W
structure MI (n : Nat) (G : Pt -> Option Str) (c : Str) (q : Pt) (P₁ W₁ : List Pt) (sur : Bool) (done : List Pt) (W' : List Pt) (sur' : Bool) : Prop where
 sub : ∀ z ∈ W₁,z ∈ W'
 new : ∀ z ∈ W',z ∈ W₁ \/ (z ∈ nb q /\ AM.inG n z /\ G z = some c /\ z ∉ P₁)
 all : ∀ z ∈ done,AM.inG n z -> G z = some c -> z ∈ P₁ \/ z ∈ W'
 sur : sur' = true ↔ sur = true /\ ∀ z ∈ done,¬ (AM.inG n z /\ G z = none)
variable {P P₁ W W₁ W' W'' : List Pt} {sur sur' : Bool} {dn : List Pt}
theorem MI.nil : MI n G c q P₁ W₁ sur [] W₁ sur := ⟨λ _ h => h,λ _ h => .inl h,λ _ h => by simp at h,by simp⟩
theorem MI.skip (h : MI n G c q P₁ W₁ sur dn W' sur') (hz : AM.inG n z -> G z ≠ none /\ (G z = some c -> z ∈ P₁)) : MI n G c q P₁ W₁ sur (dn ++ [z]) W' sur' := by
 refine ⟨h.sub,h.new,λ y hy hg hc => ?_,?_⟩
 ·rcases List.mem_append.mp hy with hy | hy
  ·exact h.all y hy hg hc
  ·rw [List.mem_singleton.mp hy] at hg hc ⊢; exact .inl ((hz hg).2 hc)
 ·rw [h.sur]
  constructor
  ·rintro ⟨a,b⟩
   refine ⟨a,λ y hy ⟨hg,hn⟩ => ?_⟩
   rcases List.mem_append.mp hy with hy | hy
   ·exact b y hy ⟨hg,hn⟩
   ·rw [List.mem_singleton.mp hy] at hg hn; exact (hz hg).1 hn
  ·rintro ⟨a,b⟩; exact ⟨a,λ y hy => b y (List.mem_append_left _ hy)⟩
theorem MI.free (h : MI n G c q P₁ W₁ sur dn W' sur') (hg : AM.inG n z) (hn : G z = none) : MI n G c q P₁ W₁ sur (dn ++ [z]) W' false := by
 refine ⟨h.sub,h.new,λ y hy hg hc => ?_,?_⟩
 ·rcases List.mem_append.mp hy with hy | hy
  ·exact h.all y hy hg hc
  ·rw [List.mem_singleton.mp hy,hn] at hc; cases hc
 ·constructor
  ·intro q; cases q
  ·rintro ⟨a,b⟩; exact absurd ⟨hg,hn⟩ (b z (by simp))
theorem MI.more (h : MI n G c q P₁ W₁ sur dn W' sur') (hb : z ∈ nb q) (hg : AM.inG n z) (hc : G z = some c) (hp : z ∉ P₁) (hw : ∀ y,y ∈ W'' ↔ y = z \/ y ∈ W') : MI n G c q P₁ W₁ sur (dn ++ [z]) W'' sur' := by
 refine ⟨λ y hy => (hw y).mpr (.inr (h.sub y hy)),λ y hy => ?_,λ y hy hg' hc' => ?_,?_⟩
 ·rcases (hw y).mp hy with rfl | hy
  ·exact .inr ⟨hb,hg,hc,hp⟩
  ·exact h.new y hy
 ·rcases List.mem_append.mp hy with hy | hy
  ·exact (h.all y hy hg' hc').imp id λ e => (hw y).mpr (.inr e)
  ·exact .inr ((hw y).mpr (.inl (List.mem_singleton.mp hy)))
 ·rw [h.sur]
  constructor
  ·rintro ⟨a,b⟩
   refine ⟨a,λ y hy ⟨hg',hn⟩ => ?_⟩
   rcases List.mem_append.mp hy with hy | hy
   ·exact b y hy ⟨hg',hn⟩
   ·rw [List.mem_singleton.mp hy,hc] at hn; cases hn
  ·rintro ⟨a,b⟩; exact ⟨a,λ y hy => b y (List.mem_append_left _ hy)⟩
theorem MG.first (hg : AM.inG n p) (hc : G p = some c) (hw : ∀ y,y ∈ W ↔ y = p \/ y ∈ ([] : List Pt)) : MG n G c p [] W true := by
 have hp : p ∈ W := (hw p).mpr (.inl rfl)
 refine ⟨.inr hp,λ q h => ?_,λ q h => by simp at h,by simp,λ q h => by simp at h⟩
 rcases h with h | h
 ·simp at h
 ·have := (hw q).mp h
  simp at this; subst this; exact .refl hg hc
theorem MG.turn (h : MG n G c p P W sur) (hq : q ∈ W) (hw : ∀ y,y ∈ W₁ ↔ y ∈ W /\ y ≠ q) (hp : ∀ y,y ∈ P₁ ↔ y = q \/ y ∈ P) (hi : MI n G c q P₁ W₁ sur (nb q) W' sur') : MG n G c p P₁ W' sur' := by
 have hr : Reach n G c p q := h.reach q (.inr hq)
 have hp1 : ∀ y ∈ P,y ∈ P₁ := λ y hy => (hp y).mpr (.inr hy)
 have tr : ∀ y,y ∈ P \/ y ∈ W -> y ∈ P₁ \/ y ∈ W' := λ y hy => by
  rcases hy with hy | hy
  ·exact .inl (hp1 y hy)
  ·by_cases e : y = q
   ·exact .inl ((hp y).mpr (.inl e))
   ·exact .inr (hi.sub y ((hw y).mpr ⟨hy,e⟩))
 refine ⟨tr p h.start,λ y hy => ?_,λ y hy z hz hg hc => ?_,?_,λ y hy hy' => ?_⟩
 ·rcases hy with hy | hy
  ·rcases (hp y).mp hy with rfl | hy
   ·exact hr
   ·exact h.reach y (.inl hy)
  ·rcases hi.new y hy with hy | ⟨a,b,e,_⟩
   ·exact h.reach y (.inr ((hw y).mp hy).1)
   ·exact hr.step a b e
 ·rcases (hp y).mp hy with rfl | hy
  ·exact hi.all z hz hg hc
  ·exact tr z (h.closed y hy z hz hg hc)
 ·rw [hi.sur,h.sur]
  constructor
  ·rintro ⟨a,b⟩ y hy
   rcases (hp y).mp hy with rfl | hy
   ·rintro ⟨z,hz,e⟩; exact b z hz e
   ·exact a y hy
  ·intro a
   refine ⟨λ y hy => a y (hp1 y hy),λ z hz e => a q ((hp q).mpr (.inl rfl)) ⟨z,hz,e⟩⟩
 ·rcases hi.new y hy' with hw' | ⟨_,_,_,e⟩
  ·obtain ⟨hw',hne⟩ := (hw y).mp hw'
   rcases (hp y).mp hy with rfl | hy
   ·exact hne rfl
   ·exact h.apart y hy hw'
  ·exact e hy
theorem MG.done (h : MG n G c p P [] sur) : (∀ q,q ∈ P ↔ Reach n G c p q) /\ (sur = true ↔ Surr n G c p) := by
 have h1 : ∀ q,q ∈ P ↔ Reach n G c p q := λ q => by
  refine ⟨λ hq => h.reach q (.inl hq),λ hr => ?_⟩
  induction hr with
  | refl a b => exact h.start.resolve_right (by simp)
  | step _ a b e ih => exact (h.closed _ ih _ a b e).resolve_right (by simp)
 refine ⟨h1,h.sur.trans ?_⟩
 unfold Surr
 exact ⟨λ a q hq => a q ((h1 q).mpr hq),λ a q hq => a q ((h1 q).mp hq)⟩
theorem MG.left_lt (h : MG n G c p P W sur) (hq : q ∈ W) (hp : ∀ y,y ∈ P₁ ↔ y = q \/ y ∈ P) : left n P₁ < left n P :=
 AM.left_lt (h.reach q (.inr hq)).inG (λ e => h.apart q e hq) ((hp q).mpr (.inl rfl)) λ z hz => (hp z).mpr (.inr hz)
end
end
section
section
variable {n : Nat} {G : Pt -> Option Str} {c : Str} {p q z : Pt}
theorem Surr.of_reach (h : Surr n G c p) (r : Reach n G c p q) : Surr n G c q := λ y hy => h y (r.trans hy)
structure IsGrp (n : Nat) (G : Pt -> Option Str) (z : Pt) (A : Str × List Pt) : Prop where
 inG : AM.inG n z
 col : G z = some A.1
 mem : ∀ q,q ∈ A.2 ↔ Reach n G A.1 z q
 nodup : A.2.Nodup
theorem IsGrp.self {A : Str × List Pt} (h : IsGrp n G z A) : z ∈ A.2 := (h.mem z).mpr (.refl h.inG h.col)
structure FSI (n : Nat) (G : Pt -> Option Str) (dn : List Pt) (L : List (Str × List Pt)) (hdl : List Pt) : Prop where
 grp : ∀ A ∈ L,∃ z ∈ dn,IsGrp n G z A /\ Surr n G A.1 z
 apart : L.Pairwise λ A B => ∀ q ∈ A.2,q ∉ B.2
 seen : ∀ z ∈ dn,AM.inG n z -> G z ≠ none -> z ∈ hdl
 from_ : ∀ q ∈ hdl,∃ c z,z ∈ dn /\ Reach n G c z q
 closed : ∀ q ∈ hdl,∀ c z,Reach n G c q z -> z ∈ hdl
 sub : ∀ A ∈ L,∀ q ∈ A.2,q ∈ hdl
 all : ∀ z ∈ dn,AM.inG n z -> ∀ c,G z = some c -> Surr n G c z -> ∃ P,(c,P) ∈ L /\ z ∈ P
variable {dn : List Pt} {L : List (Str × List Pt)} {hdl hdl' : List Pt}
theorem FSI.nil : FSI n G [] [] [] := ⟨by simp,by simp,by simp,by simp,by simp,by simp,by simp⟩
theorem FSI.skip (h : FSI n G dn L hdl) (hz : AM.inG n z -> G z = none) : FSI n G (dn ++ [z]) L hdl := by
 refine ⟨λ A hA => ?_,h.apart,λ y hy hg hn => ?_,λ q hq => ?_,h.closed,h.sub,λ y hy hg c hc hs => ?_⟩
 ·obtain ⟨y,hy,e⟩ := h.grp A hA; exact ⟨y,List.mem_append_left _ hy,e⟩
 ·rcases List.mem_append.mp hy with hy | hy
  ·exact h.seen y hy hg hn
  ·rw [List.mem_singleton.mp hy] at hg hn; exact absurd (hz hg) hn
 ·obtain ⟨c,y,hy,e⟩ := h.from_ q hq; exact ⟨c,y,List.mem_append_left _ hy,e⟩
 ·rcases List.mem_append.mp hy with hy | hy
  ·exact h.all y hy hg c hc hs
  ·rw [List.mem_singleton.mp hy] at hg hc; rw [hz hg] at hc; cases hc
theorem FSI.again (h : FSI n G dn L hdl) (hz : z ∈ hdl) : FSI n G (dn ++ [z]) L hdl := by
 refine ⟨λ A hA => ?_,h.apart,λ y hy hg hn => ?_,λ q hq => ?_,h.closed,h.sub,λ y hy hg c hc hs => ?_⟩
 ·obtain ⟨y,hy,e⟩ := h.grp A hA; exact ⟨y,List.mem_append_left _ hy,e⟩
 ·rcases List.mem_append.mp hy with hy | hy
  ·exact h.seen y hy hg hn
  ·rw [List.mem_singleton.mp hy]; exact hz
 ·obtain ⟨c,y,hy,e⟩ := h.from_ q hq; exact ⟨c,y,List.mem_append_left _ hy,e⟩
 ·rcases List.mem_append.mp hy with hy | hy
  ·exact h.all y hy hg c hc hs
  ·rw [List.mem_singleton.mp hy] at hg hc hs ⊢
   obtain ⟨c',y',hy',e⟩ := h.from_ z hz
   have : c = c' := Option.some.inj (hc.symm.trans e.col)
   subst this
   obtain ⟨P,hP,hm⟩ := h.all y' hy' e.start.1 c e.start.2 (hs.of_reach e.symm)
   obtain ⟨w,_,hw,_⟩ := h.grp _ hP
   exact ⟨P,hP,(hw.mem z).mpr (((hw.mem y').mp hm).trans e)⟩
theorem FSI.new {A : Str × List Pt} (h : FSI n G dn L hdl) (hz : z ∉ hdl) (hA : IsGrp n G z A) (sur : Bool) (hs : sur = true ↔ Surr n G A.1 z) (hh : ∀ q,q ∈ hdl' ↔ q ∈ hdl \/ q ∈ A.2) :
  FSI n G (dn ++ [z]) (if sur then L ++ [A] else L) hdl' := by
 have hm : z ∈ dn ++ [z] := by simp
 refine ⟨λ B hB => ?_,?_,λ y hy hg hn => ?_,λ q hq => ?_,λ q hq c y hr => ?_,λ B hB q hq => ?_,λ y hy hg c hc hsy => ?_⟩
 ·have : B ∈ L \/ (sur = true /\ B = A) := by
   cases sur with
   | true => simpa using hB
   | false => exact .inl hB
  rcases this with hB | ⟨hsu,rfl⟩
  ·obtain ⟨y,hy,e⟩ := h.grp B hB; exact ⟨y,List.mem_append_left _ hy,e⟩
  ·exact ⟨z,hm,hA,hs.mp hsu⟩
 ·cases sur with
  | false => exact h.apart
  | true =>
   refine List.pairwise_append.mpr ⟨h.apart,by simp,λ B hB B' hB' q hq hq' => ?_⟩
   rw [List.mem_singleton.mp hB'] at hq'
   exact hz (h.closed q (h.sub B hB q hq) _ z ((hA.mem q).mp hq').symm)
 ·rcases List.mem_append.mp hy with hy | hy
  ·exact (hh y).mpr (.inl (h.seen y hy hg hn))
  ·rw [List.mem_singleton.mp hy]; exact (hh z).mpr (.inr hA.self)
 ·rcases (hh q).mp hq with hq | hq
  ·obtain ⟨c,y,hy,e⟩ := h.from_ q hq; exact ⟨c,y,List.mem_append_left _ hy,e⟩
  ·exact ⟨A.1,z,hm,(hA.mem q).mp hq⟩
 ·rcases (hh q).mp hq with hq | hq
  ·exact (hh y).mpr (.inl (h.closed q hq c y hr))
  ·have r := (hA.mem q).mp hq
   have : c = A.1 := Option.some.inj (hr.start.2.symm.trans r.col)
   subst this
   exact (hh y).mpr (.inr ((hA.mem y).mpr (r.trans hr)))
 ·have : B ∈ L \/ B = A := by
   cases sur with
   | true => simpa using hB
   | false => exact .inl hB
  rcases this with hB | rfl
  ·exact (hh q).mpr (.inl (h.sub B hB q hq))
  ·exact (hh q).mpr (.inr hq)
 ·rcases List.mem_append.mp hy with hy | hy
  ·obtain ⟨P,hP,e⟩ := h.all y hy hg c hc hsy
   refine ⟨P,?_,e⟩
   cases sur with
   | true => simp [hP]
   | false => exact hP
  ·rw [List.mem_singleton.mp hy] at hg hc hsy ⊢
   have : c = A.1 := Option.some.inj (hc.symm.trans hA.col)
   subst this
   rw [hs.mpr hsy]
   exact ⟨A.2,by simp,hA.self⟩
end
end
section
noncomputable def put (G : Pt -> Option Str) (p : Pt) (v : Option Str) : Pt -> Option Str := λ q => if q = p then v else G q
noncomputable def rm (G : Pt -> Option Str) (l : List Pt) : Pt -> Option Str := λ q => if q ∈ l then none else G q
theorem rm_nil {G : Pt -> Option Str} : rm G [] = G := by funext q; simp [rm]
theorem rm_snoc {G : Pt -> Option Str} {l : List Pt} {p : Pt} : put (rm G l) p none = rm G (l ++ [p]) := by
 funext q
 simp only [put,rm,List.mem_append,List.mem_singleton]
 by_cases h1 : q = p <;> by_cases h2 : q ∈ l <;> simp [h1,h2]
theorem rm_append {G : Pt -> Option Str} {l m : List Pt} : rm (rm G l) m = rm G (l ++ m) := by
 funext q
 simp only [rm,List.mem_append]
 by_cases h1 : q ∈ m <;> by_cases h2 : q ∈ l <;> simp [h1,h2]
theorem rm_congr {G : Pt -> Option Str} {l m : List Pt} (h : ∀ q,q ∈ l ↔ q ∈ m) : rm G l = rm G m := by
 funext q
 simp only [rm,h q]
noncomputable def capOf (opp : Str) (L : List (Str × List Pt)) : List (Str × List Pt) := if L.length = 1 then L else L.filter λ A => A.1 == opp
noncomputable def single : List Pt -> Option Pt
 | [q] => some q
 | _ => none
noncomputable def soleOf : List (Str × List Pt) -> Option (List Pt)
 | [A] => some A.2
 | _ => none
noncomputable def koOf (col opp : Str) (L : List (Str × List Pt)) : Option Pt := cond (Nat.ble L.length 1) none (((soleOf (L.filter λ A => A.1 == opp)).bind single).bind λ q => ((L.filter λ A => A.1 == col).head?.bind λ A => single A.2).map λ _ => q)
theorem single_none {l : List Pt} (h : l.length ≠ 1) : single l = none := by
 cases l with
 | nil => rfl
 | cons a l => cases l with
  | nil => exact absurd rfl h
  | cons b l => rfl
theorem soleOf_none {l : List (Str × List Pt)} (h : l.length ≠ 1) : soleOf l = none := by
 cases l with
 | nil => rfl
 | cons a l => cases l with
  | nil => exact absurd rfl h
  | cons b l => rfl
theorem koOf_of {col opp : Str} {L : List (Str × List Pt)} (h : (((soleOf (L.filter λ A => A.1 == opp)).bind single).bind λ q => ((L.filter λ A => A.1 == col).head?.bind λ A => single A.2).map λ _ => q) = none) : koOf col opp L = none := by
 unfold koOf
 cases Nat.ble L.length 1 with
 | true => rfl
 | false => exact h
noncomputable def emOf (n : Nat) (L : List (Str × List Pt)) : Bool := match L with
 | [A] => decide (A.2.length = n * n)
 | _ => false
theorem emOf_two {n : Nat} {L : List (Str × List Pt)} (h : 2 <= L.length) : emOf n L = false := by
 cases L with
 | nil => rfl
 | cons a r =>
  cases r with
  | nil => exact absurd h (Nat.lt_irrefl 1)
  | cons b r => rfl
noncomputable def ptsOf (L : List (Str × List Pt)) : List Pt := L.flatMap (·.2)
noncomputable def pvPt : Option Pt -> PV
 | none => .none
 | some q => pt q
theorem koOf_a {col opp : Str} {L : List (Str × List Pt)} (h : (L.filter λ A => A.1 == opp).length ≠ 1) : koOf col opp L = none := koOf_of (by rw [soleOf_none h]; rfl)
theorem koOf_b {col opp : Str} {L : List (Str × List Pt)} {A : Str × List Pt} (h : (L.filter λ A => A.1 == opp) = [A]) (h' : A.2.length ≠ 1) : koOf col opp L = none := koOf_of (by
 have e : (soleOf [A]).bind single = none := single_none h'
 rw [h,e]; rfl)
theorem koOf_c {col opp : Str} {L : List (Str × List Pt)} {B : Str × List Pt} {r : List (Str × List Pt)} (hs : (L.filter λ A => A.1 == col) = B :: r) (h' : B.2.length ≠ 1) : koOf col opp L = none := koOf_of (by
 have e : ((B :: r).head?.bind λ A => single A.2) = none := single_none h'
 rw [hs,e]
 cases (soleOf (L.filter λ A => A.1 == opp)).bind single <;> rfl)
theorem koOf_d {col opp o s : Str} {L : List (Str × List Pt)} {q q' : Pt} {r : List (Str × List Pt)} (h2 : 2 <= L.length) (h : (L.filter λ A => A.1 == opp) = [(o,[q])]) (hs : (L.filter λ A => A.1 == col) = (s,[q']) :: r) : koOf col opp L = some q := by
 have e : Nat.ble L.length 1 = false := by
  cases hb : Nat.ble L.length 1 with
  | false => rfl
  | true => exact absurd (Nat.le_of_ble_eq_true hb) (by omega)
 unfold koOf
 rw [e,h,hs]; rfl
theorem single_some {l : List Pt} {q : Pt} (h : single l = some q) : l = [q] := by
 cases l with
 | nil => cases h
 | cons a l => cases l with
  | nil => cases h; rfl
  | cons b l => cases h
theorem koOf_some {col opp : Str} {L : List (Str × List Pt)} {q : Pt} (e : koOf col opp L = some q) : ∃ o s r t,(L.filter λ A => A.1 == opp) = [(o,[q])] /\ (L.filter λ A => A.1 == col) = (s,[r]) :: t := by
 unfold koOf at e
 generalize (L.filter λ A => A.1 == opp) = F at e
 generalize (L.filter λ A => A.1 == col) = F' at e
 cases hb : Nat.ble L.length 1 with
 | true => rw [hb] at e; cases e
 | false =>
  rw [hb] at e
  obtain ⟨y,h1,e⟩ := Option.bind_eq_some_iff.mp e
  obtain ⟨P,h2,h1⟩ := Option.bind_eq_some_iff.mp h1
  obtain ⟨r,h3,e⟩ := Option.map_eq_some_iff.mp e
  obtain ⟨B,h4,h3⟩ := Option.bind_eq_some_iff.mp h3
  subst e
  cases F with
  | nil => cases h2
  | cons A l => cases l with
   | cons _ _ => cases h2
   | nil =>
    obtain ⟨o,P'⟩ := A
    cases h2
    cases F' with
    | nil => cases h4
    | cons C t =>
     obtain ⟨s,P''⟩ := C
     cases h4
     exact ⟨o,s,r,t,by rw [show P' = [y] from single_some h1],by rw [show P'' = [r] from single_some h3]⟩
theorem own_there {col opp : Str} {L : List (Str × List Pt)} (hc : ∀ A ∈ L,A.1 = col \/ A.1 = opp) (h2 : 2 <= L.length) (h1 : (L.filter λ A => A.1 == opp).length = 1) : ∃ A r,(L.filter λ A => A.1 == col) = A :: r := by
 cases e : L.filter (λ A => A.1 == col) with
 | cons A r => exact ⟨A,r,rfl⟩
 | nil =>
  have : L.filter (λ A => A.1 == opp) = L := List.filter_eq_self.mpr λ A hA => by
   rcases hc A hA with q | q
   ·have hm : A ∈ L.filter (λ A => A.1 == col) := List.mem_filter.mpr ⟨hA,by simp [q]⟩
    rw [e] at hm; cases hm
   ·simp [q]
  rw [this] at h1; omega
end
section
theorem conn_line {n : Nat} {S : Pt -> Prop} (f : Nat -> Pt) (hf : ∀ k,f (k + 1) ∈ nb (f k)) (hS : ∀ p z,S p -> z ∈ nb p -> inG n z -> S z) (k m : Nat) (h : ∀ i ≤ k + m,inG n (f i)) : S (f k) ↔ S (f (k + m)) := by
 induction m with
 | zero => exact Iff.rfl
 | succ m ih => exact (ih λ i hi => h i (Nat.le_succ_of_le hi)).trans ⟨λ s => hS _ _ s (hf _) (h _ (Nat.le_refl _)),λ s => hS _ _ s (nb_symm (hf _)) (h _ (Nat.le_succ _))⟩
theorem conn_le {n : Nat} {S : Pt -> Prop} (f : Nat -> Pt) (hf : ∀ k,f (k + 1) ∈ nb (f k)) (hS : ∀ p z,S p -> z ∈ nb p -> inG n z -> S z) (hg : ∀ i < n,inG n (f i)) {i j : Nat} (hi : i < n) (hj : j < n) : S (f i) ↔ S (f j) := by
 rcases Nat.le_total i j with h | h
 ·obtain ⟨m,rfl⟩ := Nat.exists_eq_add_of_le h
  exact conn_line f hf hS i m λ k hk => hg k (Nat.lt_of_le_of_lt hk hj)
 ·obtain ⟨m,rfl⟩ := Nat.exists_eq_add_of_le h
  exact (conn_line f hf hS j m λ k hk => hg k (Nat.lt_of_le_of_lt hk hi)).symm
theorem grid_conn {n : Nat} {S : Pt -> Prop} (hS : ∀ p z,S p -> z ∈ nb p -> inG n z -> S z) (p q : Pt) (hp : inG n p) (hq : inG n q) (h : S p) : S q := by
 obtain ⟨a,b⟩ := p
 obtain ⟨c,d⟩ := q
 obtain ⟨⟨p1,p2⟩,p3,p4⟩ := hp
 obtain ⟨⟨q1,q2⟩,q3,q4⟩ := hq
 obtain ⟨a,rfl⟩ := Int.eq_ofNat_of_zero_le p1
 obtain ⟨b,rfl⟩ := Int.eq_ofNat_of_zero_le p3
 obtain ⟨c,rfl⟩ := Int.eq_ofNat_of_zero_le q1
 obtain ⟨d,rfl⟩ := Int.eq_ofNat_of_zero_le q3
 have p2 := Int.ofNat_lt.mp p2
 have p4 := Int.ofNat_lt.mp p4
 have q2 := Int.ofNat_lt.mp q2
 have q4 := Int.ofNat_lt.mp q4
 have g : ∀ i j : Nat,i < n -> j < n -> inG n ((i : Int),(j : Int)) := λ i j hi hj => ⟨⟨Int.natCast_nonneg _,Int.ofNat_lt.mpr hi⟩,Int.natCast_nonneg _,Int.ofNat_lt.mpr hj⟩
 have h1 : S ((c : Int),(b : Int)) := (conn_le (λ i => ((i : Int),(b : Int))) (λ k => .tail _ (.head _)) hS (λ i hi => g i b hi p4) p2 q2).mp h
 exact (conn_le (λ i => ((c : Int),(i : Int))) (λ k => .tail _ (.tail _ (.tail _ (.head _)))) hS (λ i hi => g c i q2 hi) p4 q4).mp h1
theorem grid_nodup {n : Nat} : (grid n).Nodup := by
 unfold grid
 refine List.nodup_iff_pairwise_ne.mpr ?_
 rw [List.pairwise_flatMap]
 constructor
 ·intro i _
  rw [List.pairwise_map]
  exact (List.nodup_iff_pairwise_ne.mp List.nodup_range).imp λ h e => h (by have := congrArg Prod.snd e; exact Int.ofNat.inj (by simpa using this))
 ·refine (List.nodup_iff_pairwise_ne.mp List.nodup_range).imp λ h x hx y hy e => ?_
  obtain ⟨i,_,rfl⟩ := List.mem_map.mp hx
  obtain ⟨j,_,rfl⟩ := List.mem_map.mp hy
  exact h (by have := congrArg Prod.fst e; exact Int.ofNat.inj (by simpa using this))
theorem all_of_len {n : Nat} {l : List Pt} (hn : l.Nodup) (hg : ∀ z ∈ l,inG n z) (hl : l.length = n * n) {z : Pt} (hz : inG n z) : z ∈ l := by
 by_cases h : z ∈ l
 ·exact h
 ·have := nodup_le (l := z :: l) (m := grid n) (List.nodup_cons.mpr ⟨h,hn⟩) λ x hx => by
   rcases List.mem_cons.mp hx with rfl | hx
   ·exact mem_grid.mpr hz
   ·exact mem_grid.mpr (hg x hx)
  rw [List.length_cons,grid_length] at this
  omega
theorem nodup_one {l : List Pt} {q : Pt} (hn : l.Nodup) (h : ∀ z,z ∈ l ↔ z = q) : l = [q] := by
 match l,hn,h with
 | [],_,h => exact absurd ((h q).mpr rfl) (by simp)
 | [a],_,h => rw [(h a).mp (.head _)]
 | a :: b :: r,hn,h =>
  have e1 := (h a).mp (.head _)
  have e2 := (h b).mp (.tail _ (.head _))
  rw [e1,e2] at hn
  exact absurd (List.mem_cons_self) (List.nodup_cons.mp hn).1
section
variable {n : Nat} {G : Pt -> Option Str} {col opp : Str} {p : Pt} {L : List (Str × List Pt)} {hdl : List Pt}
structure Set1 (n : Nat) (G : Pt -> Option Str) (col opp : Str) (p : Pt) : Prop where
 hp : inG n p
 hG : G p = some col
 hne : col ≠ opp
 hval : ∀ q s,G q = some s -> s = col \/ s = opp
 hsup : ∀ z,G z ≠ none -> inG n z
noncomputable def Tk (n : Nat) (G : Pt -> Option Str) (opp : Str) (p q : Pt) : Prop := ∃ z ∈ nb p,inG n z /\ G z = some opp /\ Surr n G opp z /\ Reach n G opp z q
variable (S : Set1 n G col opp p) (F : FSI n G (p :: nb p) L hdl)
theorem mem_ptsOf {q : Pt} : q ∈ ptsOf L ↔ ∃ A ∈ L,q ∈ A.2 := by simp [ptsOf]
include S F in
theorem col_or {A : Str × List Pt} (hA : A ∈ L) : A.1 = col \/ A.1 = opp := by
 obtain ⟨z,_,hz,_⟩ := F.grp A hA
 exact S.hval z _ hz.col
include S F in
theorem own_self {A : Str × List Pt} (hA : A ∈ L) (hc : A.1 = col) : p ∈ A.2 /\ Surr n G col p /\ ∀ q,q ∈ A.2 ↔ Reach n G col p q := by
 obtain ⟨z,hz,g,sr⟩ := F.grp A hA
 have gc := g.col
 rw [hc] at gc sr
 have r : Reach n G col z p := by
  rcases List.mem_cons.mp hz with rfl | hz
  ·exact .refl S.hp S.hG
  ·exact .step (.refl g.inG gc) (nb_symm hz) S.hp S.hG
 refine ⟨(g.mem p).mpr (hc ▸ r),sr.of_reach r,λ q => ?_⟩
 rw [g.mem q,hc]
 exact ⟨λ h => r.symm.trans h,λ h => r.trans h⟩
include S F in
theorem mem_opp {q : Pt} : q ∈ ptsOf (L.filter λ A => A.1 == opp) ↔ Tk n G opp p q := by
 rw [mem_ptsOf]
 constructor
 ·rintro ⟨A,hA,hq⟩
  obtain ⟨hA,hc⟩ := List.mem_filter.mp hA
  have hc : A.1 = opp := by simpa using hc
  obtain ⟨z,hz,g,sr⟩ := F.grp A hA
  have gc := g.col
  rw [hc] at gc sr
  rcases List.mem_cons.mp hz with rfl | hz
  ·rw [S.hG] at gc; exact absurd (Option.some.inj gc) S.hne
  ·exact ⟨z,hz,g.inG,gc,sr,hc ▸ (g.mem q).mp hq⟩
 ·rintro ⟨z,hz,hg,hc,hs,hr⟩
  obtain ⟨P,hP,hm⟩ := F.all z (.tail _ hz) hg opp hc hs
  obtain ⟨w,_,g,_⟩ := F.grp _ hP
  exact ⟨_,List.mem_filter.mpr ⟨hP,by simp⟩,(g.mem q).mpr (((g.mem z).mp hm).trans hr)⟩
include S F in
theorem mem_col {q : Pt} : q ∈ ptsOf (L.filter λ A => A.1 == col) ↔ Surr n G col p /\ Reach n G col p q := by
 rw [mem_ptsOf]
 constructor
 ·rintro ⟨A,hA,hq⟩
  obtain ⟨hA,hc⟩ := List.mem_filter.mp hA
  obtain ⟨_,h2,h3⟩ := own_self S F hA (by simpa using hc)
  exact ⟨h2,(h3 q).mp hq⟩
 ·rintro ⟨hs,hr⟩
  obtain ⟨P,hP,hm⟩ := F.all p (.head _) S.hp col S.hG hs
  exact ⟨_,List.mem_filter.mpr ⟨hP,by simp⟩,((own_self S F hP rfl).2.2 q).mpr hr⟩
theorem pw_one {p : Pt} : ∀ {M : List (Str × List Pt)},(M.Pairwise λ A B => ∀ q ∈ A.2,q ∉ B.2) -> (∀ A ∈ M,p ∈ A.2) -> M.length <= 1
 | [],_,_ => by simp
 | [A],_,_ => by simp
 | A :: B :: r,hp,h => absurd (h B (.tail _ (.head _))) ((List.pairwise_cons.mp hp).1 B (.head _) p (h A (.head _)))
include S F in
theorem own_le : (L.filter λ A => A.1 == col).length <= 1 :=
 pw_one (F.apart.filter (λ A => A.1 == col)) λ A hA => by
  obtain ⟨hA,cA⟩ := List.mem_filter.mp hA
  exact (own_self S F hA (by simpa using cA)).1
theorem one_of_le {M : List (Str × List Pt)} {A : Str × List Pt} (h : M.length <= 1) (hA : A ∈ M) : M = [A] := by
 match M,h,hA with
 | [B],_,hA => rw [List.mem_singleton.mp hA]
 | B :: C :: r,h,_ => simp at h
include F in
theorem grp_ne {A : Str × List Pt} (hA : A ∈ L) : ∃ z,z ∈ A.2 := let ⟨z,_,g,_⟩ := F.grp A hA; ⟨z,g.self⟩
include S F in
theorem all_col (h : ∀ q,¬ Tk n G opp p q) : (L.filter λ A => A.1 == col) = L := List.filter_eq_self.mpr λ A hA => by
 rcases col_or S F hA with q | q
 ·simp [q]
 ·obtain ⟨z,hz⟩ := grp_ne F hA
  exact absurd ((mem_opp S F).mp (mem_ptsOf.mpr ⟨A,List.mem_filter.mpr ⟨hA,by simp [q]⟩,hz⟩)) (h z)
include S F in
theorem cap_tk {q₀ q : Pt} (h : Tk n G opp p q₀) : q ∈ ptsOf (capOf opp L) ↔ Tk n G opp p q := by
 rw [<- mem_opp S F (q := q)]
 have h0 := (mem_opp S F).mpr h
 unfold capOf
 split
 ·rename_i hl
  obtain ⟨A,rfl⟩ := List.length_eq_one_iff.mp hl
  obtain ⟨B,hB,_⟩ := mem_ptsOf.mp h0
  obtain ⟨hB,hc⟩ := List.mem_filter.mp hB
  rw [List.mem_singleton.mp hB] at hc
  rw [List.filter_cons,if_pos hc,List.filter_nil]
 ·exact Iff.rfl
include S F in
theorem cap_own {q : Pt} (h : ∀ q,¬ Tk n G opp p q) : q ∈ ptsOf (capOf opp L) ↔ Surr n G col p /\ Reach n G col p q := by
 rw [<- mem_col S F]
 have hc := all_col S F h
 have hl := own_le S F
 rw [hc] at hl ⊢
 unfold capOf
 split
 ·exact Iff.rfl
 ·have : L = [] := List.length_eq_zero_iff.mp (by omega)
  subst this; exact Iff.rfl
noncomputable def lawCap (tk ow : List Pt) : List Pt := if tk = [] then ow else tk
noncomputable def OwnIs (n : Nat) (G : Pt -> Option Str) (col : Str) (p : Pt) (ow : List Pt) : Prop := (¬ Surr n G col p /\ ow = []) \/ (Surr n G col p /\ IsGrp n G p (col,ow))
variable {tk ow : List Pt}
include S F in
theorem cap_eq (ht : ∀ q,q ∈ tk ↔ Tk n G opp p q) (ho : OwnIs n G col p ow) (q : Pt) : q ∈ ptsOf (capOf opp L) ↔ q ∈ lawCap tk ow := by
 unfold lawCap
 split
 ·rename_i e
  rw [cap_own S F λ z hz => by have := (ht z).mpr hz; rw [e] at this; cases this]
  rcases ho with ⟨h,rfl⟩ | ⟨h,g⟩
  ·simp [h]
  ·rw [g.mem q]; simp [h]
 ·rename_i e
  obtain ⟨z,hz⟩ := List.exists_mem_of_ne_nil _ e
  rw [cap_tk S F ((ht z).mp hz),ht q]
include S F in
theorem ko_eq (ht : ∀ q,q ∈ tk ↔ Tk n G opp p q) (hn : tk.Nodup) (ho : OwnIs n G col p ow) : koOf col opp L = if tk.length = 1 /\ ow = [p] then tk.head? else none := by
 have hnd : ∀ A ∈ L,A.2.Nodup := λ A hA => let ⟨z,_,g,_⟩ := F.grp A hA; g.nodup
 split
 ·rename_i h
  obtain ⟨h1,rfl⟩ := h
  obtain ⟨q,rfl⟩ := List.length_eq_one_iff.mp h1
  have hs : Surr n G col p /\ IsGrp n G p (col,[p]) := by
   rcases ho with ⟨_,e⟩ | h
   ·cases e
   ·exact h
  obtain ⟨P,hP,hm⟩ := F.all p (.head _) S.hp col S.hG hs.1
  have hPp : P = [p] := nodup_one (hnd _ hP) λ z => by
   rw [(own_self S F hP rfl).2.2 z,<- hs.2.mem z]; simp
  subst hPp
  have hc : (L.filter λ A => A.1 == col) = [(col,[p])] := by
   exact one_of_le (own_le S F) (List.mem_filter.mpr ⟨hP,by simp⟩)
  have hq := (mem_opp S F).mpr ((ht q).mp (.head _))
  have hop : ∀ A ∈ L.filter (λ A => A.1 == opp),A = (opp,[q]) := λ A hA => by
   obtain ⟨hA',hc'⟩ := List.mem_filter.mp hA
   have sub : ∀ z ∈ A.2,z = q := λ z hz => List.mem_singleton.mp ((ht z).mpr ((mem_opp S F).mp (mem_ptsOf.mpr ⟨A,hA,hz⟩)))
   obtain ⟨z,hz⟩ := grp_ne F hA'
   have := nodup_one (hnd A hA') (q := q) λ y => ⟨sub y,λ e => by rw [e,<- sub z hz]; exact hz⟩
   exact Prod.ext (by simpa using hc') this
  have ho1 : (L.filter λ A => A.1 == opp) = [(opp,[q])] := by
   refine one_of_le (pw_one (p := q) (F.apart.filter _) λ A hA => ?_) ?_
   ·rw [hop A hA]; exact .head _
   ·obtain ⟨A,hA,_⟩ := mem_ptsOf.mp hq
    exact hop A hA ▸ hA
  refine koOf_d (q' := p) (s := col) (o := opp) (r := []) ?_ ho1 hc
  match L,hc,ho1 with
  | [],hc,_ => cases hc
  | [A],hc,ho1 =>
   rw [List.filter_cons,List.filter_nil] at hc ho1
   split at hc
   ·split at ho1
    ·cases hc; simp at ho1; exact absurd ho1.1 S.hne
    ·cases ho1
   ·cases hc
  | A :: B :: r,_,_ => simp
 ·rename_i h
  cases e : koOf col opp L with
  | none => rfl
  | some q =>
   exfalso
   apply h
   obtain ⟨o',s',r',r'',ho1,hc1⟩ := koOf_some e
   have h1 : tk = [q] := nodup_one hn λ z => by
    rw [ht z,<- mem_opp S F,ho1]; simp [ptsOf]
   have hm : (s',[r']) ∈ L.filter λ A => A.1 == col := by rw [hc1]; exact .head _
   obtain ⟨hm,hcc⟩ := List.mem_filter.mp hm
   obtain ⟨o1,o2,o3⟩ := own_self S F hm (by simpa using hcc)
   have hr : r' = p := (List.mem_singleton.mp o1).symm
   subst hr
   refine ⟨by rw [h1]; rfl,?_⟩
   rcases ho with ⟨x,_⟩ | ⟨_,g⟩
   ·exact absurd o2 x
   ·exact nodup_one g.nodup λ z => by rw [g.mem z,<- o3 z]; simp
include S F in
theorem em_eq : emOf n L = true ↔ ∀ z,rm G (ptsOf (capOf opp L)) z = none := by
 constructor
 ·intro h z
  cases L with
  | nil => cases h
  | cons A r =>
  cases r with
  | cons => cases h
  | nil =>
   replace h : A.2.length = n * n := of_decide_eq_true h
   obtain ⟨y,_,g,_⟩ := F.grp A (.head _)
   by_cases hz : inG n z
   ·have := all_of_len g.nodup (λ x hx => ((g.mem x).mp hx).inG) h hz
    unfold rm
    rw [if_pos (mem_ptsOf.mpr ⟨A,by simp [capOf],this⟩)]
   ·unfold rm
    split
    ·rfl
    ·cases q : G z with
     | none => rfl
     | some c => exact absurd (S.hsup z (by rw [q]; simp)) hz
 ·intro h
  have hr : ∀ z,G z ≠ none -> z ∈ ptsOf (capOf opp L) := λ z hz => by
   by_cases q : z ∈ ptsOf (capOf opp L)
   ·exact q
   ·have := h z; unfold rm at this; rw [if_neg q] at this; exact absurd this hz
  have hpc := hr p (by rw [S.hG]; simp)
  have hnt : ∀ q,¬ Tk n G opp p q := λ q hq => by
   obtain ⟨z,_,_,_,_,hrz⟩ := (cap_tk S F hq).mp hpc
   have := hrz.col
   rw [S.hG] at this; exact S.hne (Option.some.inj this)
  have hs := ((cap_own S F hnt).mp hpc).1
  have hreach : ∀ z,inG n z -> Reach n G col p z := λ z hz => by
   refine grid_conn (n := n) (S := λ z => Reach n G col p z) (λ y w hy hw hg => ?_) p z S.hp hz (.refl S.hp S.hG)
   have : G w ≠ none := λ e => hs y hy ⟨w,hw,hg,e⟩
   exact ((cap_own S F hnt).mp (hr w this)).2
  obtain ⟨P,hP,hm⟩ := F.all p (.head _) S.hp col S.hG hs
  have hc := all_col S F hnt
  have hl := own_le S F
  rw [hc] at hl
  have hL : L = [(col,P)] := one_of_le hl hP
  subst hL
  refine decide_eq_true (p := P.length = n * n) ?_
  obtain ⟨_,_,g,_⟩ := F.grp _ hP
  have o3 := (own_self S F hP rfl).2.2
  have l1 := nodup_le g.nodup (m := grid n) λ x hx => mem_grid.mpr (((o3 x).mp hx).inG)
  have l2 := nodup_le (grid_nodup (n := n)) (m := P) λ x hx => (o3 x).mpr (hreach x (mem_grid.mp hx))
  rw [grid_length] at l1 l2
  exact Nat.le_antisymm l1 l2
end
noncomputable def DictIs (l : List (Pt × PV)) (G : Pt -> Option Str) : Prop := ∀ z,l.lookup z = (G z).map PV.str
theorem lookup_dput {l : List (Pt × PV)} {p : Pt} {q : PV} (z : Pt) : (dput l p q).lookup z = if z = p then some q else l.lookup z := by
 unfold dput
 split
 ·rename_i h
  have : ∀ m : List (Pt × PV),(m.map λ e => if e.1 = p then (e.1,q) else e).lookup z = if z = p then (m.lookup p).map (λ _ => q) else m.lookup z := by
   intro m
   induction m with
   | nil => split <;> rfl
   | cons e m ih =>
    obtain ⟨a,b⟩ := e
    rw [List.map_cons]
    by_cases ha : a = p
    ·subst ha
     simp only [if_true]
     rw [List.lookup_cons,List.lookup_cons,List.lookup_cons]
     by_cases hz : z = a
     ·subst hz; simp
     ·simp only [beq_eq_false_iff_ne.mpr hz,hz,if_false]; rw [ih,if_neg hz]
    ·simp only [ha,if_false]
     rw [List.lookup_cons,List.lookup_cons,List.lookup_cons]
     by_cases hz : z = a
     ·subst hz; simp [ha]
     ·simp only [beq_eq_false_iff_ne.mpr hz]
      rw [ih]
      have : (p == a) = false := beq_eq_false_iff_ne.mpr (Ne.symm ha)
      rw [this]
  rw [this]
  split
  ·obtain ⟨v,hv⟩ := Option.isSome_iff_exists.mp h
   rw [hv]; rfl
  ·rfl
 ·rename_i h
  have h : l.lookup p = none := by
   cases q : l.lookup p with
   | none => rfl
   | some v => rw [q] at h; exact absurd rfl h
  have : ∀ m : List (Pt × PV),m.lookup p = none -> (m ++ [(p,q)]).lookup z = if z = p then some q else m.lookup z := by
   intro m
   induction m with
   | nil =>
    intro _
    rw [List.nil_append,List.lookup_cons]
    by_cases hz : z = p
    ·subst hz; simp
    ·simp [beq_eq_false_iff_ne.mpr hz,hz]
   | cons e m ih =>
    obtain ⟨a,b⟩ := e
    intro hm
    rw [List.lookup_cons] at hm
    by_cases ha : p = a
    ·subst ha; simp at hm
    ·rw [beq_eq_false_iff_ne.mpr ha] at hm
     rw [List.cons_append,List.lookup_cons,List.lookup_cons]
     by_cases hz : z = a
     ·subst hz; simp [Ne.symm ha]
     ·simp only [beq_eq_false_iff_ne.mpr hz]; exact ih hm
  exact this l h
theorem lookup_ddel {l : List (Pt × PV)} {p : Pt} (z : Pt) : (ddel l p).lookup z = if z = p then none else l.lookup z := by
 unfold ddel
 induction l with
 | nil => split <;> rfl
 | cons e m ih =>
  obtain ⟨a,b⟩ := e
  rw [List.filter_cons]
  by_cases ha : a = p
  ·subst ha
   simp only [decide_true,Bool.not_true,Bool.false_eq_true,if_false]
   rw [ih,List.lookup_cons]
   by_cases hz : z = a
   ·simp [hz]
   ·simp [hz,beq_eq_false_iff_ne.mpr hz]
  ·simp only [ha,decide_false,Bool.not_false,if_true]
   rw [List.lookup_cons,List.lookup_cons,ih]
   by_cases hz : z = a
   ·subst hz; simp [ha]
   ·simp only [beq_eq_false_iff_ne.mpr hz]
theorem DictIs.put {l : List (Pt × PV)} {G : Pt -> Option Str} (h : DictIs l G) (p : Pt) (c : Str) : DictIs (dput l p (.str c)) (put G p (some c)) := λ z => by
 rw [lookup_dput]; unfold AM.put
 split
 ·rfl
 ·exact h z
theorem DictIs.del {l : List (Pt × PV)} {G : Pt -> Option Str} (h : DictIs l G) (p : Pt) : DictIs (ddel l p) (AM.put G p none) := λ z => by
 rw [lookup_ddel]; unfold AM.put
 split
 ·rfl
 ·exact h z
section
variable {n : Nat} {G : Pt -> Option Str} {opp : Str} {z : Pt} {dn tk gl : List Pt}
theorem sq_le (h : n <= 5) : n * n <= 25 := Nat.mul_le_mul h h
end
end
section
noncomputable def pOf (n k : Nat) : Pt := (((k / n : Nat) : Int),((k % n : Nat) : Int))
noncomputable def near (n k : Nat) : List Nat := (if n <= k then [k - n] else []) ++ (if k + n < n * n then [k + n] else []) ++ (if 0 < k % n then [k - 1] else []) ++ (if k % n + 1 < n then [k + 1] else [])
theorem near_fin1 : ∀ n < 6,∀ k < 25,k < n * n -> ∀ j ∈ near n k,j < n * n := by decide +kernel
theorem near_fin2 : ∀ n < 6,∀ k < 25,k < n * n -> ∀ j < 25,j < n * n -> (decide (j ∈ near n k) = decide (pOf n j ∈ nb (pOf n k))) := by decide +kernel
theorem lt25 {n k : Nat} (h : n <= 5) (hk : k < n * n) : k < 25 := Nat.lt_of_lt_of_le hk (sq_le h)
theorem near_lt {n k j : Nat} (h : n <= 5) (hk : k < n * n) (hj : j ∈ near n k) : j < n * n := near_fin1 n (Nat.lt_succ_of_le h) k (lt25 h hk) hk j hj
theorem mem_near {n k j : Nat} (h : n <= 5) (hk : k < n * n) (hj : j < n * n) : j ∈ near n k ↔ pOf n j ∈ nb (pOf n k) := decide_eq_decide.mp (near_fin2 n (Nat.lt_succ_of_le h) k (lt25 h hk) hk j (lt25 h hj) hj)
theorem pOf_in {n k : Nat} (hk : k < n * n) : inG n (pOf n k) := by
 have h0 : 0 < n := Nat.pos_of_ne_zero λ q => by subst q; exact absurd hk (Nat.not_lt_zero _)
 exact ⟨⟨Int.natCast_nonneg _,Int.ofNat_lt.mpr (Nat.div_lt_of_lt_mul hk)⟩,Int.natCast_nonneg _,Int.ofNat_lt.mpr (Nat.mod_lt _ h0)⟩
theorem pOf_inj {n k j : Nat} (h : pOf n k = pOf n j) : k = j := by
 have h1 := Int.ofNat.inj (congrArg Prod.fst h)
 have h2 := Int.ofNat.inj (congrArg Prod.snd h)
 rw [<- Nat.div_add_mod k n,<- Nat.div_add_mod j n,h1,h2]
theorem pOf_surj {n : Nat} {z : Pt} (h : inG n z) : ∃ k,k < n * n /\ pOf n k = z := by
 obtain ⟨a,b⟩ := z
 obtain ⟨⟨h1,h2⟩,h3,h4⟩ := h
 obtain ⟨a,rfl⟩ := Int.eq_ofNat_of_zero_le h1
 obtain ⟨b,rfl⟩ := Int.eq_ofNat_of_zero_le h3
 have h2 : a < n := Int.ofNat_lt.mp h2
 have h4 : b < n := Int.ofNat_lt.mp h4
 have h0 : 0 < n := Nat.lt_of_le_of_lt (Nat.zero_le _) h4
 refine ⟨n * a + b,Nat.lt_of_lt_of_le (Nat.add_lt_add_left h4 _) (by rw [<- Nat.mul_succ]; exact Nat.mul_le_mul_left _ h2),?_⟩
 unfold pOf
 rw [Nat.mul_add_div h0,Nat.div_eq_of_lt h4,Nat.mul_add_mod,Nat.mod_eq_of_lt h4,Nat.add_zero]
noncomputable def Alive (n : Nat) (G : Pt -> Option Str) (k : Nat) : Prop := ∃ c,G (pOf n k) = some c /\ ¬ Surr n G c (pOf n k)
noncomputable def Dead (n : Nat) (G : Pt -> Option Str) (k : Nat) : Prop := ∃ c,G (pOf n k) = some c /\ Surr n G c (pOf n k)
section
variable {n : Nat} {G : Pt -> Option Str} {k j : Nat}
theorem Alive.step (h5 : n <= 5) (hk : k < n * n) (hj : j ∈ near n k) (h : Alive n G k) (e : G (pOf n j) = G (pOf n k)) : Alive n G j := by
 obtain ⟨c,hc,hs⟩ := h
 have hj' := near_lt h5 hk hj
 have r : Reach n G c (pOf n k) (pOf n j) := .step (.refl (pOf_in hk) hc) ((mem_near h5 hk hj').mp hj) (pOf_in hj') (e.trans hc)
 exact ⟨c,e.trans hc,λ s => hs (s.of_reach r.symm)⟩
theorem Alive.free {c : Str} (hk : k < n * n) (hc : G (pOf n k) = some c) (hf : Free n G (pOf n k)) : Alive n G k := ⟨c,hc,λ s => s _ (.refl (pOf_in hk) hc) hf⟩
structure LV (n : Nat) (G : Pt -> Option Str) (gl : List Nat) (i : Nat) : Prop where
 seed : ∀ k < n * n,G (pOf n k) ≠ none -> Free n G (pOf n k) -> k ∈ gl
 alive : ∀ k ∈ gl,k < n * n /\ Alive n G k
 closed : ∀ a k,a < i -> gl[a]? = some k -> ∀ j ∈ near n k,G (pOf n j) = G (pOf n k) -> j ∈ gl
 nd : gl.Nodup
 le : i <= gl.length
theorem LV.more {gl : List Nat} {i : Nat} (h : LV n G gl i) (hj : j < n * n) (ha : Alive n G j) (hin : j ∉ gl) : LV n G (gl ++ [j]) i := by
 refine ⟨λ k hk hc hf => List.mem_append_left _ (h.seed k hk hc hf),λ k hk => ?_,λ a k hai hg j' hj' e => ?_,?_,?_⟩
 ·rcases List.mem_append.mp hk with hk | hk
  ·exact h.alive k hk
  ·rw [List.mem_singleton.mp hk]; exact ⟨hj,ha⟩
 ·rw [List.getElem?_append_left (Nat.lt_of_lt_of_le hai h.le)] at hg
  exact List.mem_append_left _ (h.closed a k hai hg j' hj' e)
 ·exact List.nodup_append.mpr ⟨h.nd,List.nodup_cons.mpr ⟨by simp,List.nodup_nil⟩,λ a ha b hb e => hin (by rw [List.mem_singleton.mp hb] at e; rw [<- e]; exact ha)⟩
 ·rw [List.length_append]; exact Nat.le_trans h.le (Nat.le_add_right _ _)
theorem LV.turn {gl : List Nat} {i : Nat} (h : LV n G gl i) (hk : gl[i]? = some k) (hc : ∀ j ∈ near n k,G (pOf n j) = G (pOf n k) -> j ∈ gl) : LV n G gl (i + 1) := by
 refine ⟨h.seed,h.alive,λ a k' hai hg => ?_,h.nd,(List.getElem?_eq_some_iff.mp hk).1⟩
 rcases Nat.lt_or_eq_of_le (Nat.le_of_lt_succ hai) with q | rfl
 ·exact h.closed a k' q hg
 ·rw [hk] at hg; cases hg; exact hc
theorem LV.done {gl : List Nat} (h5 : n <= 5) (h : LV n G gl gl.length) (hk : k < n * n) : k ∈ gl ↔ Alive n G k := by
 refine ⟨λ hm => (h.alive k hm).2,λ ⟨c,hc,hs⟩ => ?_⟩
 have h1 : ∃ q,Reach n G c (pOf n k) q /\ Free n G q := by
  refine Classical.byContradiction λ hno => hs λ q hq hf => hno ⟨q,hq,hf⟩
 obtain ⟨q,hq,hf⟩ := h1
 have key : ∀ z,Reach n G c q z -> ∀ j < n * n,pOf n j = z -> j ∈ gl := λ z hz => by
  induction hz with
  | refl a b =>
   intro j hj e
   exact h.seed j hj (by rw [e,b]; simp) (by rw [e]; exact hf)
  | step hr hnb hg hcz ih =>
   intro j hj e
   obtain ⟨i,hi,ei⟩ := pOf_surj hr.inG
   have hm := ih i hi ei
   obtain ⟨a,ha⟩ := List.getElem?_of_mem hm
   refine h.closed a i (List.getElem?_eq_some_iff.mp ha).1 ha j ((mem_near h5 hi hj).mpr (by rw [e,ei]; exact hnb)) ?_
   rw [e,ei,hcz,hr.col]
 exact key _ hq.symm k hk rfl
theorem LV.len {gl : List Nat} {i : Nat} (h : LV n G gl i) : gl.length <= n * n := by
 have e : (gl.map (pOf n)).length <= (grid n).length := nodup_le (List.Pairwise.map _ (λ a b hab e => hab (pOf_inj e)) h.nd) λ z hz => by
  obtain ⟨k,hk,rfl⟩ := List.mem_map.mp hz
  exact mem_grid.mpr (pOf_in (h.alive k hk).1)
 rwa [List.length_map,grid_length] at e
theorem dead_not {c : Str} (hc : G (pOf n k) = some c) : ¬ Alive n G k ↔ Dead n G k := by
 constructor
 ·intro h
  exact ⟨c,hc,Classical.byContradiction λ s => h ⟨c,hc,s⟩⟩
 ·rintro ⟨c',hc',s⟩ ⟨c'',hc'',s'⟩
  rw [hc'] at hc''; cases hc''; exact s' s
end
end
section
noncomputable def Legal (n : Nat) (G : Pt -> Option Str) : Prop := ∀ q c,inG n q -> G q = some c -> ¬ Surr n G c q
theorem not_surr {n : Nat} {G : Pt -> Option Str} {c : Str} {q : Pt} (h : ¬ Surr n G c q) : ∃ x,Reach n G c q x /\ Free n G x :=
 Classical.byContradiction λ hno => h λ x hx hf => hno ⟨x,hx,hf⟩
theorem Reach.mono {n : Nat} {G G' : Pt -> Option Str} {c : Str} {p q : Pt} (h : Reach n G c p q) (hg : ∀ z,Reach n G c p z -> G' z = some c) : Reach n G' c p q := by
 induction h with
 | refl a b => exact .refl a (hg _ (.refl a b))
 | step hr a b e ih => exact .step ih a b (hg _ (.step hr a b e))
section
variable {n : Nat} {G : Pt -> Option Str} {col : Str} {p q : Pt} {c : Str}
theorem put_ne {v : Option Str} (h : q ≠ p) : put G p v q = G q := if_neg h
theorem put_eq {v : Option Str} : put G p v p = v := if_pos rfl
theorem dead_at (leg : Legal n G) (hp : G p = none) (hpn : inG n p) (hq : put G p (some col) q = some c) (hqn : inG n q) (hs : Surr n (put G p (some col)) c q) :
  (c = col /\ Reach n (put G p (some col)) col p q) \/ (c ≠ col /\ ∃ z ∈ nb p,Reach n (put G p (some col)) c z q) := by
 by_cases e : q = p
 ·subst e
  rw [put_eq] at hq; cases hq
  exact .inl ⟨rfl,.refl hqn put_eq⟩
 have hG : G q = some c := by rw [put_ne e] at hq; exact hq
 obtain ⟨x,hx,z,hz,hzn,hz0⟩ := not_surr (leg q c hqn hG)
 have up : ∀ {y},Reach n G c q y -> Reach n (put G p (some col)) c q y := λ h => h.mono λ w hw => by
  rw [put_ne λ q => by subst q; have := hw.col; rw [hp] at this; cases this]; exact hw.col
 have hzp : z = p := Classical.byContradiction λ hne => hs x (up hx) ⟨z,hz,hzn,by rw [put_ne hne]; exact hz0⟩
 subst hzp
 by_cases hc : c = col
 ·subst hc
  exact .inl ⟨rfl,(Reach.step (up hx) hz hpn put_eq).symm⟩
 ·exact .inr ⟨hc,x,nb_symm hz,(up hx).symm⟩
end
noncomputable def deadL (n : Nat) (f : Nat -> Bool) : List Nat := (List.range (n * n)).filter f
noncomputable def takenL (n : Nat) (G : Pt -> Option Str) (col : Str) (f : Nat -> Bool) : List Nat := (deadL n f).filter λ j => !(G (pOf n j) == some col)
noncomputable def goneL (n : Nat) (G : Pt -> Option Str) (col : Str) (f : Nat -> Bool) : List Nat := if takenL n G col f = [] then deadL n f else takenL n G col f
noncomputable def koL (n : Nat) (G : Pt -> Option Str) (col : Str) (f : Nat -> Bool) : Option Nat := if (takenL n G col f).length = 1 /\ (deadL n f).length = 2 then (takenL n G col f).head? else none
section
variable {n : Nat} {G G₁ : Pt -> Option Str} {col opp : Str} {p : Pt} {f : Nat -> Bool} {L : List (Str × List Pt)} {hdl : List Pt}
theorem mem_dead {j : Nat} : j ∈ deadL n f ↔ j < n * n /\ f j = true := by unfold deadL; rw [List.mem_filter,List.mem_range]
theorem dead_nd : (deadL n f).Nodup := List.nodup_range.filter _
theorem taken_mem (S : Set1 n G₁ col opp p) (leg : Legal n G) (hp : G p = none) (e : G₁ = put G p (some col)) (hf : ∀ k < n * n,f k = true ↔ Dead n G₁ k) (q : Pt) : q ∈ (takenL n G₁ col f).map (pOf n) ↔ Tk n G₁ opp p q := by
 rw [List.mem_map]
 constructor
 ·rintro ⟨j,hj0,rfl⟩
  obtain ⟨hj1,hc⟩ := List.mem_filter.mp hj0
  obtain ⟨hj,hfj⟩ := mem_dead.mp hj1
  clear hj0 hj1
  obtain ⟨c,hcj,hs⟩ := (hf j hj).mp hfj
  have hco : c ≠ col := λ q => by rw [hcj,q] at hc; simp at hc
  have hcp : c = opp := (S.hval _ _ hcj).resolve_left hco
  subst hcp
  subst e
  rcases dead_at leg hp S.hp hcj (pOf_in hj) hs with ⟨h,_⟩ | ⟨_,z,hz,hr⟩
  ·exact absurd h hco
  ·exact ⟨z,hz,hr.start.1,hr.start.2,hs.of_reach hr.symm,hr⟩
 ·rintro ⟨z,hz,hzn,hzc,hs,hr⟩
  obtain ⟨j,hj,rfl⟩ := pOf_surj hr.inG
  refine ⟨j,List.mem_filter.mpr ⟨mem_dead.mpr ⟨hj,(hf j hj).mpr ⟨opp,hr.col,hs.of_reach hr⟩⟩,?_⟩,rfl⟩
  rw [hr.col]
  simpa using λ q => S.hne q.symm
theorem taken_nd : ((takenL n G₁ col f).map (pOf n)).Nodup := List.Pairwise.map _ (λ a b hab e => hab (pOf_inj e)) (dead_nd.filter _)
noncomputable def ownL (n : Nat) (G : Pt -> Option Str) (col : Str) (f : Nat -> Bool) : List Nat := (deadL n f).filter λ j => G (pOf n j) == some col
theorem own_is (S : Set1 n G₁ col opp p) (leg : Legal n G) (hp : G p = none) (e : G₁ = put G p (some col)) (hf : ∀ k < n * n,f k = true ↔ Dead n G₁ k) : OwnIs n G₁ col p ((ownL n G₁ col f).map (pOf n)) := by
 have mem : ∀ q,q ∈ (ownL n G₁ col f).map (pOf n) ↔ Reach n G₁ col p q /\ Surr n G₁ col p := λ q => by
  rw [List.mem_map]
  constructor
  ·rintro ⟨j,hj0,rfl⟩
   obtain ⟨hj1,hc⟩ := List.mem_filter.mp hj0
   obtain ⟨hj,hfj⟩ := mem_dead.mp hj1
   clear hj0 hj1
   obtain ⟨c,hcj,hs⟩ := (hf j hj).mp hfj
   have hco : c = col := by rw [hcj] at hc; simpa using hc
   subst hco
   subst e
   rcases dead_at leg hp S.hp hcj (pOf_in hj) hs with ⟨_,hr⟩ | ⟨h,_⟩
   ·exact ⟨hr,hs.of_reach hr.symm⟩
   ·exact absurd rfl h
  ·rintro ⟨hr,hs⟩
   obtain ⟨j,hj,rfl⟩ := pOf_surj hr.inG
   refine ⟨j,List.mem_filter.mpr ⟨mem_dead.mpr ⟨hj,(hf j hj).mpr ⟨col,hr.col,hs.of_reach hr⟩⟩,?_⟩,rfl⟩
   rw [hr.col]; simp
 by_cases hs : Surr n G₁ col p
 ·exact .inr ⟨hs,S.hp,S.hG,λ q => (mem q).trans ⟨λ h => h.1,λ h => ⟨h,hs⟩⟩,List.Pairwise.map _ (λ a b hab e => hab (pOf_inj e)) (dead_nd.filter _)⟩
 ·refine .inl ⟨hs,?_⟩
  cases h : (ownL n G₁ col f).map (pOf n) with
  | nil => rfl
  | cons a l => exact absurd ((mem a).mp (by rw [h]; exact .head _)).2 hs
theorem part_len (l : List Nat) (g : Nat -> Bool) : l.length = (l.filter g).length + (l.filter λ j => !g j).length := by
 induction l with
 | nil => rfl
 | cons a l ih =>
  rw [List.filter_cons,List.filter_cons,List.length_cons,ih]
  cases g a
  ·exact Nat.add_assoc ..
  ·exact Nat.add_right_comm ..
theorem gone_eq (S : Set1 n G₁ col opp p) (leg : Legal n G) (hp : G p = none) (e : G₁ = put G p (some col)) (hf : ∀ k < n * n,f k = true ↔ Dead n G₁ k) : (goneL n G₁ col f).map (pOf n) = lawCap ((takenL n G₁ col f).map (pOf n)) ((ownL n G₁ col f).map (pOf n)) := by
 unfold goneL lawCap
 by_cases h : takenL n G₁ col f = []
 ·rw [if_pos h,if_pos (by rw [h]; rfl)]
  congr 1
  unfold ownL
  refine (List.filter_eq_self.mpr λ j hj => ?_).symm
  have := List.filter_eq_nil_iff.mp h j hj
  simpa using this
 ·rw [if_neg h,if_neg (by simpa using h)]
theorem play_move (F : FSI n G₁ (p :: nb p) L hdl) (S : Set1 n G₁ col opp p) (leg : Legal n G) (hp : G p = none) (e : G₁ = put G p (some col)) (hf : ∀ k < n * n,f k = true ↔ Dead n G₁ k) :
  rm G₁ (ptsOf (capOf opp L)) = rm G₁ ((goneL n G₁ col f).map (pOf n)) /\ koOf col opp L = (koL n G₁ col f).map (pOf n) := by
 have ht := taken_mem S leg hp e hf
 have ho := own_is S leg hp e hf
 refine ⟨rm_congr λ q => by rw [gone_eq S leg hp e hf]; exact cap_eq S F ht ho q,?_⟩
 rw [ko_eq S F ht taken_nd ho]
 unfold koL
 have hl := part_len (deadL n f) λ j => G₁ (pOf n j) == some col
 have hl : (deadL n f).length = (ownL n G₁ col f).length + (takenL n G₁ col f).length := hl
 have hown : (ownL n G₁ col f).length = 1 ↔ (ownL n G₁ col f).map (pOf n) = [p] := by
  constructor
  ·intro h
   rcases ho with ⟨_,q⟩ | ⟨_,g⟩
   ·have : (ownL n G₁ col f).length = 0 := by simpa using congrArg List.length q
    omega
   ·obtain ⟨a,ha⟩ := List.length_eq_one_iff.mp h
    have := g.self
    rw [show (col,(ownL n G₁ col f).map (pOf n)).2 = (ownL n G₁ col f).map (pOf n) from rfl,ha] at this
    rw [ha]
    exact congrArg (λ x => [x]) (List.mem_singleton.mp this).symm
  ·intro h
   simpa using congrArg List.length h
 by_cases hc : ((takenL n G₁ col f).map (pOf n)).length = 1 /\ (ownL n G₁ col f).map (pOf n) = [p]
 ·have h1 : (takenL n G₁ col f).length = 1 := by simpa using hc.1
  rw [if_pos hc,if_pos ⟨h1,by have := hown.mpr hc.2; omega⟩,List.head?_map]
 ·rw [if_neg hc,if_neg λ q => hc ⟨by simpa using q.1,hown.mp (by omega)⟩]; rfl
theorem Legal.move (S : Set1 n G₁ col opp p) (leg : Legal n G) (hp : G p = none) (e : G₁ = put G p (some col)) (hf : ∀ k < n * n,f k = true ↔ Dead n G₁ k) : Legal n (rm G₁ ((goneL n G₁ col f).map (pOf n))) := by
 have ht := taken_mem S leg hp e hf
 have ho := own_is S leg hp e hf
 rw [gone_eq S leg hp e hf]
 generalize (takenL n G₁ col f).map (pOf n) = tk at ht
 generalize (ownL n G₁ col f).map (pOf n) = ow at ho
 have cl : ∀ c x y,Reach n G₁ c x y -> y ∈ lawCap tk ow -> x ∈ lawCap tk ow := λ c x y hr hy => by
  unfold lawCap at hy ⊢
  split
  ·rename_i h
   rw [if_pos h] at hy
   rcases ho with ⟨_,q⟩ | ⟨hs,g⟩
   ·rw [q] at hy; cases hy
   ·have ry := (g.mem y).mp hy
    have : c = col := Option.some.inj (hr.col.symm.trans ry.col)
    subst this
    exact (g.mem x).mpr (ry.trans hr.symm)
  ·rename_i h
   rw [if_neg h] at hy
   obtain ⟨z,hz,hzn,hzc,hs,ry⟩ := (ht y).mp hy
   have : c = opp := Option.some.inj (hr.col.symm.trans ry.col)
   subst this
   exact (ht x).mpr ⟨z,hz,hzn,hzc,hs,ry.trans hr.symm⟩
 intro q c hqn hq hs
 have hqm : q ∉ lawCap tk ow := λ h => by unfold rm at hq; rw [if_pos h] at hq; cases hq
 have hq1 : G₁ q = some c := by unfold rm at hq; rw [if_neg hqm] at hq; exact hq
 have up : ∀ {y},Reach n G₁ c q y -> Reach n (rm G₁ (lawCap tk ow)) c q y := λ h => h.mono λ w hw => by
  unfold rm
  rw [if_neg λ hm => hqm (cl c q w hw hm)]; exact hw.col
 by_cases hs1 : Surr n G₁ c q
 ·have hs1' := hs1
  subst e
  rcases dead_at leg hp S.hp hq1 hqn hs1 with ⟨rfl,hr⟩ | ⟨hc,z,hz,hr⟩
  ·have sp := hs1.of_reach hr.symm
   have hne : tk ≠ [] := λ q0 => by
    apply hqm
    unfold lawCap
    rw [if_pos q0]
    rcases ho with ⟨x,_⟩ | ⟨_,g⟩
    ·exact absurd sp x
    ·exact (g.mem q).mpr hr
   obtain ⟨t,ht0⟩ := List.exists_mem_of_ne_nil _ hne
   obtain ⟨z,hz,hzn,hzc,hsz,rz⟩ := (ht t).mp ht0
   have hzm : z ∈ lawCap tk ow := by
    unfold lawCap
    rw [if_neg hne]
    exact (ht z).mpr ⟨z,hz,hzn,hzc,hsz,.refl hzn hzc⟩
   refine hs p (up hr.symm) ⟨z,hz,hzn,?_⟩
   unfold rm
   rw [if_pos hzm]
  ·apply hqm
   have hco : c = opp := (S.hval q c hq1).resolve_left hc
   subst hco
   have hm : q ∈ tk := (ht q).mpr ⟨z,hz,hr.start.1,hr.start.2,hs1.of_reach hr.symm,hr⟩
   unfold lawCap
   rw [if_neg λ q0 => by rw [q0] at hm; cases hm]
   exact hm
 ·obtain ⟨x,hx,z,hz,hzn,hz0⟩ := not_surr hs1
  refine hs x (up hx) ⟨z,hz,hzn,?_⟩
  unfold rm
  split
  ·rfl
  ·exact hz0
end
end
section
open Classical in
section
variable {n : Nat} {lies : Bool} {line gap : Nat} {stone c : Str} {G : Pt -> Option Str} {h : Bool} {p q x z : Pt}
end
end
section
noncomputable def deadF (n : Nat) (G : Pt -> Option Str) : Nat -> Bool := λ k => @decide (Dead n G k) (Classical.propDecidable _)
theorem deadF_iff {n : Nat} {G : Pt -> Option Str} {k : Nat} : deadF n G k = true ↔ Dead n G k := @decide_eq_true_iff _ (Classical.propDecidable _)
noncomputable def mvG (n : Nat) (G : Pt -> Option Str) (p : Pt) (col : Str) : Pt -> Option Str := rm (put G p (some col)) ((goneL n (put G p (some col)) col (deadF n (put G p (some col)))).map (pOf n))
noncomputable def mvK (n : Nat) (G : Pt -> Option Str) (p : Pt) (col : Str) : Option Nat := koL n (put G p (some col)) col (deadF n (put G p (some col)))
section
variable {n : Nat} {lies : Bool} {line gap : Nat} {stone col opp : Str} {G : Pt -> Option Str} {h : Bool} {p : Pt}
noncomputable def actG (n : Nat) (G : Pt -> Option Str) (p : Pt) (col : Str) : Pt -> Option Str := match G p with
 | none => mvG n G p col
 | some _ => G
noncomputable def actD (n : Nat) (G : Pt -> Option Str) (p : Pt) (col : Str) : Option (Option Nat) := match G p with
 | none => some (mvK n G p col)
 | some _ => none
theorem act_none (e : G p = none) : actG n G p col = mvG n G p col /\ actD n G p col = some (mvK n G p col) := by unfold actG actD; rw [e]; exact ⟨rfl,rfl⟩
theorem act_some {c : Str} (e : G p = some c) : actG n G p col = G /\ actD n G p col = none := by unfold actG actD; rw [e]; exact ⟨rfl,rfl⟩
end
section
variable {n : Nat} {lies : Bool} {line gap : Nat} {stone : Str}
end
end
section
noncomputable def Cols (c o : Str) : Prop := (c = "b" /\ o = "w") \/ (c = "w" /\ o = "b")
theorem Cols.ne {c o : Str} (h : Cols c o) : c ≠ o := by rcases h with ⟨rfl,rfl⟩ | ⟨rfl,rfl⟩ <;> decide +kernel
structure LPos (n : Nat) (G : Pt -> Option Str) : Prop where
 leg : Legal n G
 sup : ∀ z,G z ≠ none -> inG n z
 val : ∀ q s,G q = some s -> s = "b" \/ s = "w"
theorem LPos.strOk {n : Nat} {G : Pt -> Option Str} (P : LPos n G) : ∀ z c,G z = some c -> PyData.strOk c = true := λ z c h => by
 rcases P.val z c h with rfl | rfl <;> decide +kernel
theorem LPos.set1 {n : Nat} {G : Pt -> Option Str} {p : Pt} {col opp : Str} (P : LPos n G) (hp : inG n p) (hco : Cols col opp) : Set1 n (put G p (some col)) col opp p := by
 refine ⟨hp,put_eq,hco.ne,λ q s e => ?_,λ z e => ?_⟩
 ·unfold put at e
  split at e
  ·exact .inl (Option.some.inj e).symm
  ·rcases P.val q s e with rfl | rfl <;> rcases hco with ⟨rfl,rfl⟩ | ⟨rfl,rfl⟩ <;> simp
 ·unfold put at e
  split at e
  ·rename_i q; rw [q]; exact hp
  ·exact P.sup z e
theorem LPos.act {n : Nat} {G : Pt -> Option Str} {p : Pt} {col opp : Str} (P : LPos n G) (hp : inG n p) (hco : Cols col opp) : LPos n (actG n G p col) := by
 cases e : G p with
 | some s => rw [(act_some (n := n) (col := col) e).1]; exact P
 | none =>
  rw [(act_none (n := n) (col := col) e).1]
  have S := P.set1 hp hco
  refine ⟨Legal.move S P.leg e rfl λ k hk => deadF_iff,λ z hz => ?_,λ q s e => ?_⟩
  ·unfold mvG rm at hz
   split at hz
   ·exact absurd rfl hz
   ·exact S.hsup z hz
  ·unfold mvG rm at e
   split at e
   ·cases e
   ·rcases S.hval q s e with rfl | rfl <;> rcases hco with ⟨rfl,rfl⟩ | ⟨rfl,rfl⟩ <;> simp
theorem play_act {n : Nat} {G : Pt -> Option Str} {z : Pt} {col opp : Str} {L : List (Str × List Pt)} {hdl : List Pt} (P : LPos n G) (hp : inG n z) (hco : Cols col opp) (g0 : G z = none) (fs : FSI n (AM.put G z (some col)) (z :: nb z) L hdl) :
  rm (AM.put G z (some col)) (ptsOf (capOf opp L)) = actG n G z col /\ (∃ o,actD n G z col = some o /\ koOf col opp L = o.map (pOf n)) /\ (emOf n L = true ↔ ∀ z',actG n G z col z' = none) := by
 have S := P.set1 hp hco
 obtain ⟨h1,h2⟩ := play_move (f := deadF n (AM.put G z (some col))) fs S P.leg g0 rfl λ k hk => deadF_iff
 have e1 : rm (AM.put G z (some col)) (ptsOf (capOf opp L)) = actG n G z col := by rw [(act_none (n := n) (col := col) g0).1]; exact h1
 refine ⟨e1,⟨_,(act_none (n := n) (col := col) g0).2,h2⟩,?_⟩
 rw [<- e1]; exact em_eq S fs
end
section
noncomputable def inB (n : Nat) (q : Pt) : Bool := (decide (0 <= q.1) && decide (q.1 < n)) && (decide (0 <= q.2) && decide (q.2 < n))
theorem inB_iff {n : Nat} {q : Pt} : inB n q = true ↔ inG n q := by
 unfold inB inG
 simp only [Bool.and_eq_true,decide_eq_true_eq]
noncomputable def nbIn (n : Nat) (z : Pt) : List Pt := (nb z).filter (inB n)
theorem nbIn_fin : ∀ n < 6,∀ k < 25,k < n * n -> nbIn n (pOf n k) = (near n k).map (pOf n) := by decide +kernel
theorem nbIn_eq {n k : Nat} (h : n <= 5) (hk : k < n * n) : nbIn n (pOf n k) = (near n k).map (pOf n) := nbIn_fin n (Nat.lt_succ_of_le h) k (lt25 h hk) hk
theorem mem_nbIn {n : Nat} {z y : Pt} : y ∈ nbIn n z ↔ y ∈ nb z /\ inG n y := by unfold nbIn; rw [List.mem_filter,inB_iff]
noncomputable def freeF (n : Nat) (G : Pt -> Option Str) (z : Pt) : Bool := (nbIn n z).any λ y => (G y).isNone
theorem freeF_iff {n : Nat} {G : Pt -> Option Str} {z : Pt} : freeF n G z = true ↔ Free n G z := by
 unfold freeF Free
 rw [List.any_eq_true]
 constructor
 ·rintro ⟨y,hy,e⟩; obtain ⟨h1,h2⟩ := mem_nbIn.mp hy; exact ⟨y,h1,h2,by simpa using e⟩
 ·rintro ⟨y,h1,h2,e⟩; exact ⟨y,mem_nbIn.mpr ⟨h1,h2⟩,by rw [e]; rfl⟩
theorem spots_of {n : Nat} (L : List Pt) (h : ∀ z ∈ L,inG n z) : ∃ ks : List Nat,L = ks.map (pOf n) /\ ∀ k ∈ ks,k < n * n := by
 induction L with
 | nil => exact ⟨[],rfl,λ _ h => nomatch h⟩
 | cons z L ih =>
  obtain ⟨ks,e,hk⟩ := ih λ y hy => h y (.tail _ hy)
  obtain ⟨k,k1,k2⟩ := pOf_surj (h z (.head _))
  exact ⟨k :: ks,by rw [List.map_cons,k2,e],λ j hj => (List.mem_cons.mp hj).elim (λ q => q ▸ k1) (hk j)⟩
structure SD (n : Nat) (G : Pt -> Option Str) (l : List (Pt × PV)) : Prop where
 is : DictIs l G
 nd : (l.map (·.1)).Nodup
 sup : ∀ z,G z ≠ none -> inG n z
section
variable {n : Nat} {G : Pt -> Option Str} {l : List (Pt × PV)} {e : Pt × PV}
theorem SD.ent (h : SD n G l) (he : e ∈ l) : ∃ c,G e.1 = some c /\ e.2 = .str c := by
 have := lookup_pt h.nd he
 rw [h.is] at this
 obtain ⟨c,h1,h2⟩ := Option.map_eq_some_iff.mp this
 exact ⟨c,h1,h2.symm⟩
theorem lookup_mem {z : Pt} {v : PV} {l : List (Pt × PV)} (h : l.lookup z = some v) : (z,v) ∈ l := by
 induction l with
 | nil => cases h
 | cons e l ih =>
  rw [List.lookup_cons] at h
  by_cases q : z = e.1
  ·rw [beq_iff_eq.mpr q] at h; cases h; rw [q]; exact .head _
  ·rw [beq_eq_false_iff_ne.mpr q] at h; exact .tail _ (ih h)
theorem SD.key (h : SD n G l) {z : Pt} : z ∈ l.map (·.1) ↔ G z ≠ none := by
 rw [List.mem_map]
 constructor
 ·rintro ⟨e,he,rfl⟩; obtain ⟨c,h1,_⟩ := h.ent he; rw [h1]; simp
 ·intro hz
  obtain ⟨c,hc⟩ := Option.ne_none_iff_exists'.mp hz
  have := h.is z
  rw [hc] at this
  exact ⟨_,lookup_mem this,rfl⟩
theorem SD.inG (h : SD n G l) (he : e ∈ l) : inG n e.1 := h.sup _ (h.key.mp (List.mem_map.mpr ⟨e,he,rfl⟩))
theorem SD.len (h : SD n G l) (h5 : n <= 5) : l.length <= 25 := by
 have := nodup_le h.nd (m := grid n) λ z hz => mem_grid.mpr (h.sup z (h.key.mp hz))
 rw [List.length_map,grid_length] at this
 exact Nat.le_trans this (sq_le h5)
theorem nil_SD : SD n (λ _ => none) [] := ⟨λ z => rfl,List.nodup_nil,λ z h => absurd rfl h⟩
theorem dput_new {z : Pt} {v : PV} (h : l.lookup z = none) : dput l z v = l ++ [(z,v)] := by unfold dput; rw [h]; rfl
theorem SD.put {p : Pt} {c : Str} (h : SD n G l) (hp : AM.inG n p) : SD n (AM.put G p (some c)) (dput l p (.str c)) := by
 refine ⟨h.is.put p c,?_,λ z hz => ?_⟩
 ·unfold dput
  split
  ·rw [List.map_map]
   have : ((λ x : Pt × PV => x.1) ∘ λ e : Pt × PV => if e.1 = p then (e.1,PV.str c) else e) = λ x => x.1 := by funext e; dsimp only [Function.comp]; split <;> rfl
   rw [this]; exact h.nd
  ·rename_i q
   rw [List.map_append,List.nodup_append]
   refine ⟨h.nd,by simp,λ a ha b hb w => q ?_⟩
   have hb : b = p := by simpa using hb
   rw [hb] at w; subst w
   rw [h.is]
   obtain ⟨c',hc'⟩ := Option.ne_none_iff_exists'.mp (h.key.mp ha)
   rw [hc']; rfl
 ·unfold AM.put at hz
  split at hz
  ·rename_i q; rw [q]; exact hp
  ·exact h.sup z hz
theorem SD.del (h : SD n G l) (p : Pt) : SD n (AM.put G p none) (ddel l p) := by
 refine ⟨h.is.del p,h.nd.sublist ((List.filter_sublist (l := l)).map _),λ z hz => ?_⟩
 unfold AM.put at hz
 split at hz
 ·exact absurd rfl hz
 ·exact h.sup z hz
noncomputable def keepG (G : Pt -> Option Str) (f : Pt -> Bool) : Pt -> Option Str := λ z => if f z then G z else none
theorem lookup_filter {f : Pt -> Bool} {z : Pt} {l : List (Pt × PV)} : (l.filter λ e => f e.1).lookup z = if f z then l.lookup z else none := by
 induction l with
 | nil => exact (ite_self _).symm
 | cons e l ih =>
  rw [List.filter_cons,List.lookup_cons]
  by_cases q : z = e.1
  ·rw [<- q,beq_self_eq_true]
   cases hf : f z with
   | true => rw [if_pos rfl,if_pos rfl,List.lookup_cons,beq_iff_eq.mpr q]
   | false => rw [hf] at ih; exact ih
  ·rw [beq_eq_false_iff_ne.mpr q]
   cases f e.1 with
   | true => rw [if_pos rfl,List.lookup_cons,beq_eq_false_iff_ne.mpr q]; exact ih
   | false => exact ih
theorem SD.filter (h : SD n G l) (f : Pt -> Bool) : SD n (keepG G f) (l.filter λ e => f e.1) := by
 refine ⟨λ z => ?_,h.nd.sublist ((List.filter_sublist (l := l)).map _),λ z hz => h.sup z λ q => hz ?_⟩
 ·rw [lookup_filter]; unfold keepG
  split
  ·exact h.is z
  ·rfl
 ·unfold keepG; rw [q]; split <;> rfl
theorem filter_take_new {f : Pt -> Bool} {i : Nat} (h : SD n G l) (hi : l[i]? = some e) : ((l.take i).filter λ e => f e.1).lookup e.1 = none := by
 rw [lookup_filter]
 split
 ·cases q : (l.take i).lookup e.1 with
  | none => rfl
  | some v =>
   have hm := lookup_mem q
   have hn := h.nd
   obtain ⟨hlt,he⟩ := List.getElem?_eq_some_iff.mp hi
   rw [<- List.take_append_drop i l,List.drop_eq_getElem_cons hlt,he,List.map_append,List.map_cons] at hn
   exact absurd rfl ((List.nodup_append.mp hn).2.2 e.1 (List.mem_map.mpr ⟨_,hm,rfl⟩) e.1 (.head _))
 ·rfl
end
section
variable {n : Nat} {G : Pt -> Option Str} {p : Pt} {col : Str} {L F : List Pt}
theorem moved_keep (sup : ∀ z,put G p (some col) z ≠ none -> inG n z) (hL : ∀ z,z ∈ L ↔ ∃ k < n * n,pOf n k = z /\ Alive n (put G p (some col)) k)
  (hF : ∀ z,z ∈ F ↔ put G p (some col) z ≠ none /\ put G p (some col) z ≠ some col /\ z ∉ L) :
  keepG (put G p (some col)) (λ z => if F = [] then decide (z ∈ L) else !decide (z ∈ F)) = mvG n G p col := by
 unfold mvG
 generalize hG₁ : put G p (some col) = G₁ at sup hL hF ⊢
 have dead : ∀ z c,G₁ z = some c -> (z ∉ L ↔ ∃ k < n * n,pOf n k = z /\ Dead n G₁ k) := λ z c hc => by
  obtain ⟨k,hk,rfl⟩ := pOf_surj (sup z (by rw [hc]; simp))
  rw [hL]
  constructor
  ·intro h
   exact ⟨k,hk,rfl,(dead_not hc).mp λ a => h ⟨k,hk,rfl,a⟩⟩
  ·rintro ⟨j,hj,e,d⟩ ⟨i,hi,e',a⟩
   cases pOf_inj e; cases pOf_inj e'
   exact (dead_not hc).mpr d a
 have tk : ∀ z,z ∈ (takenL n G₁ col (deadF n G₁)).map (pOf n) ↔ z ∈ F := λ z => by
  rw [hF,List.mem_map]
  constructor
  ·rintro ⟨j,hj,rfl⟩
   obtain ⟨h1,h2⟩ := List.mem_filter.mp hj
   obtain ⟨hjn,hd⟩ := mem_dead.mp h1
   have hd := deadF_iff.mp hd
   obtain ⟨c,hc,-⟩ := id hd
   exact ⟨by rw [hc]; simp,by simpa using h2,(dead _ c hc).mpr ⟨j,hjn,rfl,hd⟩⟩
  ·rintro ⟨h1,h2,h3⟩
   obtain ⟨c,hc⟩ := Option.ne_none_iff_exists'.mp h1
   obtain ⟨k,hk,rfl,hd⟩ := (dead z c hc).mp h3
   exact ⟨k,List.mem_filter.mpr ⟨mem_dead.mpr ⟨hk,deadF_iff.mpr hd⟩,by simpa using h2⟩,rfl⟩
 funext z
 unfold keepG goneL
 by_cases e : F = []
 ·have : takenL n G₁ col (deadF n G₁) = [] := by
   cases h : takenL n G₁ col (deadF n G₁) with
   | nil => rfl
   | cons a l => have := (tk (pOf n a)).mp (by rw [h]; exact .head _); rw [e] at this; cases this
  rw [if_pos this]
  simp only [if_pos e]
  unfold rm
  cases hz : G₁ z with
  | none => split <;> split <;> rfl
  | some c =>
   by_cases hl : z ∈ L
   ·rw [if_pos (by simpa using hl),if_neg]
    intro hm
    obtain ⟨j,hj,e'⟩ := List.mem_map.mp hm
    obtain ⟨hjn,hd⟩ := mem_dead.mp hj
    exact (dead z c hz).mpr ⟨j,hjn,e',deadF_iff.mp hd⟩ hl
   ·rw [if_neg (by simpa using hl),if_pos]
    obtain ⟨k,hk,e',hd⟩ := (dead z c hz).mp hl
    exact List.mem_map.mpr ⟨k,mem_dead.mpr ⟨hk,deadF_iff.mpr hd⟩,e'⟩
 ·have : takenL n G₁ col (deadF n G₁) ≠ [] := λ h => by
   obtain ⟨a,ha⟩ := List.exists_mem_of_ne_nil _ e
   have := (tk a).mpr ha
   rw [h] at this; cases this
  rw [if_neg this]
  simp only [if_neg e]
  unfold rm
  by_cases hm : z ∈ F
  ·rw [if_neg (by simpa using hm),if_pos ((tk z).mpr hm)]
  ·rw [if_pos (by simpa using hm),if_neg λ h => hm ((tk z).mp h)]
end
end
section
/-! what brings back the position ahead of a move -/
section
variable {n : Nat} {G : Pt -> Option Str} {mine foe : Str}
noncomputable def TK (n : Nat) (G : Pt -> Option Str) (c : Str) : List Nat := takenL n G c (deadF n G)
noncomputable def DL (n : Nat) (G : Pt -> Option Str) : List Nat := deadL n (deadF n G)
theorem mem_TK {G : Pt -> Option Str} {c : Str} {j : Nat} : j ∈ TK n G c ↔ (j < n * n /\ Dead n G j) /\ G (pOf n j) ≠ some c := by
 unfold TK takenL
 rw [List.mem_filter,mem_dead,deadF_iff]
 refine and_congr Iff.rfl ?_
 simp
theorem TK_nd {c : Str} : (TK n G c).Nodup := dead_nd.filter _
theorem two_cols (hne : mine ≠ foe) (hv : ∀ z s,G z = some s -> s = mine \/ s = foe) : (DL n G).length = (TK n G mine).length + (TK n G foe).length := by
 unfold DL TK takenL
 have h := part_len (deadL n (deadF n G)) λ j => G (pOf n j) == some mine
 have e : (deadL n (deadF n G)).filter (λ j => !(G (pOf n j) == some foe)) = (deadL n (deadF n G)).filter λ j => G (pOf n j) == some mine := by
  refine List.filter_congr λ j hj => ?_
  obtain ⟨c,hc,-⟩ := deadF_iff.mp (mem_dead.mp hj).2
  rw [hc]
  rcases hv _ _ hc with rfl | rfl
  ·have : (some c == some foe) = false := by simpa using hne
   rw [this]; simp
  ·have : (some c == some mine) = false := by simpa using hne.symm
   rw [this]; simp
 rw [e]; omega
theorem gone_of {c : Str} (h : TK n G c ≠ []) : goneL n G c (deadF n G) = TK n G c := if_neg h
theorem gone_nil {c : Str} (h : TK n G c = []) : goneL n G c (deadF n G) = DL n G := if_pos h
theorem ko_of {c : Str} : koL n G c (deadF n G) = if (TK n G c).length = 1 /\ (DL n G).length = 2 then (TK n G c).head? else none := rfl
theorem one_eq {l : List Nat} {a : Nat} (hn : l.Nodup) (ha : a ∈ l) (h : ∀ b ∈ l,b = a) : l = [a] := by
 cases l with
 | nil => cases ha
 | cons b l =>
  cases h b (.head _)
  cases l with
  | nil => rfl
  | cons c l =>
   cases h c (.tail _ (.head _))
   exact absurd (List.Mem.head _) (List.nodup_cons.mp hn).1
variable {kp : Nat}
theorem back_of (P : LPos n G) (hco : Cols mine foe) (hk : kp < n * n) (g0 : G (pOf n kp) = none) {j : Nat} (h : mvK n G (pOf n kp) mine = some j) :
  j < n * n /\ mvG n G (pOf n kp) mine (pOf n j) = none /\ mvG n (mvG n G (pOf n kp) mine) (pOf n j) foe = G /\ mvK n (mvG n G (pOf n kp) mine) (pOf n j) foe = some kp := by
 have S := P.set1 (pOf_in hk) hco
 have hown := own_is (f := deadF n (put G (pOf n kp) (some mine))) S P.leg g0 rfl λ k hk => deadF_iff
 unfold mvK at h
 rw [ko_of] at h
 unfold mvG
 generalize hG₁ : put G (pOf n kp) (some mine) = G₁ at S h hown ⊢
 by_cases hc : (TK n G₁ mine).length = 1 /\ (DL n G₁).length = 2
 ·rw [if_pos hc] at h
  obtain ⟨h1,h2⟩ := hc
  obtain ⟨a,ha⟩ := List.length_eq_one_iff.mp h1
  have hja : a = j := by rw [ha] at h; exact Option.some.inj h
  subst hja
  have hj := mem_TK.mp (show a ∈ TK n G₁ mine by rw [ha]; exact .head _)
  have tl := two_cols (n := n) hco.ne S.hval
  obtain ⟨b,hb⟩ := List.length_eq_one_iff.mp (show (TK n G₁ foe).length = 1 by omega)
  have hjf : G₁ (pOf n a) = some foe := by
   obtain ⟨c,hcc,-⟩ := hj.1.2
   rcases S.hval _ _ hcc with rfl | rfl
   ·exact absurd hcc hj.2
   ·exact hcc
  have e1 : rm G₁ ((goneL n G₁ mine (deadF n G₁)).map (pOf n)) = rm G₁ [pOf n a] := by rw [gone_of (by rw [ha]; simp),ha]; rfl
  have e2 : put (rm G₁ [pOf n a]) (pOf n a) (some foe) = G₁ := by
   funext z
   unfold put rm
   by_cases q : z = pOf n a
   ·rw [if_pos q,q,hjf]
   ·rw [if_neg q,if_neg (by simpa using q)]
  rw [e1,e2]
  have hbk : b = kp := by
   have hbm := mem_TK.mp (show b ∈ TK n G₁ foe by rw [hb]; exact .head _)
   have hbc : G₁ (pOf n b) = some mine := by
    obtain ⟨c,hcc,-⟩ := hbm.1.2
    rcases S.hval _ _ hcc with rfl | rfl
    ·exact hcc
    ·exact absurd hcc hbm.2
   have hbo : b ∈ ownL n G₁ mine (deadF n G₁) := List.mem_filter.mpr ⟨mem_dead.mpr ⟨hbm.1.1,deadF_iff.mpr hbm.1.2⟩,by rw [hbc]; simp⟩
   rcases hown with ⟨-,q⟩ | ⟨-,g⟩
   ·have := List.mem_map.mpr ⟨b,hbo,(rfl : pOf n b = pOf n b)⟩
    rw [q] at this; cases this
   ·obtain ⟨k',hk',ek⟩ := List.mem_map.mp g.self
    obtain ⟨m1,m2⟩ := List.mem_filter.mp hk'
    obtain ⟨m3,m4⟩ := mem_dead.mp m1
    have : k' ∈ TK n G₁ foe := mem_TK.mpr ⟨⟨m3,deadF_iff.mp m4⟩,λ q => hco.ne (by rw [q] at m2; simpa using Eq.symm (show foe = mine by simpa using m2))⟩
    rw [hb] at this
    rw [<- List.mem_singleton.mp this]; exact pOf_inj ek
  subst hbk
  refine ⟨hj.1.1,by unfold rm; rw [if_pos (.head _)],?_,?_⟩
  ·rw [gone_of (by rw [hb]; simp),hb]
   funext z
   unfold rm
   by_cases q : z = pOf n b
   ·rw [if_pos (by rw [q]; exact .head _),q,g0]
   ·rw [if_neg (by simpa using q),<- hG₁,put_ne q]
  ·unfold mvK
   rw [e2,ko_of,hb,h2]; rfl
 ·rw [if_neg hc] at h; cases h
theorem back_to (P : LPos n G) (hco : Cols mine foe) (hk : kp < n * n) (g0 : G (pOf n kp) = none) (hp : mvG n G (pOf n kp) mine (pOf n kp) ≠ none) {j : Nat} (hj : j < n * n) (j0 : mvG n G (pOf n kp) mine (pOf n j) = none)
  (h : mvG n (mvG n G (pOf n kp) mine) (pOf n j) foe = G) : mvK n G (pOf n kp) mine = some j := by
 have S := P.set1 (pOf_in hk) hco
 have hne := hco.ne
 unfold mvG at h hp j0
 unfold mvK
 rw [ko_of]
 generalize hG₁ : put G (pOf n kp) (some mine) = G₁ at S h hp j0 ⊢
 generalize hA : rm G₁ ((goneL n G₁ mine (deadF n G₁)).map (pOf n)) = A at h hp j0
 have hkj : pOf n kp ≠ pOf n j := λ q => hp (q ▸ j0)
 have hp1 : A (pOf n kp) = some mine := by
  have : A (pOf n kp) = G₁ (pOf n kp) := by
   rw [<- hA] at hp ⊢
   unfold rm at hp ⊢
   split
   ·rename_i q; rw [if_pos q] at hp; exact absurd rfl hp
   ·rfl
  rw [this,<- hG₁,put_eq]
 have A1 : ∀ z,A z ≠ none -> A z = G₁ z := λ z hz => by
  rw [<- hA] at hz ⊢
  unfold rm at hz ⊢
  split
  ·rename_i q; rw [if_pos q] at hz; exact absurd rfl hz
  ·rfl
 generalize hG₂ : put A (pOf n j) (some foe) = G₂ at h
 have g2p : G₂ (pOf n kp) = some mine := by rw [<- hG₂,put_ne hkj]; exact hp1
 have gone2 : goneL n G₂ foe (deadF n G₂) = TK n G₂ foe := by
  by_cases q : TK n G₂ foe = []
  ·exfalso
   have hz := congrFun h (pOf n kp)
   rw [g0] at hz
   unfold rm at hz
   split at hz
   ·rename_i w
    obtain ⟨i,hi,ei⟩ := List.mem_map.mp w
    rw [gone_nil q] at hi
    obtain ⟨i1,i2⟩ := mem_dead.mp hi
    have : i ∈ TK n G₂ foe := mem_TK.mpr ⟨⟨i1,deadF_iff.mp i2⟩,by rw [ei,g2p]; intro w; cases w; exact hne rfl⟩
    rw [q] at this; cases this
   ·rw [g2p] at hz; cases hz
  ·exact gone_of q
 rw [gone2] at h
 have gj : G (pOf n j) = some foe := by
  rw [<- h]
  unfold rm
  rw [if_neg]
  ·rw [<- hG₂,put_eq]
  ·intro w
   obtain ⟨i,hi,ei⟩ := List.mem_map.mp w
   have := (mem_TK.mp hi).2
   rw [ei,<- hG₂,put_eq] at this
   exact this rfl
 have g1j : G₁ (pOf n j) = some foe := by rw [<- hG₁,put_ne hkj.symm]; exact gj
 have inT : j ∈ goneL n G₁ mine (deadF n G₁) := by
  have := j0
  rw [<- hA] at this
  unfold rm at this
  split at this
  ·rename_i w
   obtain ⟨i,hi,ei⟩ := List.mem_map.mp w
   rw [<- pOf_inj ei]; exact hi
  ·rw [g1j] at this; cases this
 have gone1 : goneL n G₁ mine (deadF n G₁) = TK n G₁ mine := by
  by_cases q : TK n G₁ mine = []
  ·exfalso
   rw [gone_nil q] at inT
   obtain ⟨i1,i2⟩ := mem_dead.mp inT
   have : j ∈ TK n G₁ mine := mem_TK.mpr ⟨⟨i1,deadF_iff.mp i2⟩,by rw [g1j]; intro w; cases w; exact hne rfl⟩
   rw [q] at this; cases this
  ·exact gone_of q
 rw [gone1] at inT hA
 have only : ∀ i ∈ TK n G₁ mine,i = j := λ i hi => by
  refine Classical.byContradiction λ hij => ?_
  have hni : pOf n i ≠ pOf n j := λ q => hij (pOf_inj q)
  obtain ⟨⟨i1,c,hc,-⟩,i3⟩ := mem_TK.mp hi
  have hip : pOf n i ≠ pOf n kp := λ q => i3 (by rw [q,<- hG₁,put_eq])
  have gi : G (pOf n i) = some c := by rw [<- hc,<- hG₁,put_ne hip]
  have a0 : A (pOf n i) = none := by rw [<- hA]; unfold rm; rw [if_pos (List.mem_map.mpr ⟨i,hi,rfl⟩)]
  have := congrFun h (pOf n i)
  rw [gi] at this
  unfold rm at this
  split at this
  ·cases this
  ·rw [<- hG₂,put_ne hni,a0] at this; cases this
 have t1 : TK n G₁ mine = [j] := one_eq TK_nd inT only
 have e2 : G₂ = G₁ := by
  rw [<- hG₂,<- hA,t1]
  funext z
  unfold put rm
  by_cases q : z = pOf n j
  ·rw [if_pos q,q,g1j]
  ·rw [if_neg q,if_neg (by simpa using q)]
 rw [e2] at h
 have kin : kp ∈ TK n G₁ foe := by
  have hz := congrFun h (pOf n kp)
  rw [g0] at hz
  unfold rm at hz
  split at hz
  ·rename_i w
   obtain ⟨i,hi,ei⟩ := List.mem_map.mp w
   rw [<- pOf_inj ei]; exact hi
  ·rw [<- e2,g2p] at hz; cases hz
 have only2 : ∀ i ∈ TK n G₁ foe,i = kp := λ i hi => by
  refine Classical.byContradiction λ hik => ?_
  have hni : pOf n i ≠ pOf n kp := λ q => hik (pOf_inj q)
  obtain ⟨⟨i1,c,hc,-⟩,i3⟩ := mem_TK.mp hi
  have gi : G (pOf n i) = some c := by rw [<- hc,<- hG₁,put_ne hni]
  have := congrFun h (pOf n i)
  unfold rm at this
  rw [if_pos (List.mem_map.mpr ⟨i,hi,rfl⟩),gi] at this; cases this
 have t2 : TK n G₁ foe = [kp] := one_eq TK_nd kin only2
 have tl := two_cols (n := n) hne S.hval
 rw [t1,t2] at tl
 rw [t1,tl]; rfl
theorem self_none (P : LPos n G) (hco : Cols mine foe) (hk : kp < n * n) (h : mvG n G (pOf n kp) mine (pOf n kp) = none) : mvK n G (pOf n kp) mine = none := by
 unfold mvG at h
 unfold mvK
 rw [ko_of]
 generalize hG₁ : put G (pOf n kp) (some mine) = G₁ at h ⊢
 by_cases q : TK n G₁ mine = []
 ·rw [q]; rfl
 ·rw [gone_of q] at h
  unfold rm at h
  split at h
  ·rename_i w
   obtain ⟨i,hi,ei⟩ := List.mem_map.mp w
   have := (mem_TK.mp hi).2
   rw [ei,<- hG₁,put_eq] at this
   exact absurd rfl this
  ·rw [<- hG₁,put_eq] at h; cases h
end
end
section
/-! a setup: all groups without a free point go -/
section
variable {n : Nat} {S : Pt -> Option Str} {L : List (Str × List Pt)} {hdl : List Pt}
theorem set_mem (fs : FSI n S (grid n) L hdl) {z : Pt} : z ∈ ptsOf L ↔ inG n z /\ ∃ c,S z = some c /\ Surr n S c z := by
 rw [mem_ptsOf]
 constructor
 ·rintro ⟨A,hA,hz⟩
  obtain ⟨y,-,g,hs⟩ := fs.grp A hA
  have hr := (g.mem z).mp hz
  exact ⟨hr.inG,A.1,hr.col,hs.of_reach hr⟩
 ·rintro ⟨hg,c,hc,hs⟩
  obtain ⟨P,hP,hz⟩ := fs.all z (mem_grid.mpr hg) hg c hc hs
  exact ⟨_,hP,hz⟩
theorem set_nil (fs : FSI n S (grid n) L hdl) (h : ∀ z,z ∉ ptsOf L) : L = [] := by
 cases L with
 | nil => rfl
 | cons A L =>
  obtain ⟨y,-,g,-⟩ := fs.grp A (.head _)
  exact absurd (mem_ptsOf.mpr ⟨A,.head _,g.self⟩) (h y)
theorem set_pos (fs : FSI n S (grid n) L hdl) (sup : ∀ z,S z ≠ none -> inG n z) (val : ∀ q s,S q = some s -> s = "b" \/ s = "w") : LPos n (rm S (ptsOf L)) := by
 have sub : ∀ {z c},rm S (ptsOf L) z = some c -> S z = some c /\ z ∉ ptsOf L := λ {z c} h => by
  unfold rm at h
  split at h
  ·cases h
  ·rename_i q; exact ⟨h,q⟩
 refine ⟨λ q c hq hc => ?_,λ z hz => ?_,λ q s h => val q s (sub h).1⟩
 ·obtain ⟨h1,h2⟩ := sub hc
  have hn : ¬ Surr n S c q := λ hs => h2 ((set_mem fs).mpr ⟨hq,c,h1,hs⟩)
  obtain ⟨x,hx,y,hy,hyn,hy0⟩ := not_surr hn
  refine λ hs => hs x (hx.mono λ z hz => ?_) ⟨y,hy,hyn,?_⟩
  ·unfold rm
   rw [if_neg]
   ·exact hz.col
   ·intro hm
    obtain ⟨-,c',hc',hs'⟩ := (set_mem fs).mp hm
    rw [hz.col] at hc'; cases hc'
    exact hn (hs'.of_reach hz.symm)
  ·unfold rm; rw [hy0]; split <;> rfl
 ·obtain ⟨c,hc⟩ := Option.ne_none_iff_exists'.mp hz
  exact sup z (by rw [(sub hc).1]; simp)
variable {Lv : List Pt}
theorem set_keep (fs : FSI n S (grid n) L hdl) (sup : ∀ z,S z ≠ none -> inG n z) (hL : ∀ z,z ∈ Lv ↔ ∃ k < n * n,pOf n k = z /\ Alive n S k) : keepG S (λ z => decide (z ∈ Lv)) = rm S (ptsOf L) := by
 funext z
 unfold keepG rm
 cases hz : S z with
 | none => split <;> split <;> rfl
 | some c =>
  have hg := sup z (by rw [hz]; simp)
  obtain ⟨k,hk,rfl⟩ := pOf_surj hg
  by_cases hm : pOf n k ∈ Lv
  ·rw [if_pos (by simpa using hm),if_neg]
   intro h
   obtain ⟨-,c',hc',hs⟩ := (set_mem fs).mp h
   obtain ⟨j,hj,e,a⟩ := (hL _).mp hm
   cases pOf_inj e
   exact (dead_not hc').mpr ⟨c',hc',hs⟩ a
  ·rw [if_neg (by simpa using hm),if_pos]
   refine (set_mem fs).mpr ⟨hg,c,hz,?_⟩
   obtain ⟨c',hc',hs⟩ := (dead_not hz).mp λ a => hm ((hL _).mpr ⟨k,hk,rfl,a⟩)
   rw [hz] at hc'; cases hc'; exact hs
theorem set_legal {l : List (Pt × PV)} (D : SD n S l) (fs : FSI n S (grid n) L hdl) (hn : Lv.Nodup) (hL : ∀ z,z ∈ Lv ↔ ∃ k < n * n,pOf n k = z /\ Alive n S k) : L.isEmpty = true ↔ Lv.length = l.length := by
 have sub : ∀ z ∈ Lv,z ∈ l.map (·.1) := λ z hz => by
  obtain ⟨k,hk,rfl,c,hc,-⟩ := (hL z).mp hz
  exact D.key.mpr (by rw [hc]; simp)
 have le := nodup_le hn sub
 rw [List.length_map] at le
 constructor
 ·intro h
  have e : L = [] := by simpa using h
  subst e
  have := nodup_le (m := Lv) D.nd λ z hz => ?_
  ·rw [List.length_map] at this; omega
  ·have hz0 := D.key.mp hz
   obtain ⟨c,hc⟩ := Option.ne_none_iff_exists'.mp hz0
   obtain ⟨k,hk,rfl⟩ := pOf_surj (D.sup z hz0)
   refine (hL _).mpr ⟨k,hk,rfl,Classical.byContradiction λ na => ?_⟩
   obtain ⟨c',hc',hs⟩ := (dead_not hc).mp na
   have := (set_mem fs).mpr ⟨pOf_in hk,c',hc',hs⟩
   simp [ptsOf] at this
 ·intro h
  have : L = [] := set_nil fs λ z hz => by
   obtain ⟨hg,c,hc,hs⟩ := (set_mem fs).mp hz
   have hm : z ∈ l.map (·.1) := D.key.mpr (by rw [hc]; simp)
   have hnl : z ∉ Lv := λ q => by
    obtain ⟨k,hk,rfl,a⟩ := (hL z).mp q
    exact (dead_not hc).mpr ⟨c,hc,hs⟩ a
   have := nodup_le (l := z :: Lv) (m := l.map (·.1)) (List.nodup_cons.mpr ⟨hnl,hn⟩) λ y hy => (List.mem_cons.mp hy).elim (λ q => q ▸ hm) (sub y)
   rw [List.length_map,List.length_cons] at this
   omega
  rw [this]; rfl
end
end
section
noncomputable def tops : List Stmt := PySem.Challenge.rw_md0058_06.row.toRowW.prog.main.body
noncomputable def topAt (i : Nat) : Stmt := (tops[i]?).getD (.Pass ⟨0,0,0,0⟩)
noncomputable def inCls (i j : Nat) : Stmt := match topAt i with
 | .ClassDef _ _ _ b _ _ _ _ _ _ _ => (b[j]?).getD (.Pass ⟨0,0,0,0⟩)
 | _ => .Pass ⟨0,0,0,0⟩
noncomputable def fnBody (st : Stmt) : List Stmt := match st with
 | .FunctionDef _ _ b _ _ _ _ _ _ _ => b
 | _ => []
noncomputable def fnData (st : Stmt) (q m : String) (t c : Nat) : FuncData := match st with
 | .FunctionDef n ps b _ _ _ sc _ _ _ => { name := n,qualname := Str.ofString q,params := ps,body := .stmts b,scope := sc,globals := 3,closure := [],defaults := .none,kwdefaults := .none,pyModule := .str (Str.ofString m) t,code := .ref c }
 | _ => default
noncomputable def fnObj (st : Stmt) (q m : String) (t c : Nat) : Obj := { cls := .type "function",data := .func (fnData st q m t c) }
noncomputable abbrev s (x : String) : Str := Str.ofString x
noncomputable abbrev kh (P : Params) (x : Str) : Int := PyData.keyHash P x
noncomputable def heapK : Params -> Frag := λ P => [(2,{ cls := Value.none,data := Data.dict #[] }),
 (3,{ cls := Value.type "dict",data := Data.dict #[{ hash := kh P (s "__name__"),key := Value.str (s "__name__") 165,val := Value.str (s "law_md0058_06") 382 },{ hash := kh P (s "__doc__"),key := Value.str (s "__doc__") 166,val := Value.none },{ hash := kh P (s "__package__"),key := Value.str (s "__package__") 167,val := Value.none },{ hash := kh P (s "__loader__"),key := Value.str (s "__loader__") 168,val := Value.builtin "__main__.__loader__#opaque" },{ hash := kh P (s "__spec__"),key := Value.str (s "__spec__") 169,val := Value.none },{ hash := kh P (s "__annotations__"),key := Value.str (s "__annotations__") 170,val := Value.ref 6 },{ hash := kh P (s "__builtins__"),key := Value.str (s "__builtins__") 171,val := Value.ref 4 },{ hash := kh P (s "__file__"),key := Value.str (s "__file__") 173,val := Value.str (s "/claim/cut.py") 172 },{ hash := kh P (s "__cached__"),key := Value.str (s "__cached__") 174,val := Value.none },{ hash := kh P (s "_wall"),key := Value.str (s "_wall") 193,val := Value.ref 21 },{ hash := kh P (s "_opponents"),key := Value.str (s "_opponents") 202,val := Value.ref 22 },{ hash := kh P (s "opponent_of"),key := Value.str (s "opponent_of") 209,val := Value.ref 29 },{ hash := kh P (s "_Group"),key := Value.str (s "_Group") 231,val := Value.ref 39 },{ hash := kh P (s "Board"),key := Value.str (s "Board") 381,val := Value.ref 131 },{ hash := kh P (s "_law_near"),key := Value.str (s "_law_near") 389,val := Value.ref 140 },{ hash := kh P (s "_law_breathing"),key := Value.str (s "_law_breathing") 395,val := Value.ref 145 },{ hash := kh P (s "_law_only"),key := Value.str (s "_law_only") 405,val := Value.ref 152 },{ hash := kh P (s "_law_moved"),key := Value.str (s "_law_moved") 411,val := Value.ref 157 },{ hash := kh P (s "_law_rows"),key := Value.str (s "_law_rows") 417,val := Value.ref 162 },{ hash := kh P (s "law"),key := Value.str (s "law") 423,val := Value.ref 167 }] 20 }),
 (20,{ cls := Value.type "code",data := Data.fields #[Value.str (s "_wall") 187,Value.str (s "_wall") 188,Value.str (s "/claim/cut.py") 189,Value.int 1 0,Value.int 1 0,Value.int 0 0,Value.int 0 0,Value.int 3 0,Value.ref 15,Value.bool true,Value.int 181 0,Value.ref 16,Value.none,Value.ref 17,Value.ref 18,Value.ref 19,Value.int 191 0,Value.int 1 0,Value.str (s "/claim/cut.py") 192] }),
 (21,fnObj (topAt 0) "_wall" "__main__" 164 20),
 (22,{ cls := Value.type "dict",data := Data.dict #[{ hash := kh P (s "b"),key := Value.str (s "b") 196,val := Value.str (s "w") 197 },{ hash := kh P (s "w"),key := Value.str (s "w") 198,val := Value.str (s "b") 199 }] 2 }),
 (28,{ cls := Value.type "code",data := Data.fields #[Value.str (s "opponent_of") 203,Value.str (s "opponent_of") 204,Value.str (s "/claim/cut.py") 205,Value.int 6 0,Value.int 1 0,Value.int 0 0,Value.int 0 0,Value.int 3 0,Value.ref 23,Value.bool true,Value.int 181 0,Value.ref 24,Value.none,Value.ref 25,Value.ref 26,Value.ref 27,Value.int 207 0,Value.int 6 0,Value.str (s "/claim/cut.py") 208] }),
 (29,fnObj (topAt 3) "opponent_of" "sgfmill.common" 194 28),
 (38,{ cls := Value.type "dict",data := Data.dict #[{ hash := kh P (s "__module__"),key := Value.str (s "__module__") 219,val := Value.str (s "sgfmill.boards") 210 },{ hash := kh P (s "__firstlineno__"),key := Value.str (s "__firstlineno__") 223,val := Value.int 12 222 },{ hash := kh P (s "__static_attributes__"),key := Value.str (s "__static_attributes__") 224,val := Value.ref 37 },{ hash := kh P (s "__dict__"),key := Value.str (s "__dict__") 226,val := Value.ref 40 },{ hash := kh P (s "__weakref__"),key := Value.str (s "__weakref__") 228,val := Value.ref 41 },{ hash := kh P (s "__doc__"),key := Value.str (s "__doc__") 229,val := Value.none }] 4 }),
 (39,{ cls := Value.type "type",data := Data.cls { name := s "_Group",bases := [Value.type "object"],mro := [Value.ref 39,Value.type "object"],ns := 38,qualname := s "_Group" },slots := #[none,none,some (Value.str (s "_Group") 212),some (Value.str (s "_Group") 220),some (Value.builtin "object.__new__"),some (Value.bool true)] }),
 (54,{ cls := Value.type "code",data := Data.fields #[Value.str (s "__init__") 244,Value.str (s "Board.__init__") 245,Value.str (s "/claim/cut.py") 246,Value.int 16 0,Value.int 2 0,Value.int 0 0,Value.int 0 0,Value.int 3 0,Value.ref 51,Value.bool true,Value.int 181 0,Value.ref 52,Value.none,Value.none,Value.none,Value.ref 53,Value.int 247 0,Value.int 16 0,Value.str (s "/claim/cut.py") 248] }),
 (55,fnObj (inCls 6 0) "Board.__init__" "sgfmill.boards" 210 54),
 (59,{ cls := Value.type "code",data := Data.fields #[Value.str (s "copy") 250,Value.str (s "Board.copy") 251,Value.str (s "/claim/cut.py") 252,Value.int 26 0,Value.int 1 0,Value.int 0 0,Value.int 0 0,Value.int 3 0,Value.ref 56,Value.bool true,Value.int 181 0,Value.ref 57,Value.none,Value.none,Value.none,Value.ref 58,Value.int 253 0,Value.int 26 0,Value.str (s "/claim/cut.py") 254] }),
 (60,fnObj (inCls 6 1) "Board.copy" "sgfmill.boards" 210 59),
 (66,{ cls := Value.type "code",data := Data.fields #[Value.str (s "_make_group") 256,Value.str (s "Board._make_group") 257,Value.str (s "/claim/cut.py") 258,Value.int 32 0,Value.int 4 0,Value.int 0 0,Value.int 0 0,Value.int 3 0,Value.ref 61,Value.bool true,Value.int 181 0,Value.ref 62,Value.none,Value.ref 63,Value.ref 64,Value.ref 65,Value.int 274 0,Value.int 32 0,Value.str (s "/claim/cut.py") 275] }),
 (67,fnObj (inCls 6 2) "Board._make_group" "sgfmill.boards" 210 66),
 (73,{ cls := Value.type "code",data := Data.fields #[Value.str (s "_make_empty_region") 277,Value.str (s "Board._make_empty_region") 278,Value.str (s "/claim/cut.py") 279,Value.int 57 0,Value.int 3 0,Value.int 0 0,Value.int 0 0,Value.int 3 0,Value.ref 68,Value.bool true,Value.int 181 0,Value.ref 69,Value.none,Value.ref 70,Value.ref 71,Value.ref 72,Value.int 283 0,Value.int 57 0,Value.str (s "/claim/cut.py") 284] }),
 (74,fnObj (inCls 6 3) "Board._make_empty_region" "sgfmill.boards" 210 73),
 (80,{ cls := Value.type "code",data := Data.fields #[Value.str (s "_find_surrounded_groups") 286,Value.str (s "Board._find_surrounded_groups") 287,Value.str (s "/claim/cut.py") 288,Value.int 60 0,Value.int 3 0,Value.int 0 0,Value.int 0 0,Value.int 3 0,Value.ref 75,Value.bool true,Value.int 181 0,Value.ref 76,Value.none,Value.ref 77,Value.ref 78,Value.ref 79,Value.int 299 0,Value.int 60 0,Value.str (s "/claim/cut.py") 300] }),
 (81,fnObj (inCls 6 4) "Board._find_surrounded_groups" "sgfmill.boards" 210 80),
 (87,{ cls := Value.type "code",data := Data.fields #[Value.str (s "_find_all_surrounded_groups") 302,Value.str (s "Board._find_all_surrounded_groups") 303,Value.str (s "/claim/cut.py") 304,Value.int 78 0,Value.int 1 0,Value.int 0 0,Value.int 0 0,Value.int 3 0,Value.ref 82,Value.bool true,Value.int 181 0,Value.ref 83,Value.none,Value.ref 84,Value.ref 85,Value.ref 86,Value.int 313 0,Value.int 78 0,Value.str (s "/claim/cut.py") 314] }),
 (88,fnObj (inCls 6 5) "Board._find_all_surrounded_groups" "sgfmill.boards" 210 87),
 (94,{ cls := Value.type "code",data := Data.fields #[Value.str (s "is_empty") 316,Value.str (s "Board.is_empty") 317,Value.str (s "/claim/cut.py") 318,Value.int 94 0,Value.int 1 0,Value.int 0 0,Value.int 0 0,Value.int 3 0,Value.ref 89,Value.bool true,Value.int 181 0,Value.ref 90,Value.none,Value.ref 91,Value.ref 92,Value.ref 93,Value.int 320 0,Value.int 94 0,Value.str (s "/claim/cut.py") 321] }),
 (95,fnObj (inCls 6 6) "Board.is_empty" "sgfmill.boards" 210 94),
 (101,{ cls := Value.type "code",data := Data.fields #[Value.str (s "get") 323,Value.str (s "Board.get") 324,Value.str (s "/claim/cut.py") 325,Value.int 97 0,Value.int 3 0,Value.int 0 0,Value.int 0 0,Value.int 3 0,Value.ref 96,Value.bool true,Value.int 181 0,Value.ref 97,Value.none,Value.ref 98,Value.ref 99,Value.ref 100,Value.int 329 0,Value.int 97 0,Value.str (s "/claim/cut.py") 330] }),
 (102,fnObj (inCls 6 7) "Board.get" "sgfmill.boards" 210 101),
 (106,{ cls := Value.type "code",data := Data.fields #[Value.str (s "play") 332,Value.str (s "Board.play") 333,Value.str (s "/claim/cut.py") 334,Value.int 102 0,Value.int 4 0,Value.int 0 0,Value.int 0 0,Value.int 3 0,Value.ref 103,Value.bool true,Value.int 181 0,Value.ref 104,Value.none,Value.none,Value.none,Value.ref 105,Value.int 335 0,Value.int 102 0,Value.str (s "/claim/cut.py") 336] }),
 (107,fnObj (inCls 6 8) "Board.play" "sgfmill.boards" 210 106),
 (113,{ cls := Value.type "code",data := Data.fields #[Value.str (s "apply_setup") 338,Value.str (s "Board.apply_setup") 339,Value.str (s "/claim/cut.py") 340,Value.int 128 0,Value.int 4 0,Value.int 0 0,Value.int 0 0,Value.int 3 0,Value.ref 108,Value.bool true,Value.int 181 0,Value.ref 109,Value.none,Value.ref 110,Value.ref 111,Value.ref 112,Value.int 349 0,Value.int 128 0,Value.str (s "/claim/cut.py") 350] }),
 (114,fnObj (inCls 6 9) "Board.apply_setup" "sgfmill.boards" 210 113),
 (120,{ cls := Value.type "code",data := Data.fields #[Value.str (s "list_occupied_points") 352,Value.str (s "Board.list_occupied_points") 353,Value.str (s "/claim/cut.py") 354,Value.int 149 0,Value.int 1 0,Value.int 0 0,Value.int 0 0,Value.int 3 0,Value.ref 115,Value.bool true,Value.int 181 0,Value.ref 116,Value.none,Value.ref 117,Value.ref 118,Value.ref 119,Value.int 360 0,Value.int 149 0,Value.str (s "/claim/cut.py") 361] }),
 (121,fnObj (inCls 6 10) "Board.list_occupied_points" "sgfmill.boards" 210 120),
 (127,{ cls := Value.type "code",data := Data.fields #[Value.str (s "area_score") 363,Value.str (s "Board.area_score") 364,Value.str (s "/claim/cut.py") 365,Value.int 157 0,Value.int 1 0,Value.int 0 0,Value.int 0 0,Value.int 3 0,Value.ref 122,Value.bool true,Value.int 181 0,Value.ref 123,Value.none,Value.ref 124,Value.ref 125,Value.ref 126,Value.int 367 0,Value.int 157 0,Value.str (s "/claim/cut.py") 368] }),
 (128,fnObj (inCls 6 11) "Board.area_score" "sgfmill.boards" 210 127),
 (130,{ cls := Value.type "dict",data := Data.dict #[{ hash := kh P (s "__module__"),key := Value.str (s "__module__") 239,val := Value.str (s "sgfmill.boards") 210 },{ hash := kh P (s "__firstlineno__"),key := Value.str (s "__firstlineno__") 243,val := Value.int 14 242 },{ hash := kh P (s "__init__"),key := Value.str (s "__init__") 249,val := Value.ref 55 },{ hash := kh P (s "copy"),key := Value.str (s "copy") 255,val := Value.ref 60 },{ hash := kh P (s "_make_group"),key := Value.str (s "_make_group") 276,val := Value.ref 67 },{ hash := kh P (s "_make_empty_region"),key := Value.str (s "_make_empty_region") 285,val := Value.ref 74 },{ hash := kh P (s "_find_surrounded_groups"),key := Value.str (s "_find_surrounded_groups") 301,val := Value.ref 81 },{ hash := kh P (s "_find_all_surrounded_groups"),key := Value.str (s "_find_all_surrounded_groups") 315,val := Value.ref 88 },{ hash := kh P (s "is_empty"),key := Value.str (s "is_empty") 322,val := Value.ref 95 },{ hash := kh P (s "get"),key := Value.str (s "get") 331,val := Value.ref 102 },{ hash := kh P (s "play"),key := Value.str (s "play") 337,val := Value.ref 107 },{ hash := kh P (s "apply_setup"),key := Value.str (s "apply_setup") 351,val := Value.ref 114 },{ hash := kh P (s "list_occupied_points"),key := Value.str (s "list_occupied_points") 362,val := Value.ref 121 },{ hash := kh P (s "area_score"),key := Value.str (s "area_score") 369,val := Value.ref 128 },{ hash := kh P (s "__static_attributes__"),key := Value.str (s "__static_attributes__") 374,val := Value.ref 129 },{ hash := kh P (s "__dict__"),key := Value.str (s "__dict__") 376,val := Value.ref 132 },{ hash := kh P (s "__weakref__"),key := Value.str (s "__weakref__") 378,val := Value.ref 133 },{ hash := kh P (s "__doc__"),key := Value.str (s "__doc__") 379,val := Value.none }] 4 }),
 (131,{ cls := Value.type "type",data := Data.cls { name := s "Board",bases := [Value.type "object"],mro := [Value.ref 131,Value.type "object"],ns := 130,qualname := s "Board" },slots := #[none,none,some (Value.str (s "Board") 232),some (Value.str (s "Board") 240),some (Value.builtin "object.__new__"),some (Value.bool true)] }),
 (139,{ cls := Value.type "code",data := Data.fields #[Value.str (s "_law_near") 384,Value.str (s "_law_near") 385,Value.str (s "/claim/cut.py") 386,Value.int 160 0,Value.int 2 0,Value.int 0 0,Value.int 0 0,Value.int 3 0,Value.ref 136,Value.bool true,Value.int 181 0,Value.ref 137,Value.none,Value.none,Value.none,Value.ref 138,Value.int 387 0,Value.int 160 0,Value.str (s "/claim/cut.py") 388] }),
 (140,fnObj (topAt 8) "_law_near" "law_md0058_06" 382 139),
 (144,{ cls := Value.type "code",data := Data.fields #[Value.str (s "_law_breathing") 390,Value.str (s "_law_breathing") 391,Value.str (s "/claim/cut.py") 392,Value.int 164 0,Value.int 2 0,Value.int 0 0,Value.int 0 0,Value.int 3 0,Value.ref 141,Value.bool true,Value.int 181 0,Value.ref 142,Value.none,Value.none,Value.none,Value.ref 143,Value.int 393 0,Value.int 164 0,Value.str (s "/claim/cut.py") 394] }),
 (145,fnObj (topAt 9) "_law_breathing" "law_md0058_06" 382 144),
 (151,{ cls := Value.type "code",data := Data.fields #[Value.str (s "_law_only") 396,Value.str (s "_law_only") 397,Value.str (s "/claim/cut.py") 398,Value.int 171 0,Value.int 2 0,Value.int 0 0,Value.int 0 0,Value.int 3 0,Value.ref 146,Value.bool true,Value.int 181 0,Value.ref 147,Value.none,Value.ref 148,Value.ref 149,Value.ref 150,Value.int 403 0,Value.int 171 0,Value.str (s "/claim/cut.py") 404] }),
 (152,fnObj (topAt 10) "_law_only" "law_md0058_06" 382 151),
 (156,{ cls := Value.type "code",data := Data.fields #[Value.str (s "_law_moved") 406,Value.str (s "_law_moved") 407,Value.str (s "/claim/cut.py") 408,Value.int 177 0,Value.int 4 0,Value.int 0 0,Value.int 0 0,Value.int 3 0,Value.ref 153,Value.bool true,Value.int 181 0,Value.ref 154,Value.none,Value.none,Value.none,Value.ref 155,Value.int 409 0,Value.int 177 0,Value.str (s "/claim/cut.py") 410] }),
 (157,fnObj (topAt 11) "_law_moved" "law_md0058_06" 382 156),
 (161,{ cls := Value.type "code",data := Data.fields #[Value.str (s "_law_rows") 412,Value.str (s "_law_rows") 413,Value.str (s "/claim/cut.py") 414,Value.int 185 0,Value.int 2 0,Value.int 0 0,Value.int 0 0,Value.int 3 0,Value.ref 158,Value.bool true,Value.int 181 0,Value.ref 159,Value.none,Value.none,Value.none,Value.ref 160,Value.int 415 0,Value.int 185 0,Value.str (s "/claim/cut.py") 416] }),
 (162,fnObj (topAt 12) "_law_rows" "law_md0058_06" 382 161),
 (166,{ cls := Value.type "code",data := Data.fields #[Value.str (s "law") 418,Value.str (s "law") 419,Value.str (s "/claim/cut.py") 420,Value.int 187 0,Value.int 1 0,Value.int 0 0,Value.int 0 0,Value.int 3 0,Value.ref 163,Value.bool true,Value.int 181 0,Value.ref 164,Value.none,Value.none,Value.none,Value.ref 165,Value.int 421 0,Value.int 187 0,Value.str (s "/claim/cut.py") 422] }),
 (167,fnObj (topAt 13) "law" "law_md0058_06" 382 166)]
noncomputable def viewQ : Program := { PySem.Challenge.rw_md0058_06.row.toRowW.prog with main := { PySem.Challenge.rw_md0058_06.row.toRowW.prog.main with body := [0,2,3,5,6,8,9,10,11,12,13].map topAt } }
noncomputable abbrev hookK : Hook := kHook heapK [2,3,20,21,22,28,29,38,39,54,55,59,60,66,67,73,74,80,81,87,88,94,95,101,102,106,107,113,114,120,121,127,128,130,131,139,140,144,145,151,152,156,157,161,162,166,167] (λ _ => by kernel_rfl)
noncomputable abbrev looseK : List Str := ["_opponents"]
noncomputable abbrev stepsK : Nat := 2282
noncomputable abbrev a_opponent_of : Nat := 29
noncomputable abbrev s_opponent_of : Stmt := (topAt 3)
noncomputable def d_opponent_of : FuncData := fnData (topAt 3) "opponent_of" "sgfmill.common" 194 28
noncomputable abbrev a_init : Nat := 55
noncomputable abbrev s_init : Stmt := (inCls 6 0)
noncomputable def d_init : FuncData := fnData (inCls 6 0) "Board.__init__" "sgfmill.boards" 210 54
noncomputable abbrev a_copy : Nat := 60
noncomputable abbrev s_copy : Stmt := (inCls 6 1)
noncomputable def d_copy : FuncData := fnData (inCls 6 1) "Board.copy" "sgfmill.boards" 210 59
noncomputable abbrev a_make_group : Nat := 67
noncomputable abbrev s_make_group : Stmt := (inCls 6 2)
noncomputable def d_make_group : FuncData := fnData (inCls 6 2) "Board._make_group" "sgfmill.boards" 210 66
noncomputable abbrev a_find_surrounded_groups : Nat := 81
noncomputable abbrev s_find_surrounded_groups : Stmt := (inCls 6 4)
noncomputable def d_find_surrounded_groups : FuncData := fnData (inCls 6 4) "Board._find_surrounded_groups" "sgfmill.boards" 210 80
noncomputable abbrev a_find_all_surrounded_groups : Nat := 88
noncomputable abbrev s_find_all_surrounded_groups : Stmt := (inCls 6 5)
noncomputable def d_find_all_surrounded_groups : FuncData := fnData (inCls 6 5) "Board._find_all_surrounded_groups" "sgfmill.boards" 210 87
noncomputable abbrev a_is_empty : Nat := 95
noncomputable abbrev s_is_empty : Stmt := (inCls 6 6)
noncomputable def d_is_empty : FuncData := fnData (inCls 6 6) "Board.is_empty" "sgfmill.boards" 210 94
noncomputable abbrev a_play : Nat := 107
noncomputable abbrev s_play : Stmt := (inCls 6 8)
noncomputable def d_play : FuncData := fnData (inCls 6 8) "Board.play" "sgfmill.boards" 210 106
noncomputable abbrev a_apply_setup : Nat := 114
noncomputable abbrev s_apply_setup : Stmt := (inCls 6 9)
noncomputable def d_apply_setup : FuncData := fnData (inCls 6 9) "Board.apply_setup" "sgfmill.boards" 210 113
noncomputable abbrev a_list_occupied_points : Nat := 121
noncomputable abbrev s_list_occupied_points : Stmt := (inCls 6 10)
noncomputable def d_list_occupied_points : FuncData := fnData (inCls 6 10) "Board.list_occupied_points" "sgfmill.boards" 210 120
noncomputable abbrev a_law_near : Nat := 140
noncomputable abbrev s_law_near : Stmt := (topAt 8)
noncomputable def d_law_near : FuncData := fnData (topAt 8) "_law_near" "law_md0058_06" 382 139
noncomputable abbrev a_law_breathing : Nat := 145
noncomputable abbrev s_law_breathing : Stmt := (topAt 9)
noncomputable def d_law_breathing : FuncData := fnData (topAt 9) "_law_breathing" "law_md0058_06" 382 144
noncomputable abbrev a_law_only : Nat := 152
noncomputable abbrev s_law_only : Stmt := (topAt 10)
noncomputable def d_law_only : FuncData := fnData (topAt 10) "_law_only" "law_md0058_06" 382 151
noncomputable abbrev a_law_moved : Nat := 157
noncomputable abbrev s_law_moved : Stmt := (topAt 11)
noncomputable def d_law_moved : FuncData := fnData (topAt 11) "_law_moved" "law_md0058_06" 382 156
noncomputable abbrev a_law_rows : Nat := 162
noncomputable abbrev s_law_rows : Stmt := (topAt 12)
noncomputable def d_law_rows : FuncData := fnData (topAt 12) "_law_rows" "law_md0058_06" 382 161
noncomputable abbrev a_law : Nat := 167
noncomputable abbrev s_law : Stmt := (topAt 13)
noncomputable def d_law : FuncData := fnData (topAt 13) "law" "law_md0058_06" 382 166
noncomputable abbrev a_opponents : Nat := 22
noncomputable abbrev a_Group : Nat := 39
noncomputable abbrev a_Board : Nat := 131
noncomputable abbrev t_w : Nat := 197
noncomputable abbrev t_b : Nat := 199
noncomputable def n_opponent_of : List Str := "colour" :: []
noncomputable def i_opponent_of : IS :=
 (.seq (.try_ (.seq (.ret (.sub (.glob (.ref a_opponents)) (.var 0)))
  .skip)
 "KeyError" "KeyError"
 (.seq .dead .skip))
 .skip)
noncomputable def n_init : List Str := "self" :: "side" :: "row" :: "_row" :: "_col" :: []
noncomputable def i_init : IS :=
 (.seq (.assign (.attr (.var 0) "side") (.var 1))
 (.seq (.ite (.cmp .Lt (.var 1) (.int 2))
 (.seq (.raise_ "ValueError" "ValueError")
  .skip)
 .skip)
 (.seq (.assign (.attr (.var 0) "board_points") (.compRR 3 4 (.call (.ty "range") (.cons (.var 1) .nil)) (.call (.ty "range") (.cons (.var 1) .nil)) .nil (.tup (.cons (.var 3) (.cons (.var 4) .nil)))))
 (.seq (.assign (.attr (.var 0) "board") (.list .nil))
 (.seq (.for_ (.var 2) (.call (.ty "range") (.cons (.var 1) .nil))
 (.seq (.expr (.meth (.attr (.var 0) "board") "append" (.cons (.bin .Mult (.list (.cons .none .nil)) (.var 1)) .nil)))
  .skip))
 (.seq (.assign (.attr (.var 0) "_is_empty") (.bool true))
 .skip))))))
noncomputable def n_copy : List Str := "self" :: "b" :: "i" :: []
noncomputable def i_copy : IS :=
 (.seq (.assign (.var 1) (.call (.ref a_Board) (.cons (.attr (.var 0) "side") .nil)))
 (.seq (.assign (.attr (.var 1) "board") (.comp (.one 2) (.call (.ty "range") (.cons (.attr (.var 0) "side") .nil)) .nil (.slice (.sub (.attr (.var 0) "board") (.var 2)) .none .none)))
 (.seq (.assign (.attr (.var 1) "_is_empty") (.attr (.var 0) "_is_empty"))
 (.seq (.ret (.var 1))
 .skip))))
noncomputable def n_make_group : List Str := "self" :: "row" :: "col" :: "colour" :: "points" :: "is_surrounded" :: "to_handle" :: "group" :: "point" :: "neighbour" :: "r" :: "c" :: "neigh_colour" :: "r1" :: "c1" :: []
noncomputable def i_make_group : IS :=
 (.seq (.assign (.var 4) (.call (.ty "set") .nil))
 (.seq (.assign (.var 5) (.bool true))
 (.seq (.assign (.var 6) (.call (.ty "set") .nil))
 (.seq (.expr (.meth (.var 6) "add" (.cons (.tup (.cons (.var 1) (.cons (.var 2) .nil))) .nil)))
 (.seq (.while_ (.var 6)
 (.seq (.assign (.var 8) (.meth (.var 6) "pop" .nil))
  (.seq (.expr (.meth (.var 4) "add" (.cons (.var 8) .nil)))
  (.seq (.assign (.tup (.cons (.var 10) (.cons (.var 11) .nil))) (.var 8))
  (.seq (.for_ (.var 9) (.list (.cons (.tup (.cons (.bin .Sub (.var 10) (.int 1)) (.cons (.var 11) .nil))) (.cons (.tup (.cons (.bin .Add (.var 10) (.int 1)) (.cons (.var 11) .nil))) (.cons (.tup (.cons (.var 10) (.cons (.bin .Sub (.var 11) (.int 1)) .nil))) (.cons (.tup (.cons (.var 10) (.cons (.bin .Add (.var 11) (.int 1)) .nil))) .nil)))))
  (.seq (.assign (.tup (.cons (.var 13) (.cons (.var 14) .nil))) (.var 9))
   (.seq (.ite (.un .Not (.boolop .And (.cons (.cmp2 .LtE .Lt (.int 0) (.var 13) (.attr (.var 0) "side")) (.cons (.cmp2 .LtE .Lt (.int 0) (.var 14) (.attr (.var 0) "side")) .nil))))
   (.seq .cont
    .skip)
   .skip)
   (.seq (.assign (.var 12) (.sub (.sub (.attr (.var 0) "board") (.var 13)) (.var 14)))
   (.seq (.ite (.cmp .Is (.var 12) .none)
   (.seq (.assign (.var 5) (.bool false))
    .skip)
   (.seq (.ite (.cmp .Eq (.var 12) (.var 3))
    (.seq (.ite (.cmp .NotIn (.var 9) (.var 4))
     (.seq (.expr (.meth (.var 6) "add" (.cons (.var 9) .nil)))
      .skip)
     .skip)
     .skip)
    .skip)
    .skip))
   .skip)))))
  .skip)))))
 (.seq (.assign (.var 7) (.call (.ref a_Group) .nil))
 (.seq (.assign (.attr (.var 7) "colour") (.var 3))
 (.seq (.assign (.attr (.var 7) "points") (.var 4))
 (.seq (.assign (.attr (.var 7) "is_surrounded") (.var 5))
 (.seq (.ret (.var 7))
 .skip))))))))))
noncomputable def n_find_surrounded_groups : List Str := "self" :: "r" :: "c" :: "surrounded" :: "handled" :: "row" :: "col" :: "colour" :: "point" :: "group" :: []
noncomputable def i_find_surrounded_groups : IS :=
 (.seq (.assign (.var 3) (.list .nil))
 (.seq (.assign (.var 4) (.call (.ty "set") .nil))
 (.seq (.for_ (.tup (.cons (.var 5) (.cons (.var 6) .nil))) (.list (.cons (.tup (.cons (.var 1) (.cons (.var 2) .nil))) (.cons (.tup (.cons (.bin .Sub (.var 1) (.int 1)) (.cons (.var 2) .nil))) (.cons (.tup (.cons (.bin .Add (.var 1) (.int 1)) (.cons (.var 2) .nil))) (.cons (.tup (.cons (.var 1) (.cons (.bin .Sub (.var 2) (.int 1)) .nil))) (.cons (.tup (.cons (.var 1) (.cons (.bin .Add (.var 2) (.int 1)) .nil))) .nil))))))
 (.seq (.ite (.un .Not (.boolop .And (.cons (.cmp2 .LtE .Lt (.int 0) (.var 5) (.attr (.var 0) "side")) (.cons (.cmp2 .LtE .Lt (.int 0) (.var 6) (.attr (.var 0) "side")) .nil))))
  (.seq .cont
   .skip)
  .skip)
  (.seq (.assign (.var 7) (.sub (.sub (.attr (.var 0) "board") (.var 5)) (.var 6)))
  (.seq (.ite (.cmp .Is (.var 7) .none)
  (.seq .cont
   .skip)
  .skip)
  (.seq (.assign (.var 8) (.tup (.cons (.var 5) (.cons (.var 6) .nil))))
  (.seq (.ite (.cmp .In (.var 8) (.var 4))
  (.seq .cont
   .skip)
  .skip)
  (.seq (.assign (.var 9) (.meth (.var 0) "_make_group" (.cons (.var 5) (.cons (.var 6) (.cons (.var 7) .nil)))))
  (.seq (.ite (.attr (.var 9) "is_surrounded")
  (.seq (.expr (.meth (.var 3) "append" (.cons (.var 9) .nil)))
   .skip)
  .skip)
  (.seq (.expr (.meth (.var 4) "update" (.cons (.attr (.var 9) "points") .nil)))
  .skip)))))))))
 (.seq (.ret (.var 3))
 .skip))))
noncomputable def n_find_all_surrounded_groups : List Str := "self" :: "surrounded" :: "handled" :: "row" :: "col" :: "colour" :: "point" :: "group" :: []
noncomputable def i_find_all_surrounded_groups : IS :=
 (.seq (.assign (.var 1) (.list .nil))
 (.seq (.assign (.var 2) (.call (.ty "set") .nil))
 (.seq (.for_ (.tup (.cons (.var 3) (.cons (.var 4) .nil))) (.attr (.var 0) "board_points")
 (.seq (.assign (.var 5) (.sub (.sub (.attr (.var 0) "board") (.var 3)) (.var 4)))
  (.seq (.ite (.cmp .Is (.var 5) .none)
  (.seq .cont
   .skip)
  .skip)
  (.seq (.assign (.var 6) (.tup (.cons (.var 3) (.cons (.var 4) .nil))))
  (.seq (.ite (.cmp .In (.var 6) (.var 2))
  (.seq .cont
   .skip)
  .skip)
  (.seq (.assign (.var 7) (.meth (.var 0) "_make_group" (.cons (.var 3) (.cons (.var 4) (.cons (.var 5) .nil)))))
  (.seq (.ite (.attr (.var 7) "is_surrounded")
  (.seq (.expr (.meth (.var 1) "append" (.cons (.var 7) .nil)))
   .skip)
  .skip)
  (.seq (.expr (.meth (.var 2) "update" (.cons (.attr (.var 7) "points") .nil)))
  .skip))))))))
 (.seq (.ret (.var 1))
 .skip))))
noncomputable def n_is_empty : List Str := "self" :: []
noncomputable def i_is_empty : IS :=
 (.seq (.ret (.attr (.var 0) "_is_empty"))
 .skip)
noncomputable def n_play : List Str := "self" :: "row" :: "col" :: "colour" :: "opponent" :: "surrounded" :: "simple_ko_point" :: "group" :: "to_capture" :: "self_capture" :: "r" :: "c" :: []
noncomputable def i_play : IS :=
 (.seq (.ite (.boolop .Or (.cons (.cmp .Lt (.var 1) (.int 0)) (.cons (.cmp .Lt (.var 2) (.int 0)) .nil)))
 (.seq (.raise_ "IndexError" "IndexError")
  .skip)
 .skip)
 (.seq (.assign (.var 4) (.call (.ref a_opponent_of) (.cons (.var 3) .nil)))
 (.seq (.ite (.cmp .IsNot (.sub (.sub (.attr (.var 0) "board") (.var 1)) (.var 2)) .none)
 (.seq (.raise_ "ValueError" "ValueError")
  .skip)
 .skip)
 (.seq (.assign (.sub (.sub (.attr (.var 0) "board") (.var 1)) (.var 2)) (.var 3))
 (.seq (.assign (.attr (.var 0) "_is_empty") (.bool false))
 (.seq (.assign (.var 5) (.meth (.var 0) "_find_surrounded_groups" (.cons (.var 1) (.cons (.var 2) .nil))))
 (.seq (.assign (.var 6) .none)
 (.seq (.ite (.var 5)
 (.seq (.cut (.ite (.cmp .Eq (.call (.bi "len") (.cons (.var 5) .nil)) (.int 1))
  (.seq (.assign (.var 8) (.var 5))
   (.seq (.ite (.cmp .Eq (.call (.bi "len") (.cons (.attr (.sub (.var 8) (.int 0)) "points") .nil)) (.bin .Mult (.attr (.var 0) "side") (.attr (.var 0) "side")))
   (.seq (.assign (.attr (.var 0) "_is_empty") (.bool true))
    .skip)
   .skip)
   .skip))
  (.seq (.assignC 8 (.comp (.one 7) (.var 5) (.cons (.cmp .Eq (.attr (.var 7) "colour") (.var 4)) .nil) (.var 7)))
   (.seq (.ite (.boolop .And (.cons (.cmp .Eq (.call (.bi "len") (.cons (.var 8) .nil)) (.int 1)) (.cons (.cmp .Eq (.call (.bi "len") (.cons (.attr (.sub (.var 8) (.int 0)) "points") .nil)) (.int 1)) .nil)))
   (.seq (.assignC 9 (.comp (.one 7) (.var 5) (.cons (.cmp .Eq (.attr (.var 7) "colour") (.var 3)) .nil) (.var 7)))
    (.seq (.ite (.cmp .Eq (.call (.bi "len") (.cons (.attr (.sub (.var 9) (.int 0)) "points") .nil)) (.int 1))
    (.seq (.assign (.tupS (.var 6)) (.attr (.sub (.var 8) (.int 0)) "points"))
     .skip)
    .skip)
    .skip))
   .skip)
   .skip))))
  (.seq (.for_ (.var 7) (.var 8)
  (.seq (.for_ (.tup (.cons (.var 10) (.cons (.var 11) .nil))) (.attr (.var 7) "points")
   (.seq (.assign (.sub (.sub (.attr (.var 0) "board") (.var 10)) (.var 11)) .none)
    .skip))
   .skip))
  .skip))
 .skip)
 (.seq (.ret (.var 6))
 .skip)))))))))
noncomputable def n_apply_setup : List Str := "self" :: "black_points" :: "white_points" :: "empty_points" :: "captured" :: "group" :: "row" :: "col" :: []
noncomputable def i_apply_setup : IS :=
 (.seq (.for_ (.tup (.cons (.var 6) (.cons (.var 7) .nil))) (.bin .Add (.bin .Add (.call (.ty "list") (.cons (.var 1) .nil)) (.call (.ty "list") (.cons (.var 2) .nil))) (.call (.ty "list") (.cons (.var 3) .nil)))
 (.seq (.ite (.boolop .Or (.cons (.cmp .Lt (.var 6) (.int 0)) (.cons (.cmp .Lt (.var 7) (.int 0)) (.cons (.cmp .GtE (.var 6) (.attr (.var 0) "side")) (.cons (.cmp .GtE (.var 7) (.attr (.var 0) "side")) .nil)))))
  (.seq .dead
   .skip)
  .skip)
  .skip))
 (.seq (.for_ (.tup (.cons (.var 6) (.cons (.var 7) .nil))) (.var 1)
 (.seq (.assign (.sub (.sub (.attr (.var 0) "board") (.var 6)) (.var 7)) (.str "b"))
  .skip))
 (.seq (.for_ (.tup (.cons (.var 6) (.cons (.var 7) .nil))) (.var 2)
 (.seq (.assign (.sub (.sub (.attr (.var 0) "board") (.var 6)) (.var 7)) (.str "w"))
  .skip))
 (.seq (.for_ (.tup (.cons (.var 6) (.cons (.var 7) .nil))) (.var 3)
 (.seq (.assign (.sub (.sub (.attr (.var 0) "board") (.var 6)) (.var 7)) .none)
  .skip))
 (.seq (.assign (.var 4) (.meth (.var 0) "_find_all_surrounded_groups" .nil))
 (.seq (.for_ (.var 5) (.var 4)
 (.seq (.for_ (.tup (.cons (.var 6) (.cons (.var 7) .nil))) (.attr (.var 5) "points")
  (.seq (.assign (.sub (.sub (.attr (.var 0) "board") (.var 6)) (.var 7)) .none)
   .skip))
  .skip))
 (.seq (.assign (.attr (.var 0) "_is_empty") (.bool true))
 (.seq (.for_ (.tup (.cons (.var 6) (.cons (.var 7) .nil))) (.attr (.var 0) "board_points")
 (.seq (.ite (.cmp .IsNot (.sub (.sub (.attr (.var 0) "board") (.var 6)) (.var 7)) .none)
  (.seq (.assign (.attr (.var 0) "_is_empty") (.bool false))
   (.seq .brk
   .skip))
  .skip)
  .skip))
 (.seq (.ret (.un .Not (.var 4)))
 .skip)))))))))
noncomputable def n_list_occupied_points : List Str := "self" :: "result" :: "row" :: "col" :: "colour" :: []
noncomputable def i_list_occupied_points : IS :=
 (.seq (.assign (.var 1) (.list .nil))
 (.seq (.for_ (.tup (.cons (.var 2) (.cons (.var 3) .nil))) (.attr (.var 0) "board_points")
 (.seq (.assign (.var 4) (.sub (.sub (.attr (.var 0) "board") (.var 2)) (.var 3)))
  (.seq (.ite (.cmp .IsNot (.var 4) .none)
  (.seq (.expr (.meth (.var 1) "append" (.cons (.tup (.cons (.var 4) (.cons (.tup (.cons (.var 2) (.cons (.var 3) .nil))) .nil))) .nil)))
   .skip)
  .skip)
  .skip)))
 (.seq (.ret (.var 1))
 .skip)))
noncomputable def n_law_near : List Str := "point" :: "side" :: "around" :: "row" :: "col" :: "one" :: []
noncomputable def i_law_near : IS :=
 (.seq (.assign (.tup (.cons (.var 3) (.cons (.var 4) .nil))) (.var 0))
 (.seq (.assign (.var 2) (.list (.cons (.tup (.cons (.bin .Sub (.var 3) (.int 1)) (.cons (.var 4) .nil))) (.cons (.tup (.cons (.bin .Add (.var 3) (.int 1)) (.cons (.var 4) .nil))) (.cons (.tup (.cons (.var 3) (.cons (.bin .Sub (.var 4) (.int 1)) .nil))) (.cons (.tup (.cons (.var 3) (.cons (.bin .Add (.var 4) (.int 1)) .nil))) .nil))))))
 (.seq (.ret (.comp (.one 5) (.var 2) (.cons (.boolop .And (.cons (.cmp2 .LtE .Lt (.int 0) (.sub (.var 5) (.int 0)) (.var 1)) (.cons (.cmp2 .LtE .Lt (.int 0) (.sub (.var 5) (.int 1)) (.var 1)) .nil))) .nil) (.var 5)))
 .skip)))
noncomputable def n_law_breathing : List Str := "stones" :: "side" :: "living" :: "point" :: "one" :: []
noncomputable def i_law_breathing : IS :=
 (.seq (.assignC 2 (.comp (.one 3) (.var 0) (.cons (.comp (.one 4) (.call (.ref a_law_near) (.cons (.var 3) (.cons (.var 1) .nil))) (.cons (.cmp .NotIn (.var 4) (.var 0)) .nil) (.var 4)) .nil) (.var 3)))
 (.seq (.for_ (.var 3) (.var 2)
 (.seq (.for_ (.var 4) (.call (.ref a_law_near) (.cons (.var 3) (.cons (.var 1) .nil)))
  (.seq (.ite (.boolop .And (.cons (.cmp .In (.var 4) (.var 0)) (.cons (.cmp .Eq (.sub (.var 0) (.var 4)) (.sub (.var 0) (.var 3))) (.cons (.cmp .NotIn (.var 4) (.var 2)) .nil))))
   (.seq (.expr (.meth (.var 2) "append" (.cons (.var 4) .nil)))
    .skip)
   .skip)
   .skip))
  .skip))
 (.seq (.ret (.var 2))
 .skip)))
noncomputable def n_law_only : List Str := "stones" :: "kept" :: "left" :: "point" :: []
noncomputable def i_law_only : IS :=
 (.seq (.assign (.var 2) .dict)
 (.seq (.for_ (.var 3) (.var 0)
 (.seq (.ite (.cmp .In (.var 3) (.var 1))
  (.seq (.assign (.sub (.var 2) (.var 3)) (.sub (.var 0) (.var 3)))
   .skip)
  .skip)
  .skip))
 (.seq (.ret (.var 2))
 .skip)))
noncomputable def n_law_moved : List Str := "stones" :: "side" :: "point" :: "colour" :: "after" :: "living" :: "foes" :: "one" :: []
noncomputable def i_law_moved : IS :=
 (.seq (.assign (.var 4) (.call (.ref a_law_only) (.cons (.var 0) (.cons (.var 0) .nil))))
 (.seq (.assign (.sub (.var 4) (.var 2)) (.var 3))
 (.seq (.assign (.var 5) (.call (.ref a_law_breathing) (.cons (.var 4) (.cons (.var 1) .nil))))
 (.seq (.assign (.var 6) (.comp (.one 7) (.var 4) (.cons (.boolop .And (.cons (.cmp .NotEq (.sub (.var 4) (.var 7)) (.var 3)) (.cons (.cmp .NotIn (.var 7) (.var 5)) .nil))) .nil) (.var 7)))
 (.seq (.ite (.var 6)
 (.seq (.ret (.call (.ref a_law_only) (.cons (.var 4) (.cons (.comp (.one 7) (.var 4) (.cons (.cmp .NotIn (.var 7) (.var 6)) .nil) (.var 7)) .nil))))
  .skip)
 .skip)
 (.seq (.ret (.call (.ref a_law_only) (.cons (.var 4) (.cons (.var 5) .nil))))
 .skip))))))
noncomputable def n_law_rows : List Str := "stones" :: "points" :: "point" :: []
noncomputable def i_law_rows : IS :=
 (.seq (.ret (.comp (.one 2) (.var 1) (.cons (.cmp .In (.var 2) (.var 0)) .nil) (.tup (.cons (.sub (.var 0) (.var 2)) (.cons (.var 2) .nil)))))
 .skip)
noncomputable def n_law : List Str := "script" :: "side" :: "way" :: "spot" :: "points" :: "stones" :: "cells" :: "point" :: "prize" :: "held" :: "black" :: "white" :: "legal" :: "living" :: "number" :: "head" :: "colour" :: "other" :: "down" :: "right" :: "one" :: "before" :: "after" :: "back" :: "reply" :: "row" :: "col" :: "mine" :: "foe" :: "told" :: "trial" :: "answer" :: []
noncomputable def i_tp : IS :=
 (.seq (.ite (.cmp .NotIn (.var 7) (.var 5))
  (.seq (.ite (.cmp .IsNot (.var 29) .none)
   (.seq (.ret (.bool false))
    .skip)
   .skip)
   .skip)
  (.seq (.ite (.cmp .NotEq (.var 23) (.ife (.cmp .Is (.var 29) .none) (.list .nil) (.list (.cons (.tup (.cons (.var 29) (.cons (.var 7) .nil))) .nil))))
   (.seq (.ret (.bool false))
    .skip)
   .skip)
   .skip))
  .skip)
noncomputable def i_reply : IS :=
 (.seq (.ite (.cmp .NotIn (.var 24) (.var 5))
   (.seq (.assign (.var 30) (.meth (.var 9) "copy" .nil))
    (.seq (.assign (.var 31) (.meth (.var 30) "play" (.cons (.sub (.var 24) (.int 0)) (.cons (.sub (.var 24) (.int 1)) (.cons (.var 28) .nil)))))
    (.seq (.ite (.cmp .Eq (.meth (.var 30) "list_occupied_points" .nil) (.var 21))
    (.seq (.expr (.meth (.var 23) "append" (.cons (.tup (.cons (.var 24) (.cons (.var 31) .nil))) .nil)))
     .skip)
    .skip)
    .skip)))
   .skip)
   .skip)
noncomputable def i_tn : IS :=
 (.seq (.assign (.var 23) (.list .nil))
  (.seq (.for_ (.var 24) (.var 4)
  i_reply)
  (.seq (.ite (.cmp .NotEq (.meth (.var 9) "list_occupied_points" .nil) (.var 22))
  (.seq (.ret (.bool false))
   .skip)
  .skip)
  i_tp)))
noncomputable def i_tm : IS :=
 (.seq (.assign (.var 5) (.call (.ref a_law_moved) (.cons (.var 5) (.cons (.var 1) (.cons (.var 7) (.cons (.var 27) .nil))))))
  (.seq (.assign (.var 22) (.call (.ref a_law_rows) (.cons (.var 5) (.cons (.var 4) .nil))))
  (.seq (.ite (.boolop .Or (.cons (.cmp .NotEq (.meth (.var 9) "list_occupied_points" .nil) (.var 22)) (.cons (.cmp .NotEq (.meth (.var 9) "is_empty" .nil) (.cmp .Eq (.var 22) (.list .nil))) .nil)))
  (.seq (.ret (.bool false))
   .skip)
  .skip)
  i_tn)))
noncomputable def i_turn : IS :=
 (.seq (.assign (.var 7) (.tup (.cons (.bin .Mod (.bin .Add (.sub (.var 3) (.int 0)) (.var 14)) (.var 1)) (.cons (.bin .Mod (.bin .Add (.sub (.var 3) (.int 1)) (.bin .FloorDiv (.var 14) (.var 1))) (.var 1)) .nil))))
  (.seq (.assign (.tup (.cons (.var 27) (.cons (.var 28) .nil))) (.ife (.cmp .Eq (.bin .Mod (.bin .FloorDiv (.bin .FloorDiv (.var 14) (.var 1)) (.var 1)) (.int 2)) (.int 0)) (.tup (.cons (.var 16) (.cons (.var 17) .nil))) (.tup (.cons (.var 17) (.cons (.var 16) .nil)))))
  (.seq (.assign (.var 21) (.call (.ref a_law_rows) (.cons (.var 5) (.cons (.var 4) .nil))))
  (.seq (.ite (.boolop .Or (.cons (.cmp .NotEq (.meth (.var 9) "list_occupied_points" .nil) (.var 21)) (.cons (.cmp .NotEq (.meth (.var 9) "is_empty" .nil) (.cmp .Eq (.var 21) (.list .nil))) .nil)))
  (.seq (.ret (.bool false))
   .skip)
  .skip)
  (.seq (.try_ (.seq (.assign (.var 29) (.meth (.var 9) "play" (.cons (.sub (.var 7) (.int 0)) (.cons (.sub (.var 7) (.int 1)) (.cons (.var 27) .nil)))))
   .skip)
  "ValueError" "ValueError"
  (.seq (.ite (.boolop .Or (.cons (.cmp .NotIn (.var 7) (.var 5)) (.cons (.cmp .NotEq (.meth (.var 9) "list_occupied_points" .nil) (.var 21)) .nil)))
   (.seq (.ret (.bool false))
    .skip)
   .skip)
   (.seq .cont
   .skip)))
  (.seq (.ite (.cmp .In (.var 7) (.var 5))
  (.seq (.ret (.bool false))
   .skip)
  .skip)
  i_tm))))))
noncomputable def i_td : IS :=
 (.seq (.assign (.var 13) (.call (.ref a_law_breathing) (.cons (.var 5) (.cons (.var 1) .nil))))
 (.seq (.ite (.cmp .NotEq (.var 12) (.cmp .Eq (.call (.bi "len") (.cons (.var 13) .nil)) (.call (.bi "len") (.cons (.var 5) .nil))))
 (.seq (.ret (.bool false))
  .skip)
 .skip)
 (.seq (.assign (.var 5) (.call (.ref a_law_only) (.cons (.var 5) (.cons (.var 13) .nil))))
 (.seq (.for_ (.var 14) (.bin .Add (.list (.cons (.int 0) .nil)) (.slice (.var 0) (.int 2) (.int 4)))
 i_turn)
 (.seq (.ret (.bool true))
 .skip)))))
noncomputable def i_tc : IS :=
 (.seq (.assign (.var 9) (.call (.ref a_Board) (.cons (.var 1) .nil)))
 (.seq (.assignC 10 (.comp (.one 7) (.var 4) (.cons (.cmp .Eq (.meth (.var 5) "get" (.cons (.var 7) .nil)) (.str "b")) .nil) (.var 7)))
 (.seq (.assignC 11 (.comp (.one 7) (.var 4) (.cons (.cmp .Eq (.meth (.var 5) "get" (.cons (.var 7) .nil)) (.str "w")) .nil) (.var 7)))
 (.seq (.cut (.assign (.var 12) (.meth (.var 9) "apply_setup" (.cons (.var 10) (.cons (.var 11) (.cons (.list .nil) .nil))))))
 i_td))))
noncomputable def i_tb : IS :=
 (.seq (.assign (.tup (.cons (.var 18) (.cons (.var 19) .nil))) (.sub (.list (.cons (.tup (.cons (.int 1) (.cons (.int 0) .nil))) (.cons (.tup (.cons (.int 0) (.cons (.int 1) .nil))) (.cons (.tup (.cons (.un .USub (.int 1)) (.cons (.int 0) .nil))) (.cons (.tup (.cons (.int 0) (.cons (.un .USub (.int 1)) .nil))) (.cons (.tup (.cons (.int 9) (.cons (.int 9) .nil))) .nil)))))) (.var 2)))
 (.seq (.assign (.var 8) (.tup (.cons (.bin .Add (.sub (.var 3) (.int 0)) (.var 18)) (.cons (.bin .Add (.sub (.var 3) (.int 1)) (.var 19)) .nil))))
 (.seq (.cut (.ite (.cmp .In (.var 8) (.var 4))
 (.seq (.for_ (.var 20) (.call (.ref a_law_near) (.cons (.var 8) (.cons (.var 1) .nil)))
  (.seq (.assign (.sub (.var 5) (.var 20)) (.var 16))
   .skip))
  (.seq (.for_ (.var 20) (.call (.ref a_law_near) (.cons (.var 3) (.cons (.var 1) .nil)))
  (.seq (.assign (.sub (.var 5) (.var 20)) (.var 17))
   .skip))
  (.seq (.expr (.meth (.var 5) "pop" (.cons (.var 3) .nil)))
  .skip)))
 .skip))
 i_tc)))
noncomputable def i_ta : IS :=
 (.seq (.assignC 4 (.compRR 25 26 (.call (.ty "range") (.cons (.var 1) .nil)) (.call (.ty "range") (.cons (.var 1) .nil)) .nil (.tup (.cons (.var 25) (.cons (.var 26) .nil)))))
 (.seq (.assign (.var 5) .dict)
 (.seq (.assign (.var 6) (.bin .Mod (.bin .Mult (.var 6) (.int 16777213)) (.int 43046721)))
 (.seq (.for_ (.var 7) (.var 4)
 (.seq (.ite (.bin .Mod (.var 6) (.int 3))
  (.seq (.assign (.sub (.var 5) (.var 7)) (.sub (.str "bw") (.bin .Sub (.bin .Mod (.var 6) (.int 3)) (.int 1))))
   .skip)
  .skip)
  (.seq (.assign (.var 6) (.bin .FloorDiv (.var 6) (.int 3)))
  .skip)))
 i_tb))))
noncomputable def i_t2 : IS :=
 (.seq (.assign (.tup (.cons (.var 16) (.cons (.var 17) .nil))) (.ife (.cmp .Eq (.bin .Mod (.bin .FloorDiv (.bin .FloorDiv (.bin .FloorDiv (.var 15) (.int 15)) (.var 1)) (.var 1)) (.int 2)) (.int 0)) (.tup (.cons (.str "b") (.cons (.str "w") .nil))) (.tup (.cons (.str "w") (.cons (.str "b") .nil)))))
 i_ta)
noncomputable def i_t1 : IS :=
 (.seq (.assign (.var 2) (.bin .Mod (.bin .FloorDiv (.var 15) (.int 3)) (.int 5)))
 (.seq (.assign (.var 3) (.tup (.cons (.bin .Mod (.bin .FloorDiv (.var 15) (.int 15)) (.var 1)) (.cons (.bin .Mod (.bin .FloorDiv (.bin .FloorDiv (.var 15) (.int 15)) (.var 1)) (.var 1)) .nil))))
 i_t2))
noncomputable def i_law : IS :=
 (.seq (.assign (.tupL (.cons (.var 15) (.cons (.var 6) .nil))) (.slice (.bin .Add (.var 0) (.list (.cons (.int 0) (.cons (.int 0) .nil)))) .none (.int 2)))
 (.seq (.assign (.var 1) (.bin .Sub (.int 4) (.bin .Mod (.var 15) (.int 3))))
 i_t1))
noncomputable def gAll : GT := [("KeyError",.ty "KeyError",false),("_opponents",.ref a_opponents,false),("range",.ty "range",true),("ValueError",.ty "ValueError",false),("Board",.ref a_Board,true),("_Group",.ref a_Group,true),("set",.ty "set",true),("len",.bi "len",true),("opponent_of",.ref a_opponent_of,true),("IndexError",.ty "IndexError",false),("list",.ty "list",true),("_law_near",.ref a_law_near,true),("_law_only",.ref a_law_only,true),("_law_breathing",.ref a_law_breathing,true),("_law_rows",.ref a_law_rows,true),("_law_moved",.ref a_law_moved,true)]
structure L1 (C : Cx) : Prop where
 K : C.K = heapK C.w.params
 miss : ∀ x ∈ (["IndexError", "KeyError", "ValueError", "len", "list", "range", "set"] : List Str),C.mg x = none
theorem L1.fd {C : Cx} (h : L1 C) {a : Addr} {x : Str} {v} (e : findIn (heapK C.w.params) (.ref a) x = v) : findIn C.K (.ref a) x = v := by rw [h.K]; exact e
theorem L1.ft {C : Cx} (h : L1 C) {a : Addr} {v} (e : typeIn (heapK C.w.params) (.ref a) = v) : typeIn C.K (.ref a) = v := by rw [h.K]; exact e
theorem L1.cal {C : Cx} (h : L1 C) {g : PV} (e : callee (heapK C.w.params) g = true) : callee C.K g = true := by rw [h.K]; exact e
theorem L1.mks {C : Cx} (h : L1 C) {a : Addr} (e : makesIn (heapK C.w.params) a = true) : makesIn C.K a = true := by rw [h.K]; exact e
theorem L1.ref {C : Cx} (h : L1 C) {x : Str} {a : Addr} {c : Bool} (e : nsIn (heapK C.w.params) mainGlobals x = some (some (.ref a))) (hc : c = true -> callee (heapK C.w.params) (.ref a) = true) : GOk1 C x (.ref a) c := ⟨λ q => h.cal (hc q),by rw [h.K]; exact e⟩
theorem L1.ty {C : Cx} (h : L1 C) {x : Str} {n : String} {c : Bool} (e : bootBuiltins x = some (.type n)) (hm : x ∈ (["IndexError", "KeyError", "ValueError", "len", "list", "range", "set"] : List Str)) : GOk1 C x (.ty n) c := ⟨λ _ => rfl,h.miss x hm,e⟩
theorem L1.bi {C : Cx} (h : L1 C) {x : Str} {n : String} {c : Bool} (e : bootBuiltins x = some (.builtin n)) (hm : x ∈ (["IndexError", "KeyError", "ValueError", "len", "list", "range", "set"] : List Str)) : GOk1 C x (.bi n) c := ⟨λ _ => rfl,h.miss x hm,e⟩
theorem GOk.nil {C : Cx} : GOk C [] := λ _ h => by cases h
theorem GOk.cons {C : Cx} {x : Str} {p : PV} {c : Bool} {G : GT} (h : GOk1 C x p c) (t : GOk C G) : GOk C ((x,p,c) :: G) := λ e he => by
 rcases List.mem_cons.mp he with rfl | he
 ·exact h
 ·exact t e he
theorem L1.go {C : Cx} (h : L1 C) : GOk C gAll := (GOk.cons (h.ty PyProof.Rows.Boot.«KeyError» (by decide +kernel)) (GOk.cons (h.ref (by kernel_rfl) (λ q => by cases q)) (GOk.cons (h.ty PyProof.Rows.Boot.«range» (by decide +kernel)) (GOk.cons (h.ty PyProof.Rows.Boot.«ValueError» (by decide +kernel)) (GOk.cons (h.ref (by kernel_rfl) (λ _ => by kernel_rfl)) (GOk.cons (h.ref (by kernel_rfl) (λ _ => by kernel_rfl)) (GOk.cons (h.ty PyProof.Rows.Boot.«set» (by decide +kernel)) (GOk.cons (h.bi PyProof.Rows.Boot.«len» (by decide +kernel)) (GOk.cons (h.ref (by kernel_rfl) (λ _ => by kernel_rfl)) (GOk.cons (h.ty PyProof.Rows.Boot.«IndexError» (by decide +kernel)) (GOk.cons (h.ty PyProof.Rows.Boot.«list» (by decide +kernel)) (GOk.cons (h.ref (by kernel_rfl) (λ _ => by kernel_rfl)) (GOk.cons (h.ref (by kernel_rfl) (λ _ => by kernel_rfl)) (GOk.cons (h.ref (by kernel_rfl) (λ _ => by kernel_rfl)) (GOk.cons (h.ref (by kernel_rfl) (λ _ => by kernel_rfl)) (GOk.cons (h.ref (by kernel_rfl) (λ _ => by kernel_rfl)) GOk.nil))))))))))))))))
section
variable {T : Tr} {X : String} {H : AHeap} {R : AHeap -> Prop} {Q : PV -> AHeap -> Prop} {ps : List PV}
theorem L1.D_opponent_of {C : Cx} (h : L1 C) : DefAt C.K a_opponent_of d_opponent_of ["colour"] (fnBody s_opponent_of) := by
 rw [h.K]; refine ⟨⟨.type "function",none,#[],?_⟩,?_,?_,?_,?_,?_,bind_of1 λ _ => ?_,?_,?_,?_,?_,?_,?_,?_⟩ <;> first | kernel_rfl | decide +kernel
theorem c_opponent_of : mS gAll n_opponent_of d_opponent_of.scope.names i_opponent_of false true (fnBody s_opponent_of) = true := by decide +kernel
theorem u_opponent_of : n_opponent_of.Nodup := by decide +kernel
theorem L1.f_opponent_of (h : L1 T.C) (hh : T.hd = false) (hn : 1 <= T.n) (hl : ps.length = 1) (e : wS i_opponent_of X T.down (zipN 0 ps) H (λ _ H => R H) (retK Q)) : SCode T X (.ref a_opponent_of) ps H Q R :=
 SCode.fn h.go u_opponent_of h.D_opponent_of rfl (by rw [hh]; exact c_opponent_of) rfl hn hl e
theorem L1.D_init {C : Cx} (h : L1 C) : DefAt C.K a_init d_init ["self", "side"] (fnBody s_init) := by
 rw [h.K]; refine ⟨⟨.type "function",none,#[],?_⟩,?_,?_,?_,?_,?_,bind_of2 λ _ _ => ?_,?_,?_,?_,?_,?_,?_,?_⟩ <;> first | kernel_rfl | decide +kernel
theorem c_init : mS gAll n_init d_init.scope.names i_init false true (fnBody s_init) = true := by decide +kernel
theorem u_init : n_init.Nodup := by decide +kernel
theorem L1.f_init (h : L1 T.C) (hh : T.hd = false) (hn : 1 <= T.n) (hl : ps.length = 2) (e : wS i_init X T.down (zipN 0 ps) H (λ _ H => R H) (retK Q)) : SCode T X (.ref a_init) ps H Q R :=
 SCode.fn h.go u_init h.D_init rfl (by rw [hh]; exact c_init) rfl hn hl e
theorem L1.D_copy {C : Cx} (h : L1 C) : DefAt C.K a_copy d_copy ["self"] (fnBody s_copy) := by
 rw [h.K]; refine ⟨⟨.type "function",none,#[],?_⟩,?_,?_,?_,?_,?_,bind_of1 λ _ => ?_,?_,?_,?_,?_,?_,?_,?_⟩ <;> first | kernel_rfl | decide +kernel
theorem c_copy : mS gAll n_copy d_copy.scope.names i_copy false true (fnBody s_copy) = true := by decide +kernel
theorem u_copy : n_copy.Nodup := by decide +kernel
theorem L1.f_copy (h : L1 T.C) (hh : T.hd = false) (hn : 1 <= T.n) (hl : ps.length = 1) (e : wS i_copy X T.down (zipN 0 ps) H (λ _ H => R H) (retK Q)) : SCode T X (.ref a_copy) ps H Q R :=
 SCode.fn h.go u_copy h.D_copy rfl (by rw [hh]; exact c_copy) rfl hn hl e
theorem L1.D_make_group {C : Cx} (h : L1 C) : DefAt C.K a_make_group d_make_group ["self", "row", "col", "colour"] (fnBody s_make_group) := by
 rw [h.K]; refine ⟨⟨.type "function",none,#[],?_⟩,?_,?_,?_,?_,?_,bind_of4 λ _ _ _ _ => ?_,?_,?_,?_,?_,?_,?_,?_⟩ <;> first | kernel_rfl | decide +kernel
theorem c_make_group : mS gAll n_make_group d_make_group.scope.names i_make_group false true (fnBody s_make_group) = true := by decide +kernel
theorem u_make_group : n_make_group.Nodup := by decide +kernel
theorem L1.f_make_group (h : L1 T.C) (hh : T.hd = false) (hn : 1 <= T.n) (hl : ps.length = 4) (e : wS i_make_group X T.down (zipN 0 ps) H (λ _ H => R H) (retK Q)) : SCode T X (.ref a_make_group) ps H Q R :=
 SCode.fn h.go u_make_group h.D_make_group rfl (by rw [hh]; exact c_make_group) rfl hn hl e
theorem L1.D_find_surrounded_groups {C : Cx} (h : L1 C) : DefAt C.K a_find_surrounded_groups d_find_surrounded_groups ["self", "r", "c"] (fnBody s_find_surrounded_groups) := by
 rw [h.K]; refine ⟨⟨.type "function",none,#[],?_⟩,?_,?_,?_,?_,?_,bind_of3 λ _ _ _ => ?_,?_,?_,?_,?_,?_,?_,?_⟩ <;> first | kernel_rfl | decide +kernel
theorem c_find_surrounded_groups : mS gAll n_find_surrounded_groups d_find_surrounded_groups.scope.names i_find_surrounded_groups false true (fnBody s_find_surrounded_groups) = true := by decide +kernel
theorem u_find_surrounded_groups : n_find_surrounded_groups.Nodup := by decide +kernel
theorem L1.f_find_surrounded_groups (h : L1 T.C) (hh : T.hd = false) (hn : 1 <= T.n) (hl : ps.length = 3) (e : wS i_find_surrounded_groups X T.down (zipN 0 ps) H (λ _ H => R H) (retK Q)) : SCode T X (.ref a_find_surrounded_groups) ps H Q R :=
 SCode.fn h.go u_find_surrounded_groups h.D_find_surrounded_groups rfl (by rw [hh]; exact c_find_surrounded_groups) rfl hn hl e
theorem L1.D_find_all_surrounded_groups {C : Cx} (h : L1 C) : DefAt C.K a_find_all_surrounded_groups d_find_all_surrounded_groups ["self"] (fnBody s_find_all_surrounded_groups) := by
 rw [h.K]; refine ⟨⟨.type "function",none,#[],?_⟩,?_,?_,?_,?_,?_,bind_of1 λ _ => ?_,?_,?_,?_,?_,?_,?_,?_⟩ <;> first | kernel_rfl | decide +kernel
theorem c_find_all_surrounded_groups : mS gAll n_find_all_surrounded_groups d_find_all_surrounded_groups.scope.names i_find_all_surrounded_groups false true (fnBody s_find_all_surrounded_groups) = true := by decide +kernel
theorem u_find_all_surrounded_groups : n_find_all_surrounded_groups.Nodup := by decide +kernel
theorem L1.f_find_all_surrounded_groups (h : L1 T.C) (hh : T.hd = false) (hn : 1 <= T.n) (hl : ps.length = 1) (e : wS i_find_all_surrounded_groups X T.down (zipN 0 ps) H (λ _ H => R H) (retK Q)) : SCode T X (.ref a_find_all_surrounded_groups) ps H Q R :=
 SCode.fn h.go u_find_all_surrounded_groups h.D_find_all_surrounded_groups rfl (by rw [hh]; exact c_find_all_surrounded_groups) rfl hn hl e
theorem L1.D_is_empty {C : Cx} (h : L1 C) : DefAt C.K a_is_empty d_is_empty ["self"] (fnBody s_is_empty) := by
 rw [h.K]; refine ⟨⟨.type "function",none,#[],?_⟩,?_,?_,?_,?_,?_,bind_of1 λ _ => ?_,?_,?_,?_,?_,?_,?_,?_⟩ <;> first | kernel_rfl | decide +kernel
theorem c_is_empty : mS gAll n_is_empty d_is_empty.scope.names i_is_empty false true (fnBody s_is_empty) = true := by decide +kernel
theorem u_is_empty : n_is_empty.Nodup := by decide +kernel
theorem L1.f_is_empty (h : L1 T.C) (hh : T.hd = false) (hn : 1 <= T.n) (hl : ps.length = 1) (e : wS i_is_empty X T.down (zipN 0 ps) H (λ _ H => R H) (retK Q)) : SCode T X (.ref a_is_empty) ps H Q R :=
 SCode.fn h.go u_is_empty h.D_is_empty rfl (by rw [hh]; exact c_is_empty) rfl hn hl e
theorem L1.D_play {C : Cx} (h : L1 C) : DefAt C.K a_play d_play ["self", "row", "col", "colour"] (fnBody s_play) := by
 rw [h.K]; refine ⟨⟨.type "function",none,#[],?_⟩,?_,?_,?_,?_,?_,bind_of4 λ _ _ _ _ => ?_,?_,?_,?_,?_,?_,?_,?_⟩ <;> first | kernel_rfl | decide +kernel
theorem c_play : mS gAll n_play d_play.scope.names i_play false true (fnBody s_play) = true := by decide +kernel
theorem u_play : n_play.Nodup := by decide +kernel
theorem L1.f_play (h : L1 T.C) (hh : T.hd = false) (hn : 1 <= T.n) (hl : ps.length = 4) (e : wS i_play X T.down (zipN 0 ps) H (λ _ H => R H) (retK Q)) : SCode T X (.ref a_play) ps H Q R :=
 SCode.fn h.go u_play h.D_play rfl (by rw [hh]; exact c_play) rfl hn hl e
theorem L1.D_apply_setup {C : Cx} (h : L1 C) : DefAt C.K a_apply_setup d_apply_setup ["self", "black_points", "white_points", "empty_points"] (fnBody s_apply_setup) := by
 rw [h.K]; refine ⟨⟨.type "function",none,#[],?_⟩,?_,?_,?_,?_,?_,bind_of4 λ _ _ _ _ => ?_,?_,?_,?_,?_,?_,?_,?_⟩ <;> first | kernel_rfl | decide +kernel
theorem c_apply_setup : mS gAll n_apply_setup d_apply_setup.scope.names i_apply_setup false true (fnBody s_apply_setup) = true := by decide +kernel
theorem u_apply_setup : n_apply_setup.Nodup := by decide +kernel
theorem L1.f_apply_setup (h : L1 T.C) (hh : T.hd = false) (hn : 1 <= T.n) (hl : ps.length = 4) (e : wS i_apply_setup X T.down (zipN 0 ps) H (λ _ H => R H) (retK Q)) : SCode T X (.ref a_apply_setup) ps H Q R :=
 SCode.fn h.go u_apply_setup h.D_apply_setup rfl (by rw [hh]; exact c_apply_setup) rfl hn hl e
theorem L1.D_list_occupied_points {C : Cx} (h : L1 C) : DefAt C.K a_list_occupied_points d_list_occupied_points ["self"] (fnBody s_list_occupied_points) := by
 rw [h.K]; refine ⟨⟨.type "function",none,#[],?_⟩,?_,?_,?_,?_,?_,bind_of1 λ _ => ?_,?_,?_,?_,?_,?_,?_,?_⟩ <;> first | kernel_rfl | decide +kernel
theorem c_list_occupied_points : mS gAll n_list_occupied_points d_list_occupied_points.scope.names i_list_occupied_points false true (fnBody s_list_occupied_points) = true := by decide +kernel
theorem u_list_occupied_points : n_list_occupied_points.Nodup := by decide +kernel
theorem ch_list_occupied_points : mS gAll n_list_occupied_points d_list_occupied_points.scope.names i_list_occupied_points true true (fnBody s_list_occupied_points) = true := by decide +kernel
theorem L1.f_list_occupied_points (h : L1 T.C) (hn : 1 <= T.n) (hl : ps.length = 1) (e : wS i_list_occupied_points X T.down (zipN 0 ps) H (λ _ H => R H) (retK Q)) : SCode T X (.ref a_list_occupied_points) ps H Q R :=
 SCode.fn h.go u_list_occupied_points h.D_list_occupied_points rfl (by cases q : T.hd; exact c_list_occupied_points; exact ch_list_occupied_points) rfl hn hl e
theorem L1.D_law_near {C : Cx} (h : L1 C) : DefAt C.K a_law_near d_law_near ["point", "side"] (fnBody s_law_near) := by
 rw [h.K]; refine ⟨⟨.type "function",none,#[],?_⟩,?_,?_,?_,?_,?_,bind_of2 λ _ _ => ?_,?_,?_,?_,?_,?_,?_,?_⟩ <;> first | kernel_rfl | decide +kernel
theorem c_law_near : mS gAll n_law_near d_law_near.scope.names i_law_near false true (fnBody s_law_near) = true := by decide +kernel
theorem u_law_near : n_law_near.Nodup := by decide +kernel
theorem L1.f_law_near (h : L1 T.C) (hh : T.hd = false) (hn : 1 <= T.n) (hl : ps.length = 2) (e : wS i_law_near X T.down (zipN 0 ps) H (λ _ H => R H) (retK Q)) : SCode T X (.ref a_law_near) ps H Q R :=
 SCode.fn h.go u_law_near h.D_law_near rfl (by rw [hh]; exact c_law_near) rfl hn hl e
theorem L1.D_law_breathing {C : Cx} (h : L1 C) : DefAt C.K a_law_breathing d_law_breathing ["stones", "side"] (fnBody s_law_breathing) := by
 rw [h.K]; refine ⟨⟨.type "function",none,#[],?_⟩,?_,?_,?_,?_,?_,bind_of2 λ _ _ => ?_,?_,?_,?_,?_,?_,?_,?_⟩ <;> first | kernel_rfl | decide +kernel
theorem c_law_breathing : mS gAll n_law_breathing d_law_breathing.scope.names i_law_breathing false true (fnBody s_law_breathing) = true := by decide +kernel
theorem u_law_breathing : n_law_breathing.Nodup := by decide +kernel
theorem L1.f_law_breathing (h : L1 T.C) (hh : T.hd = false) (hn : 1 <= T.n) (hl : ps.length = 2) (e : wS i_law_breathing X T.down (zipN 0 ps) H (λ _ H => R H) (retK Q)) : SCode T X (.ref a_law_breathing) ps H Q R :=
 SCode.fn h.go u_law_breathing h.D_law_breathing rfl (by rw [hh]; exact c_law_breathing) rfl hn hl e
theorem L1.D_law_only {C : Cx} (h : L1 C) : DefAt C.K a_law_only d_law_only ["stones", "kept"] (fnBody s_law_only) := by
 rw [h.K]; refine ⟨⟨.type "function",none,#[],?_⟩,?_,?_,?_,?_,?_,bind_of2 λ _ _ => ?_,?_,?_,?_,?_,?_,?_,?_⟩ <;> first | kernel_rfl | decide +kernel
theorem c_law_only : mS gAll n_law_only d_law_only.scope.names i_law_only false true (fnBody s_law_only) = true := by decide +kernel
theorem u_law_only : n_law_only.Nodup := by decide +kernel
theorem L1.f_law_only (h : L1 T.C) (hh : T.hd = false) (hn : 1 <= T.n) (hl : ps.length = 2) (e : wS i_law_only X T.down (zipN 0 ps) H (λ _ H => R H) (retK Q)) : SCode T X (.ref a_law_only) ps H Q R :=
 SCode.fn h.go u_law_only h.D_law_only rfl (by rw [hh]; exact c_law_only) rfl hn hl e
theorem L1.D_law_moved {C : Cx} (h : L1 C) : DefAt C.K a_law_moved d_law_moved ["stones", "side", "point", "colour"] (fnBody s_law_moved) := by
 rw [h.K]; refine ⟨⟨.type "function",none,#[],?_⟩,?_,?_,?_,?_,?_,bind_of4 λ _ _ _ _ => ?_,?_,?_,?_,?_,?_,?_,?_⟩ <;> first | kernel_rfl | decide +kernel
theorem c_law_moved : mS gAll n_law_moved d_law_moved.scope.names i_law_moved false true (fnBody s_law_moved) = true := by decide +kernel
theorem u_law_moved : n_law_moved.Nodup := by decide +kernel
theorem L1.f_law_moved (h : L1 T.C) (hh : T.hd = false) (hn : 1 <= T.n) (hl : ps.length = 4) (e : wS i_law_moved X T.down (zipN 0 ps) H (λ _ H => R H) (retK Q)) : SCode T X (.ref a_law_moved) ps H Q R :=
 SCode.fn h.go u_law_moved h.D_law_moved rfl (by rw [hh]; exact c_law_moved) rfl hn hl e
theorem L1.D_law_rows {C : Cx} (h : L1 C) : DefAt C.K a_law_rows d_law_rows ["stones", "points"] (fnBody s_law_rows) := by
 rw [h.K]; refine ⟨⟨.type "function",none,#[],?_⟩,?_,?_,?_,?_,?_,bind_of2 λ _ _ => ?_,?_,?_,?_,?_,?_,?_,?_⟩ <;> first | kernel_rfl | decide +kernel
theorem c_law_rows : mS gAll n_law_rows d_law_rows.scope.names i_law_rows false true (fnBody s_law_rows) = true := by decide +kernel
theorem u_law_rows : n_law_rows.Nodup := by decide +kernel
theorem L1.f_law_rows (h : L1 T.C) (hh : T.hd = false) (hn : 1 <= T.n) (hl : ps.length = 2) (e : wS i_law_rows X T.down (zipN 0 ps) H (λ _ H => R H) (retK Q)) : SCode T X (.ref a_law_rows) ps H Q R :=
 SCode.fn h.go u_law_rows h.D_law_rows rfl (by rw [hh]; exact c_law_rows) rfl hn hl e
theorem L1.D_law {C : Cx} (h : L1 C) : DefAt C.K a_law d_law ["script"] (fnBody s_law) := by
 rw [h.K]; refine ⟨⟨.type "function",none,#[],?_⟩,?_,?_,?_,?_,?_,bind_of1 λ _ => ?_,?_,?_,?_,?_,?_,?_,?_⟩ <;> first | kernel_rfl | decide +kernel
theorem c_law : mS gAll n_law d_law.scope.names i_law false true (fnBody s_law) = true := by decide +kernel
theorem u_law : n_law.Nodup := by decide +kernel
end
end
section
noncomputable def cell : Option Str -> PV
 | none => .none
 | some c => .str c
noncomputable def own5 : List Str := ["__init__", "copy", "_make_group", "_make_empty_region", "_find_surrounded_groups", "_find_all_surrounded_groups", "is_empty", "get", "play", "apply_setup", "list_occupied_points", "area_score"]
structure BdAt (x d bp bd : Addr) (rows : List Addr) (n : Nat) (G : Pt -> Option Str) (e : Bool) (H : AHeap) : Prop where
 inst : H x = some (.inst a_Board d)
 attrs : ∃ l,H d = some (.attrs l) /\ l.length <= 5000 /\ l.lookup ("side" : Str) = some (.int n) /\ l.lookup ("board_points" : Str) = some (.ref bp) /\ l.lookup ("board" : Str) = some (.ref bd) /\ l.lookup ("_is_empty" : Str) = some (.bool e) /\ ∀ m ∈ own5,l.lookup m = none
 pts : H bp = some (.list (gather2 n n λ i j => some (pt (i,j))))
 board : H bd = some (.list (rows.map .ref))
 len : rows.length = n
 row : ∀ (i : Nat) a,rows[i]? = some a -> H a = some (.list ((List.range n).map λ j : Nat => cell (G (i,j))))
 nodup : rows.Nodup
 lo : 2 <= n
 five : n <= 5
 bpn : bp ∉ rows
 bdn : bd ∉ rows
section
variable {T : Tr} {X : String} {H H₀ : AHeap} {R : AHeap -> Prop} {x d bp bd : Addr} {rows : List Addr} {n : Nat} {G : Pt -> Option Str} {e : Bool}
theorem BdAt.ext {H' : AHeap} (B : BdAt x d bp bd rows n G e H) (ex : Ext H H') : BdAt x d bp bd rows n G e H' :=
 ⟨ex _ _ B.inst,let ⟨l,a,b⟩ := B.attrs; ⟨l,ex _ _ a,b⟩,ex _ _ B.pts,ex _ _ B.board,B.len,λ i a h => ex _ _ (B.row i a h),B.nodup,B.lo,B.five,B.bpn,B.bdn⟩
theorem L1.clsB {C : Cx} (h : L1 C) : ClsOk C.K a_Board := by rw [h.K]; exact ⟨by kernel_rfl,by kernel_rfl,by kernel_rfl,by kernel_rfl,by kernel_rfl⟩
theorem L1.clsG {C : Cx} (h : L1 C) : ClsOk C.K a_Group := by rw [h.K]; exact ⟨by kernel_rfl,by kernel_rfl,by kernel_rfl,by kernel_rfl,by kernel_rfl⟩
theorem BdAt.gSide {Q : PV -> AHeap -> Prop} (hL : L1 T.C) (B : BdAt x d bp bd rows n G e H) (h : Q (.int n) H) : SGet T "side" (.ref x) H Q := by
 obtain ⟨l,h1,h2,h3,h4,h5,h6,h7⟩ := B.attrs
 exact SGet.inst hL.clsB (hL.fd (by kernel_rfl)) B.inst h1 h3 rfl h
theorem BdAt.gPts {Q : PV -> AHeap -> Prop} (hL : L1 T.C) (B : BdAt x d bp bd rows n G e H) (h : Q (.ref bp) H) : SGet T "board_points" (.ref x) H Q := by
 obtain ⟨l,h1,h2,h3,h4,h5,h6,h7⟩ := B.attrs
 exact SGet.inst hL.clsB (hL.fd (by kernel_rfl)) B.inst h1 h4 rfl h
theorem BdAt.gBoard {Q : PV -> AHeap -> Prop} (hL : L1 T.C) (B : BdAt x d bp bd rows n G e H) (h : Q (.ref bd) H) : SGet T "board" (.ref x) H Q := by
 obtain ⟨l,h1,h2,h3,h4,h5,h6,h7⟩ := B.attrs
 exact SGet.inst hL.clsB (hL.fd (by kernel_rfl)) B.inst h1 h5 rfl h
theorem BdAt.gEmpty {Q : PV -> AHeap -> Prop} (hL : L1 T.C) (B : BdAt x d bp bd rows n G e H) (h : Q (.bool e) H) : SGet T "_is_empty" (.ref x) H Q := by
 obtain ⟨l,h1,h2,h3,h4,h5,h6,h7⟩ := B.attrs
 exact SGet.inst hL.clsB (hL.fd (by kernel_rfl)) B.inst h1 h6 rfl h
theorem BdAt.meth {g : Addr} {m : Str} (hL : L1 T.C) (B : BdAt x d bp bd rows n G e H) (hm : m ∈ own5) (hf : findIn (heapK T.C.w.params) (.ref a_Board) m = some (some (.ref g))) (ht : typeIn (heapK T.C.w.params) (.ref g) = some (.type "function")) (hg : callee (heapK T.C.w.params) (.ref g) = true) : SMeth T m (.ref x) H (.ref g) := by
 obtain ⟨l,h1,h2,h3,h4,h5,h6,h7⟩ := B.attrs
 exact SMeth.own (hL.cal hg) hL.clsB (hL.fd hf) (hL.ft ht) B.inst h1 (h7 m hm)
theorem BdAt.rowAt (B : BdAt x d bp bd rows n G e H) {i : Int} (h0 : 0 <= i) (h1 : i < n) : ∃ a,rows[i.toNat]? = some a /\ H a = some (.list ((List.range n).map λ j : Nat => cell (G (i,j)))) := by
 have hlt : i.toNat < rows.length := by rw [B.len]; omega
 refine ⟨rows[i.toNat],List.getElem?_eq_getElem hlt,?_⟩
 have := B.row i.toNat _ (List.getElem?_eq_getElem hlt)
 rw [Int.toNat_of_nonneg h0] at this
 exact this
theorem sub2 {a : Addr} {i j : Int} {Q : PV -> AHeap -> Prop} (hH : H a = some (.list ((List.range n).map λ j : Nat => cell (G (i,j))))) (h0 : 0 <= j) (h1 : j < n) (hn : n <= 5) (h : Q (cell (G (i,j))) H) : SSub T (.ref a) (.int j) H Q := by
 refine SSub.list hH h0 (by omega) (p := cell (G (i,j))) ?_ h
 rw [List.getElem?_map,List.getElem?_range (by omega)]
 simp only [Option.map_some]
 rw [Int.toNat_of_nonneg h0]
theorem BdAt.at1 {i : Int} {Q : PV -> AHeap -> Prop} (B : BdAt x d bp bd rows n G e H) (h0 : 0 <= i) (h1 : i < n) (h : ∀ a,rows[i.toNat]? = some a -> H a = some (.list ((List.range n).map λ j : Nat => cell (G (i,j)))) -> Q (.ref a) H) : SSub T (.ref bd) (.int i) H Q := by
 obtain ⟨a,ha,hH⟩ := B.rowAt h0 h1
 exact SSub.list B.board h0 (by have := B.five; omega) (p := .ref a) (by rw [List.getElem?_map,ha]; rfl) (h a ha hH)
theorem is_empty_spec (hL : L1 T.C) (hn : 1 <= T.n) (hh : T.hd = false) (B : BdAt x d bp bd rows n G e H) : SCode T X (.ref a_is_empty) [.ref x] H (λ p H' => p = .bool e /\ H' = H) R :=
 hL.f_is_empty hh hn rfl (B.gEmpty hL ⟨rfl,rfl⟩)
end
end
section
structure GrpAt (g dg ps : Addr) (col : Str) (P : List Pt) (sur : Bool) (H : AHeap) : Prop where
 inst : H g = some (.inst a_Group dg)
 attrs : ∃ l,H dg = some (.attrs l) /\ l.lookup ("colour" : Str) = some (.str col) /\ l.lookup ("points" : Str) = some (.ref ps) /\ l.lookup ("is_surrounded" : Str) = some (.bool sur)
 pts : H ps = some (.pset P)
inductive MGPost (n : Nat) (G : Pt -> Option Str) (r c : Int) (col : Str) (H : AHeap) (p : PV) (H' : AHeap) : Prop
 | mk (g dg ps : Addr) (P : List Pt) (sur : Bool) (e : p = .ref g) (ex : Ext H H') (n1 : H g = none) (n2 : H dg = none) (n3 : H ps = none) (at_ : GrpAt g dg ps col P sur H') (mem : ∀ q,q ∈ P ↔ Reach n G col (r,c) q) (sr : sur = true ↔ Surr n G col (r,c)) (nd : P.Nodup) : MGPost n G r c col H p H'
inductive MGI (n : Nat) (G : Pt -> Option Str) (col : Str) (s : Pt) (a1 a2 : Addr) (H : AHeap) (m : Nat) (sur : Bool) (H' : AHeap) : Prop
 | mk (P W : List Pt) (e : m = left n P) (mg : MG n G col s P W sur) (nP : P.Nodup) (nW : W.Nodup) (hP : H' a1 = some (.pset P)) (hW : H' a2 = some (.pset W)) (ex : Ext H H') : MGI n G col s a1 a2 H m sur H'
inductive MGJ (n : Nat) (G : Pt -> Option Str) (col : Str) (q : Pt) (P₁ W₁ : List Pt) (sur : Bool) (a1 a2 a3 : Addr) (H : AHeap) (i : Nat) (sur' : Bool) (H' : AHeap) : Prop
 | mk (W' : List Pt) (mi : MI n G col q P₁ W₁ sur ((nb q).take i) W' sur') (nW' : W'.Nodup) (k1 : H' a1 = some (.pset P₁)) (k2 : H' a2 = some (.pset W')) (k3 : H' a3 = some (.list ((nb q).map pt))) (ex : Ext H H') : MGJ n G col q P₁ W₁ sur a1 a2 a3 H i sur' H'
theorem map_get {α : Type} {f : α -> PV} {l : List α} {i : Nat} {v : PV} (h : (l.map f)[i]? = some v) : ∃ z,l[i]? = some z /\ v = f z := by
 rw [List.getElem?_map] at h
 obtain ⟨z,hz,e⟩ := Option.map_eq_some_iff.mp h
 exact ⟨z,hz,e.symm⟩
theorem take_snoc {α : Type} {l : List α} {i : Nat} {z : α} (h : l[i]? = some z) : l.take (i + 1) = l.take i ++ [z] := by rw [List.take_add_one,h]; rfl
section
variable {T : Tr} {X : String} {H : AHeap} {R : AHeap -> Prop} {x d bp bd : Addr} {rows : List Addr} {n : Nat} {G : Pt -> Option Str} {e : Bool}
theorem BdAt.box (B : BdAt x d bp bd rows n G e H) {q : Pt} (hq : inG n q) : InBox q := by
 have := B.five; obtain ⟨⟨q1,q2⟩,q3,q4⟩ := hq
 exact ⟨by omega,by omega,by omega,by omega⟩
theorem make_group_spec (hL : L1 T.C) (hn : 3 <= T.n) (hh : T.hd = false) (B : BdAt x d bp bd rows n G e H) {r c : Int} {col : Str} (hg : inG n (r,c)) (hc : G (r,c) = some col) :
  SCode T X (.ref a_make_group) [.ref x,.int r,.int c,.str col] H (MGPost n G r c col H) R := by
 refine hL.f_make_group hh (by omega) rfl ?_
 refine SCall.set0 λ a1 h1 => ?_
 refine SCall.set0 λ a2 h2 => ?_
 have h12 : a2 ≠ a1 := λ e => by rw [e,upd_same] at h2; cases h2
 have h2' : H a2 = none := by rw [upd_ne h12] at h2; exact h2
 refine M.add (r,c) upd_same (B.box hg) λ l0 n0 m0 => ?_
 refine Exists.intro Bool (Exists.intro (λ b => [(0,.ref x),(3,.str col),(4,.ref a1),(6,.ref a2),(5,.bool b)]) (Exists.intro (MGI n G col (r,c) a1 a2 H) (Exists.intro (left n []) (Exists.intro true (And.intro ⟨rfl,rfl,rfl,rfl,rfl,trivial⟩ (And.intro ?_ ?_))))))
 ·refine ⟨[],l0,rfl,MG.first hg hc m0,List.nodup_nil,n0,?_,upd_same,Ext.upd (Ext.upd (Ext.upd (Ext.refl _) h1) h2') h2'⟩
  rw [upd_ne h12.symm,upd_ne h12.symm,upd_same]
 rintro m sur H' ⟨P,W,rfl,mg,nP,nW,hP,hW,ex⟩
 refine STr.set hW ?_
 cases W with
 | nil =>
  obtain ⟨d1,d2⟩ := mg.done
  refine SCall.cls0 (hL.mks (by kernel_rfl)) (hL.fd (by kernel_rfl)) λ g dg hne hg1 hg2 => ?_
  refine SSetAttr.inst hL.clsG (hL.fd (by kernel_rfl)) upd_same (by rw [upd_ne hne.symm]; exact upd_same) (by simp) ?_
  refine SSetAttr.inst hL.clsG (hL.fd (by kernel_rfl)) (by rw [upd_ne hne]; exact upd_same) upd_same (by simp) ?_
  refine SSetAttr.inst hL.clsG (hL.fd (by kernel_rfl)) (by rw [upd_ne hne,upd_ne hne]; exact upd_same) upd_same (by simp) ?_
  have ga : g ≠ a1 := λ q => by rw [q,hP] at hg1; cases hg1
  have da : dg ≠ a1 := λ q => by rw [q,hP] at hg2; cases hg2
  refine MGPost.mk g dg a1 P sur rfl ?_ (ex.none hg1) (ex.none hg2) h1 ⟨?_,⟨_,upd_same,?_,?_,?_⟩,?_⟩ d1 d2 nP
  ·exact Ext.upd (Ext.upd (Ext.upd (Ext.upd (Ext.upd ex (ex.none hg2)) (ex.none hg1)) (ex.none hg2)) (ex.none hg2)) (ex.none hg2)
  ·rw [upd_ne hne,upd_ne hne,upd_ne hne]; exact upd_same
  ·exact lk_next (by decide +kernel) (lk_next (by decide +kernel) lk_here)
  ·exact lk_next (by decide +kernel) lk_here
  ·exact lk_here
  ·rw [upd_ne da.symm,upd_ne da.symm,upd_ne da.symm,upd_ne ga.symm,upd_ne da.symm]; exact hP
 | cons w0 W0 =>
 refine M.popS hW (by simp) λ q W₁ hq nW₁ mW₁ _ => ?_
 have hP2 : upd H' a2 (.pset W₁) a1 = some (.pset P) := by rw [upd_ne h12.symm]; exact hP
 have hqg := (mg.reach q (.inr hq)).inG
 refine M.add q hP2 (B.box hqg) λ P₁ nP₁ mP₁ => ?_
 intro a3 h3
 have h31 : a3 ≠ a1 := λ e => by rw [e,upd_same] at h3; cases h3
 rw [upd_ne h31] at h3
 have h32 : a3 ≠ a2 := λ e => by rw [e,upd_same] at h3; cases h3
 rw [upd_ne h32] at h3
 have h3' : H a3 = none := ex.none h3
 refine WFor.list a3 ((nb q).map pt) rfl upd_same Bool (λ b => [(0,.ref x),(3,.str col),(4,.ref a1),(6,.ref a2),(5,.bool b)]) (MGJ n G col q P₁ W₁ sur a1 a2 a3 H) sur ⟨rfl,rfl,rfl,rfl,rfl,trivial⟩ ?_ (λ i b H'' hj => by obtain ⟨_,_,_,_,_,k3,_⟩ := hj; exact k3) ?_ ?_
 ·refine ⟨W₁,MI.nil,nW₁,?_,?_,upd_same,Ext.upd (Ext.upd (Ext.upd ex h2') h1) h3'⟩
  ·rw [upd_ne h31.symm,upd_same]
  ·rw [upd_ne h32.symm,upd_ne h12,upd_same]
 ·rintro i p sur' H'' hp ⟨W',mi,nW',k1,k2,k3,ex'⟩
  obtain ⟨z,hz,rfl⟩ := map_get hp
  have hzm : z ∈ nb q := List.mem_of_getElem? hz
  have htk := take_snoc hz
  have B' := B.ext ex'
  have out : ¬ inG n z -> MGJ n G col q P₁ W₁ sur a1 a2 a3 H (i + 1) sur' H'' := λ hzg => ⟨W',by rw [htk]; exact mi.skip λ h => absurd h hzg,nW',k1,k2,k3,ex'⟩
  have keep : SubN [(0,.ref x),(3,.str col),(4,.ref a1),(6,.ref a2),(5,.bool sur')] [(14,.int z.2),(13,.int z.1),(9,pt z),(0,.ref x),(3,.str col),(4,.ref a1),(6,.ref a2),(5,.bool sur')] := ⟨rfl,rfl,rfl,rfl,rfl,trivial⟩
  refine br_dec (λ z1 => ?_) (λ z1 => ⟨sur',keep,out (λ h => z1 h.1.1)⟩)
  refine B'.gSide hL ?_
  refine br_dec (λ z2 => ?_) (λ z2 => ⟨sur',keep,out (λ h => z2 h.1.2)⟩)
  refine br_dec (λ z3 => ?_) (λ z3 => ⟨sur',keep,out (λ h => z3 h.2.1)⟩)
  refine B'.gSide hL ?_
  refine br_dec (λ z4 => ?_) (λ z4 => ⟨sur',keep,out (λ h => z4 h.2.2)⟩)
  have hzg : inG n z := ⟨⟨z1,z2⟩,z3,z4⟩
  refine B'.gBoard hL ?_
  refine B'.at1 z1 z2 λ ra _ hra => ?_
  refine sub2 hra z3 z4 B.five ?_
  cases hG : G (z.1,z.2) with
  | none => exact ⟨false,⟨rfl,rfl,rfl,rfl,rfl,trivial⟩,W',by rw [htk]; exact mi.free hzg hG,nW',k1,k2,k3,ex'⟩
  | some c' =>
   refine br_beq (λ hcc => ?_) (λ hcc => ?_)
   ·subst hcc
    refine SCmp.inS z k1 (B.box hzg) ?_
    refine br_ndec (λ hin => ?_) (λ hin => ?_)
    ·refine M.add z k2 (B.box hzg) λ W₂ nW₂ mW₂ => ?_
     exact ⟨sur',⟨rfl,rfl,rfl,rfl,rfl,trivial⟩,W₂,by rw [htk]; exact mi.more hzm hzg hG hin mW₂,nW₂,by rw [upd_ne h12.symm]; exact k1,upd_same,by rw [upd_ne h32]; exact k3,Ext.upd ex' h2'⟩
    ·exact ⟨sur',⟨rfl,rfl,rfl,rfl,rfl,trivial⟩,W',by rw [htk]; exact mi.skip λ _ => ⟨by rw [show G z = some c' from hG]; simp,λ _ => hin⟩,nW',k1,k2,k3,ex'⟩
   ·exact ⟨sur',⟨rfl,rfl,rfl,rfl,rfl,trivial⟩,W',by rw [htk]; exact mi.skip λ _ => ⟨by rw [show G z = some c' from hG]; simp,λ q => by rw [show G z = some c' from hG] at q; exact absurd (Option.some.inj q) hcc⟩,nW',k1,k2,k3,ex'⟩
 ·rintro sur' H'' ⟨W',mi,nW',k1,k2,k3,ex'⟩
  rw [List.length_map,List.take_length] at mi
  exact ⟨sur',⟨rfl,rfl,rfl,rfl,rfl,trivial⟩,left n P₁,mg.left_lt hq mP₁,P₁,W',rfl,mg.turn hq mW₁ mP₁ mi,nP₁,nW',k1,k2,ex'⟩
end
end
section
structure GR where
 g : Addr
 dg : Addr
 ps : Addr
 col : Str
 P : List Pt
noncomputable def GR.cp (x : GR) : Str × List Pt := (x.col,x.P)
noncomputable def GR.At (x : GR) (H : AHeap) : Prop := GrpAt x.g x.dg x.ps x.col x.P true H
structure GR.New (y : GR) (H H' : AHeap) : Prop where
 at_ : y.At H'
 ng : H y.g = none
 nd : H y.dg = none
 np : H y.ps = none
section
variable {T : Tr} {X : String} {H : AHeap} {R : AHeap -> Prop} {x d bp bd : Addr} {rows : List Addr} {n : Nat} {G : Pt -> Option Str} {e : Bool} {g dg ps : Addr} {col : Str} {P : List Pt} {sur : Bool}
theorem GrpAt.gCol {Q : PV -> AHeap -> Prop} (hL : L1 T.C) (B : GrpAt g dg ps col P sur H) (h : Q (.str col) H) : SGet T "colour" (.ref g) H Q := by
 obtain ⟨l,h1,h2,h3,h4⟩ := B.attrs
 exact SGet.inst hL.clsG (hL.fd (by kernel_rfl)) B.inst h1 h2 rfl h
theorem GrpAt.gPts {Q : PV -> AHeap -> Prop} (hL : L1 T.C) (B : GrpAt g dg ps col P sur H) (h : Q (.ref ps) H) : SGet T "points" (.ref g) H Q := by
 obtain ⟨l,h1,h2,h3,h4⟩ := B.attrs
 exact SGet.inst hL.clsG (hL.fd (by kernel_rfl)) B.inst h1 h3 rfl h
theorem GrpAt.gSur {Q : PV -> AHeap -> Prop} (hL : L1 T.C) (B : GrpAt g dg ps col P sur H) (h : Q (.bool sur) H) : SGet T "is_surrounded" (.ref g) H Q := by
 obtain ⟨l,h1,h2,h3,h4⟩ := B.attrs
 exact SGet.inst hL.clsG (hL.fd (by kernel_rfl)) B.inst h1 h4 rfl h
theorem GrpAt.ext {H' : AHeap} (B : GrpAt g dg ps col P sur H) (ex : Ext H H') : GrpAt g dg ps col P sur H' :=
 ⟨ex _ _ B.inst,let ⟨l,a,b⟩ := B.attrs; ⟨l,ex _ _ a,b⟩,ex _ _ B.pts⟩
theorem GrpAt.updList {a : Addr} {l m : List PV} (B : GrpAt g dg ps col P sur H) (ha : H a = some (.list l)) : GrpAt g dg ps col P sur (upd H a (.list m)) := by
 have h1 : g ≠ a := λ q => by have := B.inst; rw [q,ha] at this; cases this
 have h3 : ps ≠ a := λ q => by have := B.pts; rw [q,ha] at this; cases this
 obtain ⟨l,b1,b2⟩ := B.attrs
 have h2 : dg ≠ a := λ q => by rw [q,ha] at b1; cases b1
 exact ⟨by rw [upd_ne h1]; exact B.inst,⟨l,by rw [upd_ne h2]; exact b1,b2⟩,by rw [upd_ne h3]; exact B.pts⟩
theorem GrpAt.updSet {a : Addr} {l m : List Pt} (B : GrpAt g dg ps col P sur H) (ha : H a = some (.pset l)) (h3 : ps ≠ a) : GrpAt g dg ps col P sur (upd H a (.pset m)) := by
 have h1 : g ≠ a := λ q => by have := B.inst; rw [q,ha] at this; cases this
 obtain ⟨l,b1,b2⟩ := B.attrs
 have h2 : dg ≠ a := λ q => by rw [q,ha] at b1; cases b1
 exact ⟨by rw [upd_ne h1]; exact B.inst,⟨l,by rw [upd_ne h2]; exact b1,b2⟩,by rw [upd_ne h3]; exact B.pts⟩
theorem GR.New.ext {y : GR} {H₁ H₂ : AHeap} (h : y.New H H₁) (ex : Ext H₁ H₂) : y.New H H₂ := ⟨GrpAt.ext h.at_ ex,h.ng,h.nd,h.np⟩
inductive FPost (n : Nat) (G : Pt -> Option Str) (pts : List Pt) (H : AHeap) (p : PV) (H' : AHeap) : Prop
 | mk (a : Addr) (gs : List GR) (hdl : List Pt) (e : p = .ref a) (ex : Ext H H') (na : H a = none) (ka : H' a = some (.list (gs.map λ y => .ref y.g))) (kg : ∀ y ∈ gs,y.New H H') (le : gs.length <= pts.length) (fs : FSI n G pts (gs.map GR.cp) hdl) : FPost n G pts H p H'
inductive FI (n : Nat) (G : Pt -> Option Str) (pts : List Pt) (a1 a2 a3 : Addr) (H : AHeap) (i : Nat) (u : Unit) (H' : AHeap) : Prop
 | mk (gs : List GR) (hdl : List Pt) (fs : FSI n G (pts.take i) (gs.map GR.cp) hdl) (nd : hdl.Nodup) (lg : gs.length <= i) (k1 : H' a1 = some (.list (gs.map λ y => .ref y.g))) (k2 : H' a2 = some (.pset hdl)) (k3 : H' a3 = some (.list (pts.map pt)))
   (kg : ∀ y ∈ gs,y.New H H' /\ y.ps ≠ a2) (ex : Ext H H') : FI n G pts a1 a2 a3 H i u H'
theorem FI.new {pts : List Pt} {a1 a2 a3 : Addr} {i : Nat} {u : Unit} {H' H₂ : AHeap} {gs : List GR} {hdl : List Pt} {z : Pt} {c' : Str} (h12 : a2 ≠ a1) (h31 : a3 ≠ a1) (h32 : a3 ≠ a2) (h1 : H a1 = none) (h2 : H a2 = none) (hz : pts[i]? = some z)
  (fs : FSI n G (pts.take i) (gs.map GR.cp) hdl) (lg : gs.length <= i) (kg : ∀ y ∈ gs,y.New H H' /\ y.ps ≠ a2) (k1 : H' a1 = some (.list (gs.map λ y => .ref y.g))) (k2 : H' a2 = some (.pset hdl)) (k3 : H' a3 = some (.list (pts.map pt))) (ex : Ext H H') (hin : z ∉ hdl)
  (ex2 : Ext H' H₂) (q1 : H' g = none) (q2 : H' dg = none) (q3 : H' ps = none) (gr : GrpAt g dg ps c' P sur H₂) (hA : IsGrp n G z (c',P)) (gsur : sur = true ↔ Surr n G c' z) {hdl' : List Pt} (nd' : hdl'.Nodup) (mh : ∀ q,q ∈ hdl' ↔ q ∈ hdl \/ q ∈ P) :
  FI n G pts a1 a2 a3 H (i + 1) u (upd (cond sur (upd H₂ a1 (.list (gs.map (λ y => PV.ref y.g) ++ [PV.ref g]))) H₂) a2 (.pset hdl')) := by
 have hps : ps ≠ a2 := λ q => by rw [q,k2] at q3; cases q3
 have k1' := ex2 _ _ k1
 have k2' := ex2 _ _ k2
 have k3' := ex2 _ _ k3
 have htk := take_snoc hz
 have kg' : ∀ y ∈ gs,y.New H H₂ /\ y.ps ≠ a2 := λ y hy => ⟨(kg y hy).1.ext ex2,(kg y hy).2⟩
 cases sur with
 | true =>
  have k2'' : upd H₂ a1 (.list (gs.map (λ y => PV.ref y.g) ++ [PV.ref g])) a2 = some (.pset hdl) := by rw [upd_ne h12]; exact k2'
  have gr' := GrpAt.updList (m := gs.map (λ y => PV.ref y.g) ++ [PV.ref g]) gr k1'
  refine ⟨gs ++ [⟨g,dg,ps,c',P⟩],hdl',?_,nd',by simp; omega,?_,upd_same,?_,?_,Ext.upd (Ext.upd (ex.trans ex2) h1) h2⟩
  ·rw [htk,List.map_append]; exact fs.new hin hA true gsur mh
  ·rw [upd_ne h12.symm,cond_true,upd_same,List.map_append]; rfl
  ·rw [upd_ne h32,cond_true,upd_ne h31]; exact k3'
  ·intro y hy
   rcases List.mem_append.mp hy with hy | hy
   ·obtain ⟨a,b⟩ := kg' y hy
    exact ⟨⟨GrpAt.updSet (GrpAt.updList a.at_ k1') k2'' b,a.ng,a.nd,a.np⟩,b⟩
   ·rw [List.mem_singleton.mp hy]
    exact ⟨⟨GrpAt.updSet gr' k2'' hps,ex.none q1,ex.none q2,ex.none q3⟩,hps⟩
 | false =>
  refine ⟨gs,hdl',?_,nd',by omega,?_,upd_same,?_,?_,Ext.upd (ex.trans ex2) h2⟩
  ·rw [htk]; exact fs.new hin hA false gsur mh
  ·rw [upd_ne h12.symm]; exact k1'
  ·rw [upd_ne h32]; exact k3'
  ·intro y hy
   obtain ⟨a,b⟩ := kg' y hy
   exact ⟨⟨GrpAt.updSet a.at_ k2' b,a.ng,a.nd,a.np⟩,b⟩
theorem find_spec (hL : L1 T.C) (hn : 4 <= T.n) (hh : T.hd = false) (B : BdAt x d bp bd rows n G e H) {r c : Int} :
  SCode T X (.ref a_find_surrounded_groups) [.ref x,.int r,.int c] H (FPost n G ((r,c) :: nb (r,c)) H) R := by
 refine hL.f_find_surrounded_groups hh (by omega) rfl ?_
 intro a1 h1
 refine SCall.set0 λ a2 h2 => ?_
 have h12 : a2 ≠ a1 := λ e => by rw [e,upd_same] at h2; cases h2
 have h2' : H a2 = none := by rw [upd_ne h12] at h2; exact h2
 intro a3 h3
 have h32 : a3 ≠ a2 := λ e => by rw [e,upd_same] at h3; cases h3
 have h3 := h3
 rw [upd_ne h32] at h3
 have h31 : a3 ≠ a1 := λ e => by rw [e,upd_same] at h3; cases h3
 rw [upd_ne h31] at h3
 refine WFor.list a3 (((r,c) :: nb (r,c)).map pt) rfl upd_same Unit (λ _ => [(0,.ref x),(3,.ref a1),(4,.ref a2)]) (FI n G ((r,c) :: nb (r,c)) a1 a2 a3 H) () ⟨rfl,rfl,rfl,trivial⟩ ?_ (λ i b H'' hj => by obtain ⟨_,_,_,_,_,_,_,k3,_,_⟩ := hj; exact k3) ?_ ?_
 ·refine ⟨[],[],FSI.nil,List.nodup_nil,Nat.zero_le _,?_,?_,upd_same,by simp,Ext.upd (Ext.upd (Ext.upd (Ext.refl _) h1) h2') h3⟩
  ·rw [upd_ne h31.symm,upd_ne h12.symm]; exact upd_same
  ·rw [upd_ne h32.symm]; exact upd_same
 ·rintro i p u H'' hp ⟨gs,hdl,fs,nd,lg,k1,k2,k3,kg,ex'⟩
  obtain ⟨z,hz,rfl⟩ := map_get hp
  have htk := take_snoc hz
  have B' := B.ext ex'
  have out : (inG n z -> G z = none) -> FI n G ((r,c) :: nb (r,c)) a1 a2 a3 H (i + 1) () H'' := λ hzg => ⟨gs,hdl,by rw [htk]; exact fs.skip hzg,nd,by omega,k1,k2,k3,kg,ex'⟩
  have keep : SubN [(0,.ref x),(3,.ref a1),(4,.ref a2)] [(6,.int z.2),(5,.int z.1),(0,.ref x),(3,.ref a1),(4,.ref a2)] := ⟨rfl,rfl,rfl,trivial⟩
  refine br_dec (λ z1 => ?_) (λ z1 => ⟨(),keep,out (λ h => absurd h.1.1 z1)⟩)
  refine B'.gSide hL ?_
  refine br_dec (λ z2 => ?_) (λ z2 => ⟨(),keep,out (λ h => absurd h.1.2 z2)⟩)
  refine br_dec (λ z3 => ?_) (λ z3 => ⟨(),keep,out (λ h => absurd h.2.1 z3)⟩)
  refine B'.gSide hL ?_
  refine br_dec (λ z4 => ?_) (λ z4 => ⟨(),keep,out (λ h => absurd h.2.2 z4)⟩)
  have hzg : inG n z := ⟨⟨z1,z2⟩,z3,z4⟩
  refine B'.gBoard hL ?_
  refine B'.at1 z1 z2 λ ra _ hra => ?_
  refine sub2 hra z3 z4 B.five ?_
  cases hG : G (z.1,z.2) with
  | none => exact ⟨(),⟨rfl,rfl,rfl,trivial⟩,out (λ _ => hG)⟩
  | some c' =>
   refine SCmp.inS z k2 (B.box hzg) ?_
   refine br_dec (λ hin => ?_) (λ hin => ?_)
   ·exact ⟨(),⟨rfl,rfl,rfl,trivial⟩,gs,hdl,by rw [htk]; exact fs.again hin,nd,by omega,k1,k2,k3,kg,ex'⟩
   ·refine M.own (B'.meth hL (by decide +kernel) (by kernel_rfl) (by kernel_rfl) (by kernel_rfl)) (SCode.call (make_group_spec (T := T.down) (col := c') hL (by show 3 <= T.n - 1; omega) hh B' hzg hG) λ p H₂ h => ?_)
    obtain ⟨g,dg,ps,P,sur,rfl,ex2,q1,q2,q3,gr,gm,gsur,gnd⟩ := h
    have hps : ps ≠ a2 := λ q => by rw [q,k2] at q3; cases q3
    have fin : ∀ hdl' : List Pt,hdl'.Nodup -> (∀ q,q ∈ hdl' ↔ q ∈ hdl \/ q ∈ P) -> FI n G ((r,c) :: nb (r,c)) a1 a2 a3 H (i + 1) () (upd (cond sur (upd H₂ a1 (.list (gs.map (λ y => PV.ref y.g) ++ [PV.ref g]))) H₂) a2 (.pset hdl')) :=
     λ hdl' nd' mh => FI.new h12 h31 h32 h1 h2' hz fs lg kg k1 k2 k3 ex' hin ex2 q1 q2 q3 gr ⟨hzg,hG,gm,gnd⟩ gsur nd' mh
    refine GrpAt.gSur hL gr ?_
    cases sur with
    | true =>
     refine M.append (ex2 _ _ k1) (by rw [List.length_map]; have := (List.getElem?_eq_some_iff.mp hz).1; simp [nb] at this; omega) ?_
     have gr' := GrpAt.updList (m := gs.map (λ y => PV.ref y.g) ++ [PV.ref g]) gr (ex2 _ _ k1)
     have k2'' : upd H₂ a1 (.list (gs.map (λ y => PV.ref y.g) ++ [PV.ref g])) a2 = some (.pset hdl) := by rw [upd_ne h12]; exact ex2 _ _ k2
     refine Exists.intro _ (And.intro (SMeth.update k2'') (GrpAt.gPts hL gr' (SCall.update k2'' gr'.pts hps.symm λ hdl' nd' mh => ?_)))
     exact ⟨(),⟨rfl,rfl,rfl,trivial⟩,fin hdl' nd' mh⟩
    | false =>
     refine Exists.intro _ (And.intro (SMeth.update (ex2 _ _ k2)) (GrpAt.gPts hL gr (SCall.update (ex2 _ _ k2) gr.pts hps.symm λ hdl' nd' mh => ?_)))
     exact ⟨(),⟨rfl,rfl,rfl,trivial⟩,fin hdl' nd' mh⟩
 ·rintro u H'' ⟨gs,hdl,fs,nd,lg,k1,k2,k3,kg,ex'⟩
  rw [List.length_map] at lg fs
  rw [List.take_length] at fs
  exact ⟨a1,gs,hdl,rfl,ex',h1,k1,λ y hy => (kg y hy).1,lg,fs⟩
end
end
section
section
variable {H : AHeap} {x d bp bd : Addr} {rows : List Addr} {n : Nat} {G : Pt -> Option Str} {e : Bool}
noncomputable def Keep (H : AHeap) (d : Addr) (rows : List Addr) (H' : AHeap) : Prop := ∀ a o,H a = some o -> a ≠ d -> a ∉ rows -> H' a = some o
theorem Keep.refl : Keep H d rows H := λ _ _ e _ _ => e
theorem Keep.trans {H₁ H₂ H₃ : AHeap} (a : Keep H₁ d rows H₂) (b : Keep H₂ d rows H₃) : Keep H₁ d rows H₃ := λ x o e h1 h2 => b x o (a x o e h1 h2) h1 h2
theorem Keep.ext {H₁ H₂ H₃ : AHeap} (a : Keep H₁ d rows H₂) (b : Ext H₂ H₃) : Keep H₁ d rows H₃ := λ x o e h1 h2 => b x o (a x o e h1 h2)
theorem Keep.row {H₁ H₂ : AHeap} {a : Addr} {o : AO} (k : Keep H₁ d rows H₂) (ha : a ∈ rows) : Keep H₁ d rows (upd H₂ a o) := λ b ob e h1 h2 => by
 rw [upd_ne (λ q : b = a => h2 (by rw [q]; exact ha))]; exact k b ob e h1 h2
theorem Keep.dict {H₁ H₂ : AHeap} {o : AO} (k : Keep H₁ d rows H₂) : Keep H₁ d rows (upd H₂ d o) := λ b ob e h1 h2 => by
 rw [upd_ne h1]; exact k b ob e h1 h2
theorem Keep.new {H₁ H₂ : AHeap} {a : Addr} {o : AO} (k : Keep H₁ d rows H₂) (ha : H₁ a = none) : Keep H₁ d rows (upd H₂ a o) := λ b ob e h1 h2 => by
 rw [upd_ne (λ q => by rw [q,ha] at e; cases e)]; exact k b ob e h1 h2
theorem Keep.remNew {H₁ H₂ : AHeap} {a : Addr} (k : Keep H₁ d rows H₂) (ha : H₁ a = none) : Keep H₁ d rows (rem H₂ a) := λ b ob e h1 h2 => by
 have : b ≠ a := λ q => by rw [q,ha] at e; cases e
 unfold rem; rw [if_neg this]; exact k b ob e h1 h2
theorem GrpAt.updAttrs {g dg ps : Addr} {col : Str} {P : List Pt} {sur : Bool} {a : Addr} {l m : Ls} (B : GrpAt g dg ps col P sur H) (ha : H a = some (.attrs l)) (hne : dg ≠ a) : GrpAt g dg ps col P sur (upd H a (.attrs m)) := by
 have h1 : g ≠ a := λ q => by have := B.inst; rw [q,ha] at this; cases this
 have h3 : ps ≠ a := λ q => by have := B.pts; rw [q,ha] at this; cases this
 obtain ⟨l,b1,b2⟩ := B.attrs
 exact ⟨by rw [upd_ne h1]; exact B.inst,⟨l,by rw [upd_ne hne]; exact b1,b2⟩,by rw [upd_ne h3]; exact B.pts⟩
theorem nodup_inj {l : List Addr} {i j : Nat} {a : Addr} (hn : l.Nodup) (h1 : l[i]? = some a) (h2 : l[j]? = some a) : i = j :=
 (List.getElem?_inj (List.getElem?_eq_some_iff.mp h1).1 hn).mp (h1.trans h2.symm)
theorem row_put {i j : Int} {v : Option Str} (h0 : 0 <= j) (h1 : j < n) : (((List.range n).map λ k : Nat => cell (G (i,k))).set j.toNat (cell v)) = (List.range n).map λ k : Nat => cell (put G (i,j) v (i,k)) := by
 apply List.ext_getElem?
 intro k
 rw [List.getElem?_set]
 split
 ·rename_i hk
  subst hk
  have : j.toNat < n := by omega
  simp only [List.length_map,List.length_range,this,if_true,List.getElem?_map,List.getElem?_range this,Option.map_some]
  rw [Int.toNat_of_nonneg h0]; simp [put]
 ·rename_i hk
  rw [List.getElem?_map,List.getElem?_map]
  by_cases hkn : k < n
  ·rw [List.getElem?_range hkn]
   simp only [Option.map_some,put]
   rw [if_neg]
   intro q
   have := (Prod.mk.injEq _ _ _ _).mp q
   omega
  ·rw [List.getElem?_eq_none (by simpa using hkn)]; rfl
theorem BdAt.put {i j : Int} {a : Addr} {v : Option Str} (B : BdAt x d bp bd rows n G e H) (h2 : 0 <= i) (h0 : 0 <= j) (h1 : j < n) (hra : rows[i.toNat]? = some a) :
  BdAt x d bp bd rows n (AM.put G (i,j) v) e (upd H a (.list (((List.range n).map λ k : Nat => cell (G (i,k))).set j.toNat (cell v)))) := by
 have ham := List.mem_of_getElem? hra
 have hH := B.row _ _ hra
 have hx : x ≠ a := λ q => by have := B.inst; rw [q,hH] at this; cases this
 obtain ⟨l,b1,b2⟩ := B.attrs
 have hd : d ≠ a := λ q => by rw [q,hH] at b1; cases b1
 have hbp : bp ≠ a := λ q => B.bpn (q ▸ ham)
 have hbd : bd ≠ a := λ q => B.bdn (q ▸ ham)
 refine ⟨by rw [upd_ne hx]; exact B.inst,⟨l,by rw [upd_ne hd]; exact b1,b2⟩,by rw [upd_ne hbp]; exact B.pts,by rw [upd_ne hbd]; exact B.board,B.len,λ k b hb => ?_,B.nodup,B.lo,B.five,B.bpn,B.bdn⟩
 by_cases hk : k = i.toNat
 ·subst hk
  rw [hra] at hb; cases hb
  rw [upd_same,row_put h0 h1,Int.toNat_of_nonneg h2]
 ·have hne : b ≠ a := λ q => by
   subst q
   have l1 := (List.getElem?_eq_some_iff.mp hb).1
   have l2 := (List.getElem?_eq_some_iff.mp hra).1
   exact hk (nodup_inj B.nodup hb hra)
  rw [upd_ne hne,B.row k b hb]
  congr 2
  apply List.map_congr_left
  intro m _
  simp only [AM.put]
  rw [if_neg]
  intro q
  have := (Prod.mk.injEq _ _ _ _).mp q
  omega
theorem BdAt.mark {l : Ls} {e' : Bool} (B : BdAt x d bp bd rows n G e H) (hd : H d = some (.attrs l)) (hz : l.length <= 4990) : BdAt x d bp bd rows n G e' (upd H d (.attrs (("_is_empty",.bool e') :: l))) := by
 obtain ⟨l',b1,b2,b3,b4,b5,b6,b7⟩ := B.attrs
 rw [hd] at b1; cases b1
 have hx : x ≠ d := λ q => by have := B.inst; rw [q,hd] at this; cases this
 have hbp : bp ≠ d := λ q => by have := B.pts; rw [q,hd] at this; cases this
 have hbd : bd ≠ d := λ q => by have := B.board; rw [q,hd] at this; cases this
 refine ⟨by rw [upd_ne hx]; exact B.inst,⟨_,upd_same,by simp; omega,lk_next (by decide +kernel) b3,lk_next (by decide +kernel) b4,lk_next (by decide +kernel) b5,lk_here,λ m hm => ?_⟩,by rw [upd_ne hbp]; exact B.pts,by rw [upd_ne hbd]; exact B.board,B.len,λ k b hb => ?_,B.nodup,B.lo,B.five,B.bpn,B.bdn⟩
 ·refine lk_none ?_ (b7 m hm)
  revert m
  decide +kernel
 ·have : b ≠ d := λ q => by have := B.row k b hb; rw [q,hd] at this; cases this
  rw [upd_ne this]; exact B.row k b hb
theorem BdAt.rem {a : Addr} {l : List Pt} (B : BdAt x d bp bd rows n G e H) (ha : H a = some (.pset l)) : BdAt x d bp bd rows n G e (AM.rem H a) := by
 have kp : ∀ b o,H b = some o -> (∀ m,o ≠ .pset m) -> AM.rem H a b = some o := λ b o h hk => by
  have : b ≠ a := λ q => by rw [q,ha] at h; cases h; exact hk _ rfl
  unfold AM.rem; rw [if_neg this]; exact h
 obtain ⟨l',b1,b2⟩ := B.attrs
 exact ⟨kp _ _ B.inst (by intro m q; cases q),⟨l',kp _ _ b1 (by intro m q; cases q),b2⟩,kp _ _ B.pts (by intro m q; cases q),kp _ _ B.board (by intro m q; cases q),B.len,λ k b hb => kp _ _ (B.row k b hb) (by intro m q; cases q),B.nodup,B.lo,B.five,B.bpn,B.bdn⟩
end
end
section
section
variable {T : Tr} {X : String} {H : AHeap} {R : AHeap -> Prop} {x d bp bd : Addr} {rows : List Addr} {n : Nat} {G : Pt -> Option Str} {e : Bool}
theorem catchV : CatchOk "ValueError" "ValueError" := ⟨by rw [isSubtype_type]; kernel_rfl,by rw [isSubtype_type]; kernel_rfl,by rw [isSubtype_type]; kernel_rfl⟩
theorem catchK : CatchOk "KeyError" "KeyError" := ⟨by rw [isSubtype_type]; kernel_rfl,by rw [isSubtype_type]; kernel_rfl,by rw [isSubtype_type]; kernel_rfl⟩
theorem raiseV : RaiseOk "ValueError" := ⟨⟨_,_,excClass_ValueError⟩,by rw [isSubtype_type]; kernel_rfl⟩
theorem opp_at (hL : L1 T.C) {c o : Str} (hco : Cols c o) {Q : PV -> AHeap -> Prop} (h : Q (.str o) H) : SSub T (.ref a_opponents) (.str c) H Q := SSub.of λ Fs v s hs => by
 have hl : (heapK T.C.w.params).lookup a_opponents = some _ := rfl
 rw [<- hL.K] at hl
 rcases hco with ⟨rfl,rfl⟩ | ⟨rfl,rfl⟩
 ·exact ASub.topStr (tk := t_w) hl ⟨⟨_,_,rfl,rfl⟩,⟨_,_,rfl,rfl⟩,trivial⟩ (by rw [hL.K]; kernel_rfl) h λ _ => hs _ _
 ·exact ASub.topStr (tk := t_b) hl ⟨⟨_,_,rfl,rfl⟩,⟨_,_,rfl,rfl⟩,trivial⟩ (by rw [hL.K]; kernel_rfl) h λ _ => hs _ _
theorem opponent_spec (hL : L1 T.C) (hn : 1 <= T.n) (hh : T.hd = false) {c o : Str} (hco : Cols c o) :
  SCode T X (.ref a_opponent_of) [.str c] H (λ p H' => p = .str o /\ H' = H) R := by
 refine hL.f_opponent_of hh hn rfl ?_
 refine Exists.intro "KeyError" (Exists.intro (λ _ _ => False) (And.intro catchK (And.intro ?_ (λ _ _ h => h.elim))))
 refine opp_at (T := T.down) hL hco ?_
 exact ⟨rfl,rfl⟩
theorem filter_snoc {gs : List GR} {i : Nat} {y : GR} {f : GR -> Bool} (h : gs[i]? = some y) : ((gs.take (i + 1)).filter f).map (λ y => PV.ref y.g) = ((gs.take i).filter f).map (λ y => PV.ref y.g) ++ (cond (f y) (some (PV.ref y.g)) none).toList := by
 rw [take_snoc h,List.filter_append,List.map_append]
 congr 1
 cases e : f y <;> simp [e]
inductive PlayPost (n : Nat) (G : Pt -> Option Str) (z : Pt) (col opp : Str) (x d bp bd : Addr) (rows : List Addr) (H : AHeap) (p : PV) (H' : AHeap) : Prop
 | mk (L : List (Str × List Pt)) (hdl : List Pt) (l l' : Ls) (g0 : G z = none) (fs : FSI n (AM.put G z (some col)) (z :: nb z) L hdl) (l5 : L.length <= 5) (e : p = pvPt (koOf col opp L)) (at_ : BdAt x d bp bd rows n (rm (AM.put G z (some col)) (ptsOf (capOf opp L))) (emOf n L) H') (kp : Keep H d rows H') (hl : H d = some (.attrs l)) (hl' : H' d = some (.attrs l')) (le : l'.length <= l.length + 2) : PlayPost n G z col opp x d bp bd rows H p H'
inductive PCut (n : Nat) (G₁ : Pt -> Option Str) (opp : Str) (gs : List GR) (x d bp bd : Addr) (rows : List Addr) (k : Nat) (H H2 : AHeap) (ta : Addr) (H' : AHeap) : Prop
 | mk (tc : List GR) (l : Ls) (cap : tc.map GR.cp = capOf opp (gs.map GR.cp)) (sub : ∀ y ∈ tc,y ∈ gs) (hta : H' ta = some (.list (tc.map λ y => .ref y.g))) (htr : ta ∉ rows) (kg : ∀ y ∈ gs,y.New H2 H') (at_ : BdAt x d bp bd rows n G₁ (emOf n (gs.map GR.cp)) H') (kp : Keep H d rows H') (hl : H' d = some (.attrs l)) (le : l.length <= k) : PCut n G₁ opp gs x d bp bd rows k H H2 ta H'
structure PL1 (n : Nat) (G₁ : Pt -> Option Str) (e : Bool) (tc : List GR) (x d bp bd : Addr) (rows : List Addr) (l : Ls) (H : AHeap) (ta : Addr) (i : Nat) (u : Unit) (H' : AHeap) : Prop where
 at_ : BdAt x d bp bd rows n (rm G₁ (ptsOf ((tc.take i).map GR.cp))) e H'
 hta : H' ta = some (.list (tc.map λ y => .ref y.g))
 kg : ∀ y ∈ tc.drop i,y.At H'
 kp : Keep H d rows H'
 hl : H' d = some (.attrs l)
structure PL2 (n : Nat) (G₂ : Pt -> Option Str) (e : Bool) (tc : List GR) (x d bp bd : Addr) (rows : List Addr) (l : Ls) (H : AHeap) (ta ps : Addr) (i : Nat) (l' : List Pt) (j : Nat) (u : Unit) (H' : AHeap) : Prop where
 at_ : BdAt x d bp bd rows n (rm G₂ (l'.take j)) e H'
 hta : H' ta = some (.list (tc.map λ y => .ref y.g))
 kg : ∀ y ∈ tc.drop (i + 1),y.At H'
 kp : Keep H d rows H'
 hl : H' d = some (.attrs l)
 hp : H' ps = none
theorem list_notrow {H : AHeap} {a : Addr} (B : BdAt x d bp bd rows n G e H) (ha : H a = none) : a ∉ rows := λ h => by
 obtain ⟨i,hi⟩ := List.getElem?_of_mem h
 have := B.row i _ hi
 rw [ha] at this; cases this
theorem PL1.first {G₁ : Pt -> Option Str} {tc : List GR} {l : Ls} {H' : AHeap} {ta : Addr} {i : Nat} {y : GR} {l' : List Pt} (j : PL1 n G₁ e tc x d bp bd rows l H ta i () H') (hy : tc[i]? = some y) (hyd : tc.drop i = y :: tc.drop (i + 1)) (hn : H y.ps = none) (hps : ∀ w ∈ tc.drop (i + 1),w.ps ≠ y.ps) :
  PL2 n (rm G₁ (ptsOf ((tc.take i).map GR.cp))) e tc x d bp bd rows l H ta y.ps i l' 0 () (rem H' y.ps) := by
 obtain ⟨b1,b2,b3,b4,b5⟩ := j
 have ya : y.At H' := b3 y (by rw [hyd]; exact .head _)
 have kr : ∀ b o,H' b = some o -> b ≠ y.ps -> rem H' y.ps b = some o := λ b o h hne => by unfold rem; rw [if_neg hne]; exact h
 refine ⟨by rw [List.take_zero,rm_nil]; exact b1.rem ya.pts,kr _ _ b2 (λ q => by rw [q,ya.pts] at b2; cases b2),λ w hw => ?_,b4.remNew hn,kr _ _ b5 (λ q => by rw [q,ya.pts] at b5; cases b5),by unfold rem; rw [if_pos rfl]⟩
 have wa : w.At H' := b3 w (by rw [hyd]; exact .tail _ hw)
 obtain ⟨wl,w1,w2⟩ := wa.attrs
 exact ⟨kr _ _ wa.inst (λ q => by have := wa.inst; rw [q,ya.pts] at this; cases this),⟨wl,kr _ _ w1 (λ q => by rw [q,ya.pts] at w1; cases w1),w2⟩,kr _ _ wa.pts (hps w hw)⟩
theorem PL2.turn {G₂ : Pt -> Option Str} {tc : List GR} {l : Ls} {H' : AHeap} {ta ps : Addr} {i j : Nat} {q : Pt} {l' : List Pt} {rb : Addr} (h : PL2 n G₂ e tc x d bp bd rows l H ta ps i l' j () H') (hq : l'[j]? = some q) (qg : inG n q) (htr : ta ∉ rows) (hb1 : rows[q.1.toNat]? = some rb) (hrb : H' rb = some (.list ((List.range n).map λ k : Nat => cell (rm G₂ (l'.take j) (q.1,k))))) :
  PL2 n G₂ e tc x d bp bd rows l H ta ps i l' (j + 1) () (upd H' rb (.list (((List.range n).map λ k : Nat => cell (rm G₂ (l'.take j) (q.1,k))).set q.2.toNat .none))) := by
 obtain ⟨c1,c2,c3,c4,c5,c6⟩ := h
 have hrm : rb ∈ rows := List.mem_of_getElem? hb1
 refine ⟨?_,?_,λ w hw => GrpAt.updList (c3 w hw) hrb,c4.row hrm,?_,?_⟩
 ·rw [take_snoc hq,<- rm_snoc]
  exact c1.put (v := none) qg.1.1 qg.2.1 qg.2.2 hb1
 ·rw [upd_ne (λ w : ta = rb => htr (by rw [w]; exact hrm))]; exact c2
 ·rw [upd_ne (λ w => by rw [w,hrb] at c5; cases c5)]; exact c5
 ·rw [upd_ne (λ w => by rw [w,hrb] at c6; cases c6)]; exact c6
theorem PL2.fin {G₁ : Pt -> Option Str} {tc : List GR} {l : Ls} {H' : AHeap} {ta : Addr} {i : Nat} {y : GR} {l' : List Pt} (h : PL2 n (rm G₁ (ptsOf ((tc.take i).map GR.cp))) e tc x d bp bd rows l H ta y.ps i l' l'.length () H') (hy : tc[i]? = some y) (hp : l'.Perm y.P) :
  PL1 n G₁ e tc x d bp bd rows l H ta (i + 1) () (upd H' y.ps (.pset y.P)) := by
 obtain ⟨c1,c2,c3,c4,c5,c6⟩ := h
 rw [List.take_length] at c1
 have ex6 : Ext H' (upd H' y.ps (.pset y.P)) := Ext.upd (Ext.refl _) c6
 refine ⟨?_,ex6 _ _ c2,λ w hw => GrpAt.ext (c3 w hw) ex6,c4.ext ex6,ex6 _ _ c5⟩
 have e1 : ptsOf ((tc.take (i + 1)).map GR.cp) = ptsOf ((tc.take i).map GR.cp) ++ y.P := by
  rw [take_snoc hy,List.map_append]
  simp [ptsOf,GR.cp]
 rw [e1,<- rm_append,<- rm_congr (G := rm G₁ (ptsOf ((tc.take i).map GR.cp))) (λ q => hp.mem_iff (a := q))]
 exact c1.ext ex6
theorem play_spec (hL : L1 T.C) (hn : 6 <= T.n) (hh : T.hd = false) (B : BdAt x d bp bd rows n G e H) {r c : Int} (hg : inG n (r,c)) {col opp : Str} (hco : Cols col opp) (hval : ∀ q s,G q = some s -> s = col \/ s = opp)
  (hz : ∃ l,H d = some (.attrs l) /\ l.length <= 4000) (hX : X = "ValueError") (hR : G (r,c) ≠ none -> R H) :
  SCode T X (.ref a_play) [.ref x,.int r,.int c,.str col] H (PlayPost n G (r,c) col opp x d bp bd rows H) R := by
 obtain ⟨l0,hd0,hz0⟩ := hz
 have g1 : 0 <= r := hg.1.1
 have g2 : r < n := hg.1.2
 have g3 : 0 <= c := hg.2.1
 have g4 : c < n := hg.2.2
 refine SCode.post λ Q hQ => ?_
 refine hL.f_play hh (by omega) rfl ?_
 refine br_dec (λ q => absurd q (by omega)) λ _ => ?_
 refine br_dec (λ q => absurd q (by omega)) λ _ => ?_
 refine SCode.call (opponent_spec (T := T.down) hL (by show 1 <= T.n - 1; omega) hh hco) λ p H' h => ?_
 obtain ⟨rfl,rfl⟩ := h
 refine B.gBoard hL ?_
 refine B.at1 g1 g2 λ ra hr1 hra => ?_
 refine sub2 hra g3 g4 B.five ?_
 cases hG : G (r,c) with
 | some c' => exact ⟨hX,raiseV,hR (by rw [hG]; simp)⟩
 | none =>
 refine B.gBoard hL ?_
 refine B.at1 g1 g2 λ ra' hr1' hra' => ?_
 rw [hr1] at hr1'; cases hr1'
 refine SSetItem.list hra g3 (by simpa using g4) (by simp; have := B.five; omega) ?_
 have B1 := B.put (v := some col) g1 g3 g4 hr1
 have hram : ra ∈ rows := List.mem_of_getElem? hr1
 have hdra : d ≠ ra := λ q => by rw [q,hra] at hd0; cases hd0
 have K1 : Keep H' d rows (upd H' ra (.list (((List.range n).map λ k : Nat => cell (G (r,k))).set c.toNat (cell (some col))))) := Keep.refl.row hram
 have hd1 : upd H' ra (.list (((List.range n).map λ k : Nat => cell (G (r,k))).set c.toNat (cell (some col)))) d = some (.attrs l0) := by rw [upd_ne hdra]; exact hd0
 refine SSetAttr.inst hL.clsB (hL.fd (by kernel_rfl)) B1.inst hd1 (by omega) ?_
 have B2 := B1.mark (e' := false) hd1 (by omega)
 have K2 := K1.dict (o := .attrs (("_is_empty",.bool false) :: l0))
 have hd2 : upd (upd H' ra (.list (((List.range n).map λ k : Nat => cell (G (r,k))).set c.toNat (cell (some col))))) d (.attrs (("_is_empty",.bool false) :: l0)) d = some (.attrs (("_is_empty",.bool false) :: l0)) := upd_same
 change w _ _ _ _ _ (upd (upd H' ra (.list (((List.range n).map λ k : Nat => cell (G (r,k))).set c.toNat (cell (some col))))) d (.attrs (("_is_empty",.bool false) :: l0))) _ _
 generalize upd (upd H' ra (.list (((List.range n).map λ k : Nat => cell (G (r,k))).set c.toNat (cell (some col))))) d (.attrs (("_is_empty",.bool false) :: l0)) = H2 at B2 K2 hd2 ⊢
 clear B1 K1 hd1
 refine M.own (B2.meth hL (by decide +kernel) (by kernel_rfl) (by kernel_rfl) (by kernel_rfl)) (SCode.call (find_spec (T := T.down) hL (by show 4 <= T.n - 1; omega) hh B2) λ p H3 h => ?_)
 obtain ⟨sa,gs,hdl,rfl,ex3,hsa,ksa,kg,lg,fs⟩ := h
 have lg : gs.length <= 5 := lg
 have B3 := B2.ext ex3
 have K3 := K2.ext ex3
 have hd3 := ex3 _ _ hd2
 have hLlen : (gs.map GR.cp).length = gs.length := List.length_map _
 have hcol : ∀ A ∈ gs.map GR.cp,A.1 = col \/ A.1 = opp := λ A hA => by
  obtain ⟨z,_,hz,_⟩ := fs.grp A hA
  have := hz.col
  unfold AM.put at this
  split at this
  ·exact .inl (Option.some.inj this).symm
  ·exact hval z _ this
 have hgl : (gs.map λ y => PV.ref y.g).length <= 100000 := by rw [List.length_map]; omega
 refine STr.list (.inl ksa) hgl ?_
 by_cases hnil : gs = []
 ·subst hnil
  exact hQ _ _ ⟨[],hdl,l0,_,hG,fs,by simp,rfl,by rw [show ptsOf (capOf opp []) = [] from rfl,rm_nil]; exact B3,K3,hd0,hd3,by simp⟩
 have hemp : (gs.map λ y => PV.ref y.g).isEmpty = false := by simpa using hnil
 rw [hemp]
 have hsr := list_notrow B2 hsa
 refine Exists.intro Addr (Exists.intro (λ ta => [(0,.ref x),(8,.ref ta),(6,pvPt (koOf col opp (gs.map GR.cp)))]) (Exists.intro (PCut n (AM.put G (r,c) (some col)) opp gs x d bp bd rows (l0.length + 2) H' H2) (And.intro ?_ ?_)))
 ·refine SCall.lenL (.inl ksa) hgl ?_
  refine br_dec (λ h1 => ?_) (λ h1 => ?_)
  ·have hl1 : gs.length = 1 := by rw [List.length_map] at h1; omega
   obtain ⟨y,rfl⟩ := List.length_eq_one_iff.mp hl1
   have ya := (kg y (.head _)).at_
   refine SSub.list ksa (by decide) (by decide) rfl ?_
   refine GrpAt.gPts hL ya ?_
   refine SCall.lenS ya.pts ?_
   refine B3.gSide hL ?_
   refine B3.gSide hL ?_
   refine And.intro (mulOk5 B.five) ?_
   have hcap : List.map GR.cp [y] = capOf opp (List.map GR.cp [y]) := rfl
   refine br_dec (λ h2 => ?_) (λ h2 => ?_)
   ·refine SSetAttr.inst hL.clsB (hL.fd (by kernel_rfl)) B3.inst hd3 (by simp; omega) ?_
    have hem : emOf n (List.map GR.cp [y]) = true := by simp only [List.map_cons,List.map_nil,emOf,GR.cp]; simp; exact_mod_cast h2
    refine ⟨sa,⟨rfl,rfl,rfl,trivial⟩,[y],_,hcap,λ _ h => h,?_,hsr,?_,?_,K3.dict,upd_same,by simp⟩
    ·rw [upd_ne (λ q => by rw [q,hd3] at ksa; cases ksa)]; exact ksa
    ·intro z hz
     have k := kg z hz
     exact ⟨GrpAt.updAttrs k.at_ hd3 (λ q => by have := k.nd; rw [q,hd2] at this; cases this),k.ng,k.nd,k.np⟩
    ·rw [hem]; exact B3.mark hd3 (by simp; omega)
   ·have hem : emOf n (List.map GR.cp [y]) = false := by simp only [List.map_cons,List.map_nil,emOf,GR.cp]; simp; intro q; exact h2 (by exact_mod_cast q)
    exact ⟨sa,⟨rfl,rfl,rfl,trivial⟩,[y],_,hcap,λ _ h => h,ksa,hsr,kg,by rw [hem]; exact B3,K3,hd3,by simp⟩
  ·have hl2 : 2 <= gs.length := by
    have : gs.length ≠ 0 := λ q => hnil (List.length_eq_zero_iff.mp q)
    rw [List.length_map] at h1; omega
   refine WComp.list sa _ rfl ksa hgl (λ i out H' => H' = H3 /\ out = ((gs.take i).filter λ y => y.col == opp).map λ y => PV.ref y.g) ⟨rfl,rfl⟩ (λ i out H'' h => h.1 ▸ ksa) (λ i v out H'' hv h => ?_) (λ out H'' h => ?_)
   ·obtain ⟨rfl,rfl⟩ := h
    obtain ⟨y,hy,rfl⟩ := map_get hv
    refine GrpAt.gCol hL (kg y (List.mem_of_getElem? hy)).at_ ?_
    refine br (λ q => ⟨rfl,?_⟩) (λ q => ⟨rfl,?_⟩)
    ·rw [filter_snoc hy,q]; rfl
    ·rw [filter_snoc hy,q]; rfl
   obtain ⟨rfl,rfl⟩ := h
   refine ⟨H'',Ext.refl _,λ ta hta => ?_⟩
   rw [List.length_map,List.take_length]
   have hsrt : ta ∉ rows := list_notrow B3 hta
   have htcp : (gs.filter λ y => y.col == opp).map GR.cp = (gs.map GR.cp).filter λ A => A.1 == opp := by rw [List.filter_map]; rfl
   have hcap : (gs.filter λ y => y.col == opp).map GR.cp = capOf opp (gs.map GR.cp) := by
    rw [htcp]; unfold capOf; rw [if_neg (by rw [hLlen]; omega)]
   have hscp : (gs.filter λ y => y.col == col).map GR.cp = (gs.map GR.cp).filter λ A => A.1 == col := by rw [List.filter_map]; rfl
   have hem : emOf n (gs.map GR.cp) = false := emOf_two (by rw [List.length_map]; exact hl2)
   generalize htc : (gs.filter λ y => y.col == opp) = tc at htcp hcap ⊢
   have hsub : ∀ y ∈ tc,y ∈ gs := λ y hy => by rw [<- htc] at hy; exact (List.mem_filter.mp hy).1
   have htcl : (tc.map λ y => PV.ref y.g).length <= 100000 := by rw [List.length_map,<- htc]; exact Nat.le_trans (List.length_filter_le _ _) (by omega)
   have ex4 : Ext H'' (upd H'' ta (.list (tc.map λ y => PV.ref y.g))) := Ext.upd (Ext.refl _) hta
   have hta4 : upd H'' ta (.list (tc.map λ y => PV.ref y.g)) ta = some (.list (tc.map λ y => PV.ref y.g)) := upd_same
   change w _ _ _ _ _ (upd H'' ta (.list (tc.map λ y => PV.ref y.g))) _ _
   generalize upd H'' ta (.list (tc.map λ y => PV.ref y.g)) = H4 at ex4 hta4 ⊢
   have B4 := B3.ext ex4
   have K4 := K3.ext ex4
   have hd4 := ex4 _ _ hd3
   have ksa4 := ex4 _ _ ksa
   have kg4 : ∀ y ∈ gs,y.New H2 H4 := λ y hy => (kg y hy).ext ex4
   have fin : ∀ H5 : AHeap,Ext H4 H5 -> PCut n (AM.put G (r,c) (some col)) opp gs x d bp bd rows (l0.length + 2) H' H2 ta H5 := λ H5 ex =>
    ⟨tc,_,hcap,hsub,ex _ _ hta4,hsrt,λ y hy => (kg4 y hy).ext ex,by rw [hem]; exact B4.ext ex,K4.ext ex,ex _ _ hd4,by simp⟩
   have nko : koOf col opp (gs.map GR.cp) = none -> SubN [(0,PV.ref x),(8,PV.ref ta),(6,pvPt (koOf col opp (gs.map GR.cp)))] [(8,.ref ta),(6,.none),(5,.ref sa),(4,.str opp),(0,.ref x),(1,.int r),(2,.int c),(3,.str col)] := λ q => by rw [q]; exact ⟨rfl,rfl,rfl,trivial⟩
   refine SCall.lenL (.inl hta4) htcl ?_
   refine br_dec (λ h3 => ?_) (λ h3 => ⟨ta,nko (koOf_a (by rw [<- htcp,List.length_map]; intro q; apply h3; rw [List.length_map,q]; rfl)),fin _ (Ext.refl _)⟩)
   obtain ⟨y,hy1⟩ := List.length_eq_one_iff.mp (show tc.length = 1 by rw [List.length_map] at h3; omega)
   subst hy1
   have ya := (kg4 y (hsub y (.head _))).at_
   refine SSub.list hta4 (by decide) (by decide) rfl ?_
   refine GrpAt.gPts hL ya ?_
   refine SCall.lenS ya.pts ?_
   refine br_dec (λ h4 => ?_) (λ h4 => ⟨ta,nko (koOf_b htcp.symm (by intro q; apply h4; simp only [GR.cp] at q; simp [q])),fin _ (Ext.refl _)⟩)
   obtain ⟨kq,hkq⟩ := List.length_eq_one_iff.mp (show y.P.length = 1 by omega)
   refine WComp.list sa _ rfl ksa4 hgl (λ i out H' => H' = H4 /\ out = ((gs.take i).filter λ y => y.col == col).map λ y => PV.ref y.g) ⟨rfl,rfl⟩ (λ i out H'' h => h.1 ▸ ksa4) (λ i v out H'' hv h => ?_) (λ out H'' h => ?_)
   ·obtain ⟨rfl,rfl⟩ := h
    obtain ⟨y,hy,rfl⟩ := map_get hv
    refine GrpAt.gCol hL (kg4 y (List.mem_of_getElem? hy)).at_ ?_
    refine br (λ q => ⟨rfl,?_⟩) (λ q => ⟨rfl,?_⟩)
    ·rw [filter_snoc hy,q]; rfl
    ·rw [filter_snoc hy,q]; rfl
   obtain ⟨rfl,rfl⟩ := h
   refine ⟨H'',Ext.refl _,λ sc hsc => ?_⟩
   rw [List.length_map,List.take_length]
   obtain ⟨A0,r0,hA0⟩ := own_there hcol (by rw [hLlen]; omega) (by rw [<- htcp]; rfl)
   rw [<- hscp] at hA0
   have hss : ∀ y ∈ (gs.filter λ y => y.col == col),y ∈ gs := λ y hy => (List.mem_filter.mp hy).1
   generalize (gs.filter λ y => y.col == col) = ss at hA0 hscp hss ⊢
   cases ss with
   | nil => cases hA0
   | cons y' ss' =>
   have ex5 : Ext H'' (upd H'' sc (.list ((y' :: ss').map λ y => PV.ref y.g))) := Ext.upd (Ext.refl _) hsc
   have ksc : upd H'' sc (.list ((y' :: ss').map λ y => PV.ref y.g)) sc = some (.list ((y' :: ss').map λ y => PV.ref y.g)) := upd_same
   change w _ _ _ _ _ (upd H'' sc (.list ((y' :: ss').map λ y => PV.ref y.g))) _ _
   generalize upd H'' sc (.list ((y' :: ss').map λ y => PV.ref y.g)) = H5 at ex5 ksc ⊢
   have ya' : y'.At H5 := ((kg4 y' (hss y' (.head _))).ext ex5).at_
   refine SSub.list ksc (by decide) (by decide) rfl ?_
   refine GrpAt.gPts hL ya' ?_
   refine SCall.lenS ya'.pts ?_
   refine br_dec (λ h5 => ?_) (λ h5 => ⟨ta,by rw [koOf_c (B := y'.cp) (r := ss'.map GR.cp) hscp.symm (by intro q; apply h5; simp only [GR.cp] at q; simp [q])]; exact ⟨rfl,rfl,rfl,trivial⟩,fin _ ex5⟩)
   obtain ⟨kq',hkq'⟩ := List.length_eq_one_iff.mp (show y'.P.length = 1 by omega)
   refine SSub.list (ex5 _ _ hta4) (by decide) (by decide) rfl ?_
   have ya5 : y.At H5 := GrpAt.ext ya ex5
   refine GrpAt.gPts hL ya5 ?_
   refine ⟨y.ps,kq,rfl,by have := ya5.pts; rw [hkq] at this; exact this,ta,?_,fin _ ex5⟩
   rw [koOf_d (q := kq) (q' := kq') (o := y.col) (s := y'.col) (r := ss'.map GR.cp) (by rw [hLlen]; omega) (by rw [<- htcp]; simp [GR.cp,hkq]) (by rw [<- hscp]; simp [GR.cp,hkq'])]
   exact ⟨rfl,rfl,rfl,trivial⟩
 ·rintro ta Hc ⟨tc,l,htc,hsub,hta,htr,kg',B',K',hdl',hll⟩
  have hnew : ∀ a,H2 a = none -> H' a = none := λ a ha => by
   cases q : H' a with
   | none => rfl
   | some o =>
    have h1 : a ≠ d := λ w => by rw [w,hd2] at ha; cases ha
    have := K2 a o q h1 (list_notrow B2 ha)
    rw [ha] at this; cases this
  have hpw : (tc.map GR.cp).Pairwise λ A B => ∀ q ∈ A.2,q ∉ B.2 := by
   rw [htc]; unfold capOf; split
   ·exact fs.apart
   ·exact fs.apart.filter _
  refine WFor.list ta _ rfl hta Unit (λ _ => [(0,.ref x),(6,pvPt (koOf col opp (gs.map GR.cp)))]) (PL1 n (AM.put G (r,c) (some col)) (emOf n (gs.map GR.cp)) tc x d bp bd rows l H' ta) () ⟨rfl,rfl,trivial⟩ ?_ (λ i b H'' h => h.hta) ?_ ?_
  ·exact ⟨by rw [show ptsOf (List.map GR.cp (tc.take 0)) = [] from rfl,rm_nil]; exact B',hta,λ y hy => (kg' y (hsub y hy)).at_,K',hdl'⟩
  ·rintro i p u H'' hp hpl
   obtain ⟨y,hy,rfl⟩ := map_get hp
   have hilt := (List.getElem?_eq_some_iff.mp hy).1
   have hyd : tc.drop i = y :: tc.drop (i + 1) := by rw [List.drop_eq_getElem_cons hilt,(List.getElem?_eq_some_iff.mp hy).2]
   have ya : y.At H'' := hpl.kg y (by rw [hyd]; exact .head _)
   have hyg := hsub y (List.mem_of_getElem? hy)
   obtain ⟨z0,_,hz0g,_⟩ := fs.grp y.cp (List.mem_map.mpr ⟨y,hyg,rfl⟩)
   have hyn := hnew _ (kg' y hyg).np
   have hps : ∀ w ∈ tc.drop (i + 1),w.ps ≠ y.ps := λ w hw q => by
    have wa : w.At H'' := hpl.kg w (by rw [hyd]; exact .tail _ hw)
    have e1 := wa.pts
    rw [q,ya.pts] at e1
    have e2 : y.P = w.P := by injection e1 with e1; injection e1
    have hp2 := hpw
    rw [<- List.take_append_drop i tc,hyd,List.map_append,List.map_cons] at hp2
    have := (List.pairwise_cons.mp (List.pairwise_append.mp hp2).2.1).1 w.cp (List.mem_map.mpr ⟨w,hw,rfl⟩) z0 hz0g.self
    exact this (by show z0 ∈ w.P; rw [<- e2]; exact hz0g.self)
   refine GrpAt.gPts hL ya ?_
   refine WFor.set hh y.ps y.P rfl ya.pts Unit (λ _ => [(0,.ref x),(6,pvPt (koOf col opp (gs.map GR.cp)))]) (PL2 n (rm (AM.put G (r,c) (some col)) (ptsOf ((tc.take i).map GR.cp))) (emOf n (gs.map GR.cp)) tc x d bp bd rows l H' ta y.ps i) () ⟨rfl,rfl,trivial⟩ ?_ ?_ ?_
   ·exact λ l' hperm => hpl.first hy hyd hyn hps
   ·intro l' j q u H3 hperm hq hp2
    have hqg : inG n q := ((hz0g.mem q).mp ((hperm.mem_iff).mp (List.mem_of_getElem? hq))).inG
    refine hp2.at_.gBoard hL ?_
    refine hp2.at_.at1 hqg.1.1 hqg.1.2 λ rb hb1 hrb => ?_
    refine SSetItem.list hrb hqg.2.1 (by simpa using hqg.2.2) (by simp; have := B.five; omega) ?_
    exact ⟨(),⟨rfl,rfl,trivial⟩,hp2.turn hq hqg htr hb1 hrb⟩
   ·intro l' u H3 hperm hp2
    exact ⟨(),⟨rfl,rfl,trivial⟩,hp2.fin hy hperm⟩
  ·rintro u H'' ⟨b1,b2,b3,b4,b5⟩
   rw [List.length_map,List.take_length,htc] at b1
   exact hQ _ _ ⟨gs.map GR.cp,hdl,l0,l,hG,fs,by rw [hLlen]; exact lg,rfl,b1,b4,hd0,b5,hll⟩
end
end
section
inductive InitPost (n : Nat) (x d : Addr) (H : AHeap) (p : PV) (H' : AHeap) : Prop
 | mk (bp bd : Addr) (rows : List Addr) (l : Ls) (e : p = .none) (at_ : BdAt x d bp bd rows n (λ _ => none) true H') (hl : H' d = some (.attrs l)) (le : l.length <= 10) (kp : Keep H d [] H') (np : H bp = none) (nb : H bd = none) (nr : ∀ a ∈ rows,H a = none) : InitPost n x d H p H'
structure InitI (n : Nat) (x d bp bd : Addr) (H : AHeap) (i : Nat) (u : Unit) (H' : AHeap) : Prop where
 rows : ∃ rows : List Addr,(rows.length = i /\ rows.Nodup) /\ (bp ∉ rows /\ bd ∉ rows) /\ H' bd = some (.list (rows.map .ref)) /\ ∀ a ∈ rows,H' a = some (.list (List.replicate n .none)) /\ H a = none
 hx : H' x = some (.inst a_Board d)
 hd : H' d = some (.attrs [("board",.ref bd),("board_points",.ref bp),("side",.int n)])
 hbp : H' bp = some (.list (gather2 n n λ i j => some (pt (i,j))))
 kp : Keep H d [] H'
section
variable {T : Tr} {X : String} {H : AHeap} {R : AHeap -> Prop} {x d bp bd : Addr} {rows : List Addr} {n : Nat} {G : Pt -> Option Str} {e : Bool}
theorem Keep.none {H' : AHeap} {a : Addr} (k : Keep H d [] H') (ha : H' a = none) (hd : H' d ≠ none) : H a = none := by
 cases q : H a with
 | none => rfl
 | some o =>
  have := k a o q (λ w => hd (by rw [<- w]; exact ha)) (by simp)
  rw [ha] at this; cases this
theorem InitI.turn {H' H7 : AHeap} {i : Nat} {c : Addr} (h : InitI n x d bp bd H i () H') (hbdd : bd ≠ d) (hbdp : bd ≠ bp) (hbn : H bd = none) (ex7 : Ext H' H7) (hcn : H' c = none) (hc7 : H7 c = some (.list (List.replicate n PV.none))) :
  ∃ rows : List Addr,rows.length = i /\ H7 bd = some (.list (rows.map .ref)) /\ InitI n x d bp bd H (i + 1) () (upd H7 bd (.list (rows.map .ref ++ [.ref c]))) := by
 obtain ⟨⟨rows,⟨r1,r2⟩,⟨r3,r4⟩,r8,r9⟩,r5,r6,r7,r10⟩ := h
 have hne : ∀ b o,H' b = some o -> b ≠ c := λ b o hb q => by rw [q,hcn] at hb; cases hb
 have hcr : c ∉ rows := λ h => hne c _ (r9 c h).1 rfl
 have kn : ∀ b,b ≠ bd -> upd H7 bd (.list (List.map PV.ref rows ++ [PV.ref c])) b = H7 b := λ b hb => upd_ne hb
 have hbx : x ≠ bd := λ q => by rw [q,r8] at r5; cases r5
 refine ⟨rows,r1,ex7 _ _ r8,⟨rows ++ [c],⟨by simp [r1],?_⟩,⟨?_,?_⟩,?_,?_⟩,?_,?_,?_,?_⟩
 ·exact List.nodup_append.mpr ⟨r2,by simp,λ a ha b hb q => hcr (by rw [List.mem_singleton.mp hb] at q; rw [<- q]; exact ha)⟩
 ·intro h
  rcases List.mem_append.mp h with h | h
  ·exact r3 h
  ·exact hne bp _ r7 (List.mem_singleton.mp h)
 ·intro h
  rcases List.mem_append.mp h with h | h
  ·exact r4 h
  ·exact hne bd _ r8 (List.mem_singleton.mp h)
 ·rw [upd_same,List.map_append]; rfl
 ·intro b hb
  rcases List.mem_append.mp hb with hb | hb
  ·rw [kn b (λ q => r4 (q ▸ hb))]; exact ⟨ex7 _ _ (r9 b hb).1,(r9 b hb).2⟩
  ·rw [List.mem_singleton.mp hb,kn c (λ q => hne bd _ r8 q.symm)]; exact ⟨hc7,r10.none hcn (by rw [r6]; simp)⟩
 ·rw [kn x hbx]; exact ex7 _ _ r5
 ·rw [kn d hbdd.symm]; exact ex7 _ _ r6
 ·rw [kn bp hbdp.symm]; exact ex7 _ _ r7
 ·exact (r10.ext ex7).new hbn
theorem InitI.fin {H' : AHeap} (h : InitI n x d bp bd H n () H') (hxd : x ≠ d) (hbpd : bp ≠ d) (hbdd : bd ≠ d) (h3 : 2 <= n) (h5 : n <= 5) (np : H bp = none) (nb : H bd = none) :
  InitPost n x d H .none (upd H' d (.attrs [("_is_empty",.bool true),("board",.ref bd),("board_points",.ref bp),("side",.int n)])) := by
 obtain ⟨⟨rows,⟨r1,r2⟩,⟨r3,r4⟩,r8,r9⟩,r5,r6,r7,r10⟩ := h
 refine ⟨bp,bd,rows,_,rfl,⟨by rw [upd_ne hxd]; exact r5,⟨_,upd_same,by simp,?_,?_,?_,?_,?_⟩,by rw [upd_ne hbpd]; exact r7,by rw [upd_ne hbdd]; exact r8,r1,?_,r2,h3,h5,r3,r4⟩,upd_same,by simp,r10.dict,np,nb,λ a ha => (r9 a ha).2⟩
 ·exact lk_next (by decide +kernel) (lk_next (by decide +kernel) (lk_next (by decide +kernel) lk_here))
 ·exact lk_next (by decide +kernel) (lk_next (by decide +kernel) lk_here)
 ·exact lk_next (by decide +kernel) lk_here
 ·exact lk_here
 ·intro m hm
  refine lk_none ?_ (lk_none ?_ (lk_none ?_ (lk_none ?_ rfl))) <;> (revert m; decide +kernel)
 ·intro i b hb
  have hbr := List.mem_of_getElem? hb
  rw [upd_ne (λ q => by have := (r9 b hbr).1; rw [q,r6] at this; cases this),(r9 b hbr).1]
  congr 2
  apply List.ext_getElem?
  intro k
  rw [List.getElem?_map]
  by_cases hk : k < n
  ·rw [List.getElem?_range hk,List.getElem?_replicate,if_pos hk]; rfl
  ·rw [List.getElem?_eq_none (by simpa using hk),List.getElem?_eq_none (by simpa using hk)]; rfl
theorem init_spec (hL : L1 T.C) (hn : 3 <= T.n) (hh : T.hd = false) (hx : H x = some (.inst a_Board d)) (hd0 : H d = some (.attrs [])) (h3 : 2 <= n) (h5 : n <= 5) :
  SCode T X (.ref a_init) [.ref x,.int n] H (InitPost n x d H) R := by
 refine hL.f_init hh (by omega) rfl ?_
 have hxd : x ≠ d := λ q => by rw [q,hd0] at hx; cases hx
 refine SSetAttr.inst hL.clsB (hL.fd (by kernel_rfl)) hx hd0 (by simp) ?_
 have hx1 : upd H d (.attrs [("side",.int n)]) x = some (.inst a_Board d) := by rw [upd_ne hxd]; exact hx
 have hd1 : upd H d (.attrs [("side",.int n)]) d = some (.attrs [("side",.int n)]) := upd_same
 have K1 : Keep H d [] (upd H d (.attrs [("side",.int n)])) := Keep.refl.dict
 change cond _ (wS _ _ _ _ (upd H d (.attrs [("side",.int n)])) _ _) (wS _ _ _ _ (upd H d (.attrs [("side",.int n)])) _ _)
 generalize upd H d (.attrs [("side",.int n)]) = H1 at hx1 hd1 K1 ⊢
 refine br_dec (λ q => absurd q (by omega)) λ _ => ?_
 refine Exists.intro n (Exists.intro n (Exists.intro (λ i j => some (pt (i,j))) (And.intro (by have : n * n <= 5 * 5 := Nat.mul_le_mul h5 h5; omega) (And.intro (by omega) (And.intro (by omega) (SCall.range1 λ a hra => Exists.intro a (And.intro rfl (And.intro upd_same (And.intro ?_ (And.intro ?_ ?_)))))))) ))
 ·intro i H' hi ex
  exact SCall.range1 λ b hb => ⟨b,rfl,upd_same,Ext.upd ex (ex.none hb)⟩
 ·intro i j H' hi hj ex
  exact ⟨ex,_,rfl,rfl,ex⟩
 intro bp hbp
 have hbpd : bp ≠ d := λ q => by
  rw [q] at hbp
  have : upd H1 a (.range 0 n) d = some (.attrs [("side",.int n)]) := Ext.upd (Ext.refl _) hra _ _ hd1
  rw [this] at hbp; cases hbp
 have ex2 : Ext H1 (upd (upd H1 a (.range 0 n)) bp (.list (gather2 n n λ i j => some (pt (i,j))))) := λ b o hb => Ext.upd (Ext.refl _) hbp _ _ (Ext.upd (Ext.refl _) hra _ _ hb)
 have hbp2 : upd (upd H1 a (.range 0 n)) bp (.list (gather2 n n λ i j => some (pt (i,j)))) bp = some (.list (gather2 n n λ i j => some (pt (i,j)))) := upd_same
 have hx2 := ex2 _ _ hx1
 have hd2 := ex2 _ _ hd1
 have K2 := K1.ext ex2
 have np : H bp = none := K1.none (Ext.none (Ext.upd (Ext.refl _) hra) hbp) (by rw [hd1]; simp)
 change SSetAttr _ _ _ _ (upd (upd H1 a (.range 0 n)) bp (.list (gather2 n n λ i j => some (pt (i,j))))) _
 generalize upd (upd H1 a (.range 0 n)) bp (.list (gather2 n n λ i j => some (pt (i,j)))) = H2 at ex2 hbp2 hx2 hd2 K2 ⊢
 refine SSetAttr.inst hL.clsB (hL.fd (by kernel_rfl)) hx2 hd2 (by simp) ?_
 have hx3 : upd H2 d (.attrs [("board_points",.ref bp),("side",.int n)]) x = some (.inst a_Board d) := by rw [upd_ne hxd]; exact hx2
 have hd3 : upd H2 d (.attrs [("board_points",.ref bp),("side",.int n)]) d = some (.attrs [("board_points",.ref bp),("side",.int n)]) := upd_same
 have hbp3 : upd H2 d (.attrs [("board_points",.ref bp),("side",.int n)]) bp = some (.list (gather2 n n λ i j => some (pt (i,j)))) := by rw [upd_ne hbpd]; exact hbp2
 have K3 : Keep H d [] (upd H2 d (.attrs [("board_points",.ref bp),("side",.int n)])) := K2.dict
 intro bd hbd
 change upd H2 d (.attrs [("board_points",.ref bp),("side",.int n)]) bd = none at hbd
 change SSetAttr _ _ _ _ (upd (upd H2 d (.attrs [("board_points",.ref bp),("side",.int n)])) bd (.list [])) _
 generalize upd H2 d (.attrs [("board_points",.ref bp),("side",.int n)]) = H3 at hx3 hd3 hbp3 K3 hbd ⊢
 have hbdd : bd ≠ d := λ q => by rw [q,hd3] at hbd; cases hbd
 have hbdp : bd ≠ bp := λ q => by rw [q,hbp3] at hbd; cases hbd
 have ex4 : Ext H3 (upd H3 bd (.list [])) := Ext.upd (Ext.refl _) hbd
 have hbd4 : upd H3 bd (.list []) bd = some (.list []) := upd_same
 have hbdn : H bd = none := K3.none hbd (by rw [hd3]; simp)
 have hx4 := ex4 _ _ hx3
 have hd4 := ex4 _ _ hd3
 have hbp4 := ex4 _ _ hbp3
 have K4 := K3.ext ex4
 generalize upd H3 bd (.list []) = H4 at ex4 hbd4 hx4 hd4 hbp4 K4 ⊢
 refine SSetAttr.inst hL.clsB (hL.fd (by kernel_rfl)) hx4 hd4 (by simp) ?_
 refine SCall.range1 λ ra hra => ?_
 change upd H4 d (.attrs [("board",.ref bd),("board_points",.ref bp),("side",.int n)]) ra = none at hra
 have exr := Ext.upd (o := .range 0 n) (Ext.refl _) hra
 refine WFor.range ra n rfl upd_same (by omega) Unit (λ _ => [(0,.ref x),(1,.int n)]) (InitI n x d bp bd H) () ⟨rfl,rfl,trivial⟩ ?_ ?_ ?_
 ·refine ⟨⟨[],⟨rfl,List.nodup_nil⟩,⟨by simp,by simp⟩,exr _ _ (by rw [upd_ne hbdd]; exact hbd4),by simp⟩,exr _ _ (by rw [upd_ne hxd]; exact hx4),exr _ _ upd_same,exr _ _ (by rw [upd_ne hbpd]; exact hbp4),K4.dict.ext exr⟩
 ·rintro i u H' hi hI
  refine SGet.inst hL.clsB (hL.fd (by kernel_rfl)) hI.hx hI.hd (p := .ref bd) lk_here rfl ?_
  obtain ⟨rows0,-,-,r8,-⟩ := hI.rows
  refine Exists.intro _ (And.intro (SMeth.append r8) ?_)
  intro la hla
  refine SBin.mulL upd_same (by omega) (by omega) λ c hc => ?_
  have ex7 : Ext H' (upd (upd H' la (.list [PV.none])) c (.list (List.replicate (n : Int).toNat PV.none))) := λ b o hb => Ext.upd (Ext.refl _) hc _ _ (Ext.upd (Ext.refl _) hla _ _ hb)
  have hcn : H' c = none := Ext.none (Ext.upd (Ext.refl _) hla) hc
  obtain ⟨rows,r1,r8',hI'⟩ := hI.turn hbdd hbdp hbdn ex7 hcn upd_same
  refine SCall.append r8' (by rw [List.length_map]; omega) ?_
  exact ⟨(),⟨rfl,rfl,trivial⟩,hI'⟩
 ·rintro u H' hI
  refine SSetAttr.inst hL.clsB (hL.fd (by kernel_rfl)) hI.hx hI.hd (by simp) ?_
  exact hI.fin hxd hbpd hbdd h3 h5 np hbdn
end
end
section
section
theorem gather_aux {m : Nat} {f : Pt -> Option PV} (l : List Nat) : (l.flatMap λ i : Nat => (List.range m).filterMap λ j : Nat => f ((i : Int),(j : Int))) = (l.flatMap λ i : Nat => (List.range m).map λ j : Nat => (((i : Int),(j : Int)) : Pt)).filterMap f := by
 induction l with
 | nil => rfl
 | cons i l ih =>
  rw [List.flatMap_cons,List.flatMap_cons,List.filterMap_append,ih,List.filterMap_map]; rfl
theorem gather_grid {n : Nat} {f : Pt -> Option PV} : gather2 n n (λ i j => f ((i : Int),(j : Int))) = (grid n).filterMap f := gather_aux (List.range n)
theorem gather_pts {n : Nat} : gather2 n n (λ i j => some (pt ((i : Int),(j : Int)))) = (grid n).map pt := by
 rw [gather_grid (f := λ z => some (pt z))]
 rw [List.filterMap_eq_map']
noncomputable def occ (n : Nat) (G : Pt -> Option Str) : List PV := (grid n).filterMap λ z => (G z).map λ c => PV.tup [.str c,pt z]
theorem grid_le {n : Nat} (h : n <= 5) : (grid n).length <= 25 := by
 rw [grid_length]; exact Nat.mul_le_mul h h
noncomputable def dpt (z : Pt) : Dat := .tuple [.int z.1,.int z.2]
theorem dpt_inj {z y : Pt} (h : dpt z = dpt y) : z = y := by
 obtain ⟨a,b⟩ := z; obtain ⟨c,d⟩ := y
 simp only [dpt,Dat.tuple.injEq,List.cons.injEq,Dat.int.injEq,and_true] at h
 rw [h.1,h.2]
theorem hd_pt {C : Cx} {H : AHeap} {k : Nat} {z : Pt} : HD C H (k + 2) (pt z) (dpt z) := HD.tup' (All2.mk HD.int' (All2.mk HD.int' rfl))
theorem hd_pts {C : Cx} {H : AHeap} {k : Nat} (gl : List Pt) : All2 (HD C H (k + 2)) (gl.map pt) (gl.map dpt) := by
 induction gl with
 | nil => rfl
 | cons z gl ih => exact ⟨_,_,rfl,hd_pt,ih⟩
theorem mem_dpts {z : Pt} {gl : List Pt} : dpt z ∈ gl.map dpt ↔ z ∈ gl := by
 rw [List.mem_map]
 exact ⟨λ ⟨y,hy,e⟩ => dpt_inj e ▸ hy,λ h => ⟨z,h,rfl⟩⟩
theorem fmod_rng {m : Int} {n : Nat} (h : 0 < n) : 0 <= m.fmod n /\ m.fmod n < n := ⟨Int.fmod_nonneg_of_pos _ (by omega),Int.fmod_lt_of_pos _ (by omega)⟩
noncomputable def docc (n : Nat) (G : Pt -> Option Str) : List Dat := (grid n).filterMap λ z => (G z).map λ c => Dat.tuple [.str c,dpt z]
theorem hd_occ_aux {C : Cx} {H : AHeap} {k : Nat} {G : Pt -> Option Str} (hv : ∀ z c,G z = some c -> PyData.strOk c = true) (gl : List Pt) : All2 (HD C H (k + 3)) (gl.filterMap λ z => (G z).map λ c => PV.tup [.str c,pt z]) (gl.filterMap λ z => (G z).map λ c => Dat.tuple [.str c,dpt z]) := by
 induction gl with
 | nil => rfl
 | cons z gl ih =>
  rw [List.filterMap_cons,List.filterMap_cons]
  cases hz : G z with
  | none => exact ih
  | some c => exact ⟨_,_,rfl,HD.tup' (All2.mk (HD.str' (hv z c hz)) (All2.mk hd_pt rfl)),ih⟩
theorem hd_occ {C : Cx} {H : AHeap} {a : Addr} {n : Nat} {G : Pt -> Option Str} (hv : ∀ z c,G z = some c -> PyData.strOk c = true) (hl : H a = some (.list (occ n G))) : HD C H 9 (.ref a) (.list (docc n G)) := HD.list' (.inl hl) (hd_occ_aux (k := 5) hv _)
theorem hd_ptl {C : Cx} {H : AHeap} {a : Addr} {gl : List Pt} (hl : H a = some (.list (gl.map pt))) : HD C H 9 (.ref a) (.list (gl.map dpt)) := HD.list' (.inl hl) (hd_pts (k := 6) _)
end
end
section
structure OccI (n : Nat) (G : Pt -> Option Str) (a1 : Addr) (H : AHeap) (k : Nat) (u : Unit) (H' : AHeap) : Prop where
 k1 : H' a1 = some (.list (((grid n).take k).filterMap λ z => (G z).map λ c => PV.tup [.str c,pt z]))
 ex : Ext H H'
inductive OccPost (n : Nat) (G : Pt -> Option Str) (H : AHeap) (p : PV) (H' : AHeap) : Prop
 | mk (a : Addr) (e : p = .ref a) (ex : Ext H H') (na : H a = none) (ka : H' a = some (.list (occ n G))) : OccPost n G H p H'
section
variable {T : Tr} {X : String} {H : AHeap} {R : AHeap -> Prop} {x d bp bd : Addr} {rows : List Addr} {n : Nat} {G : Pt -> Option Str} {e : Bool}
theorem occupied_spec (hL : L1 T.C) (hn : 3 <= T.n) (B : BdAt x d bp bd rows n G e H) :
  SCode T X (.ref a_list_occupied_points) [.ref x] H (OccPost n G H) R := by
 refine hL.f_list_occupied_points (by omega) rfl ?_
 intro a1 h1
 have ex1 : Ext H (upd H a1 (.list [])) := Ext.upd (Ext.refl _) h1
 refine (B.ext ex1).gPts hL ?_
 have hbp := B.pts
 rw [gather_pts] at hbp
 refine WFor.list bp ((grid n).map pt) rfl (ex1 _ _ hbp) Unit (λ _ => [(0,.ref x),(1,.ref a1)]) (OccI n G a1 H) () ⟨rfl,rfl,trivial⟩ ⟨upd_same,ex1⟩ (λ i b H' h => h.ex _ _ hbp) ?_ ?_
 ·rintro k p u H' hp hI
  obtain ⟨z,hz,rfl⟩ := map_get hp
  have hzg := mem_grid.mp (List.mem_of_getElem? hz)
  have htk := take_snoc hz
  have B' := B.ext hI.ex
  refine B'.gBoard hL ?_
  refine B'.at1 hzg.1.1 hzg.1.2 λ ra _ hra => ?_
  refine sub2 hra hzg.2.1 hzg.2.2 B.five ?_
  cases hG : G (z.1,z.2) with
  | none =>
   have hG : G z = none := hG
   refine ⟨(),⟨rfl,rfl,trivial⟩,?_,hI.ex⟩
   rw [htk,List.filterMap_append]; simp only [List.filterMap_cons,hG,Option.map_none,List.filterMap_nil,List.append_nil]; exact hI.k1
  | some c =>
   have hG : G z = some c := hG
   refine M.append hI.k1 ?_ ?_
   ·have h1 := List.length_filterMap_le (λ z => (G z).map λ c => PV.tup [.str c,pt z]) ((grid n).take k)
    have h3 := grid_le B.five
    have h4 : ((grid n).take k).length <= (grid n).length := by rw [List.length_take]; exact Nat.min_le_right _ _
    exact Nat.le_trans h1 (Nat.le_trans h4 (Nat.le_trans h3 (by decide)))
   refine ⟨(),⟨rfl,rfl,trivial⟩,?_,Ext.upd hI.ex h1⟩
   rw [upd_same,htk,List.filterMap_append]; simp only [List.filterMap_cons,hG,Option.map_some,List.filterMap_nil]; rfl
 ·rintro u H' hI
  have k1 := hI.k1
  rw [List.length_map,List.take_length] at k1
  exact ⟨a1,rfl,hI.ex,h1,k1⟩
end
end
section
inductive CopyPost (n : Nat) (G : Pt -> Option Str) (e : Bool) (H : AHeap) (p : PV) (H' : AHeap) : Prop
 | mk (x d bp bd : Addr) (rows : List Addr) (l : Ls) (ep : p = .ref x) (at_ : BdAt x d bp bd rows n G e H') (ex : Ext H H') (nd : H d = none) (nr : ∀ a ∈ rows,H a = none) (hl : H' d = some (.attrs l)) (le : l.length <= 20) : CopyPost n G e H p H'
structure CopyI (n : Nat) (G : Pt -> Option Str) (H : AHeap) (i : Nat) (out : List PV) (H' : AHeap) : Prop where
 rows : ∃ rows : List Addr,out = rows.map .ref /\ rows.length = i /\ rows.Nodup /\ (∀ a ∈ rows,H a = none) /\ ∀ (k : Nat) a,rows[k]? = some a -> H' a = some (.list ((List.range n).map λ j : Nat => cell (G (k,j))))
 ex : Ext H H'
section
variable {T : Tr} {X : String} {H : AHeap} {R : AHeap -> Prop} {x d bp bd : Addr} {rows : List Addr} {n : Nat} {G : Pt -> Option Str} {e : Bool}
theorem CopyI.turn {i : Nat} {out : List PV} {H' : AHeap} (h : CopyI n G H i out H') {c : Addr} (hc : H' c = none) : CopyI n G H (i + 1) (out ++ [.ref c]) (upd H' c (.list ((List.range n).map λ j : Nat => cell (G (i,j))))) := by
 obtain ⟨⟨rows,rfl,rl,nd,nr,hr⟩,ex⟩ := h
 have hcr : c ∉ rows := λ h => by
  obtain ⟨k,hk⟩ := List.getElem?_of_mem h
  rw [hr k c hk] at hc; cases hc
 refine ⟨⟨rows ++ [c],by rw [List.map_append]; rfl,by simp [rl],List.nodup_append.mpr ⟨nd,by simp,λ a ha b hb q => hcr (by rw [List.mem_singleton.mp hb] at q; rw [<- q]; exact ha)⟩,λ a ha => ?_,λ k a hk => ?_⟩,Ext.upd ex (ex.none hc)⟩
 ·rcases List.mem_append.mp ha with ha | ha
  ·exact nr a ha
  ·rw [List.mem_singleton.mp ha]; exact ex.none hc
 ·by_cases q : k < rows.length
  ·rw [List.getElem?_append_left q] at hk
   rw [upd_ne (λ w : a = c => hcr (w ▸ List.mem_of_getElem? hk))]
   exact hr k a hk
  ·have hlt := (List.getElem?_eq_some_iff.mp hk).1
   rw [List.length_append,List.length_singleton] at hlt
   have ek : k = rows.length := by omega
   subst ek
   rw [List.getElem?_concat_length] at hk
   cases hk
   rw [upd_same,rl]
theorem copy_spec (hL : L1 T.C) (hn : 6 <= T.n) (hh : T.hd = false) (B : BdAt x d bp bd rows n G e H) : SCode T X (.ref a_copy) [.ref x] H (CopyPost n G e H) R := by
 refine hL.f_copy hh (by omega) rfl ?_
 have n5 := B.five
 refine B.gSide hL ?_
 refine SCall.cls (hL.mks (by kernel_rfl)) (hL.fd (by kernel_rfl)) (hL.ft (by kernel_rfl)) (by show 1 <= T.n - 1; omega) λ x2 d2 hxd hx2 hd2 => SCode.mono (init_spec (T := T.down.down) (n := n) hL (by show 3 <= T.n - 1 - 1; omega) hh upd_same (by rw [upd_ne hxd.symm]; exact upd_same) B.lo n5) λ p H2 h => ?_
 obtain ⟨bp2,bd2,rows2,l0,rfl,B2,hd0,hl0,K2,np,nb,nr⟩ := h
 refine And.intro rfl ?_
 have ex2 : Ext H H2 := λ a o h => K2 a o (by rw [upd_ne (λ q => by rw [q,hx2] at h; cases h),upd_ne (λ q => by rw [q,hd2] at h; cases h)]; exact h) (λ q => by rw [q,hd2] at h; cases h) (by simp)
 clear K2 np nb nr
 have B' := B.ext ex2
 refine B'.gSide hL ?_
 refine SCall.range1 (fresh λ ra H3 hra ex3 kra => ?_)
 have B3 := B'.ext ex3
 refine WComp.range ra n rfl kra (by omega) (CopyI n G H3) ⟨⟨[],rfl,rfl,List.nodup_nil,by simp,by simp⟩,Ext.refl _⟩ (λ i out H' hi h => ?_) (λ out H' h => ?_)
 ·refine (B3.ext h.ex).gBoard hL ?_
  refine (B3.ext h.ex).at1 (i := i) (by omega) (by omega) λ r hr hrk => ?_
  refine SSlice.mk (.inl hrk) (by simp; omega) λ c hc => ?_
  rw [pslice_all]
  exact h.turn hc
 obtain ⟨⟨rows',rfl,rl,nd,nr,hr⟩,ex⟩ := h
 refine ⟨H',Ext.refl _,fresh λ bd' H4 hbd' ex4 kbd' => ?_⟩
 have B4 := (B3.ext ex).ext ex4
 have C4 := ((B2.ext ex3).ext ex).ext ex4
 have hd4 : H4 d2 = some (.attrs l0) := ex4 _ _ (ex _ _ (ex3 _ _ hd0))
 have hne : ∀ a o,H4 a = some o -> (∀ l,o ≠ .attrs l) -> a ≠ d2 := λ a o h hk q => by rw [q,hd4] at h; cases h; exact hk _ rfl
 refine SSetAttr.inst hL.clsB (hL.fd (by kernel_rfl)) C4.inst hd4 (by omega) ?_
 have exA : Ext H (upd H4 d2 (.attrs (("board",.ref bd') :: l0))) := Ext.upd (ex2.trans (ex3.trans (ex.trans ex4))) hd2
 refine (B.ext exA).gEmpty hL ?_
 have kx : upd H4 d2 (.attrs (("board",.ref bd') :: l0)) x2 = some (.inst a_Board d2) := by rw [upd_ne hxd]; exact C4.inst
 refine SSetAttr.inst hL.clsB (hL.fd (by kernel_rfl)) kx upd_same (by simp; omega) ?_
 obtain ⟨l1,b1,b2,b3,b4,b5,b6,b7⟩ := C4.attrs
 rw [hd4] at b1; cases b1
 have keep : ∀ a,a ≠ d2 -> upd (upd H4 d2 (.attrs (("board",.ref bd') :: l0))) d2 (.attrs (("_is_empty",.bool e) :: ("board",.ref bd') :: l0)) a = H4 a := λ a h => by rw [upd_ne h,upd_ne h]
 have hr4 : ∀ (k : Nat) a,rows'[k]? = some a -> H4 a = some (.list ((List.range n).map λ j : Nat => cell (G (k,j)))) := λ k a h => ex4 _ _ (hr k a h)
 have rk : ∀ a ∈ rows',∃ l,H4 a = some (.list l) := λ a ha => let ⟨k,hk⟩ := List.getElem?_of_mem ha; ⟨_,hr4 k a hk⟩
 refine ⟨x2,d2,bp2,bd',rows',_,rfl,⟨?_,⟨_,upd_same,?_,?_,?_,?_,lk_here,λ m hm => ?_⟩,?_,?_,rl,λ k a h => ?_,nd,B.lo,B.five,?_,?_⟩,Ext.upd exA hd2,hd2,λ a ha => ex2.none (ex3.none (nr a ha)),upd_same,by simp; omega⟩
 ·rw [keep _ hxd]; exact C4.inst
 ·simp; omega
 ·exact lk_next (by decide +kernel) (lk_next (by decide +kernel) b3)
 ·exact lk_next (by decide +kernel) (lk_next (by decide +kernel) b4)
 ·exact lk_next (by decide +kernel) lk_here
 ·refine lk_none ?_ (lk_none ?_ (b7 m hm)) <;> (revert m; decide +kernel)
 ·rw [keep _ (hne _ _ C4.pts (by intro l q; cases q))]; exact C4.pts
 ·rw [keep _ (hne _ _ kbd' (by intro l q; cases q))]; exact kbd'
 ·obtain ⟨l,h'⟩ := rk a (List.mem_of_getElem? h)
  rw [keep _ (hne _ _ h' (by intro l q; cases q))]; exact hr4 k a h
 ·intro h
  have := ex3 _ _ B2.pts
  rw [nr _ h] at this; cases this
 ·intro h
  obtain ⟨k,hk⟩ := List.getElem?_of_mem h
  rw [hr k _ hk] at hbd'; cases hbd'
end
end
section
noncomputable def setG (G : Pt -> Option Str) (l : List Pt) (v : Option Str) : Pt -> Option Str := λ q => if q ∈ l then v else G q
theorem setG_nil {G : Pt -> Option Str} {v : Option Str} : setG G [] v = G := by funext q; exact if_neg (by simp)
theorem setG_snoc {G : Pt -> Option Str} {l : List Pt} {z : Pt} {v : Option Str} : put (setG G l v) z v = setG G (l ++ [z]) v := by
 funext q
 simp only [put,setG,List.mem_append,List.mem_singleton]
 by_cases h1 : q = z <;> by_cases h2 : q ∈ l <;> simp [h1,h2]
structure PutI (n : Nat) (G : Pt -> Option Str) (v : Option Str) (ps : List Pt) (x d bp bd : Addr) (rows : List Addr) (e : Bool) (l : Ls) (H : AHeap) (i : Nat) (u : Unit) (H' : AHeap) : Prop where
 at_ : BdAt x d bp bd rows n (setG G (ps.take i) v) e H'
 kp : Keep H d rows H'
 hl : H' d = some (.attrs l)
inductive SetPost (n : Nat) (G₁ : Pt -> Option Str) (x d bp bd : Addr) (rows : List Addr) (H : AHeap) (p : PV) (H' : AHeap) : Prop
 | mk (L : List (Str × List Pt)) (hdl : List Pt) (e' : Bool) (l l' : Ls) (fs : FSI n G₁ (grid n) L hdl) (ep : p = .bool L.isEmpty) (at_ : BdAt x d bp bd rows n (rm G₁ (ptsOf L)) e' H') (em : e' = true ↔ ∀ z ∈ grid n,rm G₁ (ptsOf L) z = none) (kp : Keep H d rows H')
   (hl : H d = some (.attrs l)) (hl' : H' d = some (.attrs l')) (le : l'.length <= l.length + 2) : SetPost n G₁ x d bp bd rows H p H'
section
variable {T : Tr} {X : String} {H : AHeap} {R : AHeap -> Prop} {x d bp bd : Addr} {rows : List Addr} {n : Nat} {G : Pt -> Option Str} {e : Bool}
theorem BdAt.grid (B : BdAt x d bp bd rows n G e H) : H bp = some (.list ((grid n).map pt)) := by
 have := B.pts
 rw [gather_pts] at this; exact this
theorem find_all_spec (hL : L1 T.C) (hn : 4 <= T.n) (hh : T.hd = false) (B : BdAt x d bp bd rows n G e H) : SCode T X (.ref a_find_all_surrounded_groups) [.ref x] H (FPost n G (grid n) H) R := by
 refine hL.f_find_all_surrounded_groups hh (by omega) rfl ?_
 intro a1 h1
 refine SCall.set0 λ a2 h2 => ?_
 have h12 : a2 ≠ a1 := λ e => by rw [e,upd_same] at h2; cases h2
 have h2' : H a2 = none := by rw [upd_ne h12] at h2; exact h2
 have hbp := B.grid
 have h31 : bp ≠ a1 := λ q => by rw [q,h1] at hbp; cases hbp
 have h32 : bp ≠ a2 := λ q => by rw [q,h2'] at hbp; cases hbp
 have exA : Ext H (upd (upd H a1 (.list [])) a2 (.pset [])) := Ext.upd (Ext.upd (Ext.refl _) h1) h2'
 refine (B.ext exA).gPts hL ?_
 refine WFor.list bp ((AM.grid n).map pt) rfl (exA _ _ hbp) Unit (λ _ => [(0,.ref x),(1,.ref a1),(2,.ref a2)]) (FI n G (AM.grid n) a1 a2 bp H) () ⟨rfl,rfl,rfl,trivial⟩ ?_ (λ i b H'' hj => by obtain ⟨_,_,_,_,_,_,_,k3,_,_⟩ := hj; exact k3) ?_ ?_
 ·refine ⟨[],[],FSI.nil,List.nodup_nil,Nat.zero_le _,?_,upd_same,exA _ _ hbp,by simp,exA⟩
  rw [upd_ne h12.symm]; exact upd_same
 ·rintro i p u H'' hp ⟨gs,hdl,fs,nd,lg,k1,k2,k3,kg,ex'⟩
  obtain ⟨z,hz,rfl⟩ := map_get hp
  have htk := take_snoc hz
  have B' := B.ext ex'
  have hzg := mem_grid.mp (List.mem_of_getElem? hz)
  have hi25 : i < 25 := Nat.lt_of_lt_of_le (List.getElem?_eq_some_iff.mp hz).1 (grid_le B.five)
  refine B'.gBoard hL ?_
  refine B'.at1 hzg.1.1 hzg.1.2 λ ra _ hra => ?_
  refine sub2 hra hzg.2.1 hzg.2.2 B.five ?_
  cases hG : G (z.1,z.2) with
  | none => exact ⟨(),⟨rfl,rfl,rfl,trivial⟩,gs,hdl,by rw [htk]; exact fs.skip (λ _ => hG),nd,by omega,k1,k2,k3,kg,ex'⟩
  | some c' =>
   refine SCmp.inS z k2 (B.box hzg) ?_
   refine br_dec (λ hin => ?_) (λ hin => ?_)
   ·exact ⟨(),⟨rfl,rfl,rfl,trivial⟩,gs,hdl,by rw [htk]; exact fs.again hin,nd,by omega,k1,k2,k3,kg,ex'⟩
   ·refine M.own (B'.meth hL (by decide +kernel) (by kernel_rfl) (by kernel_rfl) (by kernel_rfl)) (SCode.call (make_group_spec (T := T.down) (col := c') hL (by show 3 <= T.n - 1; omega) hh B' hzg hG) λ p H₂ h => ?_)
    obtain ⟨g,dg,ps,P,sur,rfl,ex2,q1,q2,q3,gr,gm,gsur,gnd⟩ := h
    have hps : ps ≠ a2 := λ q => by rw [q,k2] at q3; cases q3
    have fin : ∀ hdl' : List Pt,hdl'.Nodup -> (∀ q,q ∈ hdl' ↔ q ∈ hdl \/ q ∈ P) -> FI n G (AM.grid n) a1 a2 bp H (i + 1) () (upd (cond sur (upd H₂ a1 (.list (gs.map (λ y => PV.ref y.g) ++ [PV.ref g]))) H₂) a2 (.pset hdl')) :=
     λ hdl' nd' mh => FI.new h12 h31 h32 h1 h2' hz fs lg kg k1 k2 k3 ex' hin ex2 q1 q2 q3 gr ⟨hzg,hG,gm,gnd⟩ gsur nd' mh
    refine GrpAt.gSur hL gr ?_
    cases sur with
    | true =>
     refine M.append (ex2 _ _ k1) (by rw [List.length_map]; omega) ?_
     have gr' := GrpAt.updList (m := gs.map (λ y => PV.ref y.g) ++ [PV.ref g]) gr (ex2 _ _ k1)
     have k2'' : upd H₂ a1 (.list (gs.map (λ y => PV.ref y.g) ++ [PV.ref g])) a2 = some (.pset hdl) := by rw [upd_ne h12]; exact ex2 _ _ k2
     refine Exists.intro _ (And.intro (SMeth.update k2'') (GrpAt.gPts hL gr' (SCall.update k2'' gr'.pts hps.symm λ hdl' nd' mh => ?_)))
     exact ⟨(),⟨rfl,rfl,rfl,trivial⟩,fin hdl' nd' mh⟩
    | false =>
     have k2'' := ex2 _ _ k2
     refine Exists.intro _ (And.intro (SMeth.update k2'') (GrpAt.gPts hL gr (SCall.update k2'' gr.pts hps.symm λ hdl' nd' mh => ?_)))
     exact ⟨(),⟨rfl,rfl,rfl,trivial⟩,fin hdl' nd' mh⟩
 ·rintro u H'' ⟨gs,hdl,fs,nd,lg,k1,k2,k3,kg,ex'⟩
  rw [List.length_map,List.take_length] at fs
  rw [List.length_map] at lg
  exact ⟨a1,gs,hdl,rfl,ex',h1,k1,λ y hy => (kg y hy).1,lg,fs⟩
theorem put_loop (hL : L1 T.C) (B : BdAt x d bp bd rows n G e H) {l : Ls} (hd : H d = some (.attrs l)) {la : Addr} {ps : List Pt} (hla : H la = some (.list (ps.map pt))) (hr : la ∉ rows) (hg : ∀ z ∈ ps,inG n z) {ex : IE} {v : Option Str}
  (he : ∀ {ls : LN} {H : AHeap} {R : AHeap -> Prop} {Q : PV -> AHeap -> Prop},Q (cell v) H -> w T X ex .v ls H R Q) {ls : LN} (K : LN) (hk : SubN K ls) (h0 : lkN 0 K = some (.ref x)) (hK : ∀ p q,SubN K ((7,p) :: (6,q) :: K)) {Q : AFl -> LN -> AHeap -> Prop}
  (hQ : ∀ H',BdAt x d bp bd rows n (setG G ps v) e H' -> Keep H d rows H' -> H' d = some (.attrs l) -> Q .next K H') :
  WFor T (.ref la) ls H (λ v ls' H' K => wT T X (.tup (.cons (.var 6) (.cons (.var 7) .nil))) v ls' H' noRL λ ls'' H'' => wS (.seq (.assign (.sub (.sub (.attr (.var 0) "board") (.var 6)) (.var 7)) ex) .skip) X T ls'' H'' noRL K) Q := by
 have hlad : la ≠ d := λ q => by rw [q,hd] at hla; cases hla
 refine WFor.list la (ps.map pt) rfl hla Unit (λ _ => K) (PutI n G v ps x d bp bd rows e l H) () hk ⟨by rw [List.take_zero,setG_nil]; exact B,Keep.refl,hd⟩ (λ i b H' h => h.kp _ _ hla hlad hr) (λ i p u H' hp h => ?_) (λ u H' h => ?_)
 ·obtain ⟨z,hz,rfl⟩ := map_get hp
  have hzg := hg z (List.mem_of_getElem? hz)
  have htk := take_snoc hz
  refine he ?_
  refine w_var (X := X) (R := noR) (by show lkN 0 ((7,.int z.2) :: (6,.int z.1) :: K) = _; rw [lkN_cons,if_neg (by decide),lkN_cons,if_neg (by decide)]; exact h0) ?_
  refine h.at_.gBoard hL ?_
  refine h.at_.at1 hzg.1.1 hzg.1.2 λ rb hb1 hrb => ?_
  refine SSetItem.list hrb hzg.2.1 (by simpa using hzg.2.2) (by simp; have := B.five; omega) ?_
  have hrm : rb ∈ rows := List.mem_of_getElem? hb1
  refine ⟨(),hK _ _,?_,h.kp.row hrm,?_⟩
  ·rw [htk,<- setG_snoc]
   exact h.at_.put (v := v) hzg.1.1 hzg.2.1 hzg.2.2 hb1
  ·rw [upd_ne (λ w => by have := h.hl; rw [w,hrb] at this; cases this)]; exact h.hl
 ·obtain ⟨h1,h2,h3⟩ := h
  rw [List.length_map,List.take_length] at h1
  exact hQ H' h1 h2 h3
end
end
section
section
variable {T : Tr} {X : String} {H : AHeap} {R : AHeap -> Prop} {x d bp bd : Addr} {rows : List Addr} {n : Nat} {G : Pt -> Option Str} {e : Bool}
theorem rm_take {gs : List GR} {G₁ : Pt -> Option Str} : rm G₁ (ptsOf ((gs.take gs.length).map GR.cp)) = rm G₁ (ptsOf (gs.map GR.cp)) := by rw [List.take_length]
theorem all_snoc {P : Pt -> Prop} {k : Nat} {l : List Pt} {z : Pt} (hz : l[k]? = some z) (h : ∀ y ∈ l.take k,P y) (hp : P z) : ∀ y ∈ l.take (k + 1),P y := λ y hy => by
 rw [take_snoc hz] at hy
 rcases List.mem_append.mp hy with hy | hy
 ·exact h y hy
 ·rw [List.mem_singleton.mp hy]; exact hp
theorem setup_spec (hL : L1 T.C) (hn : 6 <= T.n) (hh : T.hd = false) (B : BdAt x d bp bd rows n G e H) (hz : ∃ l,H d = some (.attrs l) /\ l.length <= 4000) {ba wa ea : Addr} {bs ws es : List Pt}
  (hb : H ba = some (.list (bs.map pt))) (hw : H wa = some (.list (ws.map pt))) (he : H ea = some (.list (es.map pt))) (rb : ba ∉ rows) (rw' : wa ∉ rows) (re : ea ∉ rows)
  (gb : ∀ z ∈ bs,inG n z) (gw : ∀ z ∈ ws,inG n z) (ge : ∀ z ∈ es,inG n z) (hlen : bs.length + ws.length + es.length <= 90000) :
  SCode T X (.ref a_apply_setup) [.ref x,.ref ba,.ref wa,.ref ea] H (SetPost n (setG (setG (setG G bs (some "b")) ws (some "w")) es none) x d bp bd rows H) R := by
 obtain ⟨l,hd,hz⟩ := hz
 refine SCode.post λ Q hQ => ?_
 refine hL.f_apply_setup hh (by omega) rfl ?_
 have n5 := B.five
 have lb : (bs.map pt).length <= 100000 := by rw [List.length_map]; omega
 have lw : (ws.map pt).length <= 100000 := by rw [List.length_map]; omega
 have le : (es.map pt).length <= 100000 := by rw [List.length_map]; omega
 refine SCall.listC (.inl hb) lb (fresh λ c1 H1 hc1 ex1 k1 => ?_)
 refine SCall.listC (.inl (ex1 _ _ hw)) lw (fresh λ c2 H2 hc2 ex2 k2 => ?_)
 refine SBin.addL (.inl (ex2 _ _ k1)) (.inl k2) (by simp only [List.length_map]; omega) (fresh λ c3 H3 hc3 ex3 k3 => ?_)
 refine SCall.listC (.inl (ex3 _ _ (ex2 _ _ (ex1 _ _ he)))) le (fresh λ c4 H4 hc4 ex4 k4 => ?_)
 refine SBin.addL (.inl (ex4 _ _ k3)) (.inl k4) (by simp only [List.length_append,List.length_map]; omega) (fresh λ c5 H5 hc5 ex5 k5 => ?_)
 have ex := (((ex1.trans ex2).trans ex3).trans ex4).trans ex5
 clear k1 k2 k3 k4 ex1 ex2 ex3 ex4 ex5 hc1 hc2 hc3 hc4 hc5
 clear H1 H2 H3 H4
 have B5 := B.ext ex
 have hd5 := ex _ _ hd
 rw [<- List.map_append,<- List.map_append] at k5
 refine WFor.list c5 ((bs ++ ws ++ es).map pt) rfl k5 Unit (λ _ => [(0,.ref x),(1,.ref ba),(2,.ref wa),(3,.ref ea)]) (λ _ _ H' => H' = H5) () ⟨rfl,rfl,rfl,rfl,trivial⟩ rfl (λ i b H' h => h ▸ k5) ?_ ?_
 ·rintro i p u H' hp rfl
  obtain ⟨z,hz',rfl⟩ := map_get hp
  have hzg : inG n z := by
   have := List.mem_of_getElem? hz'
   rcases List.mem_append.mp this with h | h
   ·exact (List.mem_append.mp h).elim (gb z) (gw z)
   ·exact ge z h
  have z1 := hzg.1.1
  have z2 := hzg.1.2
  have z3 := hzg.2.1
  have z4 := hzg.2.2
  refine br_dec (λ q => absurd q (by omega)) λ _ => ?_
  refine br_dec (λ q => absurd q (by omega)) λ _ => ?_
  refine B5.gSide hL ?_
  refine br_dec (λ q => absurd q (by omega)) λ _ => ?_
  refine B5.gSide hL ?_
  refine br_dec (λ q => absurd q (by omega)) λ _ => ?_
  exact ⟨(),⟨rfl,rfl,rfl,rfl,trivial⟩,rfl⟩
 rintro u H' rfl
 refine put_loop (T := T.down) (ex := .str "b") (v := some "b") hL B5 hd5 (ex _ _ hb) rb gb (λ h => h) [(0,.ref x),(1,.ref ba),(2,.ref wa),(3,.ref ea)] ?_ rfl (λ p q => ⟨rfl,rfl,rfl,rfl,trivial⟩) λ H6 B6 K6 hd6 => ?_
 ·exact ⟨rfl,rfl,rfl,rfl,trivial⟩
 have nd : ∀ {a : Addr} {o : AO},H a = some o -> (∀ l,o ≠ .attrs l) -> a ≠ d := λ h hk q => by rw [q,hd] at h; cases h; exact hk _ rfl
 refine put_loop (T := T.down) (ex := .str "w") (v := some "w") hL B6 hd6 (K6 _ _ (ex _ _ hw) (nd hw (by intro l q; cases q)) rw') rw' gw (λ h => h) [(0,.ref x),(1,.ref ba),(2,.ref wa),(3,.ref ea)] ?_ rfl (λ p q => ⟨rfl,rfl,rfl,rfl,trivial⟩) λ H7 B7 K7 hd7 => ?_
 ·exact ⟨rfl,rfl,rfl,rfl,trivial⟩
 refine put_loop (T := T.down) (ex := .none) (v := none) hL B7 hd7 (K7 _ _ (K6 _ _ (ex _ _ he) (nd he (by intro l q; cases q)) re) (nd he (by intro l q; cases q)) re) re ge (λ h => h) [(0,.ref x),(1,.ref ba),(2,.ref wa),(3,.ref ea)] ?_ rfl (λ p q => ⟨rfl,rfl,rfl,rfl,trivial⟩) λ H8 B8 K8 hd8 => ?_
 ·exact ⟨rfl,rfl,rfl,rfl,trivial⟩
 have K := ((Keep.refl.ext ex).trans K6).trans (K7.trans K8)
 clear K6 K7 K8 B6 B7 hd6 hd7 hd5 B5 k5 ex
 generalize setG (setG (setG G bs (some "b")) ws (some "w")) es none = G₁ at B8 hQ
 refine M.own (B8.meth hL (by decide +kernel) (by kernel_rfl) (by kernel_rfl) (by kernel_rfl)) (SCode.call (find_all_spec (T := T.down) hL (by show 4 <= T.n - 1; omega) hh B8) λ p H9 h => ?_)
 obtain ⟨sa,gs,hdl,rfl,ex9,hsa,ksa,kg,lg,fs⟩ := h
 have B9 := B8.ext ex9
 have hd9 := ex9 _ _ hd8
 have K9 : Keep H8 d rows H9 := Keep.refl.ext ex9
 have hsr := list_notrow B8 hsa
 have hlg : gs.length <= 25 := Nat.le_trans lg (grid_le n5)
 have hpw := fs.apart
 refine WFor.list sa _ rfl ksa Unit (λ _ => [(0,.ref x),(4,.ref sa)]) (PL1 n G₁ e gs x d bp bd rows l H8 sa) () ⟨rfl,rfl,trivial⟩ ?_ (λ i b H'' h => h.hta) ?_ ?_
 ·exact ⟨by rw [show ptsOf (List.map GR.cp (gs.take 0)) = [] from rfl,rm_nil]; exact B9,ksa,λ y hy => (kg y hy).at_,K9,hd9⟩
 ·rintro i p u H'' hp hpl
  obtain ⟨y,hy,rfl⟩ := map_get hp
  have hilt := (List.getElem?_eq_some_iff.mp hy).1
  have hyd : gs.drop i = y :: gs.drop (i + 1) := by rw [List.drop_eq_getElem_cons hilt,(List.getElem?_eq_some_iff.mp hy).2]
  have ya : y.At H'' := hpl.kg y (by rw [hyd]; exact .head _)
  have hyg := List.mem_of_getElem? hy
  obtain ⟨z0,_,hz0g,_⟩ := fs.grp y.cp (List.mem_map.mpr ⟨y,hyg,rfl⟩)
  have hyn := (kg y hyg).np
  have hps : ∀ w ∈ gs.drop (i + 1),w.ps ≠ y.ps := λ w hw q => by
   have wa : w.At H'' := hpl.kg w (by rw [hyd]; exact .tail _ hw)
   have e1 := wa.pts
   rw [q,ya.pts] at e1
   have e2 : y.P = w.P := by injection e1 with e1; injection e1
   have hp2 := hpw
   rw [<- List.take_append_drop i gs,hyd,List.map_append,List.map_cons] at hp2
   have := (List.pairwise_cons.mp (List.pairwise_append.mp hp2).2.1).1 w.cp (List.mem_map.mpr ⟨w,hw,rfl⟩) z0 hz0g.self
   exact this (by show z0 ∈ w.P; rw [<- e2]; exact hz0g.self)
  refine GrpAt.gPts hL ya ?_
  refine WFor.set hh y.ps y.P rfl ya.pts Unit (λ _ => [(0,.ref x),(4,.ref sa)]) (PL2 n (rm G₁ (ptsOf ((gs.take i).map GR.cp))) e gs x d bp bd rows l H8 sa y.ps i) () ⟨rfl,rfl,trivial⟩ ?_ ?_ ?_
  ·exact λ l' hperm => hpl.first hy hyd hyn hps
  ·intro l' j q u H3 hperm hq hp2
   have hqg : inG n q := ((hz0g.mem q).mp ((hperm.mem_iff).mp (List.mem_of_getElem? hq))).inG
   refine hp2.at_.gBoard hL ?_
   refine hp2.at_.at1 hqg.1.1 hqg.1.2 λ rb hb1 hrb => ?_
   refine SSetItem.list hrb hqg.2.1 (by simpa using hqg.2.2) (by simp; omega) ?_
   exact ⟨(),⟨rfl,rfl,trivial⟩,hp2.turn hq hqg hsr hb1 hrb⟩
  ·intro l' u H3 hperm hp2
   exact ⟨(),⟨rfl,rfl,trivial⟩,hp2.fin hy hperm⟩
 rintro u H10 ⟨b1,b2,b3,b4,b5⟩
 rw [List.length_map,rm_take] at b1
 have K10 := K.trans b4
 generalize hG₂ : rm G₁ (ptsOf (gs.map GR.cp)) = G₂ at b1
 have sad : sa ≠ d := λ q => by rw [q,hd8] at hsa; cases hsa
 have done : ∀ (e' : Bool) (H' : AHeap) (l' : Ls),BdAt x d bp bd rows n G₂ e' H' -> (e' = true ↔ ∀ z ∈ AM.grid n,G₂ z = none) -> Keep H d rows H' -> H' d = some (.attrs l') -> l'.length <= l.length + 2 -> Q (.bool (!(!(gs.map λ y => PV.ref y.g).isEmpty))) H' := λ e' H' l' B' em K' hd' hl' => by
  refine hQ _ _ ⟨gs.map GR.cp,hdl,e',l,l',fs,?_,by rw [hG₂]; exact B',by rw [hG₂]; exact em,K',hd,hd',hl'⟩
  cases gs <;> rfl
 refine SSetAttr.inst hL.clsB (hL.fd (by kernel_rfl)) b1.inst b5 (by omega) ?_
 have b6 := b1.mark (e' := true) b5 (by omega)
 have K11 := K10.dict (o := .attrs (("_is_empty",.bool true) :: l))
 have h6 : upd H10 d (.attrs (("_is_empty",.bool true) :: l)) d = some (.attrs (("_is_empty",.bool true) :: l)) := upd_same
 have s6 : upd H10 d (.attrs (("_is_empty",.bool true) :: l)) sa = some (.list (gs.map λ y => .ref y.g)) := by rw [upd_ne sad]; exact b2
 change wS _ _ _ _ (upd H10 d (.attrs (("_is_empty",.bool true) :: l))) _ _
 generalize upd H10 d (.attrs (("_is_empty",.bool true) :: l)) = H11 at b6 K11 h6 s6 ⊢
 refine b6.gPts hL ?_
 refine WFor.list bp ((AM.grid n).map pt) rfl b6.grid Unit (λ _ => [(0,.ref x),(4,.ref sa)]) (λ i _ H' => H' = H11 /\ ∀ z ∈ (AM.grid n).take i,G₂ z = none) () ⟨rfl,rfl,trivial⟩ ⟨rfl,by simp⟩ (λ i b H' h => h.1 ▸ b6.grid) ?_ ?_
 ·rintro i p u H' hp ⟨rfl,hall⟩
  obtain ⟨z,hz',rfl⟩ := map_get hp
  have hzm := List.mem_of_getElem? hz'
  have hzg := mem_grid.mp hzm
  refine b6.gBoard hL ?_
  refine b6.at1 hzg.1.1 hzg.1.2 λ ra _ hra => ?_
  refine sub2 hra hzg.2.1 hzg.2.2 n5 ?_
  cases hGz : G₂ (z.1,z.2) with
  | none => exact ⟨(),⟨rfl,rfl,trivial⟩,rfl,all_snoc hz' hall hGz⟩
  | some c =>
   refine SSetAttr.inst hL.clsB (hL.fd (by kernel_rfl)) b6.inst h6 (by simp; omega) ?_
   refine STr.list (l := gs.map λ y => PV.ref y.g) (.inl ?_) (by rw [List.length_map]; omega) ?_
   ·rw [upd_ne sad]; exact s6
   refine done false _ _ (b6.mark (e' := false) h6 (by simp; omega)) ⟨λ q => (nomatch q),λ q => ?_⟩ K11.dict upd_same (by simp)
   have := q z hzm
   rw [show G₂ z = some c from hGz] at this; cases this
 ·rintro u H' ⟨rfl,hall⟩
  rw [List.length_map,List.take_length] at hall
  refine STr.list (l := gs.map λ y => PV.ref y.g) (.inl ?_) (by rw [List.length_map]; omega) ?_
  ·exact s6
  exact done true _ _ b6 ⟨λ _ => hall,λ _ => rfl⟩ K11 h6 (by simp)
end
end
section
noncomputable def ppt (n k : Nat) : PV := pt (pOf n k)
theorem fsnoc {α : Type} {f : α -> PV} {g : α -> Bool} {l : List α} {i : Nat} {z : α} (h : l[i]? = some z) (b : Bool) (hb : g z = b) : ((l.take i).filter g).map f ++ (cond b (some (f z)) none).toList = ((l.take (i + 1)).filter g).map f := by
 rw [take_snoc h,List.filter_append,List.map_append]
 congr 1
 rw [List.filter_cons,hb]
 cases b <;> rfl
theorem anyf {α : Type} {f : α -> Bool} {l : List α} : (!(l.filter f).isEmpty) = l.any f := by
 induction l with
 | nil => rfl
 | cons a l ih =>
  rw [List.filter_cons,List.any_cons]
  cases f a with
  | true => rfl
  | false => exact ih
inductive NP6 (n : Nat) (z : Pt) (H : AHeap) (p : PV) (H' : AHeap) : Prop
 | mk (a : Addr) (e : p = .ref a) (ex : Ext H H') (na : H a = none) (ka : H' a = some (.list ((nbIn n z).map pt))) : NP6 n z H p H'
inductive BP6 (n : Nat) (G : Pt -> Option Str) (H : AHeap) (p : PV) (H' : AHeap) : Prop
 | mk (a : Addr) (gl : List Nat) (e : p = .ref a) (ex : Ext H H') (na : H a = none) (ka : H' a = some (.list (gl.map (ppt n)))) (nd : gl.Nodup) (mem : ∀ k,k ∈ gl ↔ k < n * n /\ Alive n G k) : BP6 n G H p H'
inductive OP6 (l : List (Pt × PV)) (f : Pt -> Bool) (H : AHeap) (p : PV) (H' : AHeap) : Prop
 | mk (a : Addr) (e : p = .ref a) (ex : Ext H H') (na : H a = none) (ka : H' a = some (.pdict (l.filter λ e => f e.1))) : OP6 l f H p H'
inductive BJ2 (n : Nat) (G : Pt -> Option Str) (la : Addr) (H : AHeap) (m i : Nat) (u : Unit) (H' : AHeap) : Prop
 | mk (gl : List Nat) (e : m + i = n * n) (lv : LV n G gl i) (ka : H' la = some (.list (gl.map (ppt n)))) (ex : Ext H H') : BJ2 n G la H m i u H'
inductive BJ3 (n : Nat) (G : Pt -> Option Str) (k : Nat) (la na : Addr) (H : AHeap) (i j : Nat) (u : Unit) (H' : AHeap) : Prop
 | mk (gl : List Nat) (lv : LV n G gl i) (at_ : gl[i]? = some k) (dn : ∀ x ∈ (near n k).take j,G (pOf n x) = G (pOf n k) -> x ∈ gl) (ka : H' la = some (.list (gl.map (ppt n)))) (kn : H' na = some (.list ((near n k).map (ppt n)))) (ex : Ext H H') : BJ3 n G k la na H i j u H'
section
variable {T : Tr} {X : String} {H : AHeap} {R : AHeap -> Prop} {n : Nat} {G : Pt -> Option Str} {l : List (Pt × PV)} {d : Addr}
theorem near6 (hL : L1 T.C) (hn : 1 <= T.n) (hh : T.hd = false) {z : Pt} : SCode T X (.ref a_law_near) [pt z,.int n] H (NP6 n z H) R := by
 refine hL.f_law_near hh hn rfl ?_
 refine fresh λ a H1 ha ex1 k1 => ?_
 have k1 : H1 a = some (.list ((nb z).map pt)) := k1
 refine WComp.list a _ rfl k1 (by simp [nb]) (λ i out H' => H' = H1 /\ out = (((nb z).take i).filter (inB n)).map pt) ⟨rfl,rfl⟩ (λ i out H' h => h.1 ▸ k1) (λ i v out H' hv h => ?_) (λ out H' h => ?_)
 ·obtain ⟨rfl,rfl⟩ := h
  obtain ⟨y,hy,rfl⟩ := map_get hv
  have no : ¬ inG n y -> ((((nb z).take i).filter (inB n)).map pt ++ (Option.none : Option PV).toList) = (((nb z).take (i + 1)).filter (inB n)).map pt := λ q => fsnoc hy false (by cases e : inB n y with
   | false => rfl
   | true => exact absurd (inB_iff.mp e) q)
  refine SSub.pt0 ?_
  refine br_dec (λ z1 => ?_) (λ z1 => ⟨rfl,no λ q => z1 q.1.1⟩)
  refine br_dec (λ z2 => ?_) (λ z2 => ⟨rfl,no λ q => z2 q.1.2⟩)
  refine SSub.pt1 ?_
  refine br_dec (λ z3 => ?_) (λ z3 => ⟨rfl,no λ q => z3 q.2.1⟩)
  refine br_dec (λ z4 => ?_) (λ z4 => ⟨rfl,no λ q => z4 q.2.2⟩)
  exact ⟨rfl,fsnoc hy true (inB_iff.mpr ⟨⟨z1,z2⟩,z3,z4⟩)⟩
 obtain ⟨rfl,rfl⟩ := h
 refine ⟨H',Ext.refl _,fresh (o := .list ((((nb z).take ((nb z).map pt).length).filter (inB n)).map pt)) λ c H2 hc ex2 k2 => ?_⟩
 rw [List.length_map,List.take_length] at k2
 exact ⟨c,rfl,ex1.trans ex2,ex1.none hc,k2⟩
theorem dict_in (D : SD n G l) {po : Option Obj} (hd : H d = some (.pdict l po)) (y : Pt) {Q : Bool -> AHeap -> Prop} (h : Q (G y).isSome H) : SCmp T .In (pt y) (.ref d) H Q :=
 SCmp.inD y hd (by rw [D.is]; cases e : G y with
  | none => rw [e] at h; exact h
  | some c => rw [e] at h; exact h)
theorem dict_at (D : SD n G l) {po : Option Obj} (hd : H d = some (.pdict l po)) {y : Pt} {c : Str} (hc : G y = some c) {Q : PV -> AHeap -> Prop} (h : Q (.str c) H) : SSub T (.ref d) (pt y) H Q :=
 SSub.dict hd (by rw [D.is,hc]; rfl) h
theorem breathing6 (hL : L1 T.C) (hn : 2 <= T.n) (hh : T.hd = false) (h5 : n <= 5) (D : SD n G l) (hd : H d = some (.pdict l)) : SCode T X (.ref a_law_breathing) [.ref d,.int n] H (BP6 n G H) R := by
 refine hL.f_law_breathing hh (by omega) rfl ?_
 have hlen := D.len h5
 have h25 := sq_le h5
 refine WComp.dict d l rfl hd (by omega) (λ ob i out H' => Ext (upd H d (.pdict l (some ob))) H' /\ out = (((l.take i).filter λ e => freeF n G e.1)).map λ e => pt e.1) (λ ob => ⟨Ext.refl _,rfl⟩) (λ ob i out H' h => h.1 _ _ upd_same) (λ ob i v out H' hv h => ?_) (λ ob out H' h => ?_)
 ·obtain ⟨ex,rfl⟩ := h
  have hvm := List.mem_of_getElem? hv
  refine SCode.call (near6 (T := T.down) (z := v.1) hL (by show 1 <= T.n - 1; omega) hh) λ p H2 h => ?_
  obtain ⟨na,rfl,ex2,hna,kna⟩ := h
  have hd2 := ex2 _ _ (ex d _ upd_same)
  refine WComp.list na _ rfl kna (by rw [List.length_map]; exact Nat.le_trans (List.length_filter_le _ _) (by simp [nb])) (λ j out H' => H' = H2 /\ out = (((nbIn n v.1).take j).filter λ y => (G y).isNone).map pt) ⟨rfl,rfl⟩ (λ j out H' h => h.1 ▸ kna) (λ j u out H' hu h => ?_) (λ out H' h => ?_)
  ·obtain ⟨rfl,rfl⟩ := h
   obtain ⟨y,hy,rfl⟩ := map_get hu
   refine dict_in D hd2 y ?_
   cases hG : G y with
   | none => exact ⟨rfl,fsnoc hy true (by rw [hG]; rfl)⟩
   | some c => exact ⟨rfl,fsnoc hy false (by rw [hG]; rfl)⟩
  obtain ⟨rfl,rfl⟩ := h
  refine ⟨H',Ext.refl _,fresh (o := .list ((((nbIn n v.1).take ((nbIn n v.1).map pt).length).filter λ y => (G y).isNone).map pt)) λ wa H3 hwa ex3 kwa => ?_⟩
  rw [List.length_map,List.take_length] at kwa
  refine STr.list (.inl kwa) (by rw [List.length_map]; exact Nat.le_trans (List.length_filter_le _ _) (Nat.le_trans (List.length_filter_le _ _) (by simp [nb]))) ?_
  rw [List.isEmpty_map,anyf]
  cases hb : (nbIn n v.1).any λ y => (G y).isNone with
  | true => exact ⟨(ex.trans ex2).trans ex3,fsnoc (g := λ e : Pt × PV => freeF n G e.1) hv true hb⟩
  | false => exact ⟨(ex.trans ex2).trans ex3,fsnoc (g := λ e : Pt × PV => freeF n G e.1) hv false hb⟩
 obtain ⟨ex,rfl⟩ := h
 rw [List.take_length]
 refine ⟨_,Ext.refl _,fresh λ la H3 hla ex3 kla => ?_⟩
 have exH : Ext H H3 := (Ext.pin hd ex).trans ex3
 have hla0 : H la = none := (Ext.pin hd ex).none hla
 have hd3 := exH _ _ hd
 obtain ⟨g0,e0,lt0⟩ := spots_of (n := n) ((l.filter λ e => freeF n G e.1).map (·.1)) λ z hz => by
  obtain ⟨e,he,rfl⟩ := List.mem_map.mp hz
  exact D.inG (List.mem_filter.mp he).1
 have kla : H3 la = some (.list (g0.map (ppt n))) := by
  rw [kla,show g0.map (ppt n) = (g0.map (pOf n)).map pt from (List.map_map ..).symm,<- e0,List.map_map]; rfl
 have m0 : ∀ k,k ∈ g0 ↔ k < n * n /\ G (pOf n k) ≠ none /\ Free n G (pOf n k) := λ k => by
  constructor
  ·intro hk
   have : pOf n k ∈ (l.filter λ e => freeF n G e.1).map (·.1) := by rw [e0]; exact List.mem_map.mpr ⟨k,hk,rfl⟩
   obtain ⟨e,he,ee⟩ := List.mem_map.mp this
   obtain ⟨h1,h2⟩ := List.mem_filter.mp he
   exact ⟨lt0 k hk,ee ▸ D.key.mp (List.mem_map.mpr ⟨e,h1,rfl⟩),ee ▸ freeF_iff.mp h2⟩
  ·rintro ⟨h1,h2,h3⟩
   obtain ⟨e,he,ee⟩ := List.mem_map.mp (D.key.mpr h2)
   have : pOf n k ∈ (l.filter λ e => freeF n G e.1).map (·.1) := List.mem_map.mpr ⟨e,List.mem_filter.mpr ⟨he,by rw [ee]; exact freeF_iff.mpr h3⟩,ee⟩
   rw [e0] at this
   obtain ⟨j,hj,ej⟩ := List.mem_map.mp this
   rw [<- pOf_inj ej]; exact hj
 have nd0 : g0.Nodup := by
  have h1 : (g0.map (pOf n)).Nodup := by rw [<- e0]; exact D.nd.sublist ((List.filter_sublist (l := l)).map _)
  exact (List.pairwise_map.mp h1).imp λ hab e => hab (by rw [e])
 refine WFor.grow la rfl ⟨_,kla⟩ Unit (λ _ => [(0,.ref d),(1,.int n),(2,.ref la)]) (BJ2 n G la H) (n * n) () ⟨rfl,rfl,rfl,trivial⟩ ?_ ?_
 ·refine ⟨g0,rfl,⟨λ k hk hc' hf => (m0 k).mpr ⟨hk,hc',hf⟩,λ k hk => ?_,λ a k ha => absurd ha (Nat.not_lt_zero _),nd0,Nat.zero_le _⟩,kla,exH⟩
  obtain ⟨k1,k2,k3⟩ := (m0 k).mp hk
  obtain ⟨c,hc'⟩ := Option.ne_none_iff_exists'.mp k2
  exact ⟨k1,Alive.free k1 hc' k3⟩
 rintro m i u H' ⟨gl,em,lv,ka,ex'⟩
 refine ⟨_,ka,λ v hv' => ?_,λ hle => ?_⟩
 ·obtain ⟨k,hk,rfl⟩ := map_get hv'
  have hkm := List.mem_of_getElem? hk
  obtain ⟨hkn,hal⟩ := lv.alive k hkm
  refine SCode.call (near6 (T := T.down) (z := pOf n k) hL (by show 1 <= T.n - 1; omega) hh) λ p H2 h => ?_
  obtain ⟨na,rfl,ex2,hna,kna⟩ := h
  rw [nbIn_eq h5 hkn,List.map_map] at kna
  have kna : H2 na = some (.list ((near n k).map (ppt n))) := kna
  have hnl : na ≠ la := λ q => by rw [q,ka] at hna; cases hna
  refine WFor.list na _ rfl kna Unit (λ _ => [(0,.ref d),(1,.int n),(2,.ref la),(3,ppt n k)]) (BJ3 n G k la na H i) () ⟨rfl,rfl,rfl,rfl,trivial⟩ ?_ (λ j b H'' h => by obtain ⟨_,_,_,_,_,h,_⟩ := h; exact h) ?_ ?_
  ·exact ⟨gl,lv,hk,λ x hx => by simp at hx,ex2 _ _ ka,kna,ex'.trans ex2⟩
  ·rintro j v u H3 hv3 ⟨gl,lv,at_,dn,ka,kn,ex''⟩
   obtain ⟨y,hy,rfl⟩ := map_get hv3
   have hyn := List.mem_of_getElem? hy
   have hyl := near_lt h5 hkn hyn
   have go : (G (pOf n y) = G (pOf n k) -> y ∈ gl) -> BJ3 n G k la na H i (j + 1) () H3 := λ q => ⟨gl,lv,at_,λ x hx => by
    rw [take_snoc hy] at hx
    rcases List.mem_append.mp hx with hx | hx
    ·exact dn x hx
    ·rw [List.mem_singleton.mp hx]; exact q,ka,kn,ex''⟩
   have hd4 := ex'' _ _ hd
   obtain ⟨c,hck,hsu⟩ := hal
   refine dict_in D hd4 (pOf n y) ?_
   cases hG : G (pOf n y) with
   | none => exact ⟨(),⟨rfl,rfl,rfl,rfl,trivial⟩,go λ q => by rw [hG,hck] at q; cases q⟩
   | some c' =>
    refine dict_at D hd4 hG ?_
    refine dict_at D hd4 hck ?_
    refine br_beq (λ hcc => ?_) (λ hcc => ⟨(),⟨rfl,rfl,rfl,rfl,trivial⟩,go λ q => by rw [hG,hck] at q; exact absurd (Option.some.inj q) hcc⟩)
    subst hcc
    have ka' : H3 la = some (.list ((gl.map (pOf n)).map pt)) := by rw [List.map_map]; exact ka
    refine SCmp.inL (.inl ka') (hd_pts (gl.map (pOf n))) hd_pt λ b hb => ?_
    rw [mem_dpts] at hb
    have hb : b = true ↔ y ∈ gl := hb.trans ⟨λ h => let ⟨x,hx,e⟩ := List.mem_map.mp h; pOf_inj e ▸ hx,λ h => List.mem_map.mpr ⟨y,h,rfl⟩⟩
    cases b with
    | true => exact ⟨(),⟨rfl,rfl,rfl,rfl,trivial⟩,go λ _ => hb.mp rfl⟩
    | false =>
    have hin : y ∉ gl := λ h => by have := hb.mpr h; cases this
    refine M.append ka (by rw [List.length_map]; have := lv.len; omega) ?_
    have hlt := (List.getElem?_eq_some_iff.mp at_).1
    refine ⟨(),⟨rfl,rfl,rfl,rfl,trivial⟩,gl ++ [y],lv.more hyl (Alive.step h5 hkn hyn ⟨c',hck,hsu⟩ (by rw [hG,hck])) hin,by rw [List.getElem?_append_left hlt]; exact at_,λ x hx e => ?_,by rw [upd_same,List.map_append]; rfl,by rw [upd_ne hnl]; exact kn,Ext.upd ex'' hla0⟩
    rw [take_snoc hy] at hx
    rcases List.mem_append.mp hx with hx | hx
    ·exact List.mem_append_left _ (dn x hx e)
    ·exact List.mem_append_right _ hx
  ·rintro u H3 ⟨gl,lv,at_,dn,ka,kn,ex''⟩
   rw [List.length_map,List.take_length] at dn
   have lv' := lv.turn at_ dn
   have := Nat.le_trans lv'.le lv.len
   exact ⟨(),⟨rfl,rfl,rfl,trivial⟩,n * n - (i + 1),sub_lt_of (by assumption) this,gl,Nat.sub_add_cancel this,lv',ka,ex''⟩
 ·rw [List.length_map] at hle
  have hie : i = gl.length := Nat.le_antisymm lv.le hle
  subst hie
  exact ⟨la,gl,rfl,ex',hla0,ka,lv.nd,λ k => ⟨λ h => lv.alive k h,λ h => (lv.done h5 h.1).mpr h.2⟩⟩
end
end
section
inductive OI6 (l : List (Pt × PV)) (f : Pt -> Bool) (d la : Addr) (H : AHeap) (ob : Obj) (i : Nat) (u : Unit) (H' : AHeap) : Prop
 | mk (ka : H' la = some (.pdict ((l.take i).filter λ e => f e.1))) (ex : Ext (upd H d (.pdict l (some ob))) H') : OI6 l f d la H ob i u H'
inductive MP6 (n : Nat) (G' : Pt -> Option Str) (H : AHeap) (p : PV) (H' : AHeap) : Prop
 | mk (a : Addr) (l' : List (Pt × PV)) (e : p = .ref a) (ex : Ext H H') (na : H a = none) (ka : H' a = some (.pdict l')) (D : SD n G' l') : MP6 n G' H p H'
theorem keepG_congr {G : Pt -> Option Str} {f g : Pt -> Bool} (h : ∀ z,G z ≠ none -> f z = g z) : keepG G f = keepG G g := by
 funext z
 unfold keepG
 cases q : G z with
 | none => split <;> split <;> rfl
 | some c => rw [h z (by rw [q]; simp)]
section
variable {T : Tr} {X : String} {H : AHeap} {R : AHeap -> Prop} {n : Nat} {G : Pt -> Option Str} {l : List (Pt × PV)} {d : Addr}
theorem only6 (hL : L1 T.C) (hn : 1 <= T.n) (hh : T.hd = false) (h5 : n <= 5) (D : SD n G l) (hd : H d = some (.pdict l)) {kp : PV} {f : Pt -> Bool}
  (hk : ∀ (T' : Tr) (ob : Obj) (H' : AHeap) (z : Pt) (Q : Bool -> AHeap -> Prop),T'.C = T.C -> G z ≠ none -> Ext (upd H d (.pdict l (some ob))) H' -> Q (f z) H' -> SCmp T' .In (pt z) kp H' Q) :
  SCode T X (.ref a_law_only) [.ref d,kp] H (OP6 l f H) R := by
 refine hL.f_law_only hh hn rfl ?_
 have hlen := D.len h5
 refine fresh λ la H1 hla ex1 kla => ?_
 have hne : la ≠ d := λ q => by rw [q,hd] at hla; cases hla
 refine WFor.dict d l rfl (ex1 _ _ hd) Unit (λ _ => [(0,.ref d),(1,kp),(2,.ref la)]) (OI6 l f d la H) () ⟨rfl,rfl,rfl,trivial⟩ (λ ob => ⟨by rw [upd_ne hne]; exact kla,ex1.both⟩) (λ ob i b H' h => by obtain ⟨-,h⟩ := h; exact h _ _ upd_same) (λ ob i v b H' hv h => ?_) (λ ob b H' h => ?_)
 ·obtain ⟨ka,ex⟩ := h
  have hvm := List.mem_of_getElem? hv
  obtain ⟨c,hc,hv2⟩ := D.ent hvm
  have hd' := ex _ _ (upd_same (H := H) (a := d) (o := .pdict l (some ob)))
  refine hk T.down ob H' v.1 _ rfl (by rw [hc]; simp) ex ?_
  have htk := take_snoc hv
  cases hf : f v.1 with
  | false => exact ⟨(),⟨rfl,rfl,rfl,trivial⟩,by rw [htk,List.filter_append,List.filter_cons,hf]; simpa using ka,ex⟩
  | true =>
   refine dict_at D hd' hc ?_
   refine SSetItem.dict (p := v.1) ka (by have := List.length_filter_le (λ e : Pt × PV => f e.1) (l.take i); simp at this; omega) ?_
   refine ⟨(),⟨rfl,rfl,rfl,trivial⟩,?_,Ext.upd ex (by rw [upd_ne hne]; exact hla)⟩
   rw [upd_same,dput_new (filter_take_new D hv),htk,List.filter_append,List.filter_cons,hf,<- hv2]; rfl
 ·obtain ⟨ka,ex⟩ := h
  rw [List.take_length] at ka
  exact ⟨la,rfl,Ext.pin hd ex,hla,by rw [upd_ne hne]; exact ka⟩
theorem moved6 (hL : L1 T.C) (hn : 3 <= T.n) (hh : T.hd = false) (h5 : n <= 5) (D : SD n G l) (hd : H d = some (.pdict l)) {p : Pt} (hp : inG n p) (g0 : G p = none) {col : Str} :
  SCode T X (.ref a_law_moved) [.ref d,.int n,pt p,.str col] H (MP6 n (mvG n G p col) H) R := by
 refine SCode.post λ QQ hQ => ?_
 refine hL.f_law_moved hh (by omega) rfl ?_
 refine SCode.call (only6 (T := T.down) (f := λ _ => true) hL (by show 1 <= T.n - 1; omega) hh h5 D hd λ T' ob H' z Q _ hz ex h => dict_in D (ex _ _ upd_same) z (by obtain ⟨c,hc⟩ := Option.ne_none_iff_exists'.mp hz; rw [hc]; exact h)) λ _ H1 h => ?_
 obtain ⟨la,rfl,ex1,hla,kla⟩ := h
 rw [show (l.filter λ e => true) = l from List.filter_eq_self.mpr λ _ _ => rfl] at kla
 have hlen := D.len h5
 refine SSetItem.dict (p := p) kla (by omega) ?_
 have D1 := D.put (c := col) hp
 have ex2 : Ext H (upd H1 la (.pdict (dput l p (.str col)))) := Ext.upd ex1 hla
 have k2 : upd H1 la (.pdict (dput l p (.str col))) la = some (.pdict (dput l p (.str col))) := upd_same
 have hmk := λ (L F : List Pt) => @moved_keep n G p col L F
 change wS _ _ _ _ (upd H1 la (.pdict (dput l p (.str col)))) _ _
 generalize upd H1 la (.pdict (dput l p (.str col))) = H2 at ex2 k2 ⊢
 clear kla ex1
 clear H1
 generalize dput l p (.str col) = l1 at D1 k2 ⊢
 generalize hM : mvG n G p col = M at hmk hQ
 generalize put G p (some col) = G₁ at D1 hmk
 have hlen1 := D1.len h5
 refine SCode.call (breathing6 (T := T.down) hL (by show 2 <= T.n - 1; omega) hh h5 D1 k2) λ _ H3 h => ?_
 obtain ⟨va,gl,rfl,ex3,hva,kva,vnd,vm⟩ := h
 have k3 := ex3 _ _ k2
 have kva : H3 va = some (.list ((gl.map (pOf n)).map pt)) := by rw [List.map_map]; exact kva
 have hLv : ∀ z,z ∈ gl.map (pOf n) ↔ ∃ k < n * n,pOf n k = z /\ Alive n G₁ k := λ z => by
  rw [List.mem_map]
  exact ⟨λ ⟨k,hk,e⟩ => ⟨k,((vm k).mp hk).1,e,((vm k).mp hk).2⟩,λ ⟨k,h1,h2,h3⟩ => ⟨k,(vm k).mpr ⟨h1,h3⟩,h2⟩⟩
 generalize gl.map (pOf n) = Lv at kva hLv
 have hmk := λ F => hmk Lv F D1.sup hLv
 refine WComp.dict la l1 rfl k3 (by omega) (λ ob i out H' => H' = upd H3 la (.pdict l1 (some ob)) /\ out = (((l1.take i).filter λ e => !(G₁ e.1 == some col) && !decide (e.1 ∈ Lv))).map λ e => pt e.1) (λ ob => ⟨rfl,rfl⟩) (λ ob i out H' h => by rw [h.1]; exact upd_same) (λ ob i v out H' hv h => ?_) (λ ob out H' h => ?_)
 ·obtain ⟨rfl,rfl⟩ := h
  obtain ⟨c,hc,hv2⟩ := D1.ent (List.mem_of_getElem? hv)
  refine dict_at D1 upd_same hc ?_
  have kva' : upd H3 la (.pdict l1 (some ob)) va = some (.list (Lv.map pt)) := by
   rw [upd_ne (λ q => by rw [q,k3] at kva; cases kva)]; exact kva
  refine br_bne (λ q => ?_) (λ q => ⟨rfl,fsnoc (g := λ e : Pt × PV => !(G₁ e.1 == some col) && !decide (e.1 ∈ Lv)) hv false (by rw [hc,q]; simp)⟩)
  refine SCmp.inL (.inl kva') (hd_pts Lv) hd_pt λ b hb => ?_
  rw [mem_dpts] at hb
  refine br_nin hb (λ hin => ⟨rfl,fsnoc (g := λ e : Pt × PV => !(G₁ e.1 == some col) && !decide (e.1 ∈ Lv)) hv true (by rw [hc,decide_eq_false hin]; simpa using q)⟩) (λ hin => ⟨rfl,fsnoc (g := λ e : Pt × PV => !(G₁ e.1 == some col) && !decide (e.1 ∈ Lv)) hv false (by rw [decide_eq_true hin]; simp)⟩)
 obtain ⟨rfl,rfl⟩ := h
 rw [List.take_length]
 have eun : upd (upd H3 la (.pdict l1 (some ob))) la (.pdict l1) = H3 := by
  funext a
  by_cases q : a = la
  ·subst q; rw [upd_same,k3]
  ·rw [upd_ne q,upd_ne q]
 rw [eun]
 refine ⟨H3,Ext.refl _,fresh λ fa H4 hfa ex4 kfa => ?_⟩
 have hF : ∀ z,z ∈ (l1.filter λ e => !(G₁ e.1 == some col) && !decide (e.1 ∈ Lv)).map (·.1) ↔ G₁ z ≠ none /\ G₁ z ≠ some col /\ z ∉ Lv := λ z => by
  rw [List.mem_map]
  constructor
  ·rintro ⟨e,he,rfl⟩
   obtain ⟨h1,h2⟩ := List.mem_filter.mp he
   simp only [Bool.and_eq_true,Bool.not_eq_true',beq_eq_false_iff_ne,ne_eq,decide_eq_false_iff_not] at h2
   exact ⟨D1.key.mp (List.mem_map.mpr ⟨e,h1,rfl⟩),h2⟩
  ·rintro ⟨h1,h2,h3⟩
   obtain ⟨e,he,rfl⟩ := List.mem_map.mp (D1.key.mpr h1)
   exact ⟨e,List.mem_filter.mpr ⟨he,by simp only [Bool.and_eq_true,Bool.not_eq_true',beq_eq_false_iff_ne,ne_eq,decide_eq_false_iff_not]; exact ⟨h2,h3⟩⟩,rfl⟩
 have kfa : H4 fa = some (.list (((l1.filter λ e => !(G₁ e.1 == some col) && !decide (e.1 ∈ Lv)).map (·.1)).map pt)) := by rw [kfa,List.map_map]; rfl
 have flen : ((l1.filter λ e => !(G₁ e.1 == some col) && !decide (e.1 ∈ Lv)).map (·.1)).length <= 25 := by rw [List.length_map]; exact Nat.le_trans (List.length_filter_le _ _) hlen1
 generalize (l1.filter λ e => !(G₁ e.1 == some col) && !decide (e.1 ∈ Lv)).map (·.1) = F at hF kfa flen
 have hmk := hmk F hF
 have k4 := ex4 _ _ k3
 have kva4 := ex4 _ _ kva
 have exH : Ext H H4 := (ex2.trans ex3).trans ex4
 have fin : ∀ (f : Pt -> Bool) (p' : PV) (H' : AHeap),keepG G₁ f = M -> (∀ (H5 : AHeap),Ext H H5 -> OP6 l1 f H5 p' H' -> QQ p' H') := λ f p' H' e H5 ex5 h => by
  obtain ⟨a,rfl,ex6,na,ka⟩ := h
  exact hQ _ _ ⟨a,_,rfl,ex5.trans ex6,ex5.none na,ka,e ▸ D1.filter f⟩
 refine STr.list (.inl kfa) (by rw [List.length_map]; omega) ?_
 rw [List.isEmpty_map]
 cases hFe : F with
 | nil =>
  subst hFe
  simp only [if_true] at hmk
  refine SCode.call (SCode.mono (only6 (T := T.down) (f := λ z => decide (z ∈ Lv)) hL (by show 1 <= T.n - 1; omega) hh h5 D1 k4 (kp := .ref va) λ T' ob H' z Q _ hz ex h => ?_) λ p' H' h => fin _ p' H' hmk H4 exH h) λ _ _ h => h
  have kv : H' va = some (.list (Lv.map pt)) := ex _ _ (by rw [upd_ne (λ q => by rw [q,k3] at kva; cases kva)]; exact kva4)
  refine SCmp.inL (.inl kv) (hd_pts Lv) hd_pt λ b hb => ?_
  rw [mem_dpts] at hb
  have : b = decide (z ∈ Lv) := Bool.eq_iff_iff.mpr (by rw [hb]; simp)
  rw [this]; exact h
 | cons f0 F0 =>
  have hFne : F ≠ [] := by rw [hFe]; simp
  rw [<- hFe,show F.isEmpty = false by rw [hFe]; rfl]
  simp only [if_neg hFne] at hmk
  refine WComp.dict la l1 rfl k4 (by omega) (λ ob i out H' => H' = upd H4 la (.pdict l1 (some ob)) /\ out = (((l1.take i).filter λ e => !decide (e.1 ∈ F))).map λ e => pt e.1) (λ ob => ⟨rfl,rfl⟩) (λ ob i out H' h => by rw [h.1]; exact upd_same) (λ ob i v out H' hv h => ?_) (λ ob out H' h => ?_)
  ·obtain ⟨rfl,rfl⟩ := h
   have kfa' : upd H4 la (.pdict l1 (some ob)) fa = some (.list (F.map pt)) := by
    rw [upd_ne (λ q => by rw [q,k4] at kfa; cases kfa)]; exact kfa
   refine SCmp.inL (.inl kfa') (hd_pts F) hd_pt λ b hb => ?_
   rw [mem_dpts] at hb
   refine br_nin hb (λ hin => ⟨rfl,fsnoc (g := λ e : Pt × PV => !decide (e.1 ∈ F)) hv true (by rw [decide_eq_false hin]; rfl)⟩) (λ hin => ⟨rfl,fsnoc (g := λ e : Pt × PV => !decide (e.1 ∈ F)) hv false (by rw [decide_eq_true hin]; rfl)⟩)
  obtain ⟨rfl,rfl⟩ := h
  rw [List.take_length]
  have eun4 : upd (upd H4 la (.pdict l1 (some ob))) la (.pdict l1) = H4 := by
   funext a
   by_cases q : a = la
   ·subst q; rw [upd_same,k4]
   ·rw [upd_ne q,upd_ne q]
  rw [eun4]
  refine ⟨H4,Ext.refl _,fresh λ ka H5 hka ex5 kka => ?_⟩
  have kka : H5 ka = some (.list (((l1.filter λ e => !decide (e.1 ∈ F)).map (·.1)).map pt)) := by rw [kka,List.map_map]; rfl
  have hKp : ∀ z,G₁ z ≠ none -> (z ∈ (l1.filter λ e => !decide (e.1 ∈ F)).map (·.1) ↔ z ∉ F) := λ z hz => by
   rw [List.mem_map]
   constructor
   ·rintro ⟨e,he,rfl⟩
    simpa using (List.mem_filter.mp he).2
   ·intro hzF
    obtain ⟨e,he,rfl⟩ := List.mem_map.mp (D1.key.mpr hz)
    exact ⟨e,List.mem_filter.mpr ⟨he,by simpa using hzF⟩,rfl⟩
  generalize (l1.filter λ e => !decide (e.1 ∈ F)).map (·.1) = Kp at kka hKp
  have k5 := ex5 _ _ k4
  refine SCode.call (SCode.mono (only6 (T := T.down) (f := λ z => decide (z ∈ Kp)) hL (by show 1 <= T.n - 1; omega) hh h5 D1 k5 (kp := .ref ka) λ T' ob H' z Q _ hz ex h => ?_) λ p' H' h => fin _ p' H' (hmk ▸ keepG_congr λ z hz => ?_) H5 (exH.trans ex5) h) λ _ _ h => h
  ·have kv : H' ka = some (.list (Kp.map pt)) := ex _ _ (by rw [upd_ne (λ q => by rw [q,k4] at hka; cases hka)]; exact kka)
   refine SCmp.inL (.inl kv) (hd_pts Kp) hd_pt λ b hb => ?_
   rw [mem_dpts] at hb
   have : b = decide (z ∈ Kp) := Bool.eq_iff_iff.mpr (by rw [hb]; simp)
   rw [this]; exact h
  ·have := hKp z hz
   by_cases q : z ∈ F
   ·rw [decide_eq_false λ h => this.mp h q,decide_eq_true q]; rfl
   ·rw [decide_eq_true (this.mpr q),decide_eq_false q]; rfl
theorem rows6 (hL : L1 T.C) (hn : 1 <= T.n) (hh : T.hd = false) (h5 : n <= 5) (D : SD n G l) (hd : H d = some (.pdict l)) {pa : Addr} (hp : H pa = some (.list ((grid n).map pt))) :
  SCode T X (.ref a_law_rows) [.ref d,.ref pa] H (OccPost n G H) R := by
 refine hL.f_law_rows hh hn rfl ?_
 refine WComp.list pa _ rfl hp (by rw [List.length_map]; have := grid_le h5; omega) (λ i out H' => H' = H /\ out = ((grid n).take i).filterMap λ z => (G z).map λ c => PV.tup [.str c,pt z]) ⟨rfl,rfl⟩ (λ i out H' h => h.1 ▸ hp) (λ i v out H' hv h => ?_) (λ out H' h => ?_)
 ·obtain ⟨rfl,rfl⟩ := h
  obtain ⟨z,hz,rfl⟩ := map_get hv
  have htk := take_snoc hz
  refine dict_in D hd z ?_
  cases hG : G z with
  | none => exact ⟨rfl,by rw [htk,List.filterMap_append]; simp only [List.filterMap_cons,hG,Option.map_none,List.filterMap_nil,List.append_nil,Option.toList_none]⟩
  | some c =>
   refine dict_at D hd hG ?_
   exact ⟨rfl,by rw [htk,List.filterMap_append]; simp only [List.filterMap_cons,hG,Option.map_some,List.filterMap_nil,Option.toList_some]⟩
 obtain ⟨rfl,rfl⟩ := h
 refine ⟨H',Ext.refl _,fresh λ a H2 ha ex2 ka => ?_⟩
 rw [List.length_map,List.take_length] at ka
 exact ⟨a,rfl,ex2,ha,ka⟩
end
end
section
theorem mem_docc {n : Nat} {G : Pt -> Option Str} {z : Pt} {c : Str} : Dat.tuple [.str c,dpt z] ∈ docc n G ↔ inG n z /\ G z = some c := by
 unfold docc
 rw [List.mem_filterMap]
 constructor
 ·rintro ⟨y,hy,h⟩
  obtain ⟨c',hc',h⟩ := Option.map_eq_some_iff.mp h
  injection h with h
  injection h with h1 h2
  injection h1 with h1
  injection h2 with h2 _
  have := dpt_inj h2
  subst this; subst h1
  exact ⟨mem_grid.mp hy,hc'⟩
 ·rintro ⟨h1,h2⟩
  exact ⟨z,mem_grid.mpr h1,by rw [h2]; rfl⟩
theorem docc_inj {n : Nat} {G G' : Pt -> Option Str} (s : ∀ z,G z ≠ none -> inG n z) (s' : ∀ z,G' z ≠ none -> inG n z) (h : docc n G = docc n G') : G = G' := by
 funext z
 cases e : G z with
 | some c => exact ((mem_docc.mp (h ▸ mem_docc.mpr ⟨s z (by rw [e]; simp),e⟩)).2).symm
 | none =>
  cases e' : G' z with
  | none => rfl
  | some c =>
   have := (mem_docc.mp (h.symm ▸ mem_docc.mpr ⟨s' z (by rw [e']; simp),e'⟩ : Dat.tuple [.str c,dpt z] ∈ docc n G)).2
   rw [e] at this; cases this
theorem docc_nil {n : Nat} {G : Pt -> Option Str} (s : ∀ z,G z ≠ none -> inG n z) : docc n G = [] ↔ ∀ z,G z = none := by
 constructor
 ·intro h z
  cases e : G z with
  | none => rfl
  | some c => have := mem_docc.mpr ⟨s z (by rw [e]; simp),e⟩; rw [h] at this; cases this
 ·intro h
  unfold docc
  rw [List.filterMap_eq_nil_iff]
  intro z _; rw [h z]; rfl
theorem Keep.after {H H1 H2 : AHeap} {d : Addr} {rows : List Addr} (ex : Ext H H1) (kp : Keep H1 d rows H2) (nd : H d = Option.none) (nr : ∀ a ∈ rows,H a = Option.none) : Ext H H2 := λ a o h =>
 kp a o (ex a o h) (λ q => by rw [q,nd] at h; cases h) (λ q => by rw [nr a q] at h; cases h)
noncomputable def repF (n : Nat) (G A : Pt -> Option Str) (foe : Str) (q : Pt) : Option PV := open Classical in if A q = none /\ mvG n A q foe = G then some (.tup [pt q,pvPt ((mvK n A q foe).map (pOf n))]) else none
theorem rep_no {n : Nat} {G A : Pt -> Option Str} {foe : Str} {q : Pt} (h : ¬ (A q = none /\ mvG n A q foe = G)) : repF n G A foe q = none := by unfold repF; rw [if_neg h]
theorem rep_yes {n : Nat} {G A : Pt -> Option Str} {foe : Str} {q : Pt} (h : A q = none /\ mvG n A q foe = G) : repF n G A foe q = some (.tup [pt q,pvPt ((mvK n A q foe).map (pOf n))]) := by unfold repF; rw [if_pos h]
theorem fm_snoc {f : Pt -> Option PV} {l : List Pt} {i : Nat} {z : Pt} {o : Option PV} (h : l[i]? = some z) (ho : f z = o) : (l.take (i + 1)).filterMap f = (l.take i).filterMap f ++ o.toList := by
 rw [take_snoc h,List.filterMap_append,<- ho]
 congr 1
section
variable {T : Tr} {X : String} {H : AHeap} {R : AHeap -> Prop} {x d bp bd : Addr} {rows : List Addr} {n : Nat} {G : Pt -> Option Str} {e : Bool} {ls : LN} {oa : Addr}
theorem occ_ne6 (hL : L1 T.C) (hn : 4 <= T.n) (hv : ∀ z c,G z = some c -> PyData.strOk c = true) (B : BdAt x d bp bd rows n G e H) {i v : Nat} (hi : lkN i ls = some (.ref x)) (hw : lkN v ls = some (.ref oa)) (ho : H oa = some (.list (occ n G))) {Q : PV -> AHeap -> Prop} (hQ : ∀ H',Ext H H' -> Q (.bool false) H') :
  w T X (.cmp .NotEq (.meth (.var i) "list_occupied_points" .nil) (.var v)) .t ls H R Q := by
 refine w_var (X := X) (R := R) hi ?_
 refine M.own (B.meth hL (by decide +kernel) (by kernel_rfl) (by kernel_rfl) (by kernel_rfl)) (SCode.call (occupied_spec hL (by omega) B) λ _ H1 h => ?_)
 obtain ⟨oc,rfl,ex,hoc,koc⟩ := h
 refine w_var (X := X) (R := R) hw ?_
 refine SCmp.neD (hd_occ hv koc) (hd_occ hv (ex _ _ ho)) λ b hb => ?_
 cases b with
 | false => exact hQ _ ex
 | true => exact absurd rfl (hb.mp rfl)
theorem w_or2 {a b : IE} {Q : PV -> AHeap -> Prop} (h : w T X a .t ls H R λ p H₁ => match p with
  | .bool c => cond c (Q (.bool true) H₁) (w T X b .o ls H₁ R Q)
  | _ => False) : w T X (.boolop .Or (.cons a b)) .t ls H R Q := h
theorem w_ocons {a b : IE} {Q : PV -> AHeap -> Prop} (h : w T X a .t ls H R λ p H₁ => match p with
  | .bool c => cond c (Q (.bool true) H₁) (w T X b .o ls H₁ R Q)
  | _ => False) : w T X (.cons a b) .o ls H R Q := h
theorem shows6 (hL : L1 T.C) (hn : 4 <= T.n) (hh : T.hd = false) (P : LPos n G) (B : BdAt x d bp bd rows n G e H) (em : e = true ↔ ∀ z,G z = none) {v : Nat} (hi : lkN 9 ls = some (.ref x)) (hw : lkN v ls = some (.ref oa)) (ho : H oa = some (.list (occ n G))) {Q : PV -> AHeap -> Prop} (hQ : ∀ H',Ext H H' -> Q (.bool false) H') :
  w T X (.boolop .Or (.cons (.cmp .NotEq (.meth (.var 9) "list_occupied_points" .nil) (.var v)) (.cons (.cmp .NotEq (.meth (.var 9) "is_empty" .nil) (.cmp .Eq (.var v) (.list .nil))) .nil))) .t ls H R Q := by
 refine w_or2 (X := X) (R := R) ?_
 refine occ_ne6 (X := X) (R := R) hL hn P.strOk B hi hw ho λ H1 ex1 => ?_
 have B1 := B.ext ex1
 refine w_var (X := X) (R := R) hi ?_
 refine M.own (B1.meth hL (by decide +kernel) (by kernel_rfl) (by kernel_rfl) (by kernel_rfl)) (SCode.call (is_empty_spec hL (by omega) hh B1) λ _ H2 h => ?_)
 obtain ⟨rfl,rfl⟩ := h
 refine w_var (X := X) (R := R) hw ?_
 refine fresh λ c H3 hc ex3 k3 => ?_
 refine SCmp.eqD (hd_occ P.strOk (ex3 _ _ (ex1 _ _ ho))) (hd_ptl (gl := []) k3) λ b hb => ?_
 have hb : b = true ↔ ∀ z,G z = none := hb.trans ⟨λ h => (docc_nil P.sup).mp (Dat.list.inj h),λ h => congrArg Dat.list ((docc_nil P.sup).mpr h)⟩
 refine SCmp.neB ?_
 have hbe : e = b := Bool.eq_iff_iff.mpr (em.trans hb.symm)
 subst hbe
 rw [show (e != e) = false by simp]
 exact hQ _ (ex1.trans ex3)
end
noncomputable def RL (n : Nat) (s1 : Pt) (pa sd : Addr) (p : Pt) (x : Addr) (c1 c2 : Str) (ba aa ka : Addr) (foe : Str) (told : PV) : LN := [(1,.int n),(3,pt s1),(4,.ref pa),(5,.ref sd),(7,pt p),(9,.ref x),(16,.str c1),(17,.str c2),(21,.ref ba),(22,.ref aa),(23,.ref ka),(28,.str foe),(29,told)]
inductive RJ (n : Nat) (G A : Pt -> Option Str) (foe : Str) (ka : Addr) (H : AHeap) (i : Nat) (u : Unit) (H' : AHeap) : Prop
 | mk (k1 : H' ka = some (.list (((grid n).take i).filterMap (repF n G A foe)))) (ex : Ext H H') : RJ n G A foe ka H i u H'
section
variable {T : Tr} {X : String} {H : AHeap} {x d bp bd : Addr} {rows : List Addr} {n : Nat} {G A : Pt -> Option Str} {e : Bool} {ls : LN} {pa sd ba aa ka : Addr} {l : List (Pt × PV)}
theorem replies6 (hL : L1 T.C) (hn : 8 <= T.n) (hh : T.hd = false) (hX : X = "ValueError") (P : LPos n G) (PA : LPos n A) {mine foe : Str} (hco : Cols mine foe) (B : BdAt x d bp bd rows n A e H) (D : SD n A l) (hsd : H sd = some (.pdict l)) (hpa : H pa = some (.list ((grid n).map pt))) (hba : H ba = some (.list (occ n G))) (hka : H ka = none) {H0 : AHeap} (ex0 : Ext H H0) (k0 : H0 ka = some (.list []))
  {s1 p : Pt} {c1 c2 : Str} {told : PV} (hls : SubN (RL n s1 pa sd p x c1 c2 ba aa ka foe told) ls) {Q : AFl -> LN -> AHeap -> Prop}
  (hQ : ∀ H',H' ka = some (.list ((grid n).filterMap (repF n G A foe))) -> Ext H H' -> Q .next (RL n s1 pa sd p x c1 c2 ba aa ka foe told) H') :
  WFor T (.ref pa) ls H0 (λ v ls' H' K => wT T X (.var 24) v ls' H' noRL λ ls'' H'' => wS i_reply X T ls'' H'' noRL K) Q := by
 have n5 := B.five
 have hco' : Cols foe mine := by rcases hco with ⟨a,b⟩ | ⟨a,b⟩; exact .inr ⟨b,a⟩; exact .inl ⟨b,a⟩
 have hval : ∀ q s,A q = some s -> s = foe \/ s = mine := λ q s h => by
  rcases PA.val q s h with rfl | rfl <;> rcases hco with ⟨rfl,rfl⟩ | ⟨rfl,rfl⟩ <;> simp
 refine WFor.list pa _ rfl (ex0 _ _ hpa) Unit (λ _ => RL n s1 pa sd p x c1 c2 ba aa ka foe told) (RJ n G A foe ka H) () hls ⟨k0,ex0⟩ (λ i b H' h => by obtain ⟨-,h⟩ := h; exact h _ _ hpa) (λ i v u H' hv h => ?_) (λ u H' h => ?_)
 ·obtain ⟨k1,ex⟩ := h
  obtain ⟨q,hq,rfl⟩ := map_get hv
  have hqg := mem_grid.mp (List.mem_of_getElem? hq)
  have i25 : i < 25 := Nat.lt_of_lt_of_le (List.getElem?_eq_some_iff.mp hq).1 (grid_le n5)
  refine dict_in D (ex _ _ hsd) q ?_
  cases hA : A q with
  | some c => exact ⟨(),⟨rfl,rfl,rfl,rfl,rfl,rfl,rfl,rfl,rfl,rfl,rfl,rfl,rfl,trivial⟩,by rw [fm_snoc hq (rep_no (n := n) (G := G) (foe := foe) λ h => by rw [hA] at h; cases h.1)]; simpa using k1,ex⟩
  | none =>
  have B1 := B.ext ex
  refine M.own (B1.meth hL (by decide +kernel) (by kernel_rfl) (by kernel_rfl) (by kernel_rfl)) (SCode.call (copy_spec hL (by omega) hh B1) λ _ H1 h => ?_)
  obtain ⟨x2,d2,bp2,bd2,rows2,l2,rfl,B2,ex1,nd2,nr2,hl2,le2⟩ := h
  refine Exists.intro (.ref a_play) (And.intro (B2.meth hL (by decide +kernel) (by kernel_rfl) (by kernel_rfl) (by kernel_rfl)) ?_)
  refine SSub.pt0 (z := q) (SSub.pt1 (z := q) ?_)
  refine SCode.call (play_spec (T := T) (r := q.1) (c := q.2) hL (by omega) hh B2 hqg hco' hval ⟨l2,hl2,by omega⟩ hX λ w => absurd hA w) λ told' H2 h => ?_
  obtain ⟨L,hdl,l3,l4,hG0,fs,hL5,rfl,B3,K3,-,-,-⟩ := h
  obtain ⟨q1,⟨o,q2,q3⟩,-⟩ := play_act PA hqg hco' hG0 fs
  obtain ⟨a1,a2⟩ := act_none (n := n) (col := foe) hG0
  rw [a1] at q1
  have q1 : rm (put A (q.1,q.2) (some foe)) (ptsOf (capOf mine L)) = mvG n A q foe := q1
  have q2 : o = mvK n A q foe := by rw [a2] at q2; exact (Option.some.inj q2).symm
  rw [q1] at B3
  rw [q3,q2]
  have PB : LPos n (mvG n A q foe) := a1 ▸ PA.act hqg hco'
  have ex2 : Ext H' H2 := Keep.after ex1 K3 nd2 nr2
  refine M.own (B3.meth hL (by decide +kernel) (by kernel_rfl) (by kernel_rfl) (by kernel_rfl)) (SCode.call (occupied_spec hL (by omega) B3) λ _ H3 h => ?_)
  obtain ⟨oc,rfl,ex3,hoc,koc⟩ := h
  have exA := (ex.trans ex2).trans ex3
  refine SCmp.eqD (hd_occ PB.strOk koc) (hd_occ P.strOk (exA _ _ hba)) λ b hb => ?_
  have hb : b = true ↔ mvG n A q foe = G := hb.trans ⟨λ h => docc_inj PB.sup P.sup (Dat.list.inj h),λ h => by rw [h]⟩
  have k3 := ex3 _ _ (ex2 _ _ k1)
  cases b with
  | false => exact ⟨(),⟨rfl,rfl,rfl,rfl,rfl,rfl,rfl,rfl,rfl,rfl,rfl,rfl,rfl,trivial⟩,by rw [fm_snoc hq (rep_no (n := n) (G := G) (foe := foe) λ h => by have := hb.mpr h.2; cases this)]; simpa using k3,exA⟩
  | true =>
   refine M.append k3 (by have := List.length_filterMap_le (repF n G A foe) ((AM.grid n).take i); simp at this; omega) ?_
   refine ⟨(),⟨rfl,rfl,rfl,rfl,rfl,rfl,rfl,rfl,rfl,rfl,rfl,rfl,rfl,trivial⟩,?_,Ext.upd exA hka⟩
   rw [upd_same,fm_snoc hq (rep_yes ⟨hA,hb.mp rfl⟩)]; rfl
 ·obtain ⟨k1,ex⟩ := h
  rw [List.length_map,List.take_length] at k1
  exact hQ H' k1 ex
end
end
section
noncomputable def TL (n : Nat) (s1 : Pt) (pa : Addr) (x : Addr) (c1 c2 : Str) (sd : Addr) : LN := [(1,.int n),(3,pt s1),(4,.ref pa),(5,.ref sd),(9,.ref x),(16,.str c1),(17,.str c2)]
theorem subn_TL {n : Nat} {s1 : Pt} {pa sd : Addr} {p : Pt} {x : Addr} {c1 c2 : Str} {ba aa ka : Addr} {foe : Str} {told : PV} : SubN (TL n s1 pa x c1 c2 sd) (RL n s1 pa sd p x c1 c2 ba aa ka foe told) := ⟨rfl,rfl,rfl,rfl,rfl,rfl,rfl,trivial⟩
noncomputable def backL (n : Nat) (p : Pt) : Option Nat -> List PV
 | none => []
 | some j => [.tup [pt (pOf n j),pt p]]
inductive LI6 (n : Nat) (x d bp bd : Addr) (rows : List Addr) (pa na : Addr) (ks : List Int) (i : Nat) (sd : Addr) (H : AHeap) : Prop
 | mk (G : Pt -> Option Str) (l : List (Pt × PV)) (e : Bool) (la : Ls) (P : LPos n G) (B : BdAt x d bp bd rows n G e H) (em : e = true ↔ ∀ z,G z = none) (hd : H d = some (.attrs la)) (hla : la.length <= 20 + 4 * i) (D : SD n G l) (hs : H sd = some (.pdict l)) (hp : H pa = some (.list ((grid n).map pt))) (hn : H na = some (.list (ks.map PV.int))) : LI6 n x d bp bd rows pa na ks i sd H
section
variable {T : Tr} {X : String} {H : AHeap} {x d bp bd : Addr} {rows : List Addr} {n : Nat} {G A : Pt -> Option Str} {e : Bool} {pa sd ba aa ka : Addr} {l : List (Pt × PV)}
theorem tp6 (D : SD n A l) (hsd : H sd = some (.pdict l)) {foe : Str} {p : Pt} {o : Option Nat} (h1 : A p = none -> o = none) (hka : H ka = some (.list ((grid n).filterMap (repF n G A foe))))
  (h2 : A p ≠ none -> (grid n).filterMap (repF n G A foe) = backL n p o) {s1 : Pt} {c1 c2 : Str} {K : AFl -> LN -> AHeap -> Prop}
  (hK : ∀ H',Ext H H' -> K .next (RL n s1 pa sd p x c1 c2 ba aa ka foe (pvPt (o.map (pOf n)))) H') : wS i_tp X T (RL n s1 pa sd p x c1 c2 ba aa ka foe (pvPt (o.map (pOf n)))) H noRL K := by
 refine dict_in D hsd p ?_
 cases hA : A p with
 | none =>
  rw [h1 hA] at hK ⊢
  exact hK _ (Ext.refl _)
 | some c =>
  have h2 := h2 (by rw [hA]; simp)
  rw [h2] at hka
  cases o with
  | none =>
   refine fresh λ q H1 hq ex1 k1 => ?_
   refine SCmp.neD (hd_ptl (gl := []) (ex1 _ _ hka)) (hd_ptl (gl := []) k1) λ b hb => ?_
   cases b with
   | false => exact hK _ ex1
   | true => exact absurd rfl (hb.mp rfl)
  | some j =>
   have hd2 : ∀ {C : Cx} {H : AHeap} {a : Addr},H a = some (.list [.tup [pt (pOf n j),pt p]]) -> HD C H 9 (.ref a) (.list [.tuple [dpt (pOf n j),dpt p]]) := λ h => HD.list' (.inl h) (All2.mk (HD.tup' (All2.mk (hd_pt (k := 5)) (All2.mk (hd_pt (k := 5)) rfl))) rfl)
   refine fresh λ q H1 hq ex1 k1 => ?_
   refine SCmp.neD (hd2 (ex1 _ _ hka)) (hd2 k1) λ b hb => ?_
   cases b with
   | false => exact hK _ ex1
   | true => exact absurd rfl (hb.mp rfl)
theorem rep_list (P : LPos n G) {mine foe : Str} (hco : Cols mine foe) {kp : Nat} (hk : kp < n * n) (g0 : G (pOf n kp) = none) (hp : mvG n G (pOf n kp) mine (pOf n kp) ≠ none) :
  (grid n).filterMap (repF n G (mvG n G (pOf n kp) mine) foe) = backL n (pOf n kp) (mvK n G (pOf n kp) mine) := by
 have key : ∀ q ∈ grid n,∀ v,repF n G (mvG n G (pOf n kp) mine) foe q = some v -> ∃ j,mvK n G (pOf n kp) mine = some j /\ pOf n j = q := λ q hq v hv => by
  by_cases c : mvG n G (pOf n kp) mine q = none /\ mvG n (mvG n G (pOf n kp) mine) q foe = G
  ·obtain ⟨j,hj,rfl⟩ := pOf_surj (mem_grid.mp hq)
   exact ⟨j,back_to P hco hk g0 hp hj c.1 c.2,rfl⟩
  ·rw [rep_no c] at hv; cases hv
 cases hK : mvK n G (pOf n kp) mine with
 | none =>
  refine List.filterMap_eq_nil_iff.mpr λ q hq => ?_
  cases e : repF n G (mvG n G (pOf n kp) mine) foe q with
  | none => rfl
  | some v => obtain ⟨j,hj,-⟩ := key q hq v e; rw [hK] at hj; cases hj
 | some j =>
  obtain ⟨b1,b2,b3,b4⟩ := back_of P hco hk g0 hK
  have hv : repF n G (mvG n G (pOf n kp) mine) foe (pOf n j) = some (.tup [pt (pOf n j),pt (pOf n kp)]) := by rw [rep_yes ⟨b2,b3⟩,b4]; rfl
  obtain ⟨l1,l2,el⟩ := List.append_of_mem (mem_grid.mpr (pOf_in b1))
  have nd := grid_nodup (n := n)
  rw [el] at nd
  have no : ∀ q,q ∈ grid n -> q ≠ pOf n j -> repF n G (mvG n G (pOf n kp) mine) foe q = none := λ q hq hne => by
   cases e : repF n G (mvG n G (pOf n kp) mine) foe q with
   | none => rfl
   | some v => obtain ⟨j',hj',e'⟩ := key q hq v e; rw [hK] at hj'; cases hj'; exact absurd e'.symm hne
  obtain ⟨n1,n2,n3⟩ := List.nodup_append.mp nd
  have z1 : l1.filterMap (repF n G (mvG n G (pOf n kp) mine) foe) = [] := List.filterMap_eq_nil_iff.mpr λ q hq => no q (by rw [el]; exact List.mem_append_left _ hq) (n3 q hq _ (.head _))
  have z2 : l2.filterMap (repF n G (mvG n G (pOf n kp) mine) foe) = [] := List.filterMap_eq_nil_iff.mpr λ q hq => no q (by rw [el]; exact List.mem_append_right _ (.tail _ hq)) λ e => (List.nodup_cons.mp n2).1 (e ▸ hq)
  rw [el,List.filterMap_append,List.filterMap_cons,hv,z1,z2]; rfl
theorem tn6 (hL : L1 T.C) (hn : 10 <= T.n) (hh : T.hd = false) (hX : X = "ValueError") (P : LPos n G) {mine foe : Str} (hco : Cols mine foe) {kp : Nat} (hk : kp < n * n) (g0 : G (pOf n kp) = none) (hAe : mvG n G (pOf n kp) mine = A) (PA : LPos n A) (B : BdAt x d bp bd rows n A e H) (D : SD n A l) (hsd : H sd = some (.pdict l)) (hpa : H pa = some (.list ((grid n).map pt))) (hba : H ba = some (.list (occ n G))) (haa : H aa = some (.list (occ n A)))
  {s1 : Pt} {c1 c2 : Str} {ls : LN} (hls : ∀ v,SubN (RL n s1 pa sd (pOf n kp) x c1 c2 ba aa v foe (pvPt ((mvK n G (pOf n kp) mine).map (pOf n)))) ((23,.ref v) :: ls)) (h4 : lkN 4 ((23,.none) :: ls) = some (.ref pa)) {K : AFl -> LN -> AHeap -> Prop} (hK : ∀ ls H',SubN (TL n s1 pa x c1 c2 sd) ls -> Ext H H' -> K .next ls H') : wS i_tn X T ls H noRL K := by
 subst hAe
 refine fresh λ ka H0 hka ex0 k0 => ?_
 refine w_var (X := X) (R := noR) ((hls ka).2.2.1) ?_
 refine replies6 hL (by omega) hh hX P PA hco B D hsd hpa hba hka ex0 k0 (hls ka) λ H1 k1 ex1 => ?_
 refine wS_seq (wS_ite (occ_ne6 hL (by omega) PA.strOk (B.ext ex1) rfl rfl (ex1 _ _ haa) λ H2 ex2 => ?_))
 refine tp6 (K := K) D (ex2 _ _ (ex1 _ _ hsd)) (λ h => self_none P hco hk h) (ex2 _ _ k1) (λ h => rep_list P hco hk g0 h) λ H3 ex3 => hK _ _ subn_TL ((ex1.trans ex2).trans ex3)
end
end
section
section
variable {T : Tr} {X : String} {H : AHeap} {x d bp bd : Addr} {rows : List Addr} {n : Nat} {pa na sd : Addr}
theorem turn6 (hL : L1 T.C) (hn : 12 <= T.n) (hh : T.hd = false) (hX : X = "ValueError") (n2 : 2 <= n) (n5 : n <= 5) {ks : List Int} (hpr : pa ∉ rows) (hnr : na ∉ rows) {s1 : Pt} {c1 c2 : Str} (hc : Cols c1 c2) {i : Nat} {m : Int} (hi : i < 3) (hI : LI6 n x d bp bd rows pa na ks i sd H) {K : AFl -> LN -> AHeap -> Prop}
  (hK : ∀ ls H' sd',SubN (TL n s1 pa x c1 c2 sd') ls -> LI6 n x d bp bd rows pa na ks (i + 1) sd' H' -> K .next ls H' /\ K .cont ls H') : wS i_turn X T ((14,.int m) :: TL n s1 pa x c1 c2 sd) H noRL K := by
 obtain ⟨G,l,e,la,P,B,em,hd,hla,D,hs,hp,hna⟩ := hI
 refine SSub.pt0 (z := s1) ?_
 refine And.intro (by omega) ?_
 refine SSub.pt1 (z := s1) ?_
 refine And.intro (divOk (by omega) (by omega)) ?_
 refine And.intro (by omega) ?_
 obtain ⟨r1,r2⟩ := @fmod_rng (s1.1 + m) n (by omega)
 obtain ⟨q1,q2⟩ := @fmod_rng (s1.2 + m.fdiv n) n (by omega)
 change wS _ _ _ ((7,pt ((s1.1 + m).fmod n,(s1.2 + m.fdiv n).fmod n)) :: (14,.int m) :: TL n s1 pa x c1 c2 sd) _ _ _
 obtain ⟨kp,hk,ek⟩ := pOf_surj (n := n) (z := ((s1.1 + m).fmod n,(s1.2 + m.fdiv n).fmod n)) ⟨⟨r1,r2⟩,q1,q2⟩
 rw [<- ek]
 clear ek r1 r2 q1 q2
 refine And.intro (divOk (by omega) (by omega)) ?_
 refine And.intro (divOk (by omega) (by omega)) ?_
 refine And.intro (by decide) ?_
 have step : ∀ mine foe : Str,Cols mine foe -> wS (.seq (.assign (.var 21) (.call (.ref a_law_rows) (.cons (.var 5) (.cons (.var 4) .nil)))) (match i_turn with | .seq _ (.seq _ (.seq _ r)) => r | r => r)) X T ((28,.str foe) :: (27,.str mine) :: (7,pt (pOf n kp)) :: (14,.int m) :: TL n s1 pa x c1 c2 sd) H noRL K := λ mine foe hco => by
  have hg := pOf_in hk
  have hval : ∀ q s,G q = some s -> s = mine \/ s = foe := λ q s h => by
   rcases P.val q s h with rfl | rfl <;> rcases hco with ⟨rfl,rfl⟩ | ⟨rfl,rfl⟩ <;> simp
  refine SCode.call (rows6 (T := T) hL (by omega) hh n5 D hs hp) λ _ H1 h => ?_
  obtain ⟨ba,rfl,ex1,hba,kba⟩ := h
  refine wS_seq (wS_ite (shows6 hL (by omega) hh P (B.ext ex1) em rfl rfl kba λ H2 ex2 => ?_))
  have ex := ex1.trans ex2
  have B2 := B.ext ex
  have kba2 := ex2 _ _ kba
  have hbr := list_notrow B hba
  have hd2 := ex _ _ hd
  have hs2 := ex _ _ hs
  have hp2 := ex _ _ hp
  have hn2 := ex _ _ hna
  clear B hd hs hp hna kba ex1 ex hba ex2
  clear H1
  refine Exists.intro "ValueError" (Exists.intro (λ ls'' H'' => H'' = H2 /\ G (pOf n kp) ≠ none /\ ls'' = (21,.ref ba) :: (28,.str foe) :: (27,.str mine) :: (7,pt (pOf n kp)) :: (14,.int m) :: TL n s1 pa x c1 c2 sd) (And.intro catchV (And.intro ?_ ?_)))
  case refine_2 =>
   rintro ls'' H'' ⟨rfl,hG,rfl⟩
   obtain ⟨c,hc'⟩ := Option.ne_none_iff_exists'.mp hG
   refine dict_in D hs2 (pOf n kp) ?_
   rw [hc']
   refine br (λ q => (nomatch q)) (λ _ => ?_)
   refine w_ocons ?_
   refine occ_ne6 (T := T.inH) hL (by show 4 <= T.n; omega) P.strOk B2 rfl rfl kba2 λ H3 ex3 => ?_
   exact (hK _ _ sd ⟨rfl,rfl,rfl,rfl,rfl,rfl,rfl,trivial⟩ ⟨G,l,e,la,P,B2.ext ex3,em,ex3 _ _ hd2,by omega,D,ex3 _ _ hs2,ex3 _ _ hp2,ex3 _ _ hn2⟩).2
  refine Exists.intro (.ref a_play) (And.intro (B2.meth hL (by decide +kernel) (by kernel_rfl) (by kernel_rfl) (by kernel_rfl)) ?_)
  refine SSub.pt0 (z := pOf n kp) (SSub.pt1 (z := pOf n kp) ?_)
  refine SCode.call (play_spec (T := T) (r := (pOf n kp).1) (c := (pOf n kp).2) hL (by omega) hh B2 hg hco hval ⟨la,hd2,by omega⟩ rfl λ q => ⟨rfl,q,rfl⟩) λ told H3 h => ?_
  obtain ⟨L,hdl,l1,l2,hG0,fs,hL5,rfl,B3,K3,hl1,hl2,hl12⟩ := h
  rw [hd2] at hl1; cases hl1
  have hG0 : G (pOf n kp) = none := hG0
  obtain ⟨p1,⟨o,p2,p3⟩,p4⟩ := play_act P hg hco hG0 fs
  obtain ⟨a1,a2⟩ := act_none (n := n) (col := mine) hG0
  have PA : LPos n (mvG n G (pOf n kp) mine) := a1 ▸ P.act hg hco
  rw [a1] at p1 p4
  have p1 : rm (put G ((pOf n kp).1,(pOf n kp).2) (some mine)) (ptsOf (capOf foe L)) = mvG n G (pOf n kp) mine := p1
  have p2 : o = mvK n G (pOf n kp) mine := by rw [a2] at p2; exact (Option.some.inj p2).symm
  rw [p1] at B3
  rw [p3,p2]
  have kd : ∀ {a : Addr} {o : AO},H2 a = some o -> (∀ la,o ≠ .attrs la) -> a ∉ rows -> H3 a = some o := λ h hk hr => K3 _ _ h (λ q => by rw [q,hd2] at h; cases h; exact hk _ rfl) hr
  have nr : ∀ {a : Addr} {o : AO},H2 a = some o -> (∀ l,o ≠ .list l) -> a ∉ rows := λ {a o} h hk hr => by
   obtain ⟨j,hj⟩ := List.getElem?_of_mem hr
   rw [B2.row j a hj] at h; cases h; exact hk _ rfl
  have hs3 := kd hs2 (by intro l q; cases q) (nr hs2 (by intro l q; cases q))
  have hp3 := kd hp2 (by intro l q; cases q) hpr
  have hn3 := kd hn2 (by intro l q; cases q) hnr
  have hbar : ba ∉ rows := hbr
  have kba3 := kd kba2 (by intro l q; cases q) hbar
  refine dict_in D hs3 (pOf n kp) ?_
  rw [hG0]
  refine SCode.call (moved6 (T := T) hL (by omega) hh n5 D hs3 hg hG0) λ _ H4 h => ?_
  obtain ⟨sd',l',rfl,ex4,hsd',ksd',D'⟩ := h
  refine SCode.call (rows6 (T := T) hL (by omega) hh n5 D' ksd' (ex4 _ _ hp3)) λ _ H5 h => ?_
  obtain ⟨aa,rfl,ex5,haa,kaa⟩ := h
  have ex45 := ex4.trans ex5
  refine wS_seq (wS_ite (shows6 hL (by omega) hh PA (B3.ext ex45) p4 rfl rfl kaa λ H6 ex6 => ?_))
  have ex := ex45.trans ex6
  refine tn6 (K := K) hL (by omega) hh hX P hco hk hG0 rfl PA (B3.ext ex) D' (ex6 _ _ (ex5 _ _ ksd')) (ex _ _ hp3) (ex _ _ kba3) (ex6 _ _ kaa) (λ v => ⟨rfl,rfl,rfl,rfl,rfl,rfl,rfl,rfl,rfl,rfl,rfl,rfl,rfl,trivial⟩) rfl λ ls H' hsub ex7 => ?_
  have exA := ex.trans ex7
  exact (hK _ _ sd' hsub ⟨_,l',_,l2,PA,B3.ext exA,p4,exA _ _ hl2,by omega,D',ex7 _ _ (ex6 _ _ (ex5 _ _ ksd')),exA _ _ hp3,exA _ _ hn3⟩).1
 refine br (λ _ => ?_) (λ _ => ?_)
 ·exact step c1 c2 hc
 ·exact step c2 c1 (by rcases hc with ⟨a,b⟩ | ⟨a,b⟩; exact .inr ⟨b,a⟩; exact .inl ⟨b,a⟩)
end
end
section
theorem slice_len {α : Type} (a b : Nat) (l : List α) : ((l.take a).drop b).length <= a - b := by rw [List.length_drop]; exact Nat.sub_le_sub_right (List.length_take_le a l) b
theorem setS {n : Nat} {S : Pt -> Option Str} (sup : ∀ z,S z ≠ none -> inG n z) (val : ∀ q s,S q = some s -> s = "b" \/ s = "w") :
  setG (setG (setG (λ _ => none) ((grid n).filter λ z => S z == some "b") (some "b")) ((grid n).filter λ z => S z == some "w") (some "w")) [] none = S := by
 have hne : ("w" : Str) ≠ "b" := by decide +kernel
 rw [setG_nil]
 funext z
 unfold setG
 cases e : S z with
 | none =>
  rw [if_neg (by rw [List.mem_filter,e]; simp),if_neg (by rw [List.mem_filter,e]; simp)]
 | some c =>
  have hg := mem_grid.mpr (sup z (by rw [e]; simp))
  rcases val z c e with rfl | rfl
  ·have hn : z ∉ (grid n).filter (λ z => S z == some "w") := λ h => hne.symm (by simpa [e] using (List.mem_filter.mp h).2)
   rw [if_neg hn,if_pos (List.mem_filter.mpr ⟨hg,by rw [e]; simp⟩)]
  ·rw [if_pos (List.mem_filter.mpr ⟨hg,by rw [e]; simp⟩)]
section
variable {T : Tr} {X : String} {H : AHeap} {x d bp bd : Addr} {rows : List Addr} {n : Nat} {S : Pt -> Option Str} {pa sd : Addr} {l : List (Pt × PV)}
noncomputable def DL6 (sc : Addr) (n : Nat) (s1 : Pt) (pa sd x : Addr) (b : Bool) (c1 c2 : Str) : LN := [(0,.ref sc),(1,.int n),(3,pt s1),(4,.ref pa),(5,.ref sd),(9,.ref x),(12,.bool b),(16,.str c1),(17,.str c2)]
noncomputable def CL6 (sc : Addr) (n : Nat) (s1 : Pt) (pa sd : Addr) (c1 c2 : Str) : LN := [(0,.ref sc),(1,.int n),(3,pt s1),(4,.ref pa),(5,.ref sd),(16,.str c1),(17,.str c2)]
theorem td6 (hL : L1 T.C) (hn : 14 <= T.n) (hh : T.hd = false) (hX : X = "ValueError") (n2 : 2 <= n) (n5 : n <= 5) {xs : List Int} (hsc : T.C.scL = xs.map PV.int) (hlen : xs.length <= 63) {s1 : Pt} {c1 c2 : Str} (hc : Cols c1 c2) {L : List (Str × List Pt)} {hdl : List Pt} (val : ∀ q s,S q = some s -> s = "b" \/ s = "w") (D : SD n S l) (fs : FSI n S (grid n) L hdl) {e : Bool} {la : Ls}
  (B : BdAt x d bp bd rows n (rm S (ptsOf L)) e H) (em : e = true ↔ ∀ z,rm S (ptsOf L) z = none) (hd : H d = some (.attrs la)) (hla : la.length <= 20) (hs : H sd = some (.pdict l)) (hp : H pa = some (.list ((grid n).map pt))) (hpr : pa ∉ rows) :
  wS i_td X T (DL6 T.C.scA n s1 pa sd x L.isEmpty c1 c2) H noRL (λ a _ _ => a = .ret (.bool true)) := by
 refine SCode.call (breathing6 (T := T) hL (by omega) hh n5 D hs) λ _ H1 h => ?_
 obtain ⟨va,gl,rfl,ex1,hva,kva,vnd,vm⟩ := h
 have hLv : ∀ z,z ∈ gl.map (pOf n) ↔ ∃ k < n * n,pOf n k = z /\ Alive n S k := λ z => by
  rw [List.mem_map]
  exact ⟨λ ⟨k,hk,e⟩ => ⟨k,((vm k).mp hk).1,e,((vm k).mp hk).2⟩,λ ⟨k,h1,h2,h3⟩ => ⟨k,(vm k).mpr ⟨h1,h3⟩,h2⟩⟩
 have hnd : (gl.map (pOf n)).Nodup := List.Pairwise.map _ (λ a b hab e => hab (pOf_inj e)) vnd
 have kva : H1 va = some (.list ((gl.map (pOf n)).map pt)) := by rw [List.map_map]; exact kva
 generalize gl.map (pOf n) = Lv at kva hLv hnd
 have hlen1 := D.len n5
 have hs1 := ex1 _ _ hs
 have hleg := set_legal D fs hnd hLv
 have hLl : Lv.length <= 25 := by
  have := nodup_le hnd (m := l.map (·.1)) λ z hz => by
   obtain ⟨k,hk,rfl,c,hc',-⟩ := (hLv z).mp hz
   exact D.key.mpr (by rw [hc']; simp)
  rw [List.length_map] at this; omega
 refine SCall.lenL (.inl kva) (by rw [List.length_map]; omega) ?_
 refine SCall.lenD hs1 (by omega) ?_
 refine SCmp.neB ?_
 have hbe : L.isEmpty = decide (((Lv.map pt).length : Int) = l.length) := by
  rw [List.length_map]
  refine Bool.eq_iff_iff.mpr (hleg.trans ?_)
  rw [decide_eq_true_iff]
  exact ⟨λ h => by rw [h],λ h => by exact_mod_cast h⟩
 rw [<- hbe,show (L.isEmpty != L.isEmpty) = false by simp]
 refine SCode.call (only6 (T := T) (f := λ z => decide (z ∈ Lv)) hL (by omega) hh n5 D hs1 (kp := .ref va) λ T' ob H' z Q _ hz ex h => ?_) λ _ H2 h => ?_
 ·have kv : H' va = some (.list (Lv.map pt)) := ex _ _ (by rw [upd_ne (λ q => by rw [q,hs1] at kva; cases kva)]; exact kva)
  refine SCmp.inL (.inl kv) (hd_pts Lv) hd_pt λ b hb => ?_
  rw [mem_dpts] at hb
  have : b = decide (z ∈ Lv) := Bool.eq_iff_iff.mpr (by rw [hb]; simp)
  rw [this]; exact h
 obtain ⟨sd',rfl,ex2,hsd',ksd'⟩ := h
 have D' := D.filter λ z => decide (z ∈ Lv)
 rw [set_keep fs D.sup hLv] at D'
 have P := set_pos fs D.sup val
 generalize rm S (ptsOf L) = G at D' P B em
 refine fresh λ z0 H3 hz0 ex3 kz0 => ?_
 refine SSlice.mk (.inr ⟨rfl,hsc.symm⟩) (by rw [List.length_map]; exact Nat.le_trans hlen (by decide)) (fresh λ z1 H4 hz1 ex4 kz1 => ?_)
 rw [pslice_both _ (by decide) (by decide),<- List.map_take,<- List.map_drop] at kz1
 refine SBin.addL (.inl (ex4 _ _ kz0)) (.inl kz1) (Nat.le_trans (Nat.add_le_add_left (by rw [List.length_map]; exact slice_len ..) _) (by decide)) (fresh λ na H5 hna ex5 kna => ?_)
 have ex := ((ex1.trans ex2).trans ex3).trans (ex4.trans ex5)
 have kna : H5 na = some (.list ((0 :: ((xs.take (4 : Int).toNat).drop (2 : Int).toNat)).map PV.int)) := kna
 have hkl : (0 :: ((xs.take (4 : Int).toNat).drop (2 : Int).toNat)).length <= 3 := Nat.succ_le_succ (slice_len ..)
 generalize (0 :: ((xs.take (4 : Int).toNat).drop (2 : Int).toNat)) = ks at kna hkl
 have hnr := list_notrow (B.ext ((ex1.trans ex2).trans (ex3.trans ex4))) hna
 refine WFor.list na _ rfl kna Addr (TL n s1 pa x c1 c2) (LI6 n x d bp bd rows pa na ks) sd' ⟨rfl,rfl,rfl,rfl,rfl,rfl,rfl,trivial⟩ ?_ (λ i b H' h => by obtain ⟨_,_,_,_,_,_,_,_,_,_,_,_,h⟩ := h; exact h) (λ i v sd2 H' hv hI => ?_) (λ sd2 H' h => rfl)
 ·exact ⟨G,_,e,la,P,B.ext ex,em,ex _ _ hd,by omega,D',ex5 _ _ (ex4 _ _ (ex3 _ _ ksd')),ex _ _ hp,kna⟩
 ·obtain ⟨m,hm,rfl⟩ := map_get hv
  exact turn6 hL (by omega) hh hX n2 n5 hpr hnr hc (by have := (List.getElem?_eq_some_iff.mp hm).1; omega) hI λ ls H' sd3 hsub h => ⟨⟨sd3,hsub,h⟩,⟨sd3,hsub,h⟩⟩
theorem pick6 (hp : H pa = some (.list ((grid n).map pt))) (n5 : n <= 5) (val : ∀ q s,S q = some s -> s = "b" \/ s = "w") (D : SD n S l) (hs : H sd = some (.pdict l)) {k : Str} (hk : PyData.strOk k = true) {ls : LN} {Q : PV -> AHeap -> Prop} (h7 : ∀ v,lkN 5 ((7,v) :: dropN [7] ls) = some (.ref sd))
  (hQ : ∀ a H',H a = none -> Ext H H' -> H' a = some (.list (((grid n).filter λ z => S z == some k).map pt)) -> Q (.ref a) H') :
  WComp T (.ref pa) H (λ v H' K => match bindCT (.one 7) v (dropN (CT.one 7).vars ls) with
   | some ls' => w T X (.cons (.cmp .Eq (.meth (.var 5) "get" (.cons (.var 7) .nil)) (.str k)) .nil) .a ls' H' noR λ b H₂ => match b with
    | .bool b => cond b (w T X (.var 7) .v ls' H₂ noR λ r H₃ => K (some r) H₃) (K Option.none H₂)
    | _ => False
   | Option.none => False) Q := by
 refine WComp.list pa _ rfl hp (by rw [List.length_map]; have := grid_le n5; omega) (λ i out H' => H' = H /\ out = (((AM.grid n).take i).filter λ z => S z == some k).map pt) ⟨rfl,rfl⟩ (λ i out H' h => h.1 ▸ hp) (λ i v out H' hv h => ?_) (λ out H' h => ?_)
 ·obtain ⟨rfl,rfl⟩ := h
  obtain ⟨z,hz,rfl⟩ := map_get hv
  refine w_var (X := X) (R := noR) (h7 _) ?_
  refine M.getD z hs ?_
  rw [D.is]
  cases hS : S z with
  | none =>
   refine SCmp.eqD HD.none' (HD.str' hk) λ b hb => ?_
   refine br_in hb (λ q => nomatch q) (λ _ => ⟨rfl,fsnoc (g := λ z => S z == some k) hz false (by rw [hS]; rfl)⟩)
  | some c =>
   show cond (c == k) _ _
   refine br_beq (λ q => ⟨rfl,fsnoc (g := λ z => S z == some k) hz true (by rw [hS,q]; simp)⟩) (λ q => ⟨rfl,fsnoc (g := λ z => S z == some k) hz false (by rw [hS]; simpa using q)⟩)
 obtain ⟨rfl,rfl⟩ := h
 refine ⟨H',Ext.refl _,fresh λ a H2 ha ex2 ka => ?_⟩
 rw [List.length_map,List.take_length] at ka
 exact hQ a H2 ha ex2 ka
theorem tc6 (hL : L1 T.C) (hn : 14 <= T.n) (hh : T.hd = false) (hX : X = "ValueError") (n2 : 2 <= n) (n5 : n <= 5) {xs : List Int} (hsc : T.C.scL = xs.map PV.int) (hlen : xs.length <= 63) {s1 : Pt} {c1 c2 : Str} (hc : Cols c1 c2) (val : ∀ q s,S q = some s -> s = "b" \/ s = "w") (D : SD n S l)
  (hs : H sd = some (.pdict l)) (hp : H pa = some (.list ((grid n).map pt))) : wS i_tc X T (CL6 T.C.scA n s1 pa sd c1 c2) H noRL (λ a _ _ => a = .ret (.bool true)) := by
 refine SCall.cls (hL.mks (by kernel_rfl)) (hL.fd (by kernel_rfl)) (hL.ft (by kernel_rfl)) (by omega) λ x d hxd hx hd => SCode.mono (init_spec (T := T.down) (n := n) hL (by show 3 <= T.n - 1; omega) hh upd_same (by rw [upd_ne hxd.symm]; exact upd_same) n2 n5) λ p H2 h => ?_
 obtain ⟨bp,bd,rows,l0,rfl,B0,hd0,hl0,K2,np,nb,nr⟩ := h
 refine And.intro rfl ?_
 have ex2 : Ext H H2 := λ a o h => K2 a o (by rw [upd_ne (λ q => by rw [q,hx] at h; cases h),upd_ne (λ q => by rw [q,hd] at h; cases h)]; exact h) (λ q => by rw [q,hd] at h; cases h) (by simp)
 have hpr : pa ∉ rows := λ h => by
  have := nr pa h
  rw [upd_ne (λ q => by rw [q,hx] at hp; cases hp),upd_ne (λ q => by rw [q,hd] at hp; cases hp),hp] at this; cases this
 clear K2 np nb nr
 have hs2 := ex2 _ _ hs
 have hp2 := ex2 _ _ hp
 refine pick6 hp2 n5 val D hs2 (by decide +kernel) (λ v => rfl) λ ba H3 hba ex3 kba => ?_
 refine pick6 (ex3 _ _ hp2) n5 val D (ex3 _ _ hs2) (by decide +kernel) (λ v => rfl) λ wa H4 hwa ex4 kwa => ?_
 have ex24 := ex3.trans ex4
 refine Exists.intro Bool (Exists.intro (λ b => DL6 T.C.scA n s1 pa sd x b c1 c2) (Exists.intro (λ b H' => ∃ (L : List (Str × List Pt)) (hdl : List Pt) (e : Bool) (la : Ls),b = L.isEmpty /\ FSI n S (AM.grid n) L hdl /\ BdAt x d bp bd rows n (rm S (ptsOf L)) e H' /\ (e = true ↔ ∀ z,rm S (ptsOf L) z = none) /\ H' d = some (.attrs la) /\ la.length <= 20 /\ H' sd = some (.pdict l) /\ H' pa = some (.list ((AM.grid n).map pt))) (And.intro ?_ ?_)))
 ·have B4 := B0.ext ex24
  refine Exists.intro (.ref a_apply_setup) (And.intro (B4.meth hL (by decide +kernel) (by kernel_rfl) (by kernel_rfl) (by kernel_rfl)) ?_)
  refine fresh λ ea H5 hea ex5 kea => ?_
  have B5 := B4.ext ex5
  have g1 : ∀ k : Str,∀ z ∈ (AM.grid n).filter (λ z => S z == some k),inG n z := λ k z hz => mem_grid.mp (List.mem_filter.mp hz).1
  have lg : ∀ k : Str,((AM.grid n).filter (λ z => S z == some k)).length <= 25 := λ k => Nat.le_trans (List.length_filter_le _ _) (grid_le n5)
  refine SCode.call (setup_spec (T := T) (bs := (AM.grid n).filter λ z => S z == some "b") (ws := (AM.grid n).filter λ z => S z == some "w") (es := []) hL (by omega) hh B5 ⟨l0,ex5 _ _ (ex24 _ _ hd0),by omega⟩ (ex5 _ _ (ex4 _ _ kba)) (ex5 _ _ kwa) kea (list_notrow B0 hba) (list_notrow (B0.ext ex3) hwa) (list_notrow B4 hea) (g1 _) (g1 _) (by simp) (by have := lg "b"; have := lg "w"; simp; omega)) λ p H6 h => ?_
  rw [setS D.sup val] at h
  obtain ⟨L,hdl,e',l1,l1',fs,rfl,B6,em,K6,hl1,hl1',hle⟩ := h
  rw [ex5 _ _ (ex24 _ _ hd0)] at hl1; cases hl1
  have kd : ∀ {a : Addr} {o : AO},H5 a = some o -> (∀ la,o ≠ .attrs la) -> a ∉ rows -> H6 a = some o := λ h hk hr => K6 _ _ h (λ q => by rw [q,ex5 _ _ (ex24 _ _ hd0)] at h; cases h; exact hk _ rfl) hr
  have hsr : sd ∉ rows := λ h => by
   obtain ⟨i,hi⟩ := List.getElem?_of_mem h
   have := B0.row i sd hi
   rw [hs2] at this; cases this
  refine ⟨L.isEmpty,⟨rfl,rfl,rfl,rfl,rfl,rfl,rfl,rfl,rfl,trivial⟩,L,hdl,e',l1',rfl,fs,B6,⟨λ h z => ?_,λ h => em.mpr λ z _ => h z⟩,hl1',by omega,kd (ex5 _ _ (ex24 _ _ hs2)) (by intro l q; cases q) hsr,kd (ex5 _ _ (ex24 _ _ hp2)) (by intro l q; cases q) hpr⟩
  cases e1 : rm S (ptsOf L) z with
  | none => rfl
  | some c =>
   have hz : S z ≠ none := by
    unfold rm at e1
    split at e1
    ·cases e1
    ·rw [e1]; simp
   have := em.mp h z (mem_grid.mpr (D.sup z hz))
   rw [e1] at this; cases this
 ·rintro b H' ⟨L,hdl,e,la,rfl,fs,B,em,hd',hla,hs',hp'⟩
  exact td6 hL hn hh hX n2 n5 hsc hlen hc val D fs B em hd' hla hs' hp' hpr
end
end
section
structure PJ6 (n : Nat) (sd : Addr) (F : List Pt) (H H' : AHeap) : Prop where
 ex : ∃ (S : Pt -> Option Str) (l : List (Pt × PV)),SD n S l /\ (∀ q s,S q = some s -> s = "b" \/ s = "w") /\ H' sd = some (.pdict l) /\ ∀ y ∈ F,S y ≠ none
 kp : ∀ a o,H a = some o -> a ≠ sd -> H' a = some o
section
variable {T : Tr} {X : String} {H : AHeap} {n : Nat} {pa sd : Addr}
theorem PJ6.lay {F : List Pt} {H₁ : AHeap} (h : PJ6 n sd F H H₁) {z : Pt} (hz : inG n z) (n5 : n <= 5) {c : Str} (hc : c = "b" \/ c = "w") {Q : AHeap -> Prop} (hQ : ∀ H',PJ6 n sd (F ++ [z]) H H' -> Q H') : SSetItem T (.ref sd) (pt z) (.str c) H₁ Q := by
 obtain ⟨⟨S,l,D,val,hs,hF⟩,kp⟩ := h
 have := D.len n5
 refine SSetItem.dict (p := z) hs (by omega) (hQ _ ⟨⟨_,_,D.put (c := c) hz,λ q s e => ?_,upd_same,λ y hy => ?_⟩,λ a o h1 h2 => by rw [upd_ne h2]; exact kp a o h1 h2⟩)
 ·unfold put at e
  split at e
  ·cases e; exact hc
  ·exact val q s e
 ·unfold put
  split
  ·simp
  ·rename_i q
   rcases List.mem_append.mp hy with hy | hy
   ·exact hF y hy
   ·exact absurd (List.mem_singleton.mp hy) q
noncomputable def wayP (w : Nat) : Pt := ([(1,0),(0,1),(-1,0),(0,-1)][w]?).getD (9,9)
theorem way_nb {w : Nat} {z : Pt} (n5 : n <= 5) (hw : w < 5) (hz : inG n z) (h : inG n (z.1 + (wayP w).1,z.2 + (wayP w).2)) : z ∈ nb (z.1 + (wayP w).1,z.2 + (wayP w).2) := by
 refine nb_symm ?_
 have a1 := hz.1.1
 have b2 := h.1.2
 clear hz h
 unfold nb
 have : w = 0 \/ w = 1 \/ w = 2 \/ w = 3 \/ w = 4 := by omega
 rcases this with rfl | rfl | rfl | rfl | rfl
 ·rw [show z.2 + (wayP 0).2 = z.2 from Int.add_zero _]; exact .tail _ (.head _)
 ·rw [show z.1 + (wayP 1).1 = z.1 from Int.add_zero _]; exact .tail _ (.tail _ (.tail _ (.head _)))
 ·rw [show z.2 + (wayP 2).2 = z.2 from Int.add_zero _]; exact .head _
 ·rw [show z.1 + (wayP 3).1 = z.1 from Int.add_zero _]; exact .tail _ (.tail _ (.head _))
 ·have b2 : z.1 + 9 < n := b2
  exfalso; omega
noncomputable def BL6 (sc : Addr) (n : Nat) (w : Int) (s1 : Pt) (pa sd : Addr) (b : Int) (c1 c2 : Str) : LN := [(0,.ref sc),(1,.int n),(2,.int w),(3,pt s1),(4,.ref pa),(5,.ref sd),(6,.int b),(16,.str c1),(17,.str c2)]
theorem tb6 (hL : L1 T.C) (hn : 14 <= T.n) (hh : T.hd = false) (hX : X = "ValueError") (n2 : 2 <= n) (n5 : n <= 5) {xs : List Int} (hsc : T.C.scL = xs.map PV.int) (hlen : xs.length <= 63) {s1 : Pt} (hs1 : inG n s1) {c1 c2 : Str} (hc : Cols c1 c2) {w : Nat} (hw : w < 5) {b : Int} (J : PJ6 n sd [] H H)
  (hp : H pa = some (.list ((grid n).map pt))) : wS i_tb X T (BL6 T.C.scA n w s1 pa sd b c1 c2) H noRL (λ a _ _ => a = .ret (.bool true)) := by
 have hc1 : c1 = "b" \/ c1 = "w" := by rcases hc with ⟨rfl,-⟩ | ⟨rfl,-⟩ <;> simp
 have hc2 : c2 = "b" \/ c2 = "w" := by rcases hc with ⟨-,rfl⟩ | ⟨-,rfl⟩ <;> simp
 have hsp : pa ≠ sd := λ q => by obtain ⟨⟨S,l,-,-,h,-⟩,-⟩ := J; rw [q,h] at hp; cases hp
 refine fresh λ la H1 hla ex1 k1 => ?_
 have k1 : H1 la = some (.list [pt (1,0),pt (0,1),pt (-1,0),pt (0,-1),pt (9,9)]) := k1
 refine SSub.list k1 (by omega) (by omega) (p := pt (wayP w)) (by
  rw [Int.toNat_natCast]
  have : w = 0 \/ w = 1 \/ w = 2 \/ w = 3 \/ w = 4 := by omega
  rcases this with rfl | rfl | rfl | rfl | rfl <;> rfl) ?_
 refine SSub.pt0 (z := s1) (SSub.pt1 (z := s1) ?_)
 have J1 : PJ6 n sd [] H H1 := ⟨let ⟨S,l,D,v,h,f⟩ := J.ex; ⟨S,l,D,v,ex1 _ _ h,f⟩,λ a o h _ => ex1 _ _ h⟩
 have hp1 := ex1 _ _ hp
 refine Exists.intro Unit (Exists.intro (λ _ => CL6 T.C.scA n s1 pa sd c1 c2) (Exists.intro (λ _ H' => PJ6 n sd [] H H') (And.intro ?_ ?_)))
 ·refine SCmp.inL (.inl hp1) (hd_pts (grid n)) (hd_pt (z := (s1.1 + (wayP w).1,s1.2 + (wayP w).2))) λ bb hb => ?_
  rw [mem_dpts] at hb
  cases bb with
  | false => exact ⟨(),⟨rfl,rfl,rfl,rfl,rfl,rfl,rfl,trivial⟩,J1⟩
  | true =>
   have hpz := mem_grid.mp (hb.mp rfl)
   have hnb := way_nb n5 hw hs1 hpz
   generalize hpr : ((s1.1 + (wayP w).1,s1.2 + (wayP w).2) : Pt) = pr at hpz hnb
   have e1 : PV.tup [.int (s1.1 + (wayP w).1),.int (s1.2 + (wayP w).2)] = pt pr := by rw [<- hpr]; rfl
   rw [e1]
   refine SCode.call (near6 (T := T) (z := pr) hL (by omega) hh) λ p H2 h => ?_
   obtain ⟨na,rfl,ex2,hna,kna⟩ := h
   have nsd : na ≠ sd := λ q => by obtain ⟨⟨S,l,-,-,h,-⟩,-⟩ := J1; rw [q,h] at hna; cases hna
   have J2 : PJ6 n sd [] H2 H2 := ⟨let ⟨S,l,D,v,h,f⟩ := J1.ex; ⟨S,l,D,v,ex2 _ _ h,f⟩,λ a o h _ => h⟩
   have key : ∀ a o,H a = some o -> a ≠ sd -> H2 a = some o := λ a o h hne => ex2 _ _ (J1.kp a o h hne)
   refine WFor.list na _ rfl kna Unit (λ _ => (8,pt pr) :: CL6 T.C.scA n s1 pa sd c1 c2) (λ i _ H' => PJ6 n sd ((nbIn n pr).take i) H2 H') () ⟨rfl,rfl,rfl,rfl,rfl,rfl,rfl,rfl,trivial⟩ J2 (λ i b H' h => h.kp _ _ kna nsd) (λ i v u H' hv h => ?_) (λ u H' h => ?_)
   ·obtain ⟨y,hy,rfl⟩ := map_get hv
    have hyg := (mem_nbIn.mp (List.mem_of_getElem? hy)).2
    exact h.lay hyg n5 hc1 λ H'' h' => ⟨(),⟨rfl,rfl,rfl,rfl,rfl,rfl,rfl,rfl,trivial⟩,by rw [take_snoc hy]; exact h'⟩
   rw [List.length_map,List.take_length] at h
   have hm : s1 ∈ nbIn n pr := mem_nbIn.mpr ⟨hnb,hs1⟩
   have key2 : ∀ a o,H a = some o -> a ≠ sd -> H' a = some o := λ a o h1 h2 => h.kp a o (key a o h1 h2) h2
   have J3 : PJ6 n sd [s1] H' H' := ⟨let ⟨S,l,D,v,hh,f⟩ := h.ex; ⟨S,l,D,v,hh,λ y hy => f y (by rw [List.mem_singleton.mp hy]; exact hm)⟩,λ a o h _ => h⟩
   refine SCode.call (near6 (T := T) (z := s1) hL (by omega) hh) λ p H3 h => ?_
   obtain ⟨nc,rfl,ex3,hnc,knc⟩ := h
   have csd : nc ≠ sd := λ q => by obtain ⟨⟨S,l,-,-,h,-⟩,-⟩ := J3; rw [q,h] at hnc; cases hnc
   refine WFor.list nc _ rfl knc Unit (λ _ => (8,pt pr) :: CL6 T.C.scA n s1 pa sd c1 c2) (λ i _ H'' => PJ6 n sd ([s1] ++ (nbIn n s1).take i) H3 H'') () ⟨rfl,rfl,rfl,rfl,rfl,rfl,rfl,rfl,trivial⟩ ?_ (λ i b H'' h => h.kp _ _ knc csd) (λ i v u H'' hv h => ?_) (λ u H4 h => ?_)
   ·exact ⟨let ⟨S,l,D,v,h,f⟩ := J3.ex; ⟨S,l,D,v,ex3 _ _ h,by simpa using f⟩,λ a o h _ => h⟩
   ·obtain ⟨y,hy,rfl⟩ := map_get hv
    have hyg := (mem_nbIn.mp (List.mem_of_getElem? hy)).2
    exact h.lay hyg n5 hc2 λ H5 h' => ⟨(),⟨rfl,rfl,rfl,rfl,rfl,rfl,rfl,rfl,trivial⟩,by rw [take_snoc hy,<- List.append_assoc]; exact h'⟩
   obtain ⟨⟨S,l,D,val,hs,hF⟩,kp⟩ := h
   obtain ⟨c,hcS⟩ := Option.ne_none_iff_exists'.mp (hF s1 (by simp))
   have hl25 := D.len n5
   refine M.popD s1 hs (q := .str c) (by rw [D.is,hcS]; rfl) (by omega) ?_
   refine ⟨(),⟨rfl,rfl,rfl,rfl,rfl,rfl,rfl,trivial⟩,⟨_,_,D.del s1,λ q s e => ?_,upd_same,by simp⟩,λ a o h1 h2 => by rw [upd_ne h2]; exact kp a o (ex3 _ _ (key2 a o h1 h2)) h2⟩
   unfold put at e
   split at e
   ·cases e
   ·exact val q s e
 ·rintro u H' ⟨⟨S,l,D,val,hs,-⟩,kp⟩
  exact tc6 hL hn hh hX n2 n5 hsc hlen hc val D hs (kp _ _ hp hsp)
theorem two6 (xs : List Int) : ∃ h c : Int,(xs.map PV.int ++ [PV.int 0,PV.int 0]).take 2 = [PV.int h,PV.int c] := by
 match xs with
 | [] => exact ⟨0,0,rfl⟩
 | [a] => exact ⟨a,0,rfl⟩
 | a :: b :: l => exact ⟨a,b,rfl⟩
noncomputable def AL6 (sc : Addr) (n : Nat) (w : Int) (s1 : Pt) (h c : Int) : LN := [(3,pt s1),(2,.int w),(1,.int n),(6,.int c),(15,.int h),(0,.ref sc)]
theorem ta6 (hL : L1 T.C) (hn : 14 <= T.n) (hh : T.hd = false) (hX : X = "ValueError") (n2 : 2 <= n) (n4 : n <= 4) {xs : List Int} (hsc : T.C.scL = xs.map PV.int) (hlen : xs.length <= 63) {s1 : Pt} (g1 : inG n s1) {c1 c2 : Str} (hc : Cols c1 c2) {w : Nat} (hw5 : w < 5) {h c : Int} :
  wS i_ta X T ((17,.str c2) :: (16,.str c1) :: AL6 T.C.scA n w s1 h c) H noRL (λ a _ _ => a = .ret (.bool true)) := by
 have n5 : n <= 5 := by omega
 refine Exists.intro n (Exists.intro n (Exists.intro (λ i j => some (pt (i,j))) (And.intro (by have := sq_le n5; omega) (And.intro (by omega) (And.intro (by omega) (SCall.range1 λ ra hra => Exists.intro ra (And.intro rfl (And.intro upd_same (And.intro ?_ (And.intro ?_ ?_)))))))) ))
 ·intro i H' hi ex
  exact SCall.range1 λ b hb => ⟨b,rfl,upd_same,Ext.upd ex (ex.none hb)⟩
 ·intro i j H' hi hj ex
  exact ⟨ex,_,rfl,rfl,ex⟩
 rw [gather_pts]
 refine fresh λ pa H4 hpa ex4 kpa => ?_
 refine fresh λ sd H5 hsd ex5 ksd => ?_
 have hp5 := ex5 _ _ kpa
 refine And.intro (IntMulOk.of_right (by decide +kernel)) ?_
 refine And.intro (by decide) ?_
 have hsp : pa ≠ sd := λ q => by rw [<- q,kpa] at hsd; cases hsd
 refine WFor.list pa _ rfl hp5 Int (λ b => BL6 T.C.scA n w s1 pa sd b c1 c2) (λ i b H' => PJ6 n sd [] H5 H') _ ⟨rfl,rfl,rfl,rfl,rfl,rfl,rfl,rfl,rfl,trivial⟩ ⟨⟨_,_,nil_SD,λ q s e => (nomatch e),ksd,by simp⟩,λ a o h _ => h⟩ (λ i b H' h => h.kp _ _ hp5 hsp) (λ i v b H' hv hJ => ?_) (λ b H' hJ => ?_)
 ·obtain ⟨z,hz,rfl⟩ := map_get hv
  have hzg := mem_grid.mp (List.mem_of_getElem? hz)
  refine And.intro (by decide) ?_
  obtain ⟨m,hm,hm3⟩ := fm (a := b) (b := 3) (m := 3) rfl (by decide)
  refine br_ndec (λ q => ?_) (λ q => ?_)
  ·refine And.intro (by decide) ?_
   have hm0 : 1 <= m := by
    rcases Nat.eq_zero_or_pos m with rfl | h
    ·exact absurd hm q
    ·exact h
   refine SSub.bw (by rw [hm]; omega) (by rw [hm]; omega) λ s hs _ => ?_
   refine hJ.lay hzg n5 hs λ H'' h' => ?_
   refine And.intro (divOk (n := 3) (by decide) (by decide)) ?_
   exact ⟨_,⟨rfl,rfl,rfl,rfl,rfl,rfl,rfl,rfl,rfl,trivial⟩,let ⟨S,l,D,v,k,f⟩ := h'.ex; ⟨S,l,D,v,k,by simp⟩,h'.kp⟩
  ·refine And.intro (divOk (n := 3) (by decide) (by decide)) ?_
   exact ⟨_,⟨rfl,rfl,rfl,rfl,rfl,rfl,rfl,rfl,rfl,trivial⟩,hJ⟩
 ·exact tb6 hL hn hh hX n2 n5 hsc hlen g1 hc hw5 ⟨let ⟨S,l,D,v,k,f⟩ := hJ.ex; ⟨S,l,D,v,k,by simp⟩,λ a o h _ => h⟩ (hJ.kp _ _ hp5 hsp)
theorem t26 (hL : L1 T.C) (hn : 14 <= T.n) (hh : T.hd = false) (hX : X = "ValueError") (n2 : 2 <= n) (n4 : n <= 4) {xs : List Int} (hsc : T.C.scL = xs.map PV.int) (hlen : xs.length <= 63) {s1 : Pt} (g1 : inG n s1) {w : Nat} (hw5 : w < 5) {h c : Int} :
  wS i_t2 X T (AL6 T.C.scA n w s1 h c) H noRL (λ a _ _ => a = .ret (.bool true)) := by
 refine And.intro (divOk (n := 15) (by decide) (by decide)) ?_
 refine And.intro (divOk (by omega) (by omega)) ?_
 refine And.intro (divOk (by omega) (by omega)) ?_
 refine And.intro (by decide) ?_
 refine br_dec (λ _ => ?_) (λ _ => ?_)
 ·exact ta6 hL hn hh hX n2 n4 hsc hlen g1 (.inl ⟨rfl,rfl⟩) hw5
 ·exact ta6 hL hn hh hX n2 n4 hsc hlen g1 (.inr ⟨rfl,rfl⟩) hw5
theorem t16 (hL : L1 T.C) (hn : 14 <= T.n) (hh : T.hd = false) (hX : X = "ValueError") (n2 : 2 <= n) (n4 : n <= 4) {xs : List Int} (hsc : T.C.scL = xs.map PV.int) (hlen : xs.length <= 63) {h c : Int} :
  wS i_t1 X T [(1,.int n),(6,.int c),(15,.int h),(0,.ref T.C.scA)] H noRL (λ a _ _ => a = .ret (.bool true)) := by
 refine And.intro (divOk (n := 3) (by decide) (by decide)) ?_
 refine And.intro (by decide) ?_
 obtain ⟨w,hw,hw5⟩ := fm (a := h.fdiv 3) (b := 5) (m := 5) rfl (by decide)
 change wS _ _ _ [(2,.int ((h.fdiv 3).fmod 5)),(1,.int n),(6,.int c),(15,.int h),(0,.ref T.C.scA)] _ _ _
 rw [hw]
 refine And.intro (divOk (n := 15) (by decide) (by decide)) ?_
 refine And.intro (by omega) ?_
 refine And.intro (divOk (n := 15) (by decide) (by decide)) ?_
 refine And.intro (divOk (by omega) (by omega)) ?_
 refine And.intro (by omega) ?_
 obtain ⟨r1,r2⟩ := @fmod_rng (h.fdiv 15) n (by omega)
 obtain ⟨q1,q2⟩ := @fmod_rng ((h.fdiv 15).fdiv n) n (by omega)
 exact t26 hL hn hh hX n2 n4 hsc hlen (s1 := ((h.fdiv 15).fmod n,((h.fdiv 15).fdiv n).fmod n)) ⟨⟨r1,r2⟩,q1,q2⟩ hw5
theorem wFin_v {Q : PV -> AHeap -> Prop} {p : PV} (h : Q p H) : wFin T .v Q p H := h
theorem wBin_sub {Q : PV -> AHeap -> Prop} {a b : Int} (h : Q (.int (a - b)) H) : wBin T .Sub (.int a) (.int b) H Q := h
theorem law_spec (hL : L1 T.C) (hn : 14 <= T.n) (hh : T.hd = false) (hX : X = "ValueError") {xs : List Int} (hsc : T.C.scL = xs.map PV.int) (hlen : xs.length <= 63) :
  wS i_law X T [(0,.ref T.C.scA)] (λ _ => none) noRL (λ a _ _ => a = .ret (.bool true)) := by
 refine fresh λ z0 H1 hz0 ex1 k1 => ?_
 refine SBin.addL (.inr ⟨rfl,hsc.symm⟩) (.inl k1) (by simp; omega) (fresh λ z1 H2 hz1 ex2 k2 => ?_)
 refine SSlice.mk (.inl k2) (by simp; omega) (fresh λ z2 H3 hz2 ex3 k3 => ?_)
 rw [pslice_hi _ (by decide)] at k3
 obtain ⟨h,c,e⟩ := two6 xs
 rw [show (2 : Int).toNat = 2 from rfl,e] at k3
 refine Exists.intro z2 (Exists.intro [.int h,.int c] (And.intro rfl (And.intro (.inl k3) (And.intro rfl ?_))))
 obtain ⟨k,hk,hk3⟩ := fm (a := h) (b := 3) (m := 3) rfl (by decide)
 refine And.intro (by decide) ?_
 have e4 : (4 : Int) - h.fmod 3 = ((4 - k : Nat) : Int) := by rw [hk]; omega
 have key : ∀ m : Int,m = ((4 - k : Nat) : Int) -> wS i_t1 X T [(1,.int m),(6,.int c),(15,.int h),(0,.ref T.C.scA)] H3 noRL (λ a _ _ => a = .ret (.bool true)) := by
  rintro _ rfl
  exact t16 hL hn hh hX (by omega) (by omega) hsc hlen
 refine wFin_v ?_
 refine wBin_sub ?_
 refine wFin_v ?_
 exact key _ e4
end
end
end AM
theorem PySem.Challenge.cw_md0058_06_holds : PySem.Challenge.rw_md0058_06.Holds := by
 w_on; refine holds_law (by decide +kernel) λ said => ?_
 refine holds_open (q := AM.viewQ) (loose := AM.looseK) (Xt := λ s => xlAt AM.viewQ [] s && recOk (RowW.records (PySem.Challenge.rw_md0058_06.row.toRowW)) s) (XP := XL AM.viewQ []) (Yf := Hook.obs AM.hookK) (Ya := Hook.val AM.hookK) (YP := Hook.says AM.hookK) (N := AM.stepsK) ?hl (Hook.of AM.hookK) (Hook.keeps AM.hookK) (λ s e => xl_of s (Bool.and_eq_true_iff.mp e).1) XL.keeps (by rfl) (by rfl) (by rfl) (λ s e => recFacts_of (Bool.and_eq_true_iff.mp e).2) (by rfl) (by assumption) (by decide +kernel) ⟨rfl, rfl, rfl, rfl, rfl, by decide +kernel⟩ ?hw ?hc
 case hl => refine LeftO.of_split "special-get-raises" ?_; intro w; kernel_rfl
 case hw => exact ⟨[.list []], by decide +kernel, by decide +kernel⟩
 generalize hvq : AM.viewQ = vq
 generalize hlk : AM.looseK = lk
 k_go0
 rename_i w s₀ s₁ mg mb G Y fa o pm cd doc ho hcd hg KX X V T B D TE TW _ _ M xs hs hlay0 hL0 hr1 hl2 _ _ scA vs _ hL ra w1 r0 hI hr hc1 hc2 K0 hD h₁ tk F o1 o2 left right N0 X0
 subst hvq hlk
 clear Y G B D TE TW M hcd hD K0 ra r0 hr X V left right
 have okC : AM.Cx.Ok { prog := rw_md0058_06.row.prog, w := w, K := AM.heapK w.params, h₀ := s₁.heap, os := s₁.os, view := AM.viewQ, loose := looseW AM.viewQ [Str.ofString "_opponents"], mg := mg, mb := mb, scA := scA, scL := xs.map AM.PV.int } :=
  ⟨KX, topRead_of T, AM.script_at w1 hL hI⟩
 have L : AM.L1 { prog := rw_md0058_06.row.prog, w := w, K := AM.heapK w.params, h₀ := s₁.heap, os := s₁.os, view := AM.viewQ, loose := looseW AM.viewQ [Str.ofString "_opponents"], mg := mg, mb := mb, scA := scA, scL := xs.map AM.PV.int } :=
  ⟨rfl, AM.miss_of T (by decide +kernel)⟩
 have hlaw := AM.law_ax L.go AM.u_law L.D_law rfl AM.c_law rfl (AM.law_spec (T := ⟨_, 30, false⟩) (X := "ValueError") L (by show 14 <= 30; decide) rfl rfl (xs := xs) rfl (by omega))
 refine AM.law_end (s₁ := s₁) rfl rfl rfl (by show 1 + claimMargin + 1 <= 400; decide) (by show 4 + 3 <= 100; decide) rfl (AM.law_rep okC (d := 0) rfl rfl hg F rfl N0 X0 rfl rfl rfl) (hlaw _ rfl) ?_
 intro s' h1 h2 h3
 exact ⟨.inl ⟨_, _, [], rfl, λ _ => rfl, ReadsW.bool true, (by first | rfl | wrow_post), λ _ => ⟨List.nodup_nil, λ _ hm => (nomatch hm)⟩⟩, h1, h2, h3⟩
