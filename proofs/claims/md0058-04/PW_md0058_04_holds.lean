import PyProof.Rows.All
import Wide.All
import OpenK.AllK
import Wide.FinOn
import PyProof.SetKind
import PyProof.TupleKey
import PyProof.SetRoads
import PyProof.Rows.TupIter
import PyProof.StationsW
import PyProof.DictIter
import PyProof.Laws
import PyProof.Rows.TupAssign
import PyProof.Rows.StrRules
import PyProof.ListRange
import KE.KSortTup
import PySem.Challenge.RW_md0058_04
open PySem PySem.W PyProof.Rows
set_option Elab.async false
set_option maxRecDepth 100000
set_option linter.unusedSimpArgs false
set_option linter.unusedVariables false
set_option maxHeartbeats 8000000
set_option genInjectivity false
set_option genSizeOfSpec false
set_option genSizeOf false
set_option genCtorIdx false
set_option compiler.extract_closed false
set_option bootstrap.genMatcherCode false
namespace AM.Internal
set_option autoImplicit false
set_option maxHeartbeats 8000000
theorem q02 {A B Q:Prop}(h:A/\B)(k:A->B->Q):Q:=k h.1 h.2
theorem q03 {A B C Q:Prop}(h:A/\B/\C)(k:A->B->C->Q):Q:=k h.1 h.2.1 h.2.2
theorem q04 {A B C D Q:Prop}(h:A/\B/\C/\D)(k:A->B->C->D->Q):Q:=k h.1 h.2.1 h.2.2.1 h.2.2.2
theorem q05 {A B C D E Q:Prop}(h:A/\B/\C/\D/\E)(k:A->B->C->D->E->Q):Q:=k h.1 h.2.1 h.2.2.1 h.2.2.2.1 h.2.2.2.2
theorem q06 {A B C D E F Q:Prop}(h:A/\B/\C/\D/\E/\F)(k:A->B->C->D->E->F->Q):Q:=k h.1 h.2.1 h.2.2.1 h.2.2.2.1 h.2.2.2.2.1 h.2.2.2.2.2
theorem q07 {A B C D E F I Q:Prop}(h:A/\B/\C/\D/\E/\F/\I)(k:A->B->C->D->E->F->I->Q):Q:=k h.1 h.2.1 h.2.2.1 h.2.2.2.1 h.2.2.2.2.1 h.2.2.2.2.2.1 h.2.2.2.2.2.2
theorem q08 {A B C D E F I J Q:Prop}(h:A/\B/\C/\D/\E/\F/\I/\J)(k:A->B->C->D->E->F->I->J->Q):Q:=k h.1 h.2.1 h.2.2.1 h.2.2.2.1 h.2.2.2.2.1 h.2.2.2.2.2.1 h.2.2.2.2.2.2.1 h.2.2.2.2.2.2.2
theorem q09 {A B C D E F I J K Q:Prop}(h:A/\B/\C/\D/\E/\F/\I/\J/\K)(k:A->B->C->D->E->F->I->J->K->Q):Q:=k h.1 h.2.1 h.2.2.1 h.2.2.2.1 h.2.2.2.2.1 h.2.2.2.2.2.1 h.2.2.2.2.2.2.1 h.2.2.2.2.2.2.2.1 h.2.2.2.2.2.2.2.2
theorem q11.{u0}{T0:Sort u0}{A:T0->Prop}{Q:Prop}(h:∃ x0,A x0)(k:∀ x0,A x0->Q):Q:=h.elim λ x0 h=>k x0 h
theorem q12.{u0}{T0:Sort u0}{A B:T0->Prop}{Q:Prop}(h:∃ x0,A x0/\B x0)(k:∀ x0,A x0->B x0->Q):Q:=h.elim λ x0 h=>k x0 h.1 h.2
theorem q13.{u0}{T0:Sort u0}{A B C:T0->Prop}{Q:Prop}(h:∃ x0,A x0/\B x0/\C x0)(k:∀ x0,A x0->B x0->C x0->Q):Q:=h.elim λ x0 h=>k x0 h.1 h.2.1 h.2.2
theorem q14.{u0}{T0:Sort u0}{A B C D:T0->Prop}{Q:Prop}(h:∃ x0,A x0/\B x0/\C x0/\D x0)(k:∀ x0,A x0->B x0->C x0->D x0->Q):Q:=h.elim λ x0 h=>k x0 h.1 h.2.1 h.2.2.1 h.2.2.2
theorem q15.{u0}{T0:Sort u0}{A B C D E:T0->Prop}{Q:Prop}(h:∃ x0,A x0/\B x0/\C x0/\D x0/\E x0)(k:∀ x0,A x0->B x0->C x0->D x0->E x0->Q):Q:=h.elim λ x0 h=>k x0 h.1 h.2.1 h.2.2.1 h.2.2.2.1 h.2.2.2.2
theorem q17.{u0}{T0:Sort u0}{A B C D E F I:T0->Prop}{Q:Prop}(h:∃ x0,A x0/\B x0/\C x0/\D x0/\E x0/\F x0/\I x0)(k:∀ x0,A x0->B x0->C x0->D x0->E x0->F x0->I x0->Q):Q:=h.elim λ x0 h=>k x0 h.1 h.2.1 h.2.2.1 h.2.2.2.1 h.2.2.2.2.1 h.2.2.2.2.2.1 h.2.2.2.2.2.2
theorem q21.{u0,u1}{T0:Sort u0}{T1:Sort u1}{A:T0->T1->Prop}{Q:Prop}(h:∃ x0 x1,A x0 x1)(k:∀ x0 x1,A x0 x1->Q):Q:=h.elim λ x0 h=>h.elim λ x1 h=>k x0 x1 h
theorem q22.{u0,u1}{T0:Sort u0}{T1:Sort u1}{A B:T0->T1->Prop}{Q:Prop}(h:∃ x0 x1,A x0 x1/\B x0 x1)(k:∀ x0 x1,A x0 x1->B x0 x1->Q):Q:=h.elim λ x0 h=>h.elim λ x1 h=>k x0 x1 h.1 h.2
theorem q23.{u0,u1}{T0:Sort u0}{T1:Sort u1}{A B C:T0->T1->Prop}{Q:Prop}(h:∃ x0 x1,A x0 x1/\B x0 x1/\C x0 x1)(k:∀ x0 x1,A x0 x1->B x0 x1->C x0 x1->Q):Q:=h.elim λ x0 h=>h.elim λ x1 h=>k x0 x1 h.1 h.2.1 h.2.2
theorem q24.{u0,u1}{T0:Sort u0}{T1:Sort u1}{A B C D:T0->T1->Prop}{Q:Prop}(h:∃ x0 x1,A x0 x1/\B x0 x1/\C x0 x1/\D x0 x1)(k:∀ x0 x1,A x0 x1->B x0 x1->C x0 x1->D x0 x1->Q):Q:=h.elim λ x0 h=>h.elim λ x1 h=>k x0 x1 h.1 h.2.1 h.2.2.1 h.2.2.2
theorem q25.{u0,u1}{T0:Sort u0}{T1:Sort u1}{A B C D E:T0->T1->Prop}{Q:Prop}(h:∃ x0 x1,A x0 x1/\B x0 x1/\C x0 x1/\D x0 x1/\E x0 x1)(k:∀ x0 x1,A x0 x1->B x0 x1->C x0 x1->D x0 x1->E x0 x1->Q):Q:=h.elim λ x0 h=>h.elim λ x1 h=>k x0 x1 h.1 h.2.1 h.2.2.1 h.2.2.2.1 h.2.2.2.2
theorem q31.{u0,u1,u2}{T0:Sort u0}{T1:Sort u1}{T2:Sort u2}{A:T0->T1->T2->Prop}{Q:Prop}(h:∃ x0 x1 x2,A x0 x1 x2)(k:∀ x0 x1 x2,A x0 x1 x2->Q):Q:=h.elim λ x0 h=>h.elim λ x1 h=>h.elim λ x2 h=>k x0 x1 x2 h
theorem q41.{u0,u1,u2,u3}{T0:Sort u0}{T1:Sort u1}{T2:Sort u2}{T3:Sort u3}{A:T0->T1->T2->T3->Prop}{Q:Prop}(h:∃ x0 x1 x2 x3,A x0 x1 x2 x3)(k:∀ x0 x1 x2 x3,A x0 x1 x2 x3->Q):Q:=h.elim λ x0 h=>h.elim λ x1 h=>h.elim λ x2 h=>h.elim λ x3 h=>k x0 x1 x2 x3 h
theorem q42.{u0,u1,u2,u3}{T0:Sort u0}{T1:Sort u1}{T2:Sort u2}{T3:Sort u3}{A B:T0->T1->T2->T3->Prop}{Q:Prop}(h:∃ x0 x1 x2 x3,A x0 x1 x2 x3/\B x0 x1 x2 x3)(k:∀ x0 x1 x2 x3,A x0 x1 x2 x3->B x0 x1 x2 x3->Q):Q:=h.elim λ x0 h=>h.elim λ x1 h=>h.elim λ x2 h=>h.elim λ x3 h=>k x0 x1 x2 x3 h.1 h.2
theorem q43.{u0,u1,u2,u3}{T0:Sort u0}{T1:Sort u1}{T2:Sort u2}{T3:Sort u3}{A B C:T0->T1->T2->T3->Prop}{Q:Prop}(h:∃ x0 x1 x2 x3,A x0 x1 x2 x3/\B x0 x1 x2 x3/\C x0 x1 x2 x3)(k:∀ x0 x1 x2 x3,A x0 x1 x2 x3->B x0 x1 x2 x3->C x0 x1 x2 x3->Q):Q:=h.elim λ x0 h=>h.elim λ x1 h=>h.elim λ x2 h=>h.elim λ x3 h=>k x0 x1 x2 x3 h.1 h.2.1 h.2.2
theorem q46.{u0,u1,u2,u3}{T0:Sort u0}{T1:Sort u1}{T2:Sort u2}{T3:Sort u3}{A B C D E F:T0->T1->T2->T3->Prop}{Q:Prop}(h:∃ x0 x1 x2 x3,A x0 x1 x2 x3/\B x0 x1 x2 x3/\C x0 x1 x2 x3/\D x0 x1 x2 x3/\E x0 x1 x2 x3/\F x0 x1 x2 x3)(k:∀ x0 x1 x2 x3,A x0 x1 x2 x3->B x0 x1 x2 x3->C x0 x1 x2 x3->D x0 x1 x2 x3->E x0 x1 x2 x3->F x0 x1 x2 x3->Q):Q:=h.elim λ x0 h=>h.elim λ x1 h=>h.elim λ x2 h=>h.elim λ x3 h=>k x0 x1 x2 x3 h.1 h.2.1 h.2.2.1 h.2.2.2.1 h.2.2.2.2.1 h.2.2.2.2.2
theorem q51.{u0,u1,u2,u3,u4}{T0:Sort u0}{T1:Sort u1}{T2:Sort u2}{T3:Sort u3}{T4:Sort u4}{A:T0->T1->T2->T3->T4->Prop}{Q:Prop}(h:∃ x0 x1 x2 x3 x4,A x0 x1 x2 x3 x4)(k:∀ x0 x1 x2 x3 x4,A x0 x1 x2 x3 x4->Q):Q:=h.elim λ x0 h=>h.elim λ x1 h=>h.elim λ x2 h=>h.elim λ x3 h=>h.elim λ x4 h=>k x0 x1 x2 x3 x4 h
theorem q55.{u0,u1,u2,u3,u4}{T0:Sort u0}{T1:Sort u1}{T2:Sort u2}{T3:Sort u3}{T4:Sort u4}{A B C D E:T0->T1->T2->T3->T4->Prop}{Q:Prop}(h:∃ x0 x1 x2 x3 x4,A x0 x1 x2 x3 x4/\B x0 x1 x2 x3 x4/\C x0 x1 x2 x3 x4/\D x0 x1 x2 x3 x4/\E x0 x1 x2 x3 x4)(k:∀ x0 x1 x2 x3 x4,A x0 x1 x2 x3 x4->B x0 x1 x2 x3 x4->C x0 x1 x2 x3 x4->D x0 x1 x2 x3 x4->E x0 x1 x2 x3 x4->Q):Q:=h.elim λ x0 h=>h.elim λ x1 h=>h.elim λ x2 h=>h.elim λ x3 h=>h.elim λ x4 h=>k x0 x1 x2 x3 x4 h.1 h.2.1 h.2.2.1 h.2.2.2.1 h.2.2.2.2
theorem q61.{u0,u1,u2,u3,u4,u5}{T0:Sort u0}{T1:Sort u1}{T2:Sort u2}{T3:Sort u3}{T4:Sort u4}{T5:Sort u5}{A:T0->T1->T2->T3->T4->T5->Prop}{Q:Prop}(h:∃ x0 x1 x2 x3 x4 x5,A x0 x1 x2 x3 x4 x5)(k:∀ x0 x1 x2 x3 x4 x5,A x0 x1 x2 x3 x4 x5->Q):Q:=h.elim λ x0 h=>h.elim λ x1 h=>h.elim λ x2 h=>h.elim λ x3 h=>h.elim λ x4 h=>h.elim λ x5 h=>k x0 x1 x2 x3 x4 x5 h
theorem lq1 {a b t : Nat} (h : a <= t) (e : Nat.ble b a = true) : b <= t := Nat.le_trans (Nat.le_of_ble_eq_true e) h
theorem lq2 {a b t : Nat} (h : t <= a) (e : Nat.ble a b = true) : t <= b := Nat.le_trans h (Nat.le_of_ble_eq_true e)
theorem lq3 {a b t : Nat} (h : t <= a) (e : Nat.blt a b = true) : t < b := Nat.lt_of_le_of_lt h (Nat.le_of_ble_eq_true e)
theorem lq4 {a b t : Nat} (h : a <= t) (e : Nat.blt b a = true) : b <= t - 1 := Nat.le_sub_of_add_le (lq1 h e)
theorem lq5 {a b t : Nat} (h : a <= t) (e : Nat.blt b (a - 1) = true) : b <= t - 1 - 1 := lq4 (Nat.sub_le_sub_right h 1) e
theorem lq6 {a b c u : Nat} (h : u + a <= c) (e : Nat.blt b a = true) : u + b < c := Nat.lt_of_lt_of_le (Nat.add_lt_add_left (Nat.le_of_ble_eq_true e) u) h
theorem lq7 {a b c u : Nat} (h : u + a < c) (e : Nat.ble b a = true) : u + b < c := Nat.lt_of_le_of_lt (Nat.add_le_add_left (Nat.le_of_ble_eq_true e) u) h
theorem lq12 {t i a b : Nat} (h : t <= i) (g : i < a) (e : Nat.ble a b = true) : t <= b := lq2 (Nat.le_of_lt (Nat.lt_of_le_of_lt h g)) e
theorem lqa {a : Nat} {b : Int} (e : Nat.blt a b.toNat = true) : (a : Int) <= b := Int.le_of_lt (Int.lt_toNat.mp (Nat.le_of_ble_eq_true e))
theorem lq13 {t : Int} {n a : Nat} {b : Int} (h : t < (n : Int)) (g : n <= a) (e : Nat.blt a b.toNat = true) : t < b := Int.lt_of_lt_of_le h (Int.le_trans (Int.ofNat_le.mpr g) (lqa e))
theorem lq14 {a : Int} {n : Nat} (h : 0 <= a) (g : a < (n : Int)) : a.toNat < n := (Int.toNat_lt h).mpr g
theorem lq15 {n a : Nat} {b : Int} (h : n <= a) (e : Nat.blt a b.toNat = true) : (n : Int) <= b := Int.le_trans (Int.ofNat_le.mpr h) (lqa e)
theorem lq16 {n a : Nat} {b : Int} (h : n <= a) (e : Nat.blt a b.toNat = true) : (n : Int) < b := Int.lt_toNat.mp (Nat.lt_of_le_of_lt h (Nat.le_of_ble_eq_true e))
theorem lq18 {a t : Int} (h : 0 <= t) (e : Nat.beq a.toNat 0 = true) : a <= t := Int.le_trans (by have := Nat.eq_of_beq_eq_true e; omega) h
theorem lq19 {a t : Int} (h : 0 <= t) (e : Nat.beq a.toNat 0 = true) : ¬ t < a := Int.not_lt.mpr (lq18 h e)
theorem lq21 {n k : Nat} {a : Int} (h : (n : Int) = a) (e : a = (k : Int)) : n = k := Int.ofNat.inj (h.trans e)
theorem lq23 {n a : Nat} (h : a <= n) (e : Nat.blt 0 a = true) : (n : Int) ≠ 0 := fun h' => absurd (lq1 h e) (by rw [show n = 0 from Int.ofNat.inj h']; exact Nat.not_lt_zero 0)
theorem lqb {a b : Int} (h : b <= a) : ¬ a < b := Int.not_lt.mpr h
theorem lqc {a b : Int} (h : b < a) : ¬ a <= b := Int.not_le.mpr h
theorem lqd {a b : Int} (h : ¬ a < b) : b <= a := Int.not_lt.mp h
theorem lqg {a b : Nat} (h : a <= b) : a <= b + 1 := Nat.le_succ_of_le h
theorem lq24 {a b c x y z k : Nat} (h1 : a <= x) (h2 : b <= y) (h3 : c <= z) (e : Nat.ble (x + y + z) k = true) : a + b + c <= k := lq2 (Nat.add_le_add (Nat.add_le_add h1 h2) h3) e
theorem lq28 {k m n : Nat} (e : n = m) (h : k < m) : k < n := e ▸ h
theorem lq32 {k m n : Nat} (e : m = n) (h : k < m) : k < n := e ▸ h
theorem lq29 {m n a k : Nat} (e : n = m) (h : m <= a) (b : Nat.ble a k = true) : n <= k := lq2 (e ▸ h) b
theorem lq30 {a b c k : Nat} (h : a <= b) (g : b <= c) (e : Nat.ble c k = true) : a <= k := lq2 (Nat.le_trans h g) e
theorem sub_lt_of {m i N:Nat}(h:m+i=N)(h':i+1<=N):N-(i+1)<m:=by
 subst h;rw[Nat.add_comm m i,Nat.add_sub_add_left];exact Nat.sub_lt (Nat.lt_of_add_lt_add_left (Nat.add_comm m i▸h':i+0<i+m)) (by decide)
theorem room2 {x S:Nat}(h:x*2<S)(h0:0<x):x*5<(S-1)*3:=by
 have h1:x*2*3<=(S-1)*3:=Nat.mul_le_mul_right 3 (Nat.le_sub_one_of_lt h);rw[Nat.mul_assoc]at h1;exact Nat.lt_of_lt_of_le (Nat.mul_lt_mul_of_pos_left (by decide:5<2*3) h0) h1
theorem room_line {x S L:Nat}(h:x*5<(S-1)*3)(h':¬ S>L):x<=L:=by lia
theorem zdX {i m:Nat}(h:i<m):m-(i+1)<m-i:=Nat.sub_lt_sub_left h (Nat.lt_succ_self i)
namespace Tab
theorem mid {lo hi:Nat}(h:lo<hi):lo<=(lo+hi) / 2/\(lo+hi) / 2<hi:=by lia
theorem zxA {xs:Array Nat}{j f lo hi:Nat}:SetTable.below.go xs j (f+1) lo hi=if lo<hi then (if xs.getD ((lo+hi) / 2) j<j then SetTable.below.go xs j f ((lo+hi) / 2+1) hi else SetTable.below.go xs j f lo ((lo+hi) / 2)) else lo:=rfl
theorem below_go (xs:Array Nat)(j:Nat)(hs:xs.toList.Pairwise (· < ·))(fuel:Nat):∀ (lo hi:Nat),hi<=xs.size->lo<=hi->hi<=lo+fuel ->
  (∀ i (h:i<xs.size),i<lo->xs[i]<j)->(∀ i (h:i<xs.size),hi<=i->j<=xs[i]) ->
  let p:=SetTable.below.go xs j fuel lo hi
  p<=xs.size/\(∀ i (h:i<xs.size),i<p->xs[i]<j)/\(∀ i (h:i<xs.size),p<=i->j<=xs[i]):=by
 induction fuel with
 | zero=>
  intro lo hi h1 h2 h3 h4 h5;have:lo=hi:=Nat.le_antisymm h2 h3;subst this;exact⟨h1,h4,h5⟩
 | succ fuel ih=>
  intro lo hi h1 h2 h3 h4 h5;have mono:∀ a b (ha:a<xs.size) (hb:b<xs.size),a<b->xs[a]<xs[b]:=λ a b ha hb hab=>List.pairwise_iff_getElem.mp hs a b ha hb hab;rw[zxA]
  by_cases hl:lo<hi
  ·obtain⟨m1,m2⟩:=mid hl
   rw[if_pos hl];generalize (lo+hi) / 2=m at m1 m2 ⊢;have hm:m<xs.size:=Nat.lt_of_lt_of_le m2 h1;have hg:xs.getD m j=xs[m]:=dif_pos hm;dsimp only;rw[hg]
   by_cases hc:xs[m]<j
   ·rw[if_pos hc]
    exact ih _ _ h1 m2 (Nat.le_trans h3 (by rw[Nat.add_right_comm m 1 fuel];exact Nat.succ_le_succ (Nat.add_le_add_right m1 fuel))) (λ i h hi'=>(Nat.lt_or_eq_of_le (Nat.le_of_lt_succ hi')).elim (λ q=>Nat.lt_trans (mono i _ h hm q) hc) (λ q=>by subst q;exact hc)) h5
   ·rw[if_neg hc]
    exact ih _ _ (Nat.le_of_lt hm) m1 (Nat.le_of_lt_succ (Nat.lt_of_lt_of_le m2 h3)) h4 λ i h hi'=>(Nat.lt_or_eq_of_le hi').elim (λ q=>Nat.le_trans (Nat.le_of_not_lt hc) (Nat.le_of_lt (mono _ i hm h q))) (λ q=>by subst q;exact Nat.le_of_not_lt hc)
  ·rw[if_neg hl]
   have:lo=hi:=Nat.le_antisymm h2 (Nat.le_of_not_lt hl);subst this;exact⟨h1,h4,h5⟩
theorem below_spec {xs:Array Nat}(hs:xs.toList.Pairwise (· < ·))(j:Nat):
  SetTable.below xs j<=xs.size/\(∀ i (h:i<xs.size),i<SetTable.below xs j->xs[i]<j)/\(∀ i (h:i<xs.size),SetTable.below xs j<=i->j<=xs[i]):=
 below_go xs j hs xs.size 0 xs.size (Nat.le_refl _) (Nat.zero_le _) (by lia) (λ i h hi=>by lia) (λ i h hi=>by lia)
theorem zhY {xs:Array Nat}(hs:xs.toList.Pairwise (· < ·)){i j:Nat}(h:xs[i]?=some j):SetTable.below xs j=i:=by
 obtain⟨hi,e⟩:=Array.getElem?_eq_some_iff.mp h;refine q03 (below_spec hs j) λ h1 h2 h3=>?_;have mono:∀ a b (ha:a<xs.size) (hb:b<xs.size),a<b->xs[a]<xs[b]:=by
  intro a b ha hb hab;have:=List.pairwise_iff_getElem.mp hs a b (by simpa using ha) (by simpa using hb) hab
  simpa using this
 rcases Nat.lt_trichotomy (SetTable.below xs j) i with q|q|q
 ·have hb:SetTable.below xs j<xs.size:=by lia
  have:=h3 _ hb (Nat.le_refl _);have:=mono _ _ hb hi q;lia
 ·exact q
 ·have:=h2 i hi q
  lia
theorem zjB {xs:Array Nat}(hs:xs.toList.Pairwise (· < ·))(j:Nat):SetTable.has xs j=true↔j∈xs.toList:=by
 unfold SetTable.has;constructor
 ·intro h
  have h':=eq_of_beq h;exact Array.mem_toList_iff.mpr (Array.mem_of_getElem? h')
 ·intro h
  obtain⟨i,hi⟩:=Array.getElem?_of_mem (Array.mem_toList_iff.mp h);rw[zhY hs hi,hi]
  simp
theorem zdD {xs:Array Nat}(hs:xs.toList.Pairwise (· < ·)){j:Nat}(hj:j∉xs.toList):
  (SetTable.insertAt xs (SetTable.below xs j) j).toList.Pairwise (· < ·):=by
 rw[SetTable.toList_insertAt];refine q03 (below_spec hs j) λ h1 h2 h3=>?_;rw[List.pairwise_append];refine⟨hs.sublist (List.take_sublist _ _),?_,?_⟩
 ·rw[List.pairwise_cons]
  refine⟨λ y hy=>?_,hs.sublist (List.drop_sublist _ _)⟩;refine q11 (List.mem_iff_getElem.mp hy) λ i u8=>q11 u8 λ hi e=>?_;rw[List.getElem_drop]at e;have hlt:SetTable.below xs j+i<xs.size:=by simp at hi;lia
  have:=h3 _ hlt (by lia);have e':xs[SetTable.below xs j+i]=y:=by simpa using e
  rw[e']at this;have hne:j≠y:=by
   intro q;subst q;exact hj (List.mem_of_mem_drop hy)
  lia
 ·intro a ha b hb
  refine q11 (List.mem_iff_getElem.mp ha) λ i u8=>q11 u8 λ hi e=>?_;rw[List.getElem_take]at e;have hi':i<SetTable.below xs j:=by simp at hi;lia
  have hlt:i<xs.size:=by lia
  have haj:a<j:=by
   have:=h2 i hlt hi';have e':xs[i]=a:=by simpa using e
   lia
  rcases List.mem_cons.mp hb with q|q
  ·exact lq28 q haj
  ·refine q11 (List.mem_iff_getElem.mp q) λ k u8=>q11 u8 λ hk e2=>?_
   rw[List.getElem_drop]at e2;have hlt2:SetTable.below xs j+k<xs.size:=by simp at hk;lia
   have:=h3 _ hlt2 (by lia);have e':xs[SetTable.below xs j+k]=b:=by simpa using e2
   lia
theorem toList_eraseAt {α:Type}(xs:Array α)(p:Nat):(SetTable.eraseAt xs p).toList=xs.toList.eraseIdx p:=by
 unfold SetTable.eraseAt;rw[Array.toList_append,Array.toList_extract,Array.toList_extract,List.eraseIdx_eq_take_drop_succ];simp only[List.extract,List.drop_zero,Nat.sub_zero];rw[List.take_of_length_le (l:=List.drop (p+1) xs.toList) (by simp)]
structure Ok (t:SetTable):Prop where
 sp:t.place.toList.Pairwise (· < ·)
 sd:t.dummies.toList.Pairwise (· < ·)
 bp:∀ j∈t.place.toList,j<=t.mask
 bd:∀ j∈t.dummies.toList,j<=t.mask
 dj:∀ j∈t.place.toList,j∉t.dummies.toList
theorem slot_live {t:SetTable}(o:Ok t){i j:Nat}:t.slot j=.live i↔t.place[i]?=some j:=by
 unfold SetTable.slot;dsimp only;constructor
 ·intro h
  split at h
  ·rename_i e;cases h;exact eq_of_beq e
  ·split at h <;> cases h
 ·intro h
  rw[zhY o.sp h,h]
  simp
theorem zjE {t:SetTable}(o:Ok t){j:Nat}:t.slot j=.dummy↔j∈t.dummies.toList:=by
 unfold SetTable.slot;dsimp only;constructor
 ·intro h
  split at h
  ·cases h
  ·split at h
   ·rename_i e;exact (zjB o.sd j).mp e
   ·cases h
 ·intro h
  rw[if_neg,if_pos ((zjB o.sd j).mpr h)];intro e;exact o.dj j (Array.mem_toList_iff.mpr (Array.mem_of_getElem? (eq_of_beq e))) h
theorem zcU {t:SetTable}(o:Ok t){j:Nat}:t.slot j=.empty↔j∉t.place.toList/\j∉t.dummies.toList:=by
 constructor
 ·intro h
  refine⟨λ hm=>?_,λ hm=>?_⟩
  ·obtain⟨i,hi⟩:=Array.getElem?_of_mem (Array.mem_toList_iff.mp hm)
   rw[(slot_live o).mpr hi]at h;cases h
  ·rw[(zjE o).mpr hm]at h;cases h
 ·intro ⟨h1,h2⟩
  cases h:t.slot j with
  | empty=>rfl
  | dummy=>exact absurd ((zjE o).mp h) h2
  | live i=>exact absurd (Array.mem_toList_iff.mpr (Array.mem_of_getElem? ((slot_live o).mp h))) h1
end Tab
namespace Tab
noncomputable def zfB (m:Nat):Prop:=m=7\/m=15\/m=31\/m=63\/m=127
noncomputable def lcg (m i:Nat):Nat:=(i*5+1) % (m+1)
noncomputable def lcgN (m:Nat):Nat->Nat->Nat
 | 0,i=>i
 | n+1,i=>lcg m (lcgN m n i)
theorem zqG (m a b i:Nat):lcgN m (a+b) i=lcgN m a (lcgN m b i):=by
 induction a with
 | zero=>rw[Nat.zero_add];rfl
 | succ a ih=>rw[Nat.succ_add];exact congrArg (lcg m) ih
noncomputable def orbit (m:Nat):Nat->Nat->List Nat
 | 0,_=>[]
 | n+1,i=>i::orbit m n (lcg m i)
theorem lcgN_lcg (m n i:Nat):lcgN m n (lcg m i)=lcg m (lcgN m n i):=by
 induction n with
 | zero=>rfl
 | succ n ih=>exact congrArg (lcg m) ih
theorem mem_orbit (m n:Nat):∀ i j,j∈orbit m n i->∃ k,k<n/\lcgN m k i=j:=by
 induction n with
 | zero=>exact λ _ _ h=>nomatch h
 | succ n ih=>
  intro i j h;rcases List.mem_cons.mp h with e|h
  ·exact⟨0,Nat.succ_pos n,e.symm⟩
  ·refine q12 (ih _ j h) λ k hk e=>?_
   exact⟨k+1,Nat.succ_lt_succ hk,(lcgN_lcg m k i).symm.trans e⟩
noncomputable def zeK (m:Nat):Bool:=let l:=orbit m (m+1) 0;((List.range (m+1)).all λ j=>l.contains j)&&lcgN m (m+1) 0==0
theorem covers7:zeK 7=true:=by decide +kernel
theorem covers15:zeK 15=true:=by decide +kernel
theorem covers31:zeK 31=true:=by decide +kernel
theorem covers63:zeK 63=true:=by decide +kernel
theorem covers127:zeK 127=true:=by decide +kernel
theorem covers {m:Nat}(g:zfB m){i j:Nat}(hi:i<=m)(hj:j<=m):∃ k,k<=m/\lcgN m k i=j:=by
 have h:zeK m=true:=by
  rcases g with rfl|rfl|rfl|rfl|rfl
  ·exact covers7
  ·exact covers15
  ·exact covers31
  ·exact covers63
  ·exact covers127
 unfold zeK at h;obtain⟨h,hp⟩:=Bool.and_eq_true_iff.mp h;have hp:lcgN m (m+1) 0=0:=eq_of_beq hp;have hc:∀ x,x<=m->∃ k,k<m+1/\lcgN m k 0=x:=λ x hx=>by
  have h2:=List.all_eq_true.mp h x (List.mem_range.mpr (by lia));exact mem_orbit m _ _ _ (List.contains_iff_mem.mp h2)
 refine q12 (hc i hi) λ a ha ea=>?_;refine q12 (hc j hj) λ b hb eb=>?_
 by_cases q:a<=b
 ·refine⟨b-a,by lia,?_⟩
  rw[<- ea,<- zqG,Nat.sub_add_cancel q];exact eb
 ·refine⟨b+(m+1)-a,by lia,?_⟩
  rw[<- ea,<- zqG,Nat.sub_add_cancel (by lia),zqG,hp];exact eb
noncomputable def blk (m:Nat)(h:Int):Nat->Nat×Nat
 | 0=>(SetTable.bits h % (m+1),SetTable.bits h)
 | n+1=>SetTable.leap m (blk m h n).1 (blk m h n).2
noncomputable def len (m i:Nat):Nat:=SetTable.runEnd m i-i
theorem zsP (m:Nat)(h:Int)(n:Nat):(blk m h n).1<=m:=by
 cases n with
 | zero=>exact Nat.le_of_lt_succ (Nat.mod_lt _ (Nat.succ_pos _))
 | succ n=>exact Nat.le_of_lt_succ (Nat.mod_lt _ (Nat.succ_pos _))
theorem len_le (m i:Nat):len m i<=9:=by
 unfold len SetTable.runEnd;split <;> lia
theorem at_le {m i k:Nat}(hi:i<=m)(hk:k<=len m i):i+k<=m:=by
 unfold len SetTable.runEnd at hk;split at hk <;> lia
theorem ztT (m:Nat)(h:Int)(n:Nat):(blk m h n).2=SetTable.bits h / 32 ^ n:=by
 induction n with
 | zero=>exact (Nat.div_one _).symm
 | succ n ih=>
  show (blk m h n).2 / 32=_
  rw[ih,Nat.div_div_eq_div_mul,Nat.pow_succ]
theorem bits_lt (h:Int):SetTable.bits h<2 ^ 64:=by
 unfold SetTable.bits;have h1:=Int.emod_nonneg h (b:=(2 ^ 64:Int)) (by decide);have h2:=Int.emod_lt_of_pos h (b:=(2 ^ 64:Int)) (by decide);exact lq14 h1 (by assumption)
theorem blk_late (m:Nat)(h:Int)(n:Nat):(blk m h (12+n)).1=lcgN m n (blk m h 12).1:=by
 induction n with
 | zero=>rfl
 | succ n ih=>
  have e:blk m h (12+(n+1))=SetTable.leap m (blk m h (12+n)).1 (blk m h (12+n)).2:=rfl;have hz:(blk m h (12+n)).2 / 32=0:=by
   rw[ztT,Nat.div_div_eq_div_mul];have:=bits_lt h;refine Nat.div_eq_of_lt (Nat.lt_of_lt_of_le this ?_);have:(32:Nat) ^ (12+n)*32=32 ^ 13*32 ^ n:=by
    rw[<- Nat.pow_succ,<- Nat.pow_add];congr 1;lia
   rw[this];have h1:(2:Nat) ^ 64<=32 ^ 13:=by decide
   exact Nat.le_trans h1 (Nat.le_mul_of_pos_right _ (Nat.pos_of_ne_zero (by simp)))
  rw[e]
  show ((blk m h (12+n)).1*5+1+(blk m h (12+n)).2 / 32) % (m+1)=lcg m (lcgN m n (blk m h 12).1)
  rw[hz,<- ih]
  rfl
theorem zpD {m:Nat}(g:zfB m)(h:Int){j:Nat}(hj:j<=m):∃ n,n<=m+12/\(blk m h n).1=j:=by
 refine q12 (covers g (zsP m h 12) hj) λ k hk e=>?_;exact⟨12+k,by lia,by rw[blk_late];exact e⟩
noncomputable def P (m:Nat)(h:Int)(n k:Nat)(d:Option Nat):SetTable.Probe:=
 { j:=(blk m h n).1+k,more:=len m (blk m h n).1-k,i:=(blk m h n).1,perturb:=(blk m h n).2,dummy:=d }
theorem zrF (t:SetTable)(h:Int):t.probeStart h=P t.mask h 0 0 none:=by
 simp[SetTable.probeStart,P,blk,len]
theorem zwY {t:SetTable}{h:Int}{n k:Nat}{d:Option Nat}(hk:k<len t.mask (blk t.mask h n).1):t.advance (P t.mask h n k d)=P t.mask h n (k+1) d:=by
 unfold SetTable.advance P;rw[if_pos (by show _>0;simp only;lia)];simp only[SetTable.Probe.mk.injEq,and_true,true_and];lia
theorem zsU {t:SetTable}{h:Int}{n k:Nat}{d:Option Nat}(hk:¬ k<len t.mask (blk t.mask h n).1):t.advance (P t.mask h n k d)=P t.mask h (n+1) 0 d:=by
 unfold SetTable.advance P;rw[if_neg (by show ¬ _>0;simp only;lia)];simp only[SetTable.Probe.mk.injEq,and_true,true_and,Nat.add_zero,Nat.sub_zero,blk,len]
noncomputable def zbG (n k n' k':Nat):Prop:=n<n'\/(n=n'/\k<k')
noncomputable def On (m:Nat)(h:Int)(n k:Nat):Prop:=k<=len m (blk m h n).1
noncomputable def at' (m:Nat)(h:Int)(n k:Nat):Nat:=(blk m h n).1+k
inductive zrZ (t:SetTable)(hashAt:Nat->Int)(h:Int)(n k:Nat)(d:Option Nat):SetTable.Met->Prop
 | empty (n' k':Nat) (d':Option Nat) (on:On t.mask h n' k') (e:t.slot (at' t.mask h n' k')=.empty) (ge:¬ zbG n' k' n k)
   (bef:∀ a b,On t.mask h a b->¬ zbG a b n k->zbG a b n' k'->t.slot (at' t.mask h a b)≠.empty/\∀ i,t.slot (at' t.mask h a b)=.live i->hashAt i≠h)
   (dum:d'=d\/∃ a b,On t.mask h a b/\¬ zbG a b n k/\zbG a b n' k'/\d'=some (at' t.mask h a b)/\t.slot (at' t.mask h a b)=.dummy):
   zrZ t hashAt h n k d (.empty (at' t.mask h n' k') d')
 | cand (n' k' i:Nat) (next:SetTable.Probe) (on:On t.mask h n' k') (e:t.slot (at' t.mask h n' k')=.live i) (hh:hashAt i=h) (ge:¬ zbG n' k' n k)
   (bef:∀ a b,On t.mask h a b->¬ zbG a b n k->zbG a b n' k'->t.slot (at' t.mask h a b)≠.empty/\∀ i,t.slot (at' t.mask h a b)=.live i->hashAt i≠h):
   zrZ t hashAt h n k d (.candidate (at' t.mask h n' k') i next)
theorem zbG.trans {a b c d e f:Nat}(h:zbG a b c d)(h':zbG c d e f):zbG a b e f:=by
 rcases h with h|⟨rfl,h⟩
 ·rcases h' with h' | ⟨rfl,h'⟩
  ·exact .inl (Nat.lt_trans h h')
  ·exact .inl h
 ·rcases h' with h' | ⟨rfl,h'⟩
  ·exact .inl h'
  ·exact .inr ⟨rfl,Nat.lt_trans h h'⟩
theorem zbG.irrefl {a b:Nat}(h:zbG a b a b):False:=by
 rcases h with h|⟨_,h⟩
 ·exact Nat.lt_irrefl _ h
 ·exact Nat.lt_irrefl _ h
theorem zbG.total {a b c d:Nat}(h:¬ zbG c d a b):zbG a b c d\/(a=c/\b=d):=by
 rcases Nat.lt_trichotomy a c with q|q|q
 ·exact .inl (.inl q)
 ·subst q
  rcases Nat.lt_trichotomy b d with q|q|q
  ·exact .inl (.inr ⟨rfl,q⟩)
  ·exact .inr ⟨rfl,q⟩
  ·exact absurd (.inr ⟨rfl,q⟩) h
 ·exact absurd (.inl q) h
theorem zbG.next {a b c d e f:Nat}(h:zbG a b c d)(h':¬ zbG e f c d):zbG a b e f:=by
 rcases zbG.total h' with q|⟨rfl,rfl⟩
 ·exact h.trans q
 ·exact h
theorem zrZ.before {t:SetTable}{hashAt:Nat->Int}{h:Int}{n k n1 k1:Nat}{d d1:Option Nat}{met:SetTable.Met}(on:On t.mask h n k)
  (nx:∀ a b,On t.mask h a b->¬ zbG a b n k->(a=n/\b=k)\/¬ zbG a b n1 k1) (ad:zbG n k n1 k1)
  (ne:t.slot (at' t.mask h n k)≠.empty/\∀ i,t.slot (at' t.mask h n k)=.live i->hashAt i≠h)
  (hd:d1=d\/(d1=some (at' t.mask h n k)/\t.slot (at' t.mask h n k)=.dummy)) (m:zrZ t hashAt h n1 k1 d1 met):zrZ t hashAt h n k d met:=by
 cases m with
 | empty n' k' d' on' e ge bef dum=>
  refine .empty n' k' d' on' e (λ q=>ge (q.trans ad)) (λ a b ho hn ha=>?_) ?_
  ·rcases nx a b ho hn with ⟨rfl,rfl⟩|q
   ·exact ne
   ·exact bef a b ho q ha
  ·rcases dum with rfl|⟨a,b,x1,x2,x3,x4,x5⟩
   ·rcases hd with rfl|⟨rfl,y⟩
    ·exact .inl rfl
    ·exact .inr ⟨n,k,on,zbG.irrefl,ad.next ge,rfl,y⟩
   ·exact .inr ⟨a,b,x1,λ q=>x2 (q.trans ad),x3,x4,x5⟩
 | cand n' k' i next on' e hh ge bef=>
  refine .cand n' k' i next on' e hh (λ q=>ge (q.trans ad)) (λ a b ho hn ha=>?_)
  ·rcases nx a b ho hn with ⟨rfl,rfl⟩|q
   ·exact ne
   ·exact bef a b ho q ha
theorem gm0 {N n k:Nat}(h:k<=9)(hn:n<N\/(n=N/\k=0))(hf:10*N+1<=0+k+10*n):False:=by
 rcases hn with q|⟨rfl,rfl⟩
 ·have h1:10*n+10<=10*N:=Nat.mul_le_mul_left 10 q
  have h2:=Nat.le_trans (Nat.succ_le_succ h1) hf;rw[Nat.zero_add,Nat.add_comm k]at h2;exact absurd (Nat.le_of_add_le_add_left (a:=10*n) (b:=11) h2) (Nat.not_le.mpr (Nat.lt_of_le_of_lt h (by decide)))
 ·rw[Nat.add_zero,Nat.zero_add]at hf
  exact absurd hf (Nat.not_succ_le_self _)
theorem gm2 {N n k f:Nat}(h:k<=9)(hf:10*N+1<=f+1+k+10*n):10*N+1<=f+0+10*(n+1):=by
 lia
theorem nx_in {n k:Nat}{a b:Nat}(h:¬ zbG a b n k):(a=n/\b=k)\/¬ zbG a b n (k+1):=
 (zbG.total h).elim (λ q=>.inr λ h'=>h'.elim (λ x=>q.elim (λ y=>Nat.lt_asymm x y) λ y=>Nat.ne_of_lt x y.1.symm) λ x=>q.elim (λ y=>Nat.ne_of_lt y x.1.symm) λ y=>absurd x.2 (Nat.not_lt.mpr y.2)) λ q=>.inl ⟨q.1.symm,q.2.symm⟩
theorem nx_out {n k L:Nat}{a b:Nat}(hk:L<=k)(ho:a=n->b<=L)(h:¬ zbG a b n k):(a=n/\b=k)\/¬ zbG a b (n+1) 0:=
 (zbG.total h).elim (λ q=>q.elim (λ x=>.inr λ h'=>h'.elim (λ y=>Nat.lt_irrefl _ (Nat.lt_of_lt_of_le x (Nat.le_of_lt_succ y))) λ y=>Nat.not_lt_zero _ y.2) λ y=>absurd (Nat.le_trans (ho y.1.symm) hk) (Nat.not_le.mpr y.2)) λ q=>.inl ⟨q.1.symm,q.2.symm⟩
theorem go_step {t:SetTable}{hashAt:Nat->Int}{h:Int}{f:Nat}{p:SetTable.Probe}:SetTable.probe.go t hashAt h (f+1) p=SetTable.instReprSlot.repr.match_1 (λ _=>Option SetTable.Met) (t.slot p.j) (λ _=>some (.empty p.j p.dummy)) (λ _=>SetTable.probe.go t hashAt h f (t.advance { p with dummy:=some p.j })) (λ i=>if (hashAt i==h)=true then some (.candidate p.j i (t.advance p)) else SetTable.probe.go t hashAt h f (t.advance p)):=rfl
theorem go_meets {t:SetTable}{hashAt:Nat->Int}{h:Int}{N:Nat}(hN:t.slot (blk t.mask h N).1=.empty)(f:Nat):
  ∀ (n k:Nat) (d:Option Nat),On t.mask h n k->(n<N\/(n=N/\k=0))->10*N+1<=f+k+10*n ->
   ∃ met,SetTable.probe.go t hashAt h f (P t.mask h n k d)=some met/\zrZ t hashAt h n k d met:=by
 induction f with
 | zero=>exact λ n k d on hn hf=>(gm0 (Nat.le_trans on (len_le t.mask (blk t.mask h n).1)) hn hf).elim
 | succ f ih=>
  intro n k d on hn hf;have l9:=Nat.le_trans on (len_le t.mask (blk t.mask h n).1);have step:∀ d1,(t.slot (at' t.mask h n k)≠.empty/\∀ i,t.slot (at' t.mask h n k)=.live i->hashAt i≠h)->(d1=d\/(d1=some (at' t.mask h n k)/\t.slot (at' t.mask h n k)=.dummy)) ->
    ∃ met,SetTable.probe.go t hashAt h f (t.advance (P t.mask h n k d1))=some met/\zrZ t hashAt h n k d met:=by
   intro d1 ne hd;have hlt:n<N:=hn.elim id λ q=>absurd hN (by obtain⟨rfl,rfl⟩:=q;exact ne.1)
   by_cases hk:k<len t.mask (blk t.mask h n).1
   ·rw[zwY hk]
    refine q12 (ih n (k+1) d1 hk (.inl hlt) (by rw[Nat.add_right_comm f 1 k]at hf;exact hf)) λ met e m=>?_;exact⟨met,e,m.before on (λ a b ho hna=>nx_in hna) (.inr ⟨rfl,Nat.lt_succ_self k⟩) ne hd⟩
   ·rw[zsU hk]
    refine q12 (ih (n+1) 0 d1 (Nat.zero_le _) ((Nat.lt_or_eq_of_le hlt).imp id λ q=>⟨q,rfl⟩) (gm2 l9 hf)) λ met e m=>?_;exact⟨met,e,m.before on (λ a b ho hna=>nx_out (Nat.le_of_not_lt hk) (λ q=>by subst q;exact ho) hna) (.inl (Nat.lt_succ_self n)) ne hd⟩
  have irr:¬ zbG n k n k:=zbG.irrefl;rw[go_step];rw[show (P t.mask h n k d).j=at' t.mask h n k from rfl];cases hs:t.slot (at' t.mask h n k) with
  | empty=>exact⟨_,rfl,.empty n k d on hs irr (λ a b _ h1 h2=>absurd h2 h1) (.inl rfl)⟩
  | dummy=>exact step (some (at' t.mask h n k)) ⟨by rw[hs];exact (λ q=>by cases q),λ i e=>by rw[hs]at e;cases e⟩ (.inr ⟨rfl,hs⟩)
  | live i=>
   dsimp only
   by_cases hh:hashAt i=h
   ·rw[if_pos (by rw[hh];exact beq_self_eq_true _)]
    exact⟨_,rfl,.cand n k i _ on hs hh irr (λ a b _ h1 h2=>absurd h2 h1)⟩
   ·rw[if_neg (by intro q;exact hh (eq_of_beq q))]
    exact step d ⟨by rw[hs];exact (λ q=>by cases q),λ i' e=>by rw[hs]at e;cases e;exact hh⟩ (.inl rfl)
theorem zmF {t:SetTable}{hashAt:Nat->Int}{h:Int}(g:zfB t.mask){e:Nat}(he:e<=t.mask)(hs:t.slot e=.empty):
  ∃ met,t.probe hashAt h (t.probeStart h)=some met/\zrZ t hashAt h 0 0 none met:=by
 refine q12 (zpD g h he) λ N hN eN=>?_;rw[zrF];unfold SetTable.probe SetTable.turns;refine go_meets (N:=N) (by rw[eN];exact hs) _ 0 0 none (Nat.zero_le _) (by lia) (by lia)
end Tab
namespace Tab
theorem nodup_le {α:Type}[DecidableEq α]:∀ (l l':List α),l.Nodup->(∀ a∈l,a∈l')->l.length<=l'.length:=by
 intro l
 induction l with
 | nil=>intro _ _ _;exact Nat.zero_le _
 | cons a l ih=>
  intro l' hn hs;have ha:a∈l':=hs a (List.mem_cons.mpr (Or.inl rfl));have hn':=List.nodup_cons.mp hn;have h1:=ih (l'.erase a) hn'.2 λ b hb=>by
   have hne:b≠a:=λ e=>hn'.1 (e▸hb);exact (List.mem_erase_of_ne hne).mpr (hs b (List.mem_cons.mpr (Or.inr hb)))
  have h2:=List.length_erase_of_mem ha;have h3:0<l'.length:=List.length_pos_of_mem ha;rw[List.length_cons];lia
theorem pigeon (l:List Nat)(m:Nat)(h:l.length<=m):∃ e,e<=m/\e∉l:=by
 cases hq:(List.range (m+1)).find? (λ e=>decide (e∉l)) with
 | some e=>
  have h1:=List.mem_range.mp (List.mem_of_find?_eq_some hq);have h2:=List.find?_some hq;exact⟨e,by lia,by simpa using h2⟩
 | none=>
  exfalso
  have:=List.find?_eq_none.mp hq;have h2:=nodup_le (List.range (m+1)) l List.nodup_range λ a ha=>by
   have:=this a ha
   simpa using this
  rw[List.length_range]at h2;lia
noncomputable def Reached (t:SetTable)(h:Int)(j:Nat):Prop:=
 ∃ n k,On t.mask h n k/\at' t.mask h n k=j/\∀ a b,On t.mask h a b->zbG a b n k->t.slot (at' t.mask h a b)≠.empty
structure Inv0 (t:SetTable)(hs:List Int):Prop extends Ok t where
 size:t.place.size=hs.length
 mask:zfB t.mask
 nodup:hs.Nodup
 reach:∀ (i j:Nat) (h:Int),t.place[i]?=some j->hs[i]?=some h->Reached t h j
structure Inv (t:SetTable)(hs:List Int):Prop extends Inv0 t hs where
 room:t.fill*5<t.mask*3
theorem Inv0.free {t:SetTable}{hs:List Int}(_:Inv0 t hs)(hf:t.fill<=t.mask):∃ e,e<=t.mask/\e∉t.place.toList/\e∉t.dummies.toList:=by
 refine q12 (pigeon (t.place.toList++t.dummies.toList) t.mask (by
  rw[List.length_append,Array.length_toList,Array.length_toList];exact hf)) λ e he hn=>?_
 rw[List.mem_append,not_or]at hn;exact⟨e,he,hn⟩
noncomputable def hashIn (hs:List Int)(i:Nat):Int:=(hs[i]?).getD 0
theorem Inv.fillLe {t:SetTable}{hs:List Int}(I:Inv t hs):t.fill<=t.mask:=by
 have:=I.room;lia
theorem search_there {t:SetTable}{hs:List Int}(I:Inv t hs){i:Nat}{h:Int}(hi:hs[i]?=some h):
  ∃ j next,t.probe (hashIn hs) h (t.probeStart h)=some (.candidate j i next)/\t.place[i]?=some j:=by
 refine q12 (I.toInv0.free I.fillLe) λ e he hn=>?_;refine q12 (zmF (hashAt:=hashIn hs) (h:=h) I.mask he ((zcU I.toOk).mpr hn)) λ met hm M=>?_;have hlt:i<t.place.size:=by rw[I.size];exact (List.getElem?_eq_some_iff.mp hi).1
 refine q23 (I.reach i t.place[i] h (Array.getElem?_eq_getElem hlt) hi) λ n0 k0 on0 a0 b0=>?_;have hl0:t.slot (at' t.mask h n0 k0)=.live i:=by rw[a0];exact (slot_live I.toOk).mpr (Array.getElem?_eq_getElem hlt)
 cases M with
 | empty n' k' d' on e' ge bef dum=>
  exfalso
  rcases Nat.lt_trichotomy n' n0 with q|q|q
  ·exact b0 n' k' on (.inl q) e'
  ·subst q
   rcases Nat.lt_trichotomy k' k0 with q|q|q
   ·exact b0 n' k' on (.inr ⟨rfl,q⟩) e'
   ·subst q;rw[hl0]at e';cases e'
   ·exact (bef n' k0 on0 (by unfold zbG;lia) (.inr ⟨rfl,q⟩)).2 i hl0 (by simp[hashIn,hi])
  ·exact (bef n0 k0 on0 (by unfold zbG;lia) (.inl q)).2 i hl0 (by simp[hashIn,hi])
 | cand n' k' i' next on e' hh ge bef=>
  have hp:=(slot_live I.toOk).mp e';have hlt':i'<hs.length:=by rw[<- I.size];exact (Array.getElem?_eq_some_iff.mp hp).1
  have:i'=i:=by
   have h1:hs[i']?=some h:=by
    have:=hh;unfold hashIn at this;rw[List.getElem?_eq_getElem hlt']at this ⊢;exact congrArg some this
   exact (List.getElem?_inj hlt' I.nodup).mp (h1.trans hi.symm)
  subst this;exact⟨_,next,hm,hp⟩
structure FreeAt (t:SetTable)(h:Int)(s:Nat)(wd:Bool):Prop where
 slot:t.slot s=if wd then .dummy else .empty
 le:s<=t.mask
 reach:Reached t h s
theorem search_absent {t:SetTable}{hs:List Int}(I:Inv t hs){h:Int}(hn:h∉hs):
  ∃ j d,t.probe (hashIn hs) h (t.probeStart h)=some (.empty j d)/\FreeAt t h (d.getD j) d.isSome:=by
 refine q12 (I.toInv0.free I.fillLe) λ e he hn'=>?_;refine q12 (zmF (hashAt:=hashIn hs) (h:=h) I.mask he ((zcU I.toOk).mpr hn')) λ met hm M=>?_;cases M with
 | empty n' k' d' on e' ge bef dum=>
  refine⟨_,d',hm,?_⟩;rcases dum with rfl|⟨a,b,x1,x2,x3,rfl,x5⟩
  ·exact⟨e',at_le (zsP _ _ _) on,n',k',on,rfl,λ a b ho ha=>(bef a b ho (by unfold zbG;lia) ha).1⟩
  ·exact⟨x5,at_le (zsP _ _ _) x1,a,b,x1,rfl,λ a' b' ho ha=>(bef a' b' ho (by unfold zbG;lia) (by unfold zbG at *;lia)).1⟩
 | cand n' k' i' next on e' hh ge bef=>
  exfalso
  have hp:=(slot_live I.toOk).mp e';have hlt':i'<hs.length:=by rw[<- I.size];exact (Array.getElem?_eq_some_iff.mp hp).1
  unfold hashIn at hh;rw[List.getElem?_eq_getElem hlt']at hh;exact hn (hh▸List.getElem_mem hlt')
theorem Reached.mono {t t':SetTable}{h:Int}{j:Nat}(hm:t'.mask=t.mask)(k:∀ x,t.slot x≠.empty->t'.slot x≠.empty)(r:Reached t h j):Reached t' h j:=by
 refine q23 r λ n kk on e b=>?_;unfold Reached;rw[hm];exact⟨n,kk,on,e,λ a c ho ha=>k _ (b a c ho ha)⟩
theorem getElem?_insert {α:Type}(l:List α)(p:Nat)(x:α)(hp:p<=l.length)(i:Nat):
  (l.take p++x::l.drop p)[i]?=if i<p then l[i]? else if i=p then some x else l[i-1]?:=by
 have hlen:(l.take p).length=p:=by rw[List.length_take];lia
 rw[List.getElem?_append,hlen]
 by_cases h:i<p
 ·simp only[h,if_true];rw[List.getElem?_take];simp[h]
 ·simp only[h,if_false]
  by_cases h2:i=p
  ·subst h2;simp
  ·simp only[h2,if_false]
   rw[List.getElem?_cons];rw[if_neg (by lia),List.getElem?_drop]
   congr 1;lia
theorem zeS (t:SetTable)(s:Nat):t.put s=({ t with place:=SetTable.insertAt t.place (SetTable.below t.place s) s,dummies:=if SetTable.has t.dummies s then SetTable.eraseAt t.dummies (SetTable.below t.dummies s) else t.dummies },SetTable.below t.place s):=rfl
theorem zkY {xs:Array Nat}(hs:xs.toList.Pairwise (· < ·)){j:Nat}(hj:j∈xs.toList)(y:Nat):
  y∈(SetTable.eraseAt xs (SetTable.below xs j)).toList↔y∈xs.toList/\y≠j:=by
 rw[toList_eraseAt];obtain⟨i,hi⟩:=Array.getElem?_of_mem (Array.mem_toList_iff.mp hj);rw[zhY hs hi];have hnd:xs.toList.Nodup:=hs.imp (λ h=>Nat.ne_of_lt h);have hi':xs.toList[i]?=some j:=by simpa using hi
 constructor
 ·intro h
  refine⟨List.mem_of_mem_eraseIdx h,λ e=>?_⟩;subst e;rw[List.mem_eraseIdx_iff_getElem?]at h;refine q12 h λ k hk e=>?_;exact hk ((List.getElem?_inj (List.getElem?_eq_some_iff.mp e).1 hnd).mp (e.trans hi'.symm))
 ·intro ⟨h1,h2⟩
  rw[List.mem_eraseIdx_iff_getElem?];obtain⟨k,hk⟩:=List.mem_iff_getElem?.mp h1;refine⟨k,λ e=>h2 ?_,hk⟩;subst e;rw[hi']at hk;exact (Option.some.inj hk).symm
theorem zjP {xs:Array Nat}(p j y:Nat):y∈(SetTable.insertAt xs p j).toList↔y=j\/y∈xs.toList:=by
 have:=(SetTable.insertAt_perm xs p j).mem_iff (a:=y);rw[this]
 simp[or_comm]
theorem put_inv {t:SetTable}{hs:List Int}(I:Inv t hs){h:Int}(hn:h∉hs){s:Nat}{wd:Bool}(F:FreeAt t h s wd):
  Inv0 (t.put s).1 (hs.take (t.put s).2++h::hs.drop (t.put s).2)/\(t.put s).1.fill=(if wd then t.fill else t.fill+1)/\(t.put s).2<=hs.length/\(t.put s).1.mask=t.mask /\
   (t.put s).1.led=t.led/\(t.put s).1.plain=t.plain:=by
 have hsp:s∉t.place.toList:=by
  intro hm;obtain⟨i,hi⟩:=Array.getElem?_of_mem (Array.mem_toList_iff.mp hm);have:=F.slot;rw[(slot_live I.toOk).mpr hi]at this;cases wd <;> cases this
 have hbl:=(below_spec I.sp s).1;have hple:SetTable.below t.place s<=hs.length:=by rw[<- I.size];exact hbl
 have hdm:∀ y,y∈(t.put s).1.dummies.toList↔y∈t.dummies.toList/\y≠s:=by
  intro y;rw[zeS];dsimp only
  by_cases q:SetTable.has t.dummies s=true
  ·rw[if_pos q];exact zkY I.sd ((zjB I.sd s).mp q) y
  ·rw[if_neg q]
   refine⟨λ h=>⟨h,λ e=>q ((zjB I.sd s).mpr (e▸h))⟩,λ h=>h.1⟩
 have hpm:∀ y,y∈(t.put s).1.place.toList↔y=s\/y∈t.place.toList:=λ y=>by rw[zeS];exact zjP _ _ _
 have ok':Ok (t.put s).1:=by
  refine⟨?_,?_,?_,?_,?_⟩
  ·rw[zeS];exact zdD I.sp hsp
  ·rw[zeS];dsimp only
   split
   ·rw[toList_eraseAt];exact I.sd.sublist (List.eraseIdx_sublist _ _)
   ·exact I.sd
  ·intro j hj
   rcases (hpm j).mp hj with rfl|q
   ·exact F.le
   ·exact I.bp j q
  ·intro j hj;exact I.bd j ((hdm j).mp hj).1
  ·intro j hj hd
   obtain⟨d1,d2⟩:=(hdm j).mp hd;rcases (hpm j).mp hj with q|q
   ·exact d2 q
   ·exact I.dj j q d1
 have ne':∀ x,t.slot x≠.empty->(t.put s).1.slot x≠.empty:=by
  intro x hx he;obtain⟨e1,e2⟩:=(zcU ok').mp he;refine hx ((zcU I.toOk).mpr ⟨λ q=>e1 ((hpm x).mpr (.inr q)),λ q=>?_⟩)
  by_cases hxs:x=s
  ·exact e1 ((hpm x).mpr (.inl hxs))
  ·exact e2 ((hdm x).mpr ⟨q,hxs⟩)
 have hgp:∀ i,(t.put s).1.place[i]?=if i<(t.put s).2 then t.place[i]? else if i=(t.put s).2 then some s else t.place[i-1]?:=by
  intro i;have h1:(t.put s).1.place[i]?=(t.place.toList.take (t.put s).2++s::t.place.toList.drop (t.put s).2)[i]?:=by
   have:(t.put s).1.place.toList=t.place.toList.take (t.put s).2++s::t.place.toList.drop (t.put s).2:=by
    rw[zeS];exact SetTable.toList_insertAt _ _ _
   rw[<- this];simp
  rw[h1,getElem?_insert _ _ _ (by rw[Array.length_toList];exact hbl)]
  simp
 refine⟨⟨ok',?_,I.mask,?_,?_⟩,?_,hple,rfl,rfl,rfl⟩
 ·have h1:(t.put s).1.place.size=t.place.size+1:=by
   have:=(SetTable.insertAt_perm t.place (SetTable.below t.place s) s).length_eq;rw[zeS];simpa using this
  rw[h1,I.size];have:(t.put s).2<=hs.length:=hple;simp only[List.length_append,List.length_take,List.length_cons,List.length_drop];lia
 ·have hp:(hs.take (t.put s).2++h::hs.drop (t.put s).2).Perm (h::hs):=by
   refine List.perm_middle.trans ?_;rw[List.take_append_drop]
  exact hp.nodup_iff.mpr (List.nodup_cons.mpr ⟨hn,I.nodup⟩)
 ·intro i j h' hj hh
  rw[hgp]at hj;rw[getElem?_insert _ _ _ (show (t.put s).2<=hs.length from hple)]at hh
  by_cases q:i<(t.put s).2
  ·rw[if_pos q]at hj hh
   exact Reached.mono (t:=t) (t':=(t.put s).1) rfl ne' (I.reach i j h' hj hh)
  ·rw[if_neg q]at hj hh
   by_cases q2:i=(t.put s).2
   ·rw[if_pos q2]at hj hh
    cases hj;cases hh;exact Reached.mono (t:=t) (t':=(t.put s).1) rfl ne' F.reach
   ·rw[if_neg q2]at hj hh
    exact Reached.mono (t:=t) (t':=(t.put s).1) rfl ne' (I.reach _ j h' hj hh)
 ·have h1:(t.put s).1.place.size=t.place.size+1:=by
   have:=(SetTable.insertAt_perm t.place (SetTable.below t.place s) s).length_eq;rw[zeS];simpa using this
  unfold SetTable.fill;rw[h1];cases wd with
  | true=>
   have hsd:s∈t.dummies.toList:=(zjE I.toOk).mp F.slot;have:(t.put s).1.dummies.size=t.dummies.size-1:=by
    rw[zeS];dsimp only;rw[if_pos ((zjB I.sd s).mpr hsd),<- Array.length_toList,toList_eraseAt,List.length_eraseIdx];obtain⟨i,hi⟩:=Array.getElem?_of_mem (Array.mem_toList_iff.mp hsd);rw[zhY I.sd hi,if_pos (by simpa using (Array.getElem?_eq_some_iff.mp hi).1)]
    simp
   have hpos:0<t.dummies.size:=by
    rw[<- Array.length_toList];exact List.length_pos_of_mem hsd
   simp only[if_true];rw[this];lia
  | false=>
   have hsd:s∉t.dummies.toList:=((zcU I.toOk).mp F.slot).2;have:(t.put s).1.dummies=t.dummies:=by
    rw[zeS];dsimp only;rw[if_neg (λ q=>hsd ((zjB I.sd s).mp q))]
   rw[this];simp only[Bool.false_eq_true,if_false];lia
theorem drop_inv {t:SetTable}{hs:List Int}(I:Inv t hs){i:Nat}(hi:i<hs.length):
  Inv (t.drop i) (hs.eraseIdx i)/\(t.drop i).mask=t.mask/\(t.drop i).fill=t.fill/\(t.drop i).led=t.led/\(t.drop i).plain=t.plain:=by
 have hlt:i<t.place.size:=by rw[I.size];exact hi
 have hpj:t.place[i]?=some t.place[i]:=Array.getElem?_eq_getElem hlt;have hde:t.drop i={ t with place:=SetTable.eraseAt t.place i,dummies:=SetTable.insertAt t.dummies (SetTable.below t.dummies t.place[i]) t.place[i] }:=by
  unfold SetTable.drop;rw[hpj]
 have hjd:t.place[i]∉t.dummies.toList:=I.dj _ (by simp);have hdm:∀ y,y∈(t.drop i).dummies.toList↔y=t.place[i]\/y∈t.dummies.toList:=λ y=>by rw[hde];exact zjP _ _ _
 have hpm:∀ y,y∈(t.drop i).place.toList↔y∈t.place.toList/\y≠t.place[i]:=λ y=>by
  have:=zkY I.sp (j:=t.place[i]) (by simp) y;rw[zhY I.sp hpj]at this;rw[hde];exact this
 have ok':Ok (t.drop i):=by
  refine⟨?_,?_,?_,?_,?_⟩
  ·rw[hde];dsimp only;rw[toList_eraseAt];exact I.sp.sublist (List.eraseIdx_sublist _ _)
  ·rw[hde];exact zdD I.sd hjd
  ·intro j hj;rw[hde];exact I.bp j ((hpm j).mp hj).1
  ·intro j hj
   rw[hde];rcases (hdm j).mp hj with rfl|q
   ·exact I.bp _ (by simp)
   ·exact I.bd j q
  ·intro j hj hd
   obtain⟨p1,p2⟩:=(hpm j).mp hj;rcases (hdm j).mp hd with q|q
   ·exact p2 q
   ·exact I.dj j p1 q
 have ne':∀ x,t.slot x≠.empty->(t.drop i).slot x≠.empty:=by
  intro x hx he;obtain⟨e1,e2⟩:=(zcU ok').mp he;refine hx ((zcU I.toOk).mpr ⟨λ q=>?_,λ q=>e2 ((hdm x).mpr (.inr q))⟩)
  by_cases hxs:x=t.place[i]
  ·exact e2 ((hdm x).mpr (.inl hxs))
  ·exact e1 ((hpm x).mpr ⟨q,hxs⟩)
 have hmk:(t.drop i).mask=t.mask:=by rw[hde]
 have hfl:(t.drop i).fill=t.fill:=by
  unfold SetTable.fill;have h1:(t.drop i).place.size=t.place.size-1:=by
   rw[hde];dsimp only;rw[<- Array.length_toList,toList_eraseAt,List.length_eraseIdx,if_pos (by simpa using hlt)];simp
  have h2:(t.drop i).dummies.size=t.dummies.size+1:=by
   have:=(SetTable.insertAt_perm t.dummies (SetTable.below t.dummies t.place[i]) t.place[i]).length_eq;rw[hde];simpa using this
  lia
 refine⟨⟨⟨ok',?_,by rw[hmk];exact I.mask,?_,?_⟩,by rw[hmk,hfl];exact I.room⟩,hmk,hfl,by rw[hde],by rw[hde]⟩
 ·rw[hde];dsimp only
  rw[<- Array.length_toList,toList_eraseAt,List.length_eraseIdx,List.length_eraseIdx,if_pos (by simpa using hlt),if_pos hi,Array.length_toList,I.size]
 ·exact I.nodup.sublist (List.eraseIdx_sublist _ _)
 ·intro q j h' hj hh
  have hj':(t.place.toList.eraseIdx i)[q]?=some j:=by
   rw[<- toList_eraseAt];rw[hde]at hj
   simpa using hj
  rw[List.getElem?_eraseIdx]at hj' hh;have hq:∀ z:Nat,t.place.toList[z]?=t.place[z]?:=λ z=>Array.getElem?_toList;split at hj'
  ·rename_i c
   rw[if_pos c]at hh;rw[hq]at hj';exact (I.reach q j h' hj' hh).mono hmk ne'
  ·rename_i c
   rw[if_neg c]at hh;rw[hq]at hj';exact (I.reach _ j h' hj' hh).mono hmk ne'
end Tab
namespace Tab
noncomputable abbrev znP:=Array (Option Nat)
noncomputable def occ (ow:znP)(j:Nat):Prop:=∃ k,ow[j]?=some (some k)
structure Lays (m:Nat)(hs:List Int)(ow:znP)(k:Nat):Prop where
 size:ow.size=m+1
 lt:∀ (j i:Nat),ow[j]?=some (some i)->i<k
 inj:∀ (j j' i:Nat),ow[j]?=some (some i)->ow[j']?=some (some i)->j=j'
 all:∀ i:Nat,i<k->∃ j:Nat,ow[j]?=some (some i)
 reach:∀ (j i:Nat) (h:Int),ow[j]?=some (some i)->hs[i]?=some h->∃ n b,On m h n b/\at' m h n b=j/\∀ a c,On m h a c->zbG a c n b->occ ow (at' m h a c)
theorem occ_of {m:Nat}{h:Int}{ow:znP}(hsz:ow.size=m+1){n c:Nat}(hc:c<=len m (blk m h n).1):(ow.getD ((blk m h n).1+c) (some 0)).isNone=true\/occ ow (at' m h n c):=by
 have hlt:(blk m h n).1+c<ow.size:=by rw[hsz];exact Nat.lt_succ_of_le (at_le (zsP m h n) hc)
 rw[show ow.getD ((blk m h n).1+c) (some 0)=ow[(blk m h n).1+c] from dif_pos hlt];cases q:ow[(blk m h n).1+c] with
 | none=>exact .inl rfl
 | some k=>exact .inr ⟨k,by unfold at';rw[Array.getElem?_eq_getElem hlt,q]⟩
theorem run_len (m a:Nat):SetTable.runEnd m a+1-a=len m a+1:=by
 unfold len SetTable.runEnd;split <;> lia
theorem free_step {m f i p:Nat}{ow:znP}:SetTable.layClean.free m ow (f+1) i p=SetTable.drop.match_1 (λ _=>Option Nat) ((List.range (SetTable.runEnd m i+1-i)).find? (λ k=>(ow.getD (i+k) (some 0)).isNone)) (λ k=>some (i+k)) (λ _=>SetTable.advance.match_1 (λ _=>Option Nat) (SetTable.leap m i p) λ i p=>SetTable.layClean.free m ow f i p):=rfl
theorem free_spec {m:Nat}{h:Int}{ow:znP}(hsz:ow.size=m+1){N:Nat}(hN:¬ occ ow (blk m h N).1)(f:Nat):
  ∀ (n:Nat),n<=N->N<f+n->(∀ a c,On m h a c->a<n->occ ow (at' m h a c)) ->
   ∃ j,SetTable.layClean.free m ow f (blk m h n).1 (blk m h n).2=some j/\j<=m/\ow[j]?=some none /\
    ∃ n' b,On m h n' b/\at' m h n' b=j/\∀ a c,On m h a c->zbG a c n' b->occ ow (at' m h a c):=by
 induction f with
 | zero=>exact λ n hn hf _=>absurd (Nat.zero_add n▸hf) (Nat.not_lt.mpr hn)
 | succ f ih=>
  intro n hn hf hb;rw[free_step,run_len];cases hfd:(List.range (len m (blk m h n).1+1)).find? (λ k=>(ow.getD ((blk m h n).1+k) (some 0)).isNone) with
  | some c=>
   have hc:c<=len m (blk m h n).1:=Nat.le_of_lt_succ (List.mem_range.mp (List.mem_of_find?_eq_some hfd));have h2:=List.find?_some hfd;have hle:=at_le (zsP m h n) hc;have hlt:(blk m h n).1+c<ow.size:=by rw[hsz];exact Nat.lt_succ_of_le hle
   refine⟨_,rfl,hle,?_,n,c,hc,rfl,λ a c' ho ha=>ha.elim (hb a c' ho) λ q=>?_⟩
   ·rw[show ow.getD ((blk m h n).1+c) (some 0)=ow[(blk m h n).1+c] from dif_pos hlt,Option.isNone_iff_eq_none]at h2
    rw[Array.getElem?_eq_getElem hlt,h2]
   ·obtain⟨rfl,hlc⟩:=q
    refine (occ_of hsz (Nat.le_trans (Nat.le_of_lt hlc) hc)).elim (λ q=>?_) id;refine q02 (List.find?_eq_some_iff_getElem.mp hfd) λ _ u8=>q11 u8 λ i u8=>q12 u8 λ hi' e hbef=>?_;rw[List.getElem_range]at e;subst e;have:=hbef c' hlc;rw[List.getElem_range,q]at this;cases this
  | none=>
   have hno:=List.find?_eq_none.mp hfd;have hall:∀ c,c<=len m (blk m h n).1->occ ow (at' m h n c):=λ c hc=>
    (occ_of hsz hc).elim (λ q=>absurd q (hno c (List.mem_range.mpr (Nat.lt_succ_of_le hc)))) id
   have hlt:n<N:=(Nat.lt_or_eq_of_le hn).elim id λ q=>by subst q;exact absurd (hall 0 (Nat.zero_le _)) hN
   exact ih (n+1) hlt (by rw[Nat.add_right_comm]at hf;exact hf) λ a c ho ha=>(Nat.lt_or_eq_of_le (Nat.le_of_lt_succ ha)).elim (hb a c ho) λ q=>by subst q;exact hall c ho
noncomputable def zqK (m:Nat)(acc:Option (znP×Nat))(h:Int):Option (znP×Nat):=do
 let (owner,k) <- acc
 let j <- SetTable.layClean.free m owner (SetTable.turns m) (SetTable.bits h % (m+1)) (SetTable.bits h)
 pure (owner.setIfInBounds j (some k),k+1)
theorem zuM (m:Nat)(hashes:Array Int):SetTable.layClean m hashes=(hashes.toList.foldl (zqK m) (some (Array.replicate (m+1) none,0))).map (·.1):=by
 unfold SetTable.layClean;rw[<- Array.foldl_toList]
 rfl
theorem Lays.free_slot {m:Nat}{hs:List Int}{ow:znP}{k:Nat}(L:Lays m hs ow k)(hk:k<=m):∃ e,e<=m/\¬ occ ow e:=by
 by_cases hq:∃ e,e<=m/\¬ occ ow e
 ·exact hq
 ·exfalso
  let g:Nat->Nat:=λ e=>((ow[e]?).getD none).getD 0
  have hg:∀ e,e<m+1->ow[e]?=some (some (g e)):=λ e he=>by
   obtain⟨i,hi⟩:occ ow e:=Classical.byContradiction λ h=>hq ⟨e,Nat.le_of_lt_succ he,h⟩
   show _=some (some (((ow[e]?).getD none).getD 0))
   rw[hi];rfl
  have hnd:((List.range (m+1)).map g).Nodup:=by
   unfold List.Nodup;rw[List.pairwise_map];refine List.Pairwise.imp_of_mem ?_ (List.nodup_range (n:=m+1));intro a b ha hb hab e;have h1:=hg a (List.mem_range.mp ha);have h2:=hg b (List.mem_range.mp hb);rw[<- e]at h2;exact hab (L.inj _ _ _ h1 h2)
  have:=nodup_le _ (List.range k) hnd λ x hx=>by
   refine q12 (List.mem_map.mp hx) λ e he u0=>?_;cases u0;exact List.mem_range.mpr (L.lt _ _ (hg e (List.mem_range.mp he)))
  simp at this
  lia
theorem Lays.step {m:Nat}(g:zfB m){hs:List Int}{ow:znP}{k:Nat}(L:Lays m hs ow k)(hk:k<=m){h:Int}(hh:hs[k]?=some h):
  ∃ ow',zqK m (some (ow,k)) h=some (ow',k+1)/\Lays m hs ow' (k+1):=by
 refine q12 (L.free_slot hk) λ e he hne=>?_;refine q12 (zpD g h he) λ N hN eN=>?_;refine q14 (free_spec (h:=h) L.size (N:=N) (by rw[eN];exact hne) (SetTable.turns m) 0 (Nat.zero_le _) (by unfold SetTable.turns;omega) (λ a c _ ha=>by omega)) λ j hj hjm hjn hr=>?_;refine⟨ow.setIfInBounds j (some k),?_,?_⟩
 ·unfold zqK
  have:SetTable.layClean.free m ow (SetTable.turns m) (SetTable.bits h % (m+1)) (SetTable.bits h)=some j:=hj;simp only[Option.bind_eq_bind,Option.bind_some,this,Option.pure_def]
 ·have hjs:j<ow.size:=by rw[L.size];lia
  have hget:∀ x:Nat,(ow.setIfInBounds j (some k))[x]?=if j=x then some (some k) else ow[x]?:=by
   intro x;rw[Array.getElem?_setIfInBounds];split
   ·first|rfl|rw[if_pos hjs]
   ·rfl
  have hocc:∀ x,occ ow x->occ (ow.setIfInBounds j (some k)) x:=λ x u9=>q11 u9 λ i hi=>by
   by_cases q:j=x
   ·exact⟨k,by rw[hget,if_pos q]⟩
   ·exact⟨i,by rw[hget,if_neg q];exact hi⟩
  refine⟨by rw[Array.size_setIfInBounds];exact L.size,?_,?_,?_,?_⟩
  ·intro x i hx
   rw[hget]at hx;split at hx
   ·cases hx;lia
   ·have:=L.lt x i hx;lia
  ·intro x y i hx hy
   rw[hget]at hx hy;split at hx <;> split at hy
   ·rename_i a b;lia
   ·cases hx;have:=L.lt y _ hy;lia
   ·cases hy;have:=L.lt x _ hx;lia
   ·exact L.inj x y i hx hy
  ·intro i hi
   rcases Nat.lt_or_eq_of_le (Nat.le_of_lt_succ hi) with q|rfl
   ·obtain⟨x,hx⟩:=L.all i q
    refine⟨x,?_⟩;rw[hget,if_neg]
    ·exact hx
    ·intro e';subst e';rw[hjn]at hx;cases hx
   ·exact⟨j,by rw[hget,if_pos rfl]⟩
  ·intro x i h' hx hi
   rw[hget]at hx;split at hx
   ·rename_i e'
    cases hx;subst e';rw[hh]at hi;cases hi;refine q23 hr λ n b o1 o2 o3=>?_;exact⟨n,b,o1,o2,λ a c ho ha=>hocc _ (o3 a c ho ha)⟩
   ·refine q23 (L.reach x i h' hx hi) λ n b o1 o2 o3=>?_
    exact⟨n,b,o1,o2,λ a c ho ha=>hocc _ (o3 a c ho ha)⟩
theorem Lays.run {m:Nat}(g:zfB m)(hs rest:List Int):∀ (k:Nat) (ow:znP),Lays m hs ow k->hs.drop k=rest->k+rest.length<=m ->
  ∃ ow',rest.foldl (zqK m) (some (ow,k))=some (ow',k+rest.length)/\Lays m hs ow' (k+rest.length):=by
 induction rest with
 | nil=>exact λ k ow L _ _=>⟨ow,rfl,L⟩
 | cons h rest ih=>
  intro k ow L hd hl;have hh:hs[k]?=some h:=by rw[<- Nat.add_zero k,<- List.getElem?_drop,hd];rfl
  have e:k+(h::rest).length=k+1+rest.length:=(Nat.add_right_comm k 1 rest.length).symm;rw[e]at hl ⊢;refine q12 (L.step g (Nat.le_trans (Nat.le_add_right k 1) (Nat.le_trans (Nat.le_add_right _ _) hl)) hh) λ ow1 e1 L1=>?_;refine q12 (ih (k+1) ow1 L1 (by rw[<- List.drop_drop,hd];rfl) hl) λ ow2 e2 L2=>?_;exact⟨ow2,by rw[List.foldl_cons,e1,e2],L2⟩
theorem Lays.start (m:Nat)(hs:List Int):Lays m hs (Array.replicate (m+1) none) 0:=by
 have hno:∀ (j i:Nat),(Array.replicate (m+1) (none:Option Nat))[j]?≠some (some i):=by
  intro j i e;rw[Array.getElem?_replicate]at e;split at e <;> simp at e
 refine⟨by simp,?_,?_,?_,?_⟩
 ·intro j i h;exact absurd h (hno j i)
 ·intro j j' i h;exact absurd h (hno j i)
 ·intro i h;lia
 ·intro j i h e;exact absurd e (hno j i)
end Tab
namespace Tab
theorem filterMap_all_some {α β:Type}(f:α->Option β)(l:List α):(∀ a∈l,(f a).isSome=true)->∀ q:Nat,(l.filterMap f)[q]?=(l[q]?).bind f:=by
 induction l with
 | nil=>exact λ _ _=>rfl
 | cons a l ih=>
  intro h q;obtain⟨b,hb⟩:=Option.isSome_iff_exists.mp (h a (.head _));rw[List.filterMap_cons_some hb];cases q with
  | zero=>exact hb.symm
  | succ q=>exact ih (λ x hx=>h x (.tail _ hx)) q
theorem laid_ok {m:Nat}(finger moves:Nat)(led plain:Bool){hashes:Array Int}(g:zfB m)(hn:hashes.toList.Nodup)(hroom:hashes.size<=m):
  ∃ t order,SetTable.laid m finger moves led plain hashes=some (t,order)/\order.toList.Perm (List.range hashes.size)/\t.mask=m/\t.led=led/\t.plain=plain/\t.dummies=#[] /\
   t.fill=hashes.size/\Inv0 t (order.toList.filterMap λ i=>hashes.toList[i]?):=by
 refine q12 (Lays.run g hashes.toList hashes.toList 0 _ (Lays.start m hashes.toList) rfl (by simpa using hroom)) λ ow e L=>?_;have L:Lays m hashes.toList ow hashes.size:=by simpa using L
 have hlc:SetTable.layClean m hashes=some ow:=by rw[zuM,e];rfl
 let live:=(List.range (m+1)).filterMap λ j=>(ow.getD j none).map (j,·)
 have hmem:∀ j i,(j,i)∈live↔ow[j]?=some (some i):=by
  intro j i
  show (j,i)∈(List.range (m+1)).filterMap _↔_
  rw[List.mem_filterMap];constructor
  ·intro uu;refine q12 uu λ x hx hy=>?_
   have hlt:x<ow.size:=by rw[L.size];exact List.mem_range.mp hx
   cases q:ow[x] with
   | none=>simp[Array.getD,hlt,q]at hy
   | some k=>
    simp[Array.getD,hlt,q]at hy
    obtain⟨rfl,rfl⟩:=hy;rw[Array.getElem?_eq_getElem hlt,q]
  ·intro h
   have hlt:=(Array.getElem?_eq_some_iff.mp h).1;refine⟨j,List.mem_range.mpr (by rw[L.size]at hlt;exact hlt),?_⟩
   simp[Array.getD,hlt]
   exact (Array.getElem?_eq_some_iff.mp h).2
 have hsorted:(live.map (·.1)).Pairwise (· < ·):=by
  rw[List.pairwise_map]
  show ((List.range (m+1)).filterMap _).Pairwise _
  rw[List.pairwise_filterMap];refine List.Pairwise.imp ?_ (List.pairwise_lt_range (n:=m+1));intro a b hab x hx y hy;refine q12 (Option.map_eq_some_iff.mp hx) λ i _ u0=>?_;cases u0;refine q12 (Option.map_eq_some_iff.mp hy) λ i' _ u0=>?_;cases u0;exact hab
 have hordnd:(live.map (·.2)).Nodup:=by
  unfold List.Nodup;rw[List.pairwise_map];rw[List.pairwise_map]at hsorted;refine List.Pairwise.imp_of_mem ?_ hsorted;intro a b ha hb hab e';obtain⟨a1,a2⟩:=a;obtain⟨b1,b2⟩:=b;have e':a2=b2:=e';subst e';exact Nat.ne_of_lt hab (L.inj _ _ _ ((hmem _ _).mp ha) ((hmem _ _).mp hb))
 have hperm:(live.map (·.2)).Perm (List.range hashes.size):=by
  refine (List.perm_ext_iff_of_nodup hordnd List.nodup_range).mpr λ i=>?_;rw[List.mem_map,List.mem_range];constructor
  ·rintro⟨⟨j,i'⟩,h,rfl⟩
   exact L.lt _ _ ((hmem _ _).mp h)
  ·intro h
   obtain⟨j,hj⟩:=L.all i h;exact⟨(j,i),(hmem _ _).mpr hj,rfl⟩
 have hlen:live.length=hashes.size:=by
  have:=hperm.length_eq
  simpa using this
 refine⟨{ mask:=m,place:=(live.map (·.1)).toArray,dummies:=#[],finger,led,moves,plain },(live.map (·.2)).toArray,?_,by simpa using hperm,rfl,rfl,rfl,rfl,?_,?_⟩
 ·unfold SetTable.laid
  rw[hlc]
  rfl
 ·show (live.map (·.1)).toArray.size+0=_
  simpa using hlen
 ·have hok:Ok { mask:=m,place:=(live.map (·.1)).toArray,dummies:=#[],finger:=finger,led:=led,moves:=moves,plain:=plain }:=by
   refine⟨hsorted,by simp,?_,by simp,by simp⟩;intro j hj;refine q12 (List.mem_map.mp hj) λ u0 h u1=>?_;obtain⟨j',i⟩:=u0;cases u1;have:=(Array.getElem?_eq_some_iff.mp ((hmem _ _).mp h)).1;rw[L.size]at this;exact Nat.le_of_lt_succ this
  have hall:∀ i∈live.map (·.2),(hashes.toList[i]?).isSome=true:=by
   intro i hi;have:=List.mem_range.mp (hperm.mem_iff.mp hi);rw[List.getElem?_eq_getElem (by simpa using this)];rfl
  refine⟨hok,?_,g,?_,?_⟩
  ·have h1:((live.map (·.2)).filterMap λ i=>hashes.toList[i]?).Perm ((List.range hashes.size).filterMap λ i=>hashes.toList[i]?):=hperm.filterMap _
   have h2:=List.filterMap_getElem?_range_length hashes.toList;rw[Array.length_toList]at h2;rw[h2]at h1;have:=h1.length_eq;simp only[List.size_toArray,List.length_map,Array.length_toList]at this ⊢;rw[hlen];exact this.symm
  ·have h1:((live.map (·.2)).filterMap λ i=>hashes.toList[i]?).Perm ((List.range hashes.size).filterMap λ i=>hashes.toList[i]?):=hperm.filterMap _
   have h2:=List.filterMap_getElem?_range_length hashes.toList;rw[Array.length_toList]at h2;rw[h2]at h1;exact h1.nodup_iff.mpr hn
  ·intro q j h hj hh
   have hj':(live.map (·.1))[q]?=some j:=by simpa using hj
   have hh':((live.map (·.2)).filterMap λ i=>hashes.toList[i]?)[q]?=some h:=hh;rw[filterMap_all_some _ _ hall]at hh';rw[List.getElem?_map]at hj' hh';refine q12 (Option.map_eq_some_iff.mp hj') λ u0 hx u1=>?_;obtain⟨j',i⟩:=u0;cases u1;rw[hx]at hh';have hh2:hashes.toList[i]?=some h:=by simpa using hh'
   refine q23 (L.reach _ i h ((hmem _ _).mp (List.mem_of_getElem? hx)) hh2) λ n b o1 o2 o3=>?_;refine⟨n,b,o1,o2,λ a c ho ha he=>?_⟩;obtain⟨i',hi'⟩:=o3 a c ho ha;have:=((zcU hok).mp he).1;exact this (List.mem_map.mpr ⟨_,(hmem _ _).mpr hi',rfl⟩)
theorem sizeAbove_ok:∀ n,n<128->zfB (SetTable.sizeAbove n-1)/\n<SetTable.sizeAbove n:=by
 have h:(List.range 128).all (λ n=>(SetTable.sizeAbove n-1==7||SetTable.sizeAbove n-1==15||SetTable.sizeAbove n-1==31||SetTable.sizeAbove n-1==63||SetTable.sizeAbove n-1==127)&&decide (n<SetTable.sizeAbove n))=true:=by decide +kernel
 intro n hn;have:=List.all_eq_true.mp h n (List.mem_range.mpr hn);obtain⟨h1,h2⟩:=Bool.and_eq_true_iff.mp this;refine⟨?_,of_decide_eq_true h2⟩;generalize SetTable.sizeAbove n-1=m at h1;rcases (Bool.or_eq_true _ _).mp h1 with h1|h1
 ·rcases (Bool.or_eq_true _ _).mp h1 with h1|h1
  ·rcases (Bool.or_eq_true _ _).mp h1 with h1|h1
   ·rcases (Bool.or_eq_true _ _).mp h1 with h1|h1
    ·exact .inl (eq_of_beq h1)
    ·exact .inr (.inl (eq_of_beq h1))
   ·exact .inr (.inr (.inl (eq_of_beq h1)))
  ·exact .inr (.inr (.inr (.inl (eq_of_beq h1))))
 ·exact .inr (.inr (.inr (.inr (eq_of_beq h1))))
theorem sizeAbove_line:∀ n,n<128->¬ SetTable.sizeAbove n>sizeLine:=by
 have h:(List.range 128).all (λ n=>decide (SetTable.sizeAbove n<=128))=true:=by decide +kernel
 intro n hn;have:=List.all_eq_true.mp h n (List.mem_range.mpr hn);have h1:SetTable.sizeAbove n<=128:=of_decide_eq_true this;have h2:sizeLine=2 ^ 24:=rfl;have h3:(2:Nat) ^ 24=16777216:=by decide
 lia
end Tab
noncomputable abbrev Pt:=Int×Int
noncomputable def zdN (p:Pt):Prop:=0<=p.1/\p.1<5/\0<=p.2/\p.2<5
noncomputable def zaL (p:Pt):Int:=reduceHash (Builtin.Tuple.tupleHashOf [hashInt p.1,hashInt p.2])
noncomputable def zrO:List Pt:=[0,1,2,3,4].flatMap λ r=>[0,1,2,3,4].map λ c=>((r:Int),(c:Int))
theorem zjA {p:Pt}(h:zdN p):p∈zrO:=by
 obtain⟨r,c⟩:=p;refine q04 h λ h1 h2 h3 h4=>?_;simp only at h1 h2 h3 h4;obtain⟨i,rfl⟩:=Int.eq_ofNat_of_zero_le h1;obtain⟨j,rfl⟩:=Int.eq_ofNat_of_zero_le h3;have k:∀ i<5,((i:Nat):Int)∈([0,1,2,3,4]:List Int):=by decide +kernel
 exact List.mem_flatMap.mpr ⟨_,k i (Int.ofNat_lt.mp h2),List.mem_map.mpr ⟨_,k j (Int.ofNat_lt.mp h4),rfl⟩⟩
theorem ztK:(zrO.map zaL).Nodup:=by decide +kernel
theorem zoS {p q:Pt}(hp:zdN p)(hq:zdN q)(h:zaL p=zaL q):p=q:=by
 obtain⟨i,hi⟩:=List.mem_iff_getElem?.mp (zjA hp);obtain⟨j,hj⟩:=List.mem_iff_getElem?.mp (zjA hq);have h1:(zrO.map zaL)[i]?=some (zaL p):=by rw[List.getElem?_map,hi];rfl
 have h2:(zrO.map zaL)[j]?=some (zaL p):=by rw[List.getElem?_map,hj,h];rfl
 have:=(List.getElem?_inj (List.getElem?_eq_some_iff.mp h1).1 ztK).mp (h1.trans h2.symm);subst this;rw[hi]at hj;exact Option.some.inj hj
noncomputable def IsPt (h:Heap)(p:Pt)(v:Value):Prop:=
 ∃ a o n t u,v=.ref a/\h.get? a=some o/\o.cls=.type "tuple" /\ o.dict=none/\o.data=.seq #[.int p.1 t,.int p.2 u] n
theorem IsPt.key {prog:Program}{w:World}{h:Heap}{p:Pt}{v:Value}(x:IsPt h p v):∃ a,v=.ref a/\IsTupleKey (intKind prog w) h [p.1,p.2] a:=by
 refine q55 x ?_;clear x;intro a o n t u u0;cases u0;intro ho hc _ hd;refine⟨a,rfl,o,_,n,ho,hc,hd,?_⟩;exact .cons (by simp[intKind,Value.isInt]) (.cons (by simp[intKind,Value.isInt]) .nil)
theorem IsPt.keep {h h':Heap}{p:Pt}{v:Value}(x:IsPt h p v)(k:∀ b o,h.get? b=some o->o.cls=.type "tuple" -> (∃ vs n,o.data=.seq vs n)->∃ sl,h'.get? b=some { o with slots:=sl }):IsPt h' p v:=by
 refine q55 x ?_;clear x;intro a o n t u u0;cases u0;intro ho hc hd hs;obtain⟨sl,e⟩:=k a o ho hc ⟨_,_,hs⟩;exact⟨a,_,n,t,u,rfl,e,hc,hd,hs⟩
structure Els (h:Heap)(l:List Pt)(es:List (Int×Value)):Prop where
 hash:es.map (·.1)=l.map zaL
 pts:∀ (i:Nat) (p:Pt) (e:Int×Value),l[i]?=some p->es[i]?=some e->IsPt h p e.2
theorem Els.length {h:Heap}{l:List Pt}{es:List (Int×Value)}(x:Els h l es):es.length=l.length:=by
 have:=congrArg List.length x.hash
 simpa using this
theorem Els.at {h:Heap}{l:List Pt}{es:List (Int×Value)}(x:Els h l es){i:Nat}{p:Pt}(hi:l[i]?=some p):∃ v,es[i]?=some (zaL p,v)/\IsPt h p v:=by
 have hlt:=(List.getElem?_eq_some_iff.mp hi).1;have hlt':i<es.length:=by rw[x.length];exact hlt
 have h1:(es.map (·.1))[i]?=some (zaL p):=by rw[x.hash,List.getElem?_map,hi];rfl
 rw[List.getElem?_map,List.getElem?_eq_getElem hlt']at h1;have h2:es[i].1=zaL p:=by simpa using h1
 refine⟨es[i].2,?_,x.pts i p es[i] hi (List.getElem?_eq_getElem hlt')⟩;rw[List.getElem?_eq_getElem hlt',<- h2]
theorem Els.keep {h h':Heap}{l:List Pt}{es:List (Int×Value)}(x:Els h l es)(k:∀ b o,h.get? b=some o->o.cls=.type "tuple" -> (∃ vs n,o.data=.seq vs n)->∃ sl,h'.get? b=some { o with slots:=sl }):Els h' l es:=
 ⟨x.hash,λ i p e h1 h2=>(x.pts i p e h1 h2).keep k⟩
structure PSet (w:World)(h:Heap)(a:Addr)(l:List Pt):Prop where
 obj:∃ o es ep t,h.get? a=some o/\o.ExactSet/\o.data=.set es ep t/\Tab.Inv t (es.toList.map (·.1))/\(w.params.followText "set-order" = false->t.led=true/\t.plain=true)/\Els h l es.toList
 box:∀ p∈l,zdN p
theorem PSet.nodup {w:World}{h:Heap}{a:Addr}{l:List Pt}(S:PSet w h a l):l.Nodup:=by
 refine q46 S.obj λ o es ep t ho hx hd I hb E=>?_;have:=I.nodup;rw[E.hash]at this;unfold List.Nodup at this;rw[List.pairwise_map]at this;exact this.imp (λ hne e=>hne (congrArg zaL e))
theorem PSet.keep {w:World}{h h':Heap}{a:Addr}{l:List Pt}(S:PSet w h a l)(ha:h'.get? a=h.get? a)(k:∀ b o,h.get? b=some o->o.cls=.type "tuple" -> (∃ vs n,o.data=.seq vs n)->∃ sl,h'.get? b=some { o with slots:=sl }):PSet w h' a l:=by
 refine q46 S.obj λ o es ep t ho hx hd I hb E=>?_;exact⟨⟨o,es,ep,t,ha.trans ho,hx,hd,I,hb,E.keep k⟩,S.box⟩
theorem PSet.typeIs {w:World}{s:Shared}{a:Addr}{l:List Pt}(S:PSet w s.heap a l):s.TypeIs (.ref a) "set":=
 by refine q43 S.obj λ o _ _ _ ho hx _=>?_;exact⟨o,ho,hx.1⟩
theorem PSet.noDict {w:World}{h:Heap}{a:Addr}{l:List Pt}(S:PSet w h a l):∀ b,Value.ref a=.ref b->∃ ob,h.get? b=some ob/\ob.dict=none:=
 λ b e=>by injection e with e;subst e;refine q43 S.obj λ o _ _ _ ho hx _=>?_;exact⟨o,ho,hx.2.1⟩
theorem zdA {α:Type}{M:Model}{A:Around}{E:Value->Shared->Prop}{s:Shared}{c:Prop}[Decidable c]{a b:Sem α}{Q:α->Shared->Prop}(h:¬ c)(k:wpAny M A b Q E s):wpAny M A (if c then a else b) Q E s:=by rw[if_neg h];exact k
theorem ziL {α:Type}{M:Model}{A:Around}{E:Value->Shared->Prop}{s:Shared}{c:Prop}[Decidable c]{a b:Sem α}{Q:α->Shared->Prop}(h:c)(k:wpAny M A a Q E s):wpAny M A (if c then a else b) Q E s:=by rw[if_pos h];exact k
theorem wp_eq {α:Type}{M:Model}{A:Around}{E:Value->Shared->Prop}{s:Shared}{a b:Sem α}{Q:α->Shared->Prop}(h:a=b)(k:wpAny M A b Q E s):wpAny M A a Q E s:=h▸k
theorem zbD {t:SetTable}{es:Array (Int×Value)}(I:Tab.Inv t (es.toList.map (·.1))):t.fits es.size=true:=by
 unfold SetTable.fits;have h1:=I.size;have h2:=I.fillLe
 simp at h1
 simp[h1,h2]
theorem zoK {t:SetTable}{hs:List Int}(I:Tab.Inv t hs):t.gaveWay=false:=by
 unfold SetTable.gaveWay;rcases I.mask with h|h|h|h|h <;> rw[h] <;> rfl
section
variable {prog:Program}{w:World}{A:Around}{E:Value->Shared->Prop}{s:Shared}{a:Addr}{l:List Pt}{p:Pt}{x:Value}
theorem zjH {q:Pt}{y:Value}{Q:Bool->Shared->Prop}(hu:A.units<cLine)(hx:IsPt s.heap p x)(hy:IsPt s.heap q y)(h:Q (decide (p=q)) s):
  wpAny (model prog w) A (eqBool x y) Q E s:=by
 refine q12 (hx.key (prog:=prog) (w:=w)) ?_;intro b u0;cases u0;intro k1;refine q12 (hy.key (prog:=prog) (w:=w)) ?_;intro c u0;cases u0;intro k2;refine wpAny_eqBool_tuple hu k1 k2 ?_;have:decide ([p.1,p.2]=[q.1,q.2])=decide (p=q):=by
  apply decide_eq_decide.mpr
  simp[Prod.ext_iff]
 rw[this];exact h
theorem zjT {Q:Int->Shared->Prop}(hu:A.units<cLine)(hx:IsPt s.heap p x)(h:Q (zaL p) { s with toks:=s.toks+3 }):
  wpAny (model prog w) A (pyHash x) Q E s:=by
 refine q12 (hx.key (prog:=prog) (w:=w)) ?_;intro b u0;cases u0;intro k1;exact wpAny_pyHash_tuple hu k1 h
theorem zgO {Q:Bool->Shared->Prop}(hx:IsPt s.heap p x)(h:Q true s):wpAny (model prog w) A (eqIsQuiet 8 x) Q E s:=by
 refine q12 (hx.key (prog:=prog) (w:=w)) ?_;intro b u0;cases u0;intro k1;exact wpAny_eqIsQuiet_tuple k1 h
theorem zhL {Q:Bool->Shared->Prop}(hx:IsPt s.heap p x)(h:Q false s):wpAny (model prog w) A (ofAClassStatement 8 x) Q E s:=by
 refine q55 hx ?_;clear hx;intro b o n t u u0;cases u0;intro ho hc _ hd;have hT:s.TypeIs (.ref b) "tuple" := ⟨o,ho,hc⟩
 delta ofAClassStatement
 refine wpAny_bind (m:=typeOf (.ref b)) (wpAny_typeOf hT ?_);dsimp only;refine wpAny_bind ?_;refine wpAny_pure ?_;rw[if_neg (by decide)];refine wpAny_bind (wpAny_seqItems ho hd ?_);dsimp only;refine wpAny_bind ?_;exact wpAny_of_eq (a:=((none,()):Option Bool×Unit)) rfl (wpAny_pure h)
theorem zkG {ys:List Value}{Q:Bool->Shared->Prop}(hx:IsPt s.heap p x)(hys:∀ y∈ys,∃ q,IsPt s.heap q y)(h:Q false s):wpAny (model prog w) A (searchCouldBeSeen x ys) Q E s:=by
 unfold searchCouldBeSeen;refine wpAny_bind ?_;refine wpAny_forIn_list (s:=s) _ (λ rest b s'=>s'=s/\b=((none,()):Option Bool×Unit)/\∀ y∈rest,∃ q,IsPt s.heap q y) _ ?_ ?_ ys _ ⟨rfl,rfl,hys⟩
 ·intro y rest b s' ⟨e1,e2,hr⟩
  subst e1;obtain⟨q,hq⟩:=hr y (List.mem_cons.mpr (.inl rfl));have hrest:∀ y∈rest,∃ q,IsPt s'.heap q y:=λ z hz=>hr z (List.mem_cons.mpr (.inr hz));dsimp only;refine wpAny_ite ?_;generalize (_||(carriedByValue x&&carriedByValue y))=cnd;cases cnd with
  | true=>rw[if_pos rfl];exact wpAny_pure ⟨rfl,rfl,hrest⟩
  | false=>
   rw[if_neg (by decide)];refine wpAny_bind (zgO hx ?_);rw[if_neg (by decide)];refine wpAny_bind (zgO hq ?_);rw[if_neg (by decide)];refine wpAny_bind (zhL hx ?_);rw[if_neg (by decide)];refine wpAny_bind (zhL hq ?_);rw[if_neg (by decide)];exact wpAny_pure ⟨rfl,rfl,hrest⟩
 ·intro b s' ⟨e1,e2,_⟩
  subst e1 e2;exact wpAny_pure h
end
section
variable {prog:Program}{w:World}{A:Around}{E:Value->Shared->Prop}{s:Shared}{a:Addr}{l:List Pt}{p:Pt}{x:Value}
variable {o:Obj}{es:Array (Int×Value)}{ep:Nat}{t:SetTable}
theorem wp_led {α:Type}{M:Model}{c:Prop}[Decidable c]{X:Sem Bool}{U:Sem Unit}{jp:Unit->Sem α}{Q:α->Shared->Prop}
  (hX:c->∀ {Q':Bool->Shared->Prop},Q' false s->wpAny M A X Q' E s) (k:wpAny M A (jp ()) Q E s):
  wpAny M A (if c then (X >>= λ r=>if r=true then (U >>= λ x=>jp x) else jp ()) else jp ()) Q E s:=by
 by_cases h:c
 ·exact ziL h (wpAny_bind (hX h (zdA (by decide) k)))
 ·exact zdA h k
theorem zuF {f g:Nat->Int}(h:∀ i,f i=g i)(t:SetTable)(k:Int)(q:SetTable.Probe):t.probe f k q=t.probe g k q:=by
 have:f=g:=funext h;rw[this]
theorem hashIn_es (es:Array (Int×Value))(i:Nat):(es[i]?.map (·.1)).getD 0=Tab.hashIn (es.toList.map (·.1)) i:=by
 unfold Tab.hashIn;rw[List.getElem?_map,Array.getElem?_toList]
theorem zjR {adding:Bool}{Q:SetFound->Shared->Prop}(hu:A.units<cLine)(ho:s.heap.get? a=some o)(hd:o.data=.set es ep t)
  (I:Tab.Inv t (es.toList.map (·.1))) (El:Els s.heap l es.toList) (hbox:∀ q∈l,zdN q) (hx:IsPt s.heap p x) (hb:zdN p)
  (h1:∀ i:Nat,l[i]?=some p->Q (.there (if adding then none else some i)) s)
  (h2:p∉l->∀ slot wd,Tab.FreeAt t (zaL p) slot wd->Q (.free slot wd) s):
  wpAny (model prog w) A (setSearch a x (zaL p) adding) Q E s:=by
 have hf:=zbD I;have hpc:t.probe (λ i=>(es[i]?.map (·.1)).getD 0) (zaL p) ((none:Option SetTable.Probe).getD (t.probeStart (zaL p)))=t.probe (Tab.hashIn (es.toList.map (·.1))) (zaL p) (t.probeStart (zaL p)):=
  zuF (hashIn_es es) _ _ _
 by_cases hm:p∈l
 ·obtain⟨i,hi⟩:=List.mem_iff_getElem?.mp hm
  refine q12 (El.at hi) λ v hv hpt=>?_;refine q22 (Tab.search_there I (i:=i) (h:=zaL p) (by rw[List.getElem?_map,hv];rfl)) λ j next hp hj=>?_;have hpr:=hpc.trans hp;have hv':es[i]?=some (zaL p,v):=by rw[<- Array.getElem?_toList];exact hv
  have hslot:t.slot j=.live i:=(Tab.slot_live I.toOk).mpr hj;have hyy:∀ y∈((es.filter (·.1==zaL p)).toList.map (·.2)),∃ q,IsPt s.heap q y:=by
   intro y hy;refine q12 (List.mem_map.mp hy) λ e he u0=>?_;cases u0;have he':e∈es.toList:=Array.mem_toList_iff.mpr (Array.mem_filter.mp (Array.mem_toList_iff.mp he)).1;obtain⟨k,hk⟩:=List.mem_iff_getElem?.mp he';have hkl:k<l.length:=by rw[<- El.length];exact (List.getElem?_eq_some_iff.mp hk).1
   exact⟨_,El.pts k _ e (List.getElem?_eq_getElem hkl) hk⟩
  have same:isSame v v=pure true:=by
   refine q51 hpt ?_;clear hpt;intro b _ _ _ _ u8;refine q02 u8 ?_;clear u8;intro u0;cases u0;intro _;unfold isSame
   simp
  have hmem:t.sameMemory t.moves t.mask=some true:=by simp[SetTable.sameMemory]
  have:=h1 i hi;refine wpAny_bind (m:=setState a) (wpAny_setState_of ho hd hf ?_);refine zdA (by rw[zoK I];decide) ?_;split
  ·rename_i met hmet
   obtain rfl:met=.candidate j i next:=Option.some.inj (hmet.symm.trans hpr);refine wp_led (λ _ _ h=>zkG hx hyy h) ?_;rw[hv'];refine wpAny_bind (wpAny_holding (zjH hu hpt hx ?_));refine wpAny_bind (wpAny_setState_of ho hd hf ?_);cases adding with
   | true=>exact ziL (by simp) (wpAny_pure this)
   | false=>
    refine zdA (by simp) ?_;rw[hmem,hslot];dsimp only;rw[if_pos rfl];dsimp only;rw[hv'];refine wpAny_bind (wp_eq same (wpAny_pure ?_));exact wpAny_bind (wpAny_pure (ziL (decide_eq_true rfl) (wpAny_pure this)))
  ·rename_i hno
   exact absurd hpr (λ e=>hno _ e)
 ·refine q22 (Tab.search_absent I (h:=zaL p) (by
   rw[El.hash];intro hmem;refine q12 (List.mem_map.mp hmem) λ q hq e=>?_;exact hm (zoS (hbox q hq) hb e▸hq))) λ j d hp hF=>?_
  have hpr:=hpc.trans hp;refine wpAny_bind (m:=setState a) (wpAny_setState_of ho hd hf ?_);refine zdA (by rw[zoK I];decide) ?_;split
  ·rename_i met hmet
   obtain rfl:met=.empty j d:=Option.some.inj (hmet.symm.trans hpr);cases d with
   | none=>exact wpAny_pure (h2 hm _ _ hF)
   | some d=>
    refine zdA ?_ (wpAny_pure (h2 hm _ _ hF));have:=hF.slot;simp only[Option.getD_some,Option.isSome_some,if_true]at this;rw[this];cases adding <;> decide
  ·rename_i hno
   exact absurd hpr (λ e=>hno _ e)
theorem IsPt.notScan {h:Heap}(hx:IsPt h p x)(es:Array (Int×Value)):byScan x es=false:=by
 refine q51 hx ?_;clear hx;intro b _ _ _ _ u8;refine q02 u8 ?_;clear u8;intro u0;cases u0;intro _
 rfl
theorem zwJ {Q:Option Nat->Shared->Prop}(hu:A.units<cLine)(S:PSet w s.heap a l)(hx:IsPt s.heap p x)(hb:zdN p)
  (h:∀ r:Option Nat,r.isSome=decide (p∈l)->Q r s):wpAny (model prog w) A (setFind a x (zaL p)) Q E s:=by
 refine q46 S.obj λ o es ep t ho hxs hd I hbt El=>?_;refine wpAny_bind (m:=setState a) (wpAny_setState_of ho hd (zbD I) ?_);dsimp only;rw[hx.notScan];rw[if_neg (by decide)];refine wpAny_bind (zjR (adding:=false) hu ho hd I El S.box hx hb (λ i hi=>?_) (λ hn slot wd hF=>?_))
 ·exact wpAny_pure (h _ (by simp[List.mem_of_getElem? hi]))
 ·exact wpAny_pure (h _ (by simp[hn]))
theorem znK {Q:Bool->Shared->Prop}(hu:A.units<cLine)(S:PSet w s.heap a l)(hx:IsPt s.heap p x)(hb:zdN p)
  (h:∀ tk,Q (decide (p∈l)) { s with toks:=tk }):wpAny (model prog w) A (setContains a x) Q E s:=by
 unfold setContains;refine wpAny_holding ?_;refine wpAny_bind (zjT hu hx ?_);refine wpAny_bind (zwJ (s:={ s with toks:=s.toks+3 }) hu S hx hb λ r hr=>?_);refine wpAny_pure ?_;rw[hr];exact h _
theorem znR {Q:Bool->Shared->Prop}(hx:IsPt s.heap p x)(h:Q true s):wpAny (model prog w) A (hashByValue 8 x) Q E s:=by
 refine q55 hx ?_;clear hx;intro b o n t u u0;cases u0;intro ho hc _ hd;have hT:s.TypeIs (.ref b) "tuple" := ⟨o,ho,hc⟩
 unfold hashByValue;refine wpAny_bind (wpAny_specialOf hT F.slot_tuple_hash.lookup ?_);dsimp only;refine wpAny_bind (wpAny_seqItems ho hd ?_);refine wpAny_bind ?_;refine wpAny_of_eq (a:=((none,()):Option Bool×Unit)) ?_ (wpAny_pure h);have:∀ (i:Int) (t:Tok),hashByValue 7 (.int i t)=pure true:=λ i t=>by unfold hashByValue;rfl
 simp[this]
end
section
variable {prog:Program}{w:World}{A:Around}{E:Value->Shared->Prop}{s:Shared}{a:Addr}{l:List Pt}{p:Pt}{x:Value}
variable {o:Obj}{es:Array (Int×Value)}{ep:Nat}{t:SetTable}
theorem zbT {h h':Heap}{a:Addr}{o:Obj}(hs:Heap.SameBut a h h')(ho:h.get? a=some o)(hc:o.cls≠.type "tuple"):
  ∀ b ob,h.get? b=some ob->ob.cls=.type "tuple" -> (∃ vs n,ob.data=.seq vs n)->∃ sl,h'.get? b=some { ob with slots:=sl }:=by
 intro b ob hb hcb _;have hne:b≠a:=λ e=>by subst e;rw[ho]at hb;cases hb;exact hc hcb
 exact⟨ob.slots,(hs.2 b hne).trans hb⟩
theorem zbS (hx:o.ExactSet):o.cls≠.type "tuple" := by rw[hx.1];decide
theorem zmN (ho:s.heap.get? a=some o)(hd:o.data=.set es ep t)(es':Array (Int×Value))(t':SetTable):
  (s.heap.update a (Obj.putSet es' t')).get? a=some { o with data:=.set es' (ep+1) t' }:=by
 have e:=putSet_of es' t' hd;rw[Heap.get?_update_self (Obj.putSet es' t') ho (by rw[e];rfl),e]
theorem zfO {l':List Pt}{es':Array (Int×Value)}{t':SetTable}(ho:s.heap.get? a=some o)(hx:o.ExactSet)(hd:o.data=.set es ep t)(I:Tab.Inv t' (es'.toList.map (·.1)))
  (hbt:w.params.followText "set-order" = false->t'.led=true/\t'.plain=true) (El:Els s.heap l' es'.toList) (hbox:∀ q∈l',zdN q):
  PSet w (s.heap.update a (Obj.putSet es' t')) a l':=by
 refine⟨⟨_,es',ep+1,t',zmN ho hd es' t',hx,rfl,I,hbt,El.keep ?_⟩,hbox⟩;exact zbT (Heap.SameBut.update ..) ho (zbS hx)
theorem zxH {h:Heap}{esl:List (Int×Value)}(El:Els h l esl)(hx:IsPt h p x){q:Nat}(hq:q<=l.length):
  Els h (l.take q++p::l.drop q) (esl.take q++(zaL p,x)::esl.drop q):=by
 refine⟨?_,?_⟩
 ·rw[List.map_append,List.map_cons,List.map_append,List.map_cons,List.map_take,List.map_drop,List.map_take,List.map_drop,El.hash]
 ·intro i r e h1 h2
  rw[Tab.getElem?_insert _ _ _ hq]at h1;rw[Tab.getElem?_insert _ _ _ (by rw[El.length];exact hq)]at h2
  by_cases c:i<q
  ·rw[if_pos c]at h1 h2;exact El.pts i r e h1 h2
  ·rw[if_neg c]at h1 h2
   by_cases c2:i=q
   ·rw[if_pos c2]at h1 h2;cases h1;cases h2;exact hx
   ·rw[if_neg c2]at h1 h2;exact El.pts _ r e h1 h2
theorem els_erase {h:Heap}{esl:List (Int×Value)}(El:Els h l esl)(i:Nat):Els h (l.eraseIdx i) (esl.eraseIdx i):=by
 refine⟨?_,?_⟩
 ·rw[List.eraseIdx_eq_take_drop_succ,List.eraseIdx_eq_take_drop_succ,List.map_append,List.map_append,List.map_take,List.map_drop,List.map_take,List.map_drop,El.hash]
 ·intro k r e h1 h2
  rw[List.getElem?_eraseIdx]at h1 h2;split at h1
  ·rename_i c;rw[if_pos c]at h2;exact El.pts k r e h1 h2
  ·rename_i c;rw[if_neg c]at h2;exact El.pts _ r e h1 h2
theorem els_order {h:Heap}{esl:List (Int×Value)}(El:Els h l esl){order:List Nat}(ho:∀ i∈order,i<l.length):
  Els h (order.filterMap λ i=>l[i]?) (order.filterMap λ i=>esl[i]?):=by
 have a1:∀ i∈order,((λ i=>l[i]?) i).isSome=true:=λ i hi=>by
  show (l[i]?).isSome=true
  rw[List.getElem?_eq_getElem (ho i hi)];rfl
 have a2:∀ i∈order,((λ i=>esl[i]?) i).isSome=true:=λ i hi=>by
  show (esl[i]?).isSome=true
  rw[List.getElem?_eq_getElem (by rw[El.length];exact ho i hi)];rfl
 refine⟨?_,?_⟩
 ·rw[List.map_filterMap,List.map_filterMap]
  congr 1
  funext i
  rw[<- List.getElem?_map,<- List.getElem?_map,El.hash]
 ·intro k r e h1 h2
  rw[Tab.filterMap_all_some _ _ a1]at h1;rw[Tab.filterMap_all_some _ _ a2]at h2;cases hk:order[k]? with
  | none=>rw[hk]at h1;cases h1
  | some i=>rw[hk]at h1 h2;exact El.pts i r e h1 h2
theorem zoG {α:Type}(l:List α){order:List Nat}(h:order.Perm (List.range l.length)):(order.filterMap λ i=>l[i]?).Perm l:=by
 have:=h.filterMap λ i=>l[i]?;rw[List.filterMap_getElem?_range_length]at this;exact this
theorem relaid {h:Heap}(El:Els h l es.toList){order:Array Nat}(hp:order.toList.Perm (List.range es.size)):
  (order.filterMap (es[·]?)).size=es.size/\((order.filterMap (es[·]?)).toList.map (·.1)=order.toList.filterMap λ i=>(es.map (·.1)).toList[i]?)/\Els h (order.toList.filterMap λ i=>l[i]?) (order.filterMap (es[·]?)).toList/\(order.toList.filterMap λ i=>l[i]?).Perm l:=by
 have hlen:es.toList.length=l.length:=El.length;have hsz:es.size=l.length:=by rw[<- hlen,Array.length_toList]
 have hes':(order.filterMap (es[·]?)).toList=order.toList.filterMap λ i=>es.toList[i]?:=by
  rw[Array.toList_filterMap]
  congr 1
  funext i
  exact Array.getElem?_toList.symm
 have hperm:(order.toList.filterMap λ i=>es.toList[i]?).Perm es.toList:=zoG es.toList (by rw[Array.length_toList];exact hp);refine⟨by rw[<- Array.length_toList,hes',hperm.length_eq,Array.length_toList],?_,?_,zoG l (hsz▸hp)⟩
 ·rw[hes',List.map_filterMap]
  congr 1
  funext i
  rw[<- List.getElem?_map,Array.toList_map]
 ·rw[hes']
  exact els_order El λ i hi=>hsz▸List.mem_range.mp (hp.mem_iff.mp hi)
theorem zmR {wanted:Nat}{Q:Unit->Shared->Prop}(ho:s.heap.get? a=some o)(hx:o.ExactSet)(hd:o.data=.set es ep t)(hf:t.fits es.size=true)
  (hnd:(es.toList.map (·.1)).Nodup) (El:Els s.heap l es.toList) (hw:wanted<128) (hroom:es.size*5<(SetTable.sizeAbove wanted-1)*3)
  (hbt:w.params.followText "set-order" = false->t.led=true/\t.plain=true) (hbox:∀ q∈l,zdN q)
  (h:∀ h' l' es' t',Heap.SameBut a s.heap h'->l'.Perm l->h'.get? a=some { o with data:=.set es' (ep+1) t' }->Tab.Inv t' (es'.toList.map (·.1))->Els h' l' es'.toList ->
   t'.led=t.led->t'.plain=t.plain->t'.mask=SetTable.sizeAbove wanted-1->t'.fill=es.size->PSet w h' a l'->Q () { s with heap:=h' }):wpAny (model prog w) A (setRelay a wanted) Q E s:=by
 unfold setRelay;refine wpAny_bind (wpAny_setState_of ho hd hf ?_);dsimp only;refine zdA (Tab.sizeAbove_line wanted hw) ?_;obtain⟨g,_⟩:=Tab.sizeAbove_ok wanted hw;refine q21 (Tab.laid_ok t.finger (t.movedTo (SetTable.sizeAbove wanted-1)) t.led t.plain (hashes:=es.map (·.1)) g (by simpa using hnd) (by simp;lia)) λ t' order u8=>q08 u8 λ e hp hm hl hpl hdm hfl I0=>?_;have hsz:(es.map (·.1)).size=es.size:=by simp
 rw[hsz]at hp hfl;refine q04 (relaid El hp) λ hsize hmap El' hpl=>?_;have I':Tab.Inv t' ((order.filterMap (es[·]?)).toList.map (·.1)):=by
  rw[hmap];exact⟨I0,by rw[hfl,hm];exact hroom⟩
 have e':t.relaid (es.map (·.1)) wanted=some (t',order):=e;rw[e'];refine wpAny_bind ?_
 show wpAny _ _ (if ((order.filterMap (es[·]?)).size != es.size)=true then _ else _) _ _ _
 refine zdA (by rw[hsize];simp) (wpAny_pure ?_);refine wpAny_storeSet_of ho hd ?_ (by rw[hsize];exact room_line hroom (Tab.sizeAbove_line wanted hw));refine h _ (order.toList.filterMap λ i=>l[i]?) (order.filterMap (es[·]?)) t' (Heap.SameBut.update ..) hpl (zmN ho hd _ _) I' (El'.keep (zbT (Heap.SameBut.update ..) ho (zbS hx))) hl (by assumption) hm hfl ?_;refine zfO ho hx hd I' ?_ El' ?_
 ·intro q
  have:=hbt q;refine⟨hl.trans this.1,?_⟩;have h5:t'.plain=t.plain:=by assumption
  exact h5.trans this.2
 ·intro q hq
  exact hbox q (hpl.mem_iff.mp hq)
theorem znJ {q:Nat}(c:Pt):c∈l.take q++p::l.drop q↔c=p\/c∈l:=by
 have h:(l.take q++p::l.drop q).Perm (p::l):=by
  refine List.perm_middle.trans ?_;rw[List.take_append_drop]
 rw[h.mem_iff,List.mem_cons]
theorem zgJ {Q:Bool->Shared->Prop}(hu:A.units<cLine)(S:PSet w s.heap a l)(hx:IsPt s.heap p x)(hb:zdN p)(hlen:l.length<31)
  (h1:p∈l->Q false s)
  (h2:p∉l->∀ h' l',Heap.SameBut a s.heap h'->l'.Perm (p::l)->PSet w h' a l'->Q true { s with heap:=h' }):
  wpAny (model prog w) A (setAddHashed a x (zaL p)) Q E s:=by
 refine q46 S.obj λ o es ep t ho hxs hd I hbt El=>?_;unfold setAddHashed;refine wpAny_holding ?_;refine wpAny_bind (m:=setState a) (wpAny_setState_of ho hd (zbD I) ?_);dsimp only;rw[hx.notScan,if_neg (by decide)];refine wpAny_bind (zjR (adding:=true) hu ho hd I El S.box hx hb (λ i hi=>wpAny_pure (h1 (List.mem_of_getElem? hi))) (λ hn slot wd hF=>?_));dsimp only;refine wpAny_bind (wpAny_setState_of ho hd (zbD I) ?_);dsimp only;have hes:es.size=l.length:=by rw[<- Array.length_toList];exact El.length
 have hnh:zaL p∉es.toList.map (·.1):=by
  rw[El.hash];intro hmem;refine q12 (List.mem_map.mp hmem) λ q hq e=>?_;exact hn (zoS (S.box q hq) hb e▸hq)
 refine q06 (Tab.put_inv I hnh hF) λ I0 hfill hple hmk hled hpl=>?_;have hpl':(t.put slot).2<=l.length:=by
  have:=hple;rw[List.length_map,El.length]at this;exact this
 have key:∀ t2:SetTable,t2=(t.put slot).1->wpAny (model prog w) A (do
   storeSet a (SetTable.insertAt es (t.put slot).2 (zaL p,x)) t2
   if (!wd&&t2.tooFull)=true then do setRelay a (SetTable.grown (es.size+1));pure true else pure true) Q E s:=by
  intro t2 e2;subst e2;have hins:(SetTable.insertAt es (t.put slot).2 (zaL p,x)).toList=es.toList.take (t.put slot).2++(zaL p,x)::es.toList.drop (t.put slot).2:=SetTable.toList_insertAt _ _ _;have hinsz:(SetTable.insertAt es (t.put slot).2 (zaL p,x)).size=es.size+1:=by
   have:=(SetTable.insertAt_perm es (t.put slot).2 (zaL p,x)).length_eq
   simpa using this
  have hE':Els s.heap (l.take (t.put slot).2++p::l.drop (t.put slot).2) (SetTable.insertAt es (t.put slot).2 (zaL p,x)).toList:=by
   rw[hins];exact zxH El hx hpl'
  have hmap:(SetTable.insertAt es (t.put slot).2 (zaL p,x)).toList.map (·.1)=(es.toList.map (·.1)).take (t.put slot).2++zaL p::(es.toList.map (·.1)).drop (t.put slot).2:=by
   rw[hins,List.map_append,List.map_cons,List.map_take,List.map_drop]
  have hbox':∀ q∈l.take (t.put slot).2++p::l.drop (t.put slot).2,zdN q:=λ q hq=>by
   rcases (znJ q).mp hq with rfl|q'
   ·exact hb
   ·exact S.box q q'
  have hperm:(l.take (t.put slot).2++p::l.drop (t.put slot).2).Perm (p::l):=by
   refine List.perm_middle.trans ?_;rw[List.take_append_drop]
  have hsl:(SetTable.insertAt es (t.put slot).2 (zaL p,x)).size<=sizeLine:=by
   rw[hinsz];have h2:sizeLine=2 ^ 24:=rfl;have h3:(2:Nat) ^ 24=16777216:=by decide
   lia
  refine wpAny_bind (wpAny_storeSet_of ho hd ?_ hsl)
  by_cases hfull:(!wd&&(t.put slot).1.tooFull)=true
  ·refine ziL hfull ?_
   have hget:=zmN ho hd (SetTable.insertAt es (t.put slot).2 (zaL p,x)) (t.put slot).1;have hgr:SetTable.grown (es.size+1)=(es.size+1)*4:=by unfold SetTable.grown;rw[if_neg (by lia)]
   refine wpAny_bind (zmR (l:=l.take (t.put slot).2++p::l.drop (t.put slot).2) hget hxs rfl ?_ ?_ ?_ (by rw[hgr,hes];lia) ?_ (by rw[hled,hpl];exact hbt) hbox' ?_)
   ·unfold SetTable.fits
    have hz:=I0.size;have:(t.put slot).1.place.size=(SetTable.insertAt es (t.put slot).2 (zaL p,x)).size:=by
     rw[hz,hinsz];have:=congrArg List.length hmap;simp only[List.length_map]at this;rw[<- this,Array.length_toList,hinsz]
    have hr:=I.room;have hfl2:(t.put slot).1.fill<=(t.put slot).1.mask:=by
     rw[hfill,hmk];rcases I.mask with q|q|q|q|q <;> rw[q]at hr ⊢ <;> split <;> lia
    rw[this]
    simp[hfl2]
   ·rw[hmap];exact I0.nodup
   ·exact hE'.keep (zbT (Heap.SameBut.update ..) ho (zbS hxs))
   ·have:=(Tab.sizeAbove_ok ((es.size+1)*4) (by rw[hes];lia)).2
    rw[hgr,hinsz];exact room2 (Nat.lt_of_le_of_lt (Nat.mul_le_mul_left _ (by decide)) this) (Nat.succ_pos _)
   ·intro h' l' es' t' hsb hp' _ _ _ _ _ _ _ P'
    refine wpAny_pure (h2 hn h' l' ?_ (hp'.trans hperm) P');exact (Heap.SameBut.update ..).trans hsb
  ·refine zdA hfull ?_
   refine wpAny_pure (h2 hn _ _ (Heap.SameBut.update ..) hperm ?_);refine zfO ho hxs hd ?_ (by rw[hled,hpl];exact hbt) hE' hbox';rw[hmap];refine⟨I0,?_⟩;rw[hmk];cases wd with
   | true=>rw[hfill];exact I.room
   | false=>
    have:(t.put slot).1.tooFull=false:=by simpa using hfull
    unfold SetTable.tooFull at this;have:=of_decide_eq_false this;rw[hmk]at this;lia
 by_cases hplain:(t.put slot).1.plain=true
 ·refine ziL hplain ?_
  refine wpAny_bind (znR hx ?_);simp only[if_true];exact key _ rfl
 ·refine zdA hplain ?_
  refine wpAny_bind (wpAny_pure ?_);simp only[if_true];exact key _ rfl
theorem wp_setAdd {Q:Bool->Shared->Prop}(hu:A.units<cLine)(S:PSet w s.heap a l)(hx:IsPt s.heap p x)(hb:zdN p)(hlen:l.length<31)
  (h1:p∈l->∀ tk,Q false { s with toks:=tk })
  (h2:p∉l->∀ h' l' tk,Heap.SameBut a s.heap h'->l'.Perm (p::l)->PSet w h' a l'->Q true { s with heap:=h',toks:=tk }):
  wpAny (model prog w) A (setAdd a x) Q E s:=by
 unfold setAdd;refine wpAny_holding (wpAny_bind (zjT hu hx ?_));exact zgJ (s:={ s with toks:=s.toks+3 }) hu S hx hb hlen (λ h=>h1 h _) (λ h h' l' a b c=>h2 h h' l' _ a b c)
end
theorem zrU {prog:Program}{w:World}{A:Around}{E:Value->Shared->Prop}{s:Shared}{src:Source}{n:Nat}{Q:Nat->Shared->Prop}(hn:n≠0)
  (h:∀ i d,i<n->Q i { s with drawn:=d }):wpAny (model prog w) A (choose src n) Q E s:=λ Γ p _=>by
 show Sem.wp _ _ (Sem.choose src n Sem.pure) _ _ _ _
 rw[Sem.wp_choose];refine⟨hn,?_⟩;rw[Sem.wp_pure];exact h _ _ (Nat.mod_lt _ (Nat.pos_of_ne_zero hn))
section
variable {prog:Program}{w:World}{A:Around}{E:Value->Shared->Prop}{s:Shared}{a:Addr}{l:List Pt}{p:Pt}{x:Value}
variable {o:Obj}{es:Array (Int×Value)}{ep:Nat}{t:SetTable}
theorem PSet.length_le {h:Heap}(S:PSet w h a l):l.length<=25:=
 Tab.nodup_le l zrO S.nodup λ q hq=>zjA (S.box q hq)
theorem zbE {Q:Bool->Shared->Prop}(h:Q (w.params.followText "set-order") s):wpAny (model prog w) A setsByText Q E s:=by
 unfold setsByText;exact wpAny_bind (wpAny_askSetting (wpAny_pure h))
theorem ztC {hs:List Int}(I:Tab.Inv t hs)(hne:hs≠[]):∃ i,t.popPlace=some i/\i<hs.length:=by
 have hpos:0<hs.length:=List.length_pos_iff.mpr hne;have hsz:=I.size;unfold SetTable.popPlace;rw[if_neg (by intro q;have:=Array.isEmpty_iff_size_eq_zero.mp q;lia)];dsimp only;refine⟨_,rfl,?_⟩;split
 ·exact lq32 hsz (by assumption)
 ·exact hpos
theorem wp_setPop {Q:Option Value->Shared->Prop}(S:PSet w s.heap a l)(hne:l≠[])
  (h:∀ (i:Nat) (p:Pt) (v:Value) (h':Heap) (d:Drawn),l[i]?=some p->Heap.SameBut a s.heap h'->PSet w h' a (l.eraseIdx i)->IsPt h' p v->Q (some v) { s with heap:=h',drawn:=d }):
  wpAny (model prog w) A (setPop a) Q E s:=by
 refine q46 S.obj λ o es ep t ho hxs hd I hbt El=>?_;have hes:es.size=l.length:=by rw[<- Array.length_toList];exact El.length
 have hpos:0<l.length:=List.length_pos_iff.mpr hne;refine q12 (ztC I (by intro e;have:=congrArg List.length e;rw[List.length_map,El.length]at this;simp at this;exact hne this)) λ i0 hpp hi0=>?_;have hi0:i0<l.length:=by simpa [El.length] using hi0
 have fin:∀ (i:Nat) (d:Drawn),i<l.length->wpAny (model prog w) A (match es[i]? with
   | some (_,x)=>do storeSet a (SetTable.eraseAt es i) (t.popped i);pure (some x)
   | _=>unsupported "internal:set.pop") Q E { s with drawn:=d }:=by
  intro i d hi;refine q12 (El.at (List.getElem?_eq_getElem hi)) λ v hv hpt=>?_;have hv':es[i]?=some (zaL l[i],v):=by rw[<- Array.getElem?_toList];exact hv
  rw[hv'];dsimp only;have herz:(SetTable.eraseAt es i).toList=es.toList.eraseIdx i:=Tab.toList_eraseAt es i;have hsz:(SetTable.eraseAt es i).size<=sizeLine:=by
   rw[<- Array.length_toList,herz];have h0:=List.length_eraseIdx_le es.toList i;have h1:=S.length_le;have h2:sizeLine=2 ^ 24:=rfl;have h3:(2:Nat) ^ 24=16777216:=by decide
   have h4:=El.length;lia
  refine wpAny_bind (wpAny_storeSet_of (s:={ s with drawn:=d }) ho hd ?_ hsz);refine wpAny_pure (h i l[i] v _ d (List.getElem?_eq_getElem hi) (Heap.SameBut.update ..) ?_ ?_)
  ·refine q05 (Tab.drop_inv I (i:=i) (by simpa [El.length] using hi)) λ I' hmk hfl hl' hpl'=>?_
   refine zfO ho hxs hd ?_ ?_ ?_ ?_
   ·rw[herz]
    have:(es.toList.eraseIdx i).map (·.1)=(es.toList.map (·.1)).eraseIdx i:=by
     rw[List.eraseIdx_eq_take_drop_succ,List.eraseIdx_eq_take_drop_succ,List.map_append,List.map_take,List.map_drop]
    rw[this];exact⟨⟨⟨I'.sp,I'.sd,I'.bp,I'.bd,I'.dj⟩,I'.size,I'.mask,I'.nodup,I'.reach⟩,I'.room⟩
   ·intro q
    have:=hbt q;exact⟨hl'.trans this.1,hpl'.trans this.2⟩
   ·rw[herz];exact els_erase El i
   ·exact λ q hq=>S.box q (List.mem_of_mem_eraseIdx hq)
  ·exact hpt.keep (zbT (Heap.SameBut.update ..) ho (zbS hxs))
 unfold setPop;refine wpAny_bind (wpAny_setState_of ho hd (zbD I) ?_);dsimp only;rw[hpp];refine wpAny_bind (zbE ?_);cases hbt':w.params.followText "set-order" with
 | true=>
  rw[Bool.true_or,if_pos rfl];refine wpAny_bind (zrU (by lia) λ i d hi=>?_);exact fin i d (by exact lq32 hes hi)
 | false=>
  obtain⟨hl,hp⟩:=hbt hbt';have:(!t.plain&&decide (es.size>1))=false:=by rw[hp];rfl
  show wpAny _ _ (if (false||(!t.plain&&decide (es.size>1)))=true then _ else _) _ _ _
  rw[this,Bool.false_or,if_neg (by decide)];refine wpAny_bind ?_
  show wpAny _ _ (if (!t.led&&decide (es.size>1))=true then _ else _) _ _ _
  rw[hl];refine zdA (by simp) ?_;refine wpAny_pure ?_;refine wpAny_bind (wpAny_pure ?_);exact fin i0 s.drawn hi0
end
theorem zeV {α:Type}(l:List α)(i:Nat)(h:i<l.length):(([l[i]]:List α)++l.eraseIdx i).Perm l:=by
 have e:l=l.take i++l[i]::l.drop (i+1):=by
  rw[<- List.drop_eq_getElem_cons h,List.take_append_drop]
 rw[List.eraseIdx_eq_take_drop_succ];refine List.Perm.trans ?_ (List.Perm.of_eq e.symm)
 show (l[i]::(l.take i++l.drop (i+1))).Perm _
 exact List.perm_middle.symm
theorem znQ {α:Type}{next:Nat->Nat}{f k:Nat}{l:List α}{out:Array α}:pickOrder.go next (f+1) k l out=pickOrder.go.match_1 (λ _=>Array α) (l[next k % l.length]?) (λ x=>pickOrder.go next f (k+1) (l.eraseIdx (next k % l.length)) (out.push x)) (λ _=>out):=rfl
theorem zrP {α:Type}(next:Nat->Nat)(fuel:Nat):∀ (k:Nat) (left:List α) (out:Array α),left.length<=fuel->(pickOrder.go next fuel k left out).toList.Perm (out.toList++left):=by
 induction fuel with
 | zero=>
  intro k left out h;cases List.length_eq_zero_iff.mp (Nat.le_zero.mp h);exact .of_eq (List.append_nil _).symm
 | succ fuel ih=>
  intro k left out h;rw[znQ];cases left with
  | nil=>exact .of_eq (List.append_nil _).symm
  | cons y ys=>
   have hlt:next k % (y::ys).length<(y::ys).length:=Nat.mod_lt _ (by simp);rw[List.getElem?_eq_getElem hlt];refine (ih (k+1) _ _ (by rw[List.length_eraseIdx,if_pos hlt];exact Nat.le_of_succ_le_succ h)).trans ?_;rw[Array.toList_push,List.append_assoc];refine List.Perm.append_left _ ?_;exact zeV _ _ hlt
theorem zfE {α:Type}(next:Nat->Nat)(xs:Array α):(pickOrder next xs).toList.Perm xs.toList:=by
 have:=zrP next xs.size 0 xs.toList #[] (by simp)
 simpa [pickOrder] using this
section
variable {prog:Program}{w:World}{A:Around}{E:Value->Shared->Prop}{s:Shared}{a b:Addr}{l m:List Pt}{p:Pt}{x:Value}
variable {o:Obj}{es:Array (Int×Value)}{ep:Nat}{t:SetTable}
theorem zxP {Q:Array (Int×Value)->Shared->Prop}(ho:s.heap.get? a=some o)(hd:o.data=.set es ep t)(I:Tab.Inv t (es.toList.map (·.1)))
  (hbt:w.params.followText "set-order" = false->t.led=true/\t.plain=true) (h:∀ es':Array (Int×Value),es'.toList.Perm es.toList->Q es' s):wpAny (model prog w) A (setWalk a) Q E s:=by
 unfold setWalk;refine wpAny_bind (wpAny_setState_of ho hd (zbD I) ?_);dsimp only;refine wpAny_bind (zbE ?_);cases hb:w.params.followText "set-order" with
 | true=>
  refine ziL rfl ?_;refine wpAny_bind (wpAny_askSetting (wpAny_pure (h _ (zfE _ _))))
 | false=>
  obtain⟨hl,hp⟩:=hbt hb;refine zdA (by decide) ?_
  show wpAny _ _ (if (!t.plain&&decide (es.size>1))=true then _ else _) _ _ _
  rw[hp];refine zdA (by simp) ?_;refine wpAny_bind ?_
  show wpAny _ _ (if (!t.led&&decide (es.size>1))=true then _ else _) _ _ _
  rw[hl,if_neg (by simp)];exact wpAny_pure (wpAny_pure (h _ (List.Perm.refl _)))
theorem zkA {others:List Addr}{filled:Option Addr}{Q:Array (Int×Value)->Shared->Prop}(ho:s.heap.get? a=some o)(hd:o.data=.set es ep t)(I:Tab.Inv t (es.toList.map (·.1)))
  (hbt:w.params.followText "set-order" = false->t.led=true/\t.plain=true) (h:∀ es':Array (Int×Value),es'.toList.Perm es.toList->Q es' s):wpAny (model prog w) A (setWalkUnseen a others filled) Q E s:=by
 unfold setWalkUnseen;refine wpAny_bind (wpAny_setState_of ho hd (zbD I) ?_);dsimp only;refine wpAny_bind (zbE ?_);have:(w.params.followText "set-order" || t.led&&t.plain||decide (es.size<=1))=true:=by
  cases hb:w.params.followText "set-order" with
  | true=>rfl
  | false=>obtain⟨hl,hp⟩:=hbt hb;rw[hl,hp];rfl
 refine ziL this ?_;exact zxP ho hd I hbt h
theorem Els.cons {h:Heap}{esl:List (Int×Value)}(hp:IsPt h p x)(El:Els h l esl):Els h (p::l) ((zaL p,x)::esl):=by
 refine⟨by simp[El.hash],λ i q e h1 h2=>?_⟩;cases i with
 | zero=>simp at h1 h2;subst h1 h2;exact hp
 | succ i=>simp at h1 h2;exact El.pts i q e h1 h2
theorem Els.cons_inv {h:Heap}{e:Int×Value}{esl:List (Int×Value)}(El:Els h l (e::esl)):∃ p l',l=p::l'/\e=(zaL p,e.2)/\IsPt h p e.2/\Els h l' esl:=by
 cases l with
 | nil=>have:=El.hash;simp at this
 | cons p l'=>
  have h1:=El.hash
  simp at h1
  refine⟨p,l',rfl,by rw[<- h1.1],El.pts 0 p e rfl rfl,h1.2,λ i q e' h2 h3=>El.pts (i+1) q e' (by simpa using h2) (by simpa using h3)⟩
theorem Els.nil_inv {h:Heap}(El:Els h l []):l=[]:=by
 have:=El.hash;cases l with
 | nil=>rfl
 | cons=>simp at this
theorem zvK {h:Heap}{es' esl:List (Int×Value)}(hp:esl.Perm es'):∀ {l:List Pt},Els h l esl->∃ l',l'.Perm l/\Els h l' es':=by
 induction hp with
 | nil=>intro l El;exact⟨l,.refl _,El⟩
 | cons e _ ih=>
  intro l El;refine q24 El.cons_inv ?_;intro p l' u0;cases u0;intro he hpt El';refine q12 (ih El') λ l2 h1 h2=>?_;exact⟨p::l2,h1.cons _,he▸Els.cons hpt h2⟩
 | swap e1 e2 r=>
  intro l El;refine q24 El.cons_inv ?_;intro p l' u0;cases u0;intro he hpt El';refine q24 El'.cons_inv ?_;intro q l2 u0;cases u0;intro he2 hpt2 El2;exact⟨q::p::l2,List.Perm.swap _ _ _,he2▸Els.cons hpt2 (he▸Els.cons hpt El2)⟩
 | trans _ _ ih1 ih2=>
  intro l El;refine q12 (ih1 El) λ l1 h1 E1=>?_;refine q12 (ih2 E1) λ l2 h2 E2=>?_;exact⟨l2,h2.trans h1,E2⟩
theorem zqH {more:Nat}{Q:Unit->Shared->Prop}(ho:s.heap.get? a=some o)(hx:o.ExactSet)(hd:o.data=.set es ep t)(I:Tab.Inv t (es.toList.map (·.1)))
  (hbt:w.params.followText "set-order" = false->t.led=true/\t.plain=true) (El:Els s.heap l es.toList) (hbox:∀ q∈l,zdN q) (hm:more<=25) (hl:l.length<=25)
  (h:∀ h' l' es' ep' t',Heap.SameBut a s.heap h'->l'.Perm l->h'.get? a=some { o with data:=.set es' ep' t' }->Tab.Inv t' (es'.toList.map (·.1))->Els h' l' es'.toList ->
   (w.params.followText "set-order" = false->t'.led=true/\t'.plain=true)->(t'.fill+more)*5<t'.mask*3->Q () { s with heap:=h' }):wpAny (model prog w) A (setRoomFor a more) Q E s:=by
 unfold setRoomFor;refine wpAny_bind (wpAny_setState_of ho hd (zbD I) ?_);dsimp only;have hes:es.size=l.length:=by rw[<- Array.length_toList];exact El.length
 have hpl:t.place.size=es.size:=by have:=I.size;simpa using this
 unfold SetTable.roomFor
 by_cases hc:(t.fill+more)*5>=t.mask*3
 ·rw[if_pos hc]
  dsimp only;have hw:(t.place.size+more)*2<128:=by lia
  have hsa:=(Tab.sizeAbove_ok ((t.place.size+more)*2) hw).2;have hmore:0<t.place.size+more:=by
   rcases Nat.eq_zero_or_pos (t.place.size+more) with q|q
   ·exfalso
    have hr:=I.room;have:more=0:=by lia
    subst this;lia
   ·exact q
  refine zmR ho hx hd (zbD I) I.nodup El hw (Nat.lt_of_le_of_lt (Nat.mul_le_mul_right 5 (by rw[<- hpl];exact Nat.le_add_right _ _)) (room2 hsa hmore)) hbt hbox ?_;intro h' l' es' t' hsb hp hget I' El' hled hplain hmask hfill P';exact h h' l' es' (ep+1) t' hsb hp hget I' El' (λ q=>⟨hled.trans (hbt q).1,hplain.trans (hbt q).2⟩) (by rw[hmask,hfill,<- hpl];exact room2 hsa hmore)
 ·rw[if_neg hc]
  dsimp only;refine wpAny_pure ?_;refine h s.heap l es ep t (Heap.SameBut.refl ..) (.refl _) ?_ I El hbt (Nat.lt_of_not_le hc);rw[ho,<- hd]
end
section
variable {prog:Program}{w:World}{A:Around}{E:Value->Shared->Prop}{s:Shared}{a b:Addr}{l m:List Pt}{p:Pt}{x:Value}
variable {o:Obj}{es:Array (Int×Value)}{ep:Nat}{t:SetTable}
theorem inv_table {t t':SetTable}{hs:List Int}(I:Tab.Inv t hs)(h1:t'.place=t.place)(h2:t'.dummies=t.dummies)(h3:t'.mask=t.mask):Tab.Inv t' hs:=by
 have hsl:∀ j,t'.slot j=t.slot j:=λ j=>by unfold SetTable.slot;rw[h1,h2]
 refine⟨⟨⟨h1▸I.sp,h2▸I.sd,?_,?_,?_⟩,by rw[h1];exact I.size,by rw[h3];exact I.mask,I.nodup,?_⟩,by unfold SetTable.fill;rw[h1,h2,h3];exact I.room⟩
 ·rw[h1,h3];exact I.bp
 ·rw[h2,h3];exact I.bd
 ·rw[h1,h2];exact I.dj
 ·intro i j h hi hh
  rw[h1]at hi;exact Tab.Reached.mono h3 (λ x hx=>by rw[hsl];exact hx) (I.reach i j h hi hh)
theorem zmA {n:Nat}(h:n<=1000):n<=sizeLine:=by
 have h2:sizeLine=2 ^ 24:=rfl;have h3:(2:Nat) ^ 24=16777216:=by decide
 exact lq2 h rfl
theorem zhM {h h':Heap}{c:Addr}(hs:Heap.SameBut a h h')(hne:c≠a):h'.get? c=h.get? c:=hs.2 c hne
theorem zpG {each:Sem Unit}{o2:Obj}{es2:Array (Int×Value)}{t2:SetTable}{ep2:Nat}{R:ForInStep PUnit->Shared->Prop}(hb2:s.heap.get? b=some o2)(hd2:o2.data=.set es2 ep2 t2)(I2:Tab.Inv t2 (es2.toList.map (·.1)))
  (heach:∀ R:Unit->Shared->Prop,R () s->wpAny (model prog w) A each R E s) (hR:R (.yield ⟨⟩) s):
  wpAny (model prog w) A (do each;let __x <- setState b;if (__x.2.1 != ep2)=true then do unsupported "set.changed-during-merge";pure (.yield ⟨⟩) else pure (ForInStep.yield PUnit.unit)) R E s:=
 wpAny_bind (heach _ (wpAny_bind (wpAny_setState_of hb2 hd2 (zbD I2) (zdA (by simp) (wpAny_pure hR)))))
noncomputable def MergeI (w:World)(s:Shared)(a:Addr)(l m:List Pt)(rest:List (Int×Value))(s':Shared):Prop:=
 ∃ h' l' m',s'={ s with heap:=h' }/\Heap.SameBut a s.heap h'/\PSet w h' a l'/\Els h' m' rest/\(∀ q,q∈l'\/q∈m'↔q∈l\/q∈m)/\(∀ q∈m',zdN q)
theorem or_shift {a b c:Prop}:(a\/b)\/c↔b\/(a\/c):=
 ⟨λ h=>h.elim (λ h=>h.elim (λ h=>.inr (.inl h)) .inl) λ h=>.inr (.inr h),λ h=>h.elim (λ h=>.inl (.inr h)) λ h=>h.elim (λ h=>.inl (.inl h)) .inr⟩
theorem ztP {each:Sem Unit}{Q:Unit->Shared->Prop}(hu:A.units<cLine)(S:PSet w s.heap a l)(So:PSet w s.heap b m)(hab:a≠b)
  (heach:∀ (s':Shared) (R:Unit->Shared->Prop),s'.heap.get? b=s.heap.get? b->R () s'->wpAny (model prog w) A each R E s')
  (h:∀ h' l',Heap.SameBut a s.heap h'->(∀ q,q∈l'↔q∈l\/q∈m)->PSet w h' a l'->Q () { s with heap:=h' }):wpAny (model prog w) A (setMerge a b each) Q E s:=by
 refine q46 S.obj λ o es ep t ho hxs hd I hbt El=>?_;refine q46 So.obj λ o2 es2 ep2 t2 ho2 hxs2 hd2 I2 hbt2 El2=>?_;have hm25:=So.length_le;have hl25:=S.length_le;have hes2:es2.size=m.length:=by rw[<- Array.length_toList];exact El2.length
 unfold setMerge;refine zdA (by simpa using hab) ?_;refine wpAny_bind (wpAny_setState_of ho2 hd2 (zbD I2) ?_);dsimp only
 by_cases hemp:es2.isEmpty=true
 ·refine ziL hemp ?_
  have hm0:m=[]:=by
   have:=Array.isEmpty_iff_size_eq_zero.mp hemp;exact List.length_eq_zero_iff.mp (by lia)
  refine wpAny_pure (h s.heap l (Heap.SameBut.refl ..) (λ q=>by simp[hm0]) S)
 ·refine zdA hemp ?_
  refine wpAny_bind (zqH ho hxs hd I hbt El S.box (by exact lq29 hes2 hm25 rfl) hl25 ?_);intro h1 l1 es1 ep1 t1 hsb1 hp1 hget1 I1 El1 hbt1 hroom1;have hb1:h1.get? b=some o2:=(zhM hsb1 (Ne.symm hab)).trans ho2;have hbox1:∀ q∈l1,zdN q:=λ q hq=>S.box q (hp1.mem_iff.mp hq);refine wpAny_bind (wpAny_setState_of (s:={ s with heap:=h1 }) hget1 rfl (zbD I1) ?_);dsimp only;have hE2:Els h1 m es2.toList:=El2.keep (zbT hsb1 ho (zbS hxs));unfold SetTable.road
  by_cases hfill:(t1.fill != 0)=true
  ·rw[if_pos hfill]
   dsimp only;refine wpAny_bind (zkA (s:={ s with heap:=h1 }) hb1 hd2 I2 hbt2 λ es3 hp3=>?_);refine q12 (zvK hp3.symm hE2) λ m3 hm3 El3=>?_;have P1:PSet w h1 a l1:=⟨⟨_,es1,ep1,t1,hget1,hxs,rfl,I1,hbt1,El1⟩,hbox1⟩
   refine wpAny_bind ?_;rw[<- Array.forIn_toList];refine wpAny_forIn_list (s:={ s with heap:=h1 }) _ (λ rest _ s'=>MergeI w s a l m rest s') _ ?_ ?_ es3.toList _
    ⟨h1,l1,m3,rfl,hsb1,P1,El3,λ q=>by rw[hp1.mem_iff,hm3.mem_iff],λ q hq=>So.box q (hm3.mem_iff.mp hq)⟩
   ·rintro⟨hh,v⟩ rest u s' ⟨h',l',m',rfl,hsb,P',El',hmem,hbx⟩
    refine q24 El'.cons_inv ?_;intro p m'' u0;cases u0;intro he hpt El'';simp only[Prod.mk.injEq]at he;obtain⟨rfl,_⟩:=he;have hpb:zdN p:=hbx p (List.mem_cons.mpr (.inl rfl));have hbx':∀ q∈m'',zdN q:=λ q hq=>hbx q (List.mem_cons.mpr (.inr hq));refine wpAny_bind (wpAny_holding (zgJ (s:={ s with heap:=h' }) hu P' hpt hpb (Nat.lt_of_le_of_lt P'.length_le (by decide)) (λ hin=>?_) (λ hn h2 l2 hsb2 hp2 P2=>?_)))
    ·have hb':h'.get? b=some o2:=(zhM hsb (Ne.symm hab)).trans ho2
     refine zpG (s:={ s with heap:=h' }) hb' hd2 I2 (heach _ · (hb'.trans ho2.symm)) ⟨h',l',m'',rfl,hsb,P',El'',λ q=>?_,hbx'⟩;rw[<- hmem q,List.mem_cons];exact⟨λ h=>h.elim .inl λ h=>.inr (.inr h),λ h=>h.elim .inl λ h=>h.elim (λ e=>.inl (e▸hin)) .inr⟩
    ·have hb2:h2.get? b=some o2:=(zhM (hsb.trans hsb2) (Ne.symm hab)).trans ho2
     refine q43 P'.obj λ oo _ _ _ hoo hxx _=>?_;refine zpG (s:={ s with heap:=h2 }) hb2 hd2 I2 (heach _ · (hb2.trans ho2.symm)) ⟨h2,l2,m'',rfl,hsb.trans hsb2,P2,El''.keep (zbT hsb2 hoo (zbS hxx)),λ q=>?_,hbx'⟩;rw[<- hmem q,hp2.mem_iff,List.mem_cons,List.mem_cons];exact or_shift
   ·intro u s' uu;refine q31 uu ?_;clear uu;intro h' l' m' u8;refine q06 u8 ?_;clear u8;intro u0;cases u0;intro hsb P' El' hmem hbx
    have:m'=[]:=El'.nil_inv;subst this;exact wpAny_pure (h h' l' hsb (λ q=>by rw[<- hmem q];simp) P')
  ·rw[if_neg hfill]
   have hf0:t1.fill=0:=by simpa using hfill
   have hl1:l1=[]:=by
    have h1:=I1.size;have h2:=El1.length;unfold SetTable.fill at hf0;rw[List.length_map,h2]at h1;exact List.length_eq_zero_iff.mp (by lia)
   have hl0:l=[]:=by rw[hl1]at hp1;exact hp1.symm.eq_nil
   have hmem:∀ q,q∈m↔q∈l\/q∈m:=λ q=>by rw[hl0];simp
   by_cases hmk:(t1.mask==t2.mask&&t2.dummies.isEmpty)=true
   ·rw[if_pos hmk]
    dsimp only;refine wpAny_storeSet_of (s:={ s with heap:=h1 }) hget1 rfl ?_ (zmA (by exact lq29 hes2 hm25 rfl));refine h _ m (hsb1.trans (Heap.SameBut.update ..)) hmem ?_;refine zfO (s:={ s with heap:=h1 }) hget1 hxs rfl (inv_table I2 rfl rfl rfl) ?_ hE2 So.box;intro q;obtain⟨q1,q2⟩:=hbt1 q;obtain⟨q3,q4⟩:=hbt2 q
    simp[q1,q2,q3,q4]
   ·rw[if_neg hmk]
    dsimp only;refine q21 (Tab.laid_ok t1.finger t1.moves (t1.led&&t2.led) (t1.plain&&t2.plain) (hashes:=es2.map (·.1)) I1.mask (by simpa using I2.nodup) (by simp;lia)) λ t' order u8=>q08 u8 λ e hp hm hl hpl hdm hfl I0=>?_;have hsz:(es2.map (·.1)).size=es2.size:=by simp
    rw[hsz]at hp hfl;refine q04 (relaid hE2 hp) λ hsize hmap El' hpm=>?_;rw[e];refine wpAny_bind ?_
    show wpAny _ _ (if ((order.filterMap (es2[·]?)).size != es2.size)=true then _ else _) _ _ _
    refine zdA (by rw[hsize];simp) (wpAny_pure ?_);refine wpAny_storeSet_of (s:={ s with heap:=h1 }) hget1 rfl ?_ (zmA (by rw[hsize];exact lq29 hes2 hm25 rfl));refine h _ (order.toList.filterMap λ i=>m[i]?) (hsb1.trans (Heap.SameBut.update ..)) (λ q=>by rw[hpm.mem_iff];exact hmem q) ?_;refine zfO (s:={ s with heap:=h1 }) hget1 hxs rfl (by rw[hmap];exact⟨I0,by rw[hfl,hm];lia⟩) ?_ El' λ q hq=>So.box q (hpm.mem_iff.mp hq);intro q;obtain⟨q1,q2⟩:=hbt1 q;obtain⟨q3,q4⟩:=hbt2 q;rw[hl,hpl]
    simp[q1,q2,q3,q4]
end
open PySem.Calls
section
variable {prog:Program}{w:World}{A:Around}{E:Value->Shared->Prop}{s:Shared}{a b:Addr}{l m:List Pt}{p:Pt}{x:Value}
noncomputable abbrev zeW (w:World):Obj:={ cls:=.type "set",dict:=none,data:=.set #[] 0 (.fresh 0 0 (!w.params.followText "set-order")) }
theorem ztN {Q1:Value->Shared->Prop}(h:Q1 (.ref s.heap.objs.size) { s with heap:=s.heap.push (zeW w) }):
  codeAny (model prog w) A (.call (.builtin "set.__new__") ⟨[.type "set"],[]⟩) (wants Q1 E) s:=by
 refine codeAny_of_tree ?_
 show wpAny _ A.in1 (do checkBuiltinCall "set.__new__" ⟨[.type "set"],[]⟩;again (.builtin "set.__new__" ⟨[.type "set"],[]⟩)) _ _ s
 refine wpAny_bind (wpAny_of_eq F.newCall_set_0 (wpAny_pure ⟨plainId_quiet F.plain_set_new _,codeAny_builtin F.entry_set_new ?_⟩));rw[Around.under_plainId F.plain_set_new _];unfold Builtin.«set.__new__» Builtin.Frozenset.newClass;have hsub:=sub_set_self;obtain⟨hp,g,d,tk,os⟩:=s;dsimp only
 wp_walk
 refine wpAny_askSetting (wpAny_pure ?_);dsimp only;simp only[newObj];refine wpAny_bind (wpAny_alloc (wpAny_pure ?_));exact wpAny_pure h
set_option maxHeartbeats 1000000 in
theorem zjN {Q:Value->Shared->Prop}(h:PSet w (s.heap.push (zeW w)) s.heap.objs.size []->Q (.ref s.heap.objs.size) { s with heap:=s.heap.push (zeW w) }):
  wpAny (model prog w) A (call (.type "set") []) Q E s:=by
 have hP:PSet w (s.heap.push (zeW w)) s.heap.objs.size []:=by
  refine⟨⟨_,#[],0,_,Heap.get?_push_size _ rfl,⟨rfl,rfl,rfl⟩,rfl,?_,?_,⟨rfl,λ i p e h1=>by simp at h1⟩⟩,λ p hp=>by simp at hp⟩
  ·refine⟨⟨⟨?_,?_,?_,?_,?_⟩,?_,?_,?_,?_⟩,?_⟩ <;> simp[SetTable.fresh,SetTable.fill]
   ·exact .inl rfl
  ·intro e;rw[e];exact⟨rfl,rfl⟩
 have h:=h hP;clear hP;refine q21 F.called_set.mro λ c tl hmro=>?_;have hmade:=F.called_set.made;have hsub:=F.called_set.sub;refine wpAny_call (codeAny_of_tree ?_)
 show wpAny _ _ (callAny (.type "set") _) _ _ _
 refine wpAny_pure ⟨Code.quiet_builtin _ (by decide +kernel),codeAny_builtin F.entry_type_call ?_⟩;rw[Around.under_plain (weight_type_call_type "set" [] []) rfl];have h1:=F.called_set.notType;have h2:=F.called_set.canCreate;have hct:=F.typeCall_set_0
 repeat (any_goals (first|assumption|wp_step))
 refine codeAny_mono (ztN (E:=E) (Q1:=λ obj s₁=>obj=.ref s.heap.objs.size/\s₁={ s with heap:=s.heap.push (zeW w) }) ⟨rfl,rfl⟩) λ r s₁ hr=>?_;cases r with
 | error e=>exact hr
 | ok fl=>
  cases fl with
  | ret obj=>
   obtain⟨rfl,rfl⟩:=hr;have hS:(s.heap.push (zeW w)).get? s.heap.objs.size=some (zeW w):=Heap.get?_push_size _ rfl;have hT:Shared.TypeIs { s with heap:=s.heap.push (zeW w) } (.ref s.heap.objs.size) "set" := ⟨_,hS,rfl⟩
   have hli:=F.called_set.init.lookup;have hbi:=F.called_set.init.bind (.ref s.heap.objs.size)
   repeat (any_goals (first|assumption|wp_step))
   refine codeAny_mono (codeAny_call_builtin (R:=wants (λ r s2=>r=.none/\Q (.ref s.heap.objs.size) s2) E) F.called_set.init.plain F.entry_set_init (check_set_init hT ?_)) λ r2 s2 hr2=>?_
   ·unfold Builtin.«set.__init__» noKeywords
    wp_walk
    exact⟨rfl,h⟩
   ·cases r2 with
    | error e=>exact hr2
    | ok fl2=>
     cases fl2 with
     | ret r=>
      obtain⟨rfl,hq⟩:=hr2
      repeat (any_goals (first|assumption|wp_step))
     | _=>exact hr2.elim
  | _=>exact hr.elim
theorem in_set {Q:Value->Shared->Prop}(hu:A.units+5<cLine)(S:PSet w s.heap a l)(hx:IsPt s.heap p x)(hb:zdN p)
  (h:∀ tk,Q (.bool (decide (p∈l))) { s with toks:=tk }):wpAny (model prog w) A (compareOp .In x (.ref a)) Q E s:=by
 show wpAny _ _ (do return .bool (<- contains (.ref a) x)) Q E s
 refine wpAny_bind ?_;unfold contains
 try with_reducible refine wpAny_holding ?_
 refine wpAny_bind (wpAny_specialOf S.typeIs F.slot_set_contains.lookup ?_)
 show wpAny _ _ (if (some (Value.builtin "set.__contains__")==some Value.none)=true then _ else _) _ E s
 rw[if_neg (by rw[beq_builtin_none];exact Bool.false_ne_true)];refine wpAny_bind (wpAny_callSpecialUnlessNone?_slot (name:=Str.ofString "__contains__") S.typeIs F.slot_set_contains
  (wpAny_call_entry F.slot_set_contains S.typeIs entry_set_contains ?_ (F.args_set_contains_2 _ _)))
 delta Builtin.«frozenset.__contains__»
 refine wpAny_bind (wpAny_of_eq (a:=(a,x)) rfl ?_);refine wpAny_bind (m:=Sem.tryCatch _ _) (wpAny_tryCatch ?_);refine znK (A:=A.in1) (by show A.units+1<cLine;exact lq7 hu rfl) S hx hb λ tk=>?_;exact wpAny_pure ⟨_,rfl,wpAny_truthy_bool (wpAny_pure (h _))⟩
theorem znN {pl:Sem Bool}{Q:Value×List Value->Shared->Prop}(S:PSet w s.heap a l)(h:Q (.builtin "set.add",[.ref a]) s):
  wpAny (model prog w) A (getMethod (.ref a) "add" pl) Q E s:=
 getMethod_builtin S.typeIs F.plainAttrs_set F.slot_set_add F.type_set_add S.noDict h
theorem zqA {Q:Value->Shared->Prop}(hu:A.units+5<cLine)(S:PSet w s.heap a l)(hx:IsPt s.heap p x)(hb:zdN p)
  (h1:p∈l->∀ tk,Q .none { s with toks:=tk })
  (h2:p∉l->∀ h' l' tk,Heap.SameBut a s.heap h'->l'.Perm (p::l)->PSet w h' a l'->Q .none { s with heap:=h',toks:=tk }):
  wpAny (model prog w) A (call (.builtin "set.add") [.ref a,x]) Q E s:=by
 refine wpAny_call_entry F.slot_set_add S.typeIs F.entry_set_add ?_ (F.args_set_add_2 _ _)
 delta Builtin.«set.add»
 refine wpAny_bind (wpAny_of_eq (a:=(a,x)) rfl ?_);refine wpAny_bind (m:=setAdd a x) ?_;refine wp_setAdd (A:=A.in1) (by show A.units+1<cLine;exact lq7 hu rfl) S hx hb (by have:=S.length_le;exact lq3 this rfl) (λ h tk=>?_) (λ h h' l' tk a1 a2 a3=>?_)
 ·exact wpAny_pure ⟨_,rfl,h1 h tk⟩
 ·exact wpAny_pure ⟨_,rfl,h2 h h' l' tk a1 a2 a3⟩
end
section
variable {prog:Program}{w:World}{A:Around}{E:Value->Shared->Prop}{s:Shared}{a b:Addr}{l m:List Pt}{p:Pt}{x:Value}
theorem znS {pl:Sem Bool}{Q:Value×List Value->Shared->Prop}(S:PSet w s.heap a l)(h:Q (.builtin "set.pop",[.ref a]) s):
  wpAny (model prog w) A (getMethod (.ref a) "pop" pl) Q E s:=
 getMethod_builtin S.typeIs F.plainAttrs_set F.slot_set_pop F.type_set_pop S.noDict h
theorem ziX {pl:Sem Bool}{Q:Value×List Value->Shared->Prop}(S:PSet w s.heap a l)(h:Q (.builtin "set.update",[.ref a]) s):
  wpAny (model prog w) A (getMethod (.ref a) "update" pl) Q E s:=
 getMethod_builtin S.typeIs F.plainAttrs_set F.slot_set_update F.type_set_update S.noDict h
theorem zqZ {Q:Value->Shared->Prop}(S:PSet w s.heap a l)(hne:l≠[])
  (h:∀ (i:Nat) (p:Pt) (v:Value) (h':Heap) (d:Drawn),l[i]?=some p->Heap.SameBut a s.heap h'->PSet w h' a (l.eraseIdx i)->IsPt h' p v->Q v { s with heap:=h',drawn:=d }):
  wpAny (model prog w) A (call (.builtin "set.pop") [.ref a]) Q E s:=by
 refine wpAny_call_entry F.slot_set_pop S.typeIs F.entry_set_pop ?_ (F.args_set_pop_1 _)
 delta Builtin.«set.pop»
 refine wpAny_bind (wpAny_of_eq (a:=a) rfl ?_);refine wpAny_bind (wp_setPop S hne λ i p v h' d h1 h2 h3 h4=>?_);exact wpAny_pure ⟨_,rfl,h i p v h' d h1 h2 h3 h4⟩
theorem zkE {Q:Value->Shared->Prop}(hu:A.units+5<cLine)(S:PSet w s.heap a l)(So:PSet w s.heap b m)(hab:a≠b)
  (h:∀ h' l',Heap.SameBut a s.heap h'->(∀ q,q∈l'↔q∈l\/q∈m)->PSet w h' a l'->Q .none { s with heap:=h' }):
  wpAny (model prog w) A (call (.builtin "set.update") [.ref a,.ref b]) Q E s:=by
 refine wpAny_call_entry F.slot_set_update S.typeIs F.entry_set_update ?_ (F.args_set_update_2 _ _)
 delta Builtin.«set.update»
 refine wpAny_bind (wpAny_of_eq (a:=(a,[.ref b])) rfl ?_);dsimp only;refine wpAny_bind ?_;rw[List.forIn_cons];refine wpAny_bind (wpAny_bind ?_);unfold Builtin.Frozenset.updateFrom Builtin.Frozenset.isAnySet;refine wpAny_bind (wpAny_bind (wpAny_isInstance So.typeIs sub_set_self ?_));refine wpAny_pure ?_;rw[if_pos rfl];unfold Builtin.Frozenset.addrOf;refine wpAny_bind (wpAny_pure ?_);unfold Builtin.Frozenset.merge;refine q46 (id So.obj) λ o2 es2 ep2 t2 ho2 hxs2 hd2 I2 hbt2 El2=>?_;have hep:∀ (s':Shared) (R:Nat->Shared->Prop),s'.heap.get? b=s.heap.get? b->R ep2 s'->wpAny (model prog w) A.in1 (setEpoch b) R E s':=λ s' R e r=>by
  unfold setEpoch;exact wpAny_bind (wpAny_setState_of (e.trans ho2) hd2 (zbD I2) (wpAny_pure r))
 refine wpAny_bind (hep s _ rfl ?_);refine ztP (A:=A.in1) (by show A.units+1<cLine;exact lq7 hu rfl) S So hab (λ s' R e r=>?_) λ h' l' h1 h2 h3=>?_
 ·unfold Builtin.Frozenset.unchanged
  refine wpAny_bind (hep s' _ e ?_);refine zdA (by simp) ?_;exact wpAny_pure r
 ·refine wpAny_pure ?_
  dsimp only;rw[List.forIn_nil];exact wpAny_pure (wpAny_pure ⟨_,rfl,h h' l' h1 h2 h3⟩)
end
namespace SF
theorem slot_next:Slot "set_iterator" "__next__" "set_iterator.__next__":=
 .of (owner := "set_iterator") (n := "__next__") (by rw[typeLookup_type,builtinLookup_eq_fast];kernel_rfl) (by decide +kernel) (by decide +kernel) (by decide +kernel)
  (by first|exact .inl (by decide +kernel) | exact .inr (by decide +kernel)) (by rw[isSubtype_type];kernel_rfl)
theorem entry_next:entryFor table "set_iterator.__next__" = some Builtin.«set_iterator.__next__»:=entryFor_of_tree (by kernel_rfl)
theorem args_next (a:Value):argsOk "set_iterator.__next__" ⟨[a],[]⟩:=by unfold argsOk;kernel_rfl
theorem entry_iter:entryFor table "set.__iter__" = some Builtin.«frozenset.__iter__»:=
 entryFor_alias (id' := "frozenset.__iter__") (by kernel_rfl) rfl (by decide +kernel) (by kernel_rfl)
end SF
noncomputable def zjO (w:World)(a:Addr)(es:Array (Int×Value))(ep:Nat):Array (Int×Value):=if w.params.followText "set-order" then pickOrder (w.params.setOrder a ep) es else es
theorem ztQ (w:World)(a:Addr)(es:Array (Int×Value))(ep:Nat):(zjO w a es ep).toList.Perm es.toList:=by
 unfold zjO;split
 ·exact zfE _ _
 ·exact List.Perm.refl _
noncomputable def zcB (w:World)(t:SetTable)(i:Nat):Nat:=if w.params.followText "set-order" then 0 else if i=0 then 0 else t.place.getD (i-1) 0+1
noncomputable abbrev zaX (slot i:Nat)(a:Addr)(n ep:Nat):Obj:={ cls:=.type "set_iterator",data:=.fields #[rawInt slot,rawInt i,.ref a,rawInt n,rawInt ep] }
section
variable {prog:Program}{w:World}{A:Around}{E:Value->Shared->Prop}{s:Shared}{a it:Addr}{l m:List Pt}{p:Pt}{x:Value}
variable {o:Obj}{es:Array (Int×Value)}{ep:Nat}{t:SetTable}
theorem ziQ {Q:Value->Shared->Prop}(ho:s.heap.get? a=some o)(hx:o.ExactSet)(hd:o.data=.set es ep t)(I:Tab.Inv t (es.toList.map (·.1)))
  (hbt:w.params.followText "set-order" = false->t.led=true/\t.plain=true)
  (h:Q (.ref s.heap.objs.size) { s with heap:=s.heap.push (zaX 0 0 a es.size ep) }):wpAny (model prog w) A (pyIter (.ref a)) Q E s:=by
 have hT:s.TypeIs (.ref a) "set" := ⟨o,ho,hx.1⟩
 have hf:=zbD I;refine wpAny_pyIter_slot hT F.slot_set_iter (wpAny_call_entry F.slot_set_iter hT SF.entry_iter ?_ (F.args_set_iter_1 _))
 delta Builtin.«frozenset.__iter__»
 refine wpAny_bind (wpAny_of_eq (a:=a) rfl ?_);unfold Builtin.Frozenset.sizeOf;refine wpAny_bind (wpAny_bind (wpAny_setEntries_of ho hd hf (wpAny_pure ?_)));unfold setDrawn;refine wpAny_bind (wpAny_bind (wpAny_setState_of ho hd hf ?_));refine wpAny_bind (zbE (wpAny_pure ?_));have e0:(!w.params.followText "set-order" && (!t.plain&&decide (es.size>1)))=false:=by
  cases hb:w.params.followText "set-order" with
  | true=>rfl
  | false=>rw[(hbt hb).2];rfl
 show wpAny _ _ (if (!w.params.followText "set-order" && (!t.plain&&decide (es.size>1)))=true then _ else _) _ _ _
 rw[e0,if_neg (by decide)];refine wpAny_bind ?_;refine wpAny_pure ?_;unfold setEpoch;refine wpAny_bind (wpAny_bind (wpAny_setState_of ho hd hf (wpAny_pure ?_)));exact wpAny_bind (wpAny_newObj_type (wpAny_pure ⟨_,rfl, "set_iterator",_,⟨_,Heap.get?_push_size _ rfl,rfl⟩,SF.slot_next.lookup,h⟩))
theorem znU (I:Tab.Inv t (es.toList.map (·.1))){i:Nat}(hi:i<=es.size):SetTable.below t.place (if i=0 then 0 else t.place.getD (i-1) 0+1)=i:=by
 have hsz:t.place.size=es.size:=by rw[I.size];simp
 have hs:=I.sp;rw[<- hsz]at hi;refine q03 (Tab.below_spec hs (if i=0 then 0 else t.place.getD (i-1) 0+1)) λ h1 h2 h3=>?_;cases i with
 | zero=>
  rw[if_pos rfl]at h1 h2 ⊢;exact Nat.eq_zero_of_not_pos λ hp=>Nat.not_lt_zero _ (h2 0 (Nat.lt_of_lt_of_le hp h1) hp)
 | succ k=>
  rw[if_neg (Nat.succ_ne_zero k),show t.place.getD (k+1-1) 0=t.place[k] from dif_pos hi]at h1 h2 h3 ⊢;exact Nat.le_antisymm (Nat.le_of_not_lt λ hlt=>absurd (List.pairwise_iff_getElem.mp hs k (k+1) hi (Nat.lt_of_lt_of_le hlt h1) (Nat.lt_succ_self k)) (Nat.not_lt.mpr (Nat.le_of_lt_succ (h2 (k+1) (Nat.lt_of_lt_of_le hlt h1) hlt)))) (Nat.le_of_not_lt λ hlt=>Nat.not_succ_le_self _ (h3 k hi (Nat.le_of_lt_succ hlt)))
theorem zeY {i:Nat}{x:Int×Value}{Q:Option Value->Shared->Prop}(hit:s.heap.get? it=some (zaX (zcB w t i) i a es.size ep))(ho:s.heap.get? a=some o)(hx:o.ExactSet)(hd:o.data=.set es ep t)(I:Tab.Inv t (es.toList.map (·.1)))
  (hbt:w.params.followText "set-order" = false->t.led=true/\t.plain=true) (he:(zjO w a es ep)[i]?=some x)
  (h:∀ h',h'.get? it=some (zaX (zcB w t (i+1)) (i+1) a es.size ep)->Heap.SameBut it s.heap h'->Q (some x.2) { s with heap:=h' }):wpAny (model prog w) A (pyNext (.ref it)) Q E s:=by
 have hT:s.TypeIs (.ref it) "set_iterator" := ⟨_,hit,rfl⟩
 have hf:=zbD I;unfold pyNext;refine wpAny_bind (wpAny_attempt (wpAny_callSpecial?_slot (name:=Str.ofString "__next__") hT SF.slot_next
  (wpAny_call_entry SF.slot_next hT SF.entry_next ?_ (SF.args_next _))))
 delta Builtin.«set_iterator.__next__»
 refine wpAny_bind (wpAny_of_eq (a:=(.ref it,[])) rfl ?_);dsimp only;refine wpAny_bind (wpAny_fieldsOf hit rfl ?_)
 show wpAny _ _ (setEntries a >>= _) _ _ _
 refine wpAny_bind (wpAny_setEntries_of ho hd hf ?_);rw[if_neg (by simp)]
 show wpAny _ _ (setNext a (zcB w t i:Int).toNat (i:Int).toNat (ep:Int).toNat >>= _) _ _ _
 refine wpAny_bind (m:=setNext a (zcB w t i) i ep) ?_;have key:wpAny (model prog w) A.in1 (setNext a (zcB w t i) i ep) (λ r s'=>r=some (x.2,zcB w t (i+1))/\s'=s) (λ _ _=>False) s:=by
  unfold setNext;refine wpAny_bind (wpAny_setState_of ho hd hf ?_);refine wpAny_bind (zbE ?_);cases hb:w.params.followText "set-order" with
  | true=>
   rw[if_pos rfl];dsimp only;rw[if_neg (by simp)];unfold setWalk;refine wpAny_bind (wpAny_bind (wpAny_setState_of ho hd hf ?_));refine wpAny_bind (zbE ?_);rw[hb,if_pos rfl];refine wpAny_bind (wpAny_askSetting (wpAny_pure (wpAny_pure ?_)));have hw:zjO w a es ep=pickOrder (w.params.setOrder a ep) es:=by unfold zjO;rw[hb];rfl
   rw[hw]at he;refine⟨?_,rfl⟩
   show Option.map _ ((pickOrder (w.params.setOrder a ep) es)[i]?)=_
   rw[he]
   simp[zcB,hb]
  | false=>
   obtain⟨hl,hp⟩:=hbt hb;rw[if_neg (by decide)]
   show wpAny _ _ (if (!t.plain&&decide (es.size>1))=true then _ else _) _ _ _
   rw[hp,if_neg (by simp)];refine wpAny_bind ?_
   show wpAny _ _ (if (!t.led&&!es.isEmpty)=true then _ else _) _ _ _
   rw[hl,if_neg (by simp)];refine wpAny_pure (wpAny_pure ?_);have hw:zjO w a es ep=es:=by unfold zjO;rw[hb];rfl
   rw[hw]at he;have hlt:i<es.size:=(Array.getElem?_eq_some_iff.mp he).1;have hsz:t.place.size=es.size:=by rw[I.size];simp
   have hbel:=znU I (i:=i) (by lia);have hsl:zcB w t i=if i=0 then 0 else t.place.getD (i-1) 0+1:=by unfold zcB;rw[hb];rfl
   refine⟨?_,rfl⟩;rw[hsl,hbel,he,Array.getElem?_eq_getElem (by exact lq28 hsz hlt:i<t.place.size)]
   simp[zcB,hb,Array.getD,(by exact lq28 hsz hlt:i<t.place.size)]
 refine wpAny_mono key (λ r s' hr=>?_) λ _ _ e=>e.elim;obtain⟨rfl,rfl⟩:=hr;dsimp only;refine wpAny_bind (wpAny_setField hit rfl (by simp) ?_);refine wpAny_bind (wpAny_setField (Heap.get?_update_self _ hit rfl) rfl (by simp) (wpAny_pure ⟨x.2,rfl,wpAny_pure (h _ ?_ ((Heap.SameBut.update ..).trans (Heap.SameBut.update ..)))⟩));refine (Heap.get?_update_self _ (Heap.get?_update_self _ hit rfl) rfl).trans ?_
 rfl
theorem zfP {i:Nat}{Q:Option Value->Shared->Prop}(hh:A.handled=none)(hit:s.heap.get? it=some (zaX (zcB w t i) i a es.size ep))(ho:s.heap.get? a=some o)(hx:o.ExactSet)(hd:o.data=.set es ep t)(I:Tab.Inv t (es.toList.map (·.1)))
  (hbt:w.params.followText "set-order" = false->t.led=true/\t.plain=true) (hi:i=es.size)
  (h:∀ h',Heap.ExtBut it s.heap h'->Q none { s with heap:=h' }):wpAny (model prog w) A (pyNext (.ref it)) Q E s:=by
 have hT:s.TypeIs (.ref it) "set_iterator" := ⟨_,hit,rfl⟩
 have hf:=zbD I;unfold pyNext;refine wpAny_bind (wpAny_attempt (wpAny_callSpecial?_slot (name:=Str.ofString "__next__") hT SF.slot_next
  (wpAny_call_entry SF.slot_next hT SF.entry_next ?_ (SF.args_next _))))
 delta Builtin.«set_iterator.__next__»
 refine wpAny_bind (wpAny_of_eq (a:=(.ref it,[])) rfl ?_);dsimp only;refine wpAny_bind (wpAny_fieldsOf hit rfl ?_)
 show wpAny _ _ (setEntries a >>= _) _ _ _
 refine wpAny_bind (wpAny_setEntries_of ho hd hf ?_);rw[if_neg (by simp)]
 show wpAny _ _ (setNext a (zcB w t i:Int).toNat (i:Int).toNat (ep:Int).toNat >>= _) _ _ _
 simp only[Int.toNat_natCast];refine wpAny_bind ?_;have key:wpAny (model prog w) A.in1 (setNext a (zcB w t i) i ep) (λ r s'=>r=none/\s'=s) (λ _ _=>False) s:=by
  unfold setNext;refine wpAny_bind (wpAny_setState_of ho hd hf ?_);refine wpAny_bind (zbE ?_);cases hb:w.params.followText "set-order" with
  | true=>
   rw[if_pos rfl];dsimp only;rw[if_neg (by simp)];unfold setWalk;refine wpAny_bind (wpAny_bind (wpAny_setState_of ho hd hf ?_));refine wpAny_bind (zbE ?_);rw[hb,if_pos rfl];refine wpAny_bind (wpAny_askSetting (wpAny_pure (wpAny_pure ?_)));refine⟨?_,rfl⟩;have hp:=(zfE (w.params.setOrder a ep) es).length_eq;simp only[Array.length_toList]at hp
   show Option.map _ ((pickOrder (w.params.setOrder a ep) es)[i]?)=_
   rw[Array.getElem?_eq_none (by lia)]
   rfl
  | false=>
   obtain⟨hl,hp⟩:=hbt hb;rw[if_neg (by decide)]
   show wpAny _ _ (if (!t.plain&&decide (es.size>1))=true then _ else _) _ _ _
   rw[hp,if_neg (by simp)];refine wpAny_bind ?_
   show wpAny _ _ (if (!t.led&&!es.isEmpty)=true then _ else _) _ _ _
   rw[hl,if_neg (by simp)];refine wpAny_pure (wpAny_pure ?_);have hbel:=znU I (i:=i) (by lia);have hsl:zcB w t i=if i=0 then 0 else t.place.getD (i-1) 0+1:=by unfold zcB;rw[hb];rfl
   refine⟨?_,rfl⟩;rw[hsl,hbel,Array.getElem?_eq_none (by lia:es.size<=i)]
 refine wpAny_mono key (λ r s' hr=>?_) λ _ _ e=>e.elim;obtain⟨rfl,rfl⟩:=hr;dsimp only;refine wpAny_bind (wpAny_setField hit rfl (by simp) ?_)
 show wpAny _ _ (newExc (.type "StopIteration") [] >>= _) _ _ _
 refine wpAny_bind ?_;simp only[newExc,newTuple];refine wpAny_bind (wpAny_newObj_type ?_ (by size_fits));refine wpAny_bind (m:=firstArgMember _ _) (wpAny_of_eq (a:=Value.none) (by first|rfl | (simp only[firstArgMember];rfl)) ?_);refine wpAny_newObj_type ?_ (by size_fits)
 delta raiseNew
 dsimp only;refine wpAny_bind (wpAny_handled ?_);rw[show A.in1.handled=none from hh];refine wpAny_bind (wpAny_pure (wpAny_throw ?_));refine wpAny_bind (wpAny_isInstance (T := "StopIteration") (b:=true) ⟨_,Heap.get?_push_size _ rfl,rfl⟩ isSubtype_stop ?_);exact wpAny_pure (h _ (((Heap.SameBut.update ..).extBut.push _).push _))
end
noncomputable def Ctx2 (o:Obj):Prop:=∃ vs,o.data=.fields vs/\vs[2]?=some .none
noncomputable def C2 (h:Heap)(e:Addr):Prop:=∃ o,h.get? e=some o/\Ctx2 o
noncomputable def Kp2 (f:Obj->Obj):Prop:=∀ o,Ctx2 o->Ctx2 (f o)
inductive K2 {α:Type}:Sem α->Prop
 | pure (a:α):K2 (.pure a)
 | raise (e:Value):K2 (.raise e)
 | unsupported (w:String):K2 (.unsupported w)
 | load (a:Addr) (p:Option Value) (k:Obj->Sem α) (h:∀ x,K2 (k x)):K2 (.load a p k)
 | update (a:Addr) (p:Option Value) (f:Obj->Obj) (k:Unit->Sem α) (hf:Kp2 f) (h:∀ x,K2 (k x)):K2 (.update a p f k)
 | alloc (o:Obj) (k:Addr->Sem α) (h:∀ x,K2 (k x)):K2 (.alloc o k)
 | stack (k:List (Code×Pos)->Sem α) (h:∀ x,K2 (k x)):K2 (.stack k)
theorem C2.update {h:Heap}{e a:Addr}{f:Obj->Obj}(hc:C2 h e)(hf:Kp2 f):C2 (h.update a f) e:=by
 refine q12 hc λ o ho hx=>?_
 by_cases q:a=e
 ·subst q
  refine q12 (hf o hx) λ vs hd h2=>?_;exact⟨f o,Heap.get?_update_self f ho (Obj.isFreed_of_fields hd),vs,hd,h2⟩
 ·exact⟨o,(Heap.get?_update_other h f q).trans ho,hx⟩
theorem K2.wp {α:Type}{t:Sem α}(h:K2 t){M:Model}{Γ:Ctx}{Q:α->Pos->Shared->Prop}{E:Value->Pos->Shared->Prop}{e:Addr}:∀ {p:Pos} {s:Shared},Sem.wp M Γ t Q E p s->C2 s.heap e->Sem.wp M Γ t (λ a p s=>Q a p s/\C2 s.heap e) (λ v p s=>E v p s/\C2 s.heap e) p s:=by
 induction h with
 | pure a=>exact λ h c=>⟨h,c⟩
 | raise v=>exact λ h c=>⟨h,c⟩
 | unsupported w=>exact λ h c=>h
 | load a p k h ih=>exact λ u9 c=>q12 u9 λ o ho h=>⟨o,ho,ih o h c⟩
 | update a p f k hf h ih=>exact λ u9 c=>q02 u9 λ ho h=>⟨ho,ih () h (c.update hf)⟩
 | alloc o k h ih=>exact λ h c=>ih _ h (let ⟨x,hx,y⟩:=c;⟨x,Heap.get?_push_of_some _ hx,y⟩)
 | stack k h ih=>exact λ h c=>ih _ h c
theorem K2.keep {α:Type}{t:Sem α}(h:K2 t){M:Model}{A:Around}{Q:α->Shared->Prop}{E:Value->Shared->Prop}{e:Addr}{s:Shared}(hw:wpAny M A t Q E s)(c:C2 s.heap e):wpAny M A t (λ a s=>Q a s/\C2 s.heap e) (λ v s=>E v s/\C2 s.heap e) s:=
 λ Γ p hΓ=>h.wp (hw Γ p hΓ) c
theorem K2.bind {α β:Type}{m:Sem α}{f:α->Sem β}(h:K2 m)(hf:∀ a,K2 (f a)):K2 (m >>= f):=by
 show K2 (m.bind f)
 induction h with
 | pure a=>exact hf a
 | raise v=>exact .raise v
 | unsupported w=>exact .unsupported w
 | load a p k h ih=>exact .load a p _ ih
 | update a p g k hg h ih=>exact .update a p g _ hg ih
 | alloc o k h ih=>exact .alloc o _ ih
 | stack k h ih=>exact .stack _ ih
theorem K2.ite {α:Type}{c:Prop}[Decidable c]{a b:Sem α}(h:K2 a)(h':K2 b):K2 (if c then a else b):=by
 split
 ·exact h
 ·exact h'
theorem K2.ret {α:Type}(a:α):K2 (Pure.pure a:Sem α):=.pure a
theorem K2.no {α:Type}(w:String):K2 (PySem.unsupported w:Sem α):=.unsupported w
theorem K2.ld (a:Addr):K2 (PySem.load a):=.load a _ _ λ o=>.pure o
theorem K2.fieldsOf (v:Value):K2 (PySem.fieldsOf v):=by
 unfold PySem.fieldsOf;cases v with
 | ref a=>
  refine K2.bind (K2.ld a) λ o=>?_;cases o.data <;> first|exact K2.ret _ | exact K2.no _
 | _=>exact K2.no _
theorem K2.field (v:Value)(i:Nat):K2 (PySem.field v i):=by
 refine K2.bind (K2.fieldsOf v) λ vs=>?_;cases vs[i]? <;> first|exact K2.ret _ | exact K2.no _
theorem zvQ {i:Nat}{v:Value}(h:i≠2):Kp2 (Obj.mapFields (·.setIfInBounds i v)):=λ o u9=>q12 u9 λ vs hd h2=>
 ⟨_,Obj.data_mapFields hd _,(Array.getElem?_setIfInBounds_ne h).trans h2⟩
theorem K2.setField (v:Value){i:Nat}(x:Value)(h:i≠2):K2 (PySem.setField v i x):=by
 cases v with
 | ref a=>
  show K2 (updateField a i x)
  refine K2.bind (K2.ld a) λ o=>?_;cases o.data with
  | fields vs=>exact K2.ite (.update a _ _ _ (zvQ h) λ u=>.pure u) (K2.no _)
  | _=>exact K2.no _
 | _=>exact K2.no _
theorem K2.setFlight (e:Value)(f:Option Addr):K2 (PySem.setFlight e f):=
 K2.bind (K2.field e 1) λ tb=>K2.ite (K2.setField _ _ (by decide)) (K2.ret _)
theorem K2.behind (env:Env)(outer:List Env):K2 (behindIsImport env outer):=by
 unfold behindIsImport;refine K2.ite (K2.ret _) (K2.ite (K2.ret _) (K2.bind (K2.field _ _) λ _=>K2.ret _))
theorem K2.stk:K2 PySem.stack:=.stack _ λ x=>.pure x
theorem K2.back (env:Env)(i:Bool)(outer:List Env):K2 (keptBack env i outer):=by
 cases outer with
 | nil=>exact K2.ite (K2.ret _) (K2.bind (K2.bind K2.stk λ _=>K2.ret _) λ _=>K2.ret _)
 | cons a l=>exact K2.ret _
theorem K2.ready:∀ l:List Env,K2 (readyFrames l)
 | []=>K2.ret _
 | env::outer=>by
  unfold readyFrames;cases env.frame with
  | none=>exact K2.no _
  | some f=>
   refine K2.bind (K2.ld f) λ o=>K2.ite (K2.ret _) (K2.bind (K2.behind env outer) λ i=>K2.bind (K2.back env i outer) λ b=>K2.bind (.update f _ _ _ (λ o h=>h) λ u=>.pure u) λ _=>K2.ready outer)
theorem K2.frameOf (env:Env):K2 (PySem.frameOf env):=by
 refine K2.bind (K2.bind K2.stk λ _=>K2.ret _) λ l=>K2.bind ?_ λ o=>?_
 ·cases (l.dropWhile λ x=>x.frame != env.frame) with
  | nil=>exact K2.ret _
  | cons a r=>exact K2.bind (K2.ready _) λ _=>K2.ret _
 ·cases o with
  | none=>exact K2.no _
  | some f=>exact K2.ret _
theorem K2.place (f:Addr)(b:Bool):K2 (entryPlaceOf f b):=by
 refine K2.bind K2.stk λ acts=>?_;cases acts.find? (λ x=>x.1.env?.bind (·.frame)==some f) <;> exact K2.ret _
theorem K2.objAsIs (t:String)(d:Data):K2 (newObjAsIs (.type t) d):=.alloc _ _ λ a=>.pure _
theorem K2.newFields (t:String)(vs:List Value):K2 (newFields t vs):=by
 unfold PySem.newFields newObj;dsimp only;refine K2.ite ?_ (K2.objAsIs _ _);exact K2.bind (K2.no _) λ _=>K2.objAsIs _ _
theorem K2.note (e:Value)(env:Env):K2 (noteFrame e env):=by
 unfold noteFrame;cases env.frame with
 | none=>exact K2.no _
 | some f=>
  refine K2.bind (K2.field e 1) λ head=>?_;have last:K2 (do PySem.setField e 1 (<- EntryCells.newEntry head (<- PySem.frameOf env) .none (rawInt f) .none (<- entryPlaceOf f (head != .none)))):=
   K2.bind (K2.frameOf env) λ _=>K2.bind (K2.place _ _) λ _=>K2.bind (K2.newFields _ _) λ _=>K2.setField _ _ (by decide)
  refine K2.ite (K2.bind (K2.field head 3) λ x=>K2.ite (K2.ret _) (K2.bind (K2.setField _ _ (by decide)) λ _=>last)) last
theorem zqW:entryFor table "proto.unchain" = some Builtin.«proto.unchain»:=entryFor_of_fast (by kernel_rfl)
noncomputable def HdC (h:Heap)(A:Around):Prop:=∀ v,A.handled=some v->∃ b,v=.ref b/\C2 h b
section
variable {prog:Program}{w:World}{A:Around}{E:Value->Shared->Prop}{s:Shared}
theorem HdC.keep {h h':Heap}(x:HdC h A)(k:∀ b o,h.get? b=some o->h'.get? b=some o):HdC h' A:=λ v e=>let ⟨b,r,o,ho,c⟩:=x v e;⟨b,r,o,k b o ho,c⟩
theorem raiseC {α:Type}{Q:α->Shared->Prop}{a:Addr}{o:Obj}{vs:Array Value}(hx:HdC s.heap A)(ha:∀ b,C2 s.heap b->A.handled=some (.ref b)->b≠a)(ho:s.heap.get? a=some o)(hd:o.data=.fields vs)(hz:2<vs.size)
  (hE:∀ h' o',Heap.SameBut a s.heap h'->h'.get? a=some o'->o'.cls=o.cls->E (.ref a) { s with heap:=h' }):wpAny (model prog w) A (raiseNew (.ref a):Sem α) Q E s:=by
 unfold raiseNew;refine wpAny_bind (wpAny_handled ?_);cases e:A.handled with
 | none=>exact wpAny_bind (wpAny_pure (wpAny_throw (hE s.heap o (Heap.SameBut.refl ..) ho rfl)))
 | some v=>
  refine q12 (hx v e) ?_;intro b u0;cases u0;intro hc;have hne:=ha b hc e;refine q12 hc λ ob hob u8=>q12 u8 λ us hdb h2=>?_;dsimp only;rw[if_pos (show (Value.ref b != Value.ref a)=true by rw[bne_iff_ne];intro q;cases q;exact hne rfl)];refine wpAny_bind (wpAny_holding (wpAny_runValue (codeAny_builtin zqW ?_)))
  show wpAny _ _ (PySem.field (.ref b) 2 >>= _) _ _ s
  refine wpAny_bind (wpAny_field hob hdb h2 ?_);rw[if_pos (by decide)];refine wpAny_bind (wpAny_pure (wpAny_pure ?_));have ho:=ho
  show wpAny _ _ (PySem.setField (.ref a) 2 (.ref b) >>= _) _ _ s
  refine wpAny_bind (wpAny_setField ho hd hz ?_);exact wpAny_throw (hE _ _ (Heap.SameBut.update ..) (Heap.get?_update_self _ ho (Obj.isFreed_of_fields (Obj.data_mapFields hd _))) (Obj.cls_mapFields ..))
theorem stopC {α:Type}{Q:α->Shared->Prop}(hx:HdC s.heap A)
  (hE:∀ h' a o,(∀ b o,s.heap.get? b=some o->h'.get? b=some o)->h'.get? a=some o->o.cls=.type "StopIteration" -> E (.ref a) { s with heap:=h' }):
  wpAny (model prog w) A (newExc (.type "StopIteration") [] >>= λ e=>(raiseNew e:Sem α)) Q E s:=by
 refine wpAny_bind ?_;simp only[newExc,newTuple];refine wpAny_bind (wpAny_newObj_type ?_ (by size_fits));refine wpAny_bind (m:=firstArgMember _ _) (wpAny_of_eq (a:=Value.none) (by first|rfl | (simp only[firstArgMember];rfl)) ?_);refine wpAny_newObj_type ?_ (by size_fits);generalize hh1:s.heap.push _=h1;have k1:∀ b o,s.heap.get? b=some o->h1.get? b=some o:=λ b o e=>hh1▸Heap.get?_push_of_some _ e;refine raiseC (s:={ s with heap:=h1.push _ }) (hx.keep λ b o e=>Heap.get?_push_of_some _ (k1 b o e)) (λ b hb he q=>?_) (Heap.get?_push_size _ rfl) rfl (by simp;lia) λ h' o' sb ho' hc=>hE h' _ o' (λ b o e=>(sb.2 b ?_).trans (Heap.get?_push_of_some _ (k1 b o e))) ho' hc
 ·refine q12 (hx _ he) λ b' e' u8=>q12 u8 λ o ho _=>?_
  cases e';exact absurd (Heap.lt_size (k1 _ _ ho)) (by rw[q];exact Nat.lt_irrefl _)
 ·exact Nat.ne_of_lt (Heap.lt_size (k1 b o e))
theorem zuY {it l:Addr}{i:Nat}{items}{Q:Option Value->Shared->Prop}(hx:HdC s.heap A)
  (hit:s.heap.IsListIter it l i) (hl:s.heap.IsList l items) (hi:items[i]?=none)
  (hQ:∀ h',Heap.ExtBut it s.heap h'->Q none { s with heap:=h' }):wpAny (model prog w) A (pyNext (.ref it)) Q E s:=by
 refine q13 (id hit) λ o ho hcl hd=>?_;refine q13 hl λ ol hol _ u8=>q11 u8 λ nl hdl=>?_;unfold pyNext;refine wpAny_bind (wpAny_attempt (wpAny_callSpecial?_slot (name:=Str.ofString "__next__") hit.typeIs slot_listiter_next
  (wpAny_call_entry slot_listiter_next hit.typeIs entry_listiter_next ?_ (args_listiter_next _))))
 show wpAny _ _ (PySem.field (.ref it) 0 >>= _) _ _ s
 refine wpAny_bind (wpAny_field ho hd (x:=.ref l) rfl ?_)
 show wpAny _ _ (if (Value.ref l==Value.none)=true then _ else _) _ _ s
 rw[if_neg (show ¬ ((Value.ref l==Value.none)=true) from Bool.false_ne_true)]
 show wpAny _ _ (PySem.field (.ref it) 1 >>= _) _ _ s
 refine wpAny_bind (wpAny_field ho hd (x:=.int i 0) rfl ?_)
 show wpAny _ _ (seqItems? (.ref l) >>= _) _ _ s
 refine wpAny_bind (wpAny_seqItems hol hdl ?_);dsimp only;rw[Int.toNat_natCast,hi];refine wpAny_bind (wpAny_rule (wpAny_bind (wpAny_setField ho hd (by simp) ?_)));have hk:∀ b,C2 s.heap b->C2 (s.heap.update it (Obj.mapFields λ x=>x.setIfInBounds 0 Value.none)) b:=λ b h=>h.update (zvQ (by decide));refine stopC (s:={ s with heap:=_ }) (λ v e=>let ⟨b,r,c⟩:=hx v e;⟨b,r,hk b c⟩) λ h' a o' k ho' hcl'=>?_;refine wpAny_bind (wpAny_isInstance (s:={ s with heap:=h' }) (T := "StopIteration") (b:=true) ⟨_,ho',hcl'⟩ isSubtype_stop ?_);exact wpAny_pure (hQ _ λ b ob hb e=>k b ob ((Heap.SameBut.update ..).extBut b ob hb e))
open PyProof.Rows in
theorem range_end {it:Addr}{x left step:Int}{Q:Option Value->Shared->Prop}(hx:HdC s.heap A)(hit:IsRangeIter s.heap it x left step)(hl:left<=0)
  (hQ:∀ h',Heap.ExtBut it s.heap h'->Q none { s with heap:=h' }):wpAny (model prog w) A (pyNext (.ref it)) Q E s:=by
 have hT:s.TypeIs (.ref it) "range_iterator" := ⟨_,hit,rfl⟩
 unfold pyNext;refine wpAny_bind (wpAny_attempt (wpAny_callSpecial?_slot (name:=Str.ofString "__next__") hT F.slot_range_iterator_next
  (wpAny_call_entry F.slot_range_iterator_next hT F.entry_range_iterator_next ?_ (F.args_range_iterator_next_1 _))))
 show wpAny _ _ (PySem.field (.ref it) 0 >>= _) _ _ s
 refine wpAny_bind (wpAny_field hit rfl (x:=rawInt x) rfl ?_)
 show wpAny _ _ (PySem.field (.ref it) 1 >>= _) _ _ s
 refine wpAny_bind (wpAny_field hit rfl (x:=rawInt left) rfl ?_)
 show wpAny _ _ (PySem.field (.ref it) 2 >>= _) _ _ s
 refine wpAny_bind (wpAny_field hit rfl (x:=rawInt step) rfl ?_)
 show wpAny _ _ (if left<=0 then _ else _) _ _ s
 rw[if_pos hl];refine wpAny_bind (wpAny_rule ?_);refine wpAny_bind ?_;refine stopC hx λ h' a o' k ho' hcl'=>?_;refine wpAny_bind (wpAny_isInstance (s:={ s with heap:=h' }) (T := "StopIteration") (b:=true) ⟨_,ho',hcl'⟩ isSubtype_stop ?_);exact wpAny_pure (hQ _ λ b ob hb e=>k b ob e)
open PyProof.Rows in
theorem zrY {it t:Addr}{i:Nat}{items}{Q:Option Value->Shared->Prop}(hx:HdC s.heap A)
  (hit:IsTupIter s.heap it t i) (ht:IsTup s.heap t items) (hi:items[i]?=none)
  (hQ:∀ h',Heap.ExtBut it s.heap h'->Q none { s with heap:=h' }):wpAny (model prog w) A (pyNext (.ref it)) Q E s:=by
 refine q13 (id hit) λ o ho hc hd=>?_;refine q13 ht λ ol hol _ u8=>q11 u8 λ nl hdl=>?_;unfold pyNext;refine wpAny_bind (wpAny_attempt (wpAny_callSpecial?_slot (name:=Str.ofString "__next__") hit.typeIs slot_tupleiter_next
  (wpAny_call_entry slot_tupleiter_next hit.typeIs entry_tupleiter_next ?_ (args_tupleiter_next _))))
 show wpAny _ _ (PySem.field (.ref it) 0 >>= _) _ _ s
 refine wpAny_bind (wpAny_field ho hd (x:=.ref t) rfl ?_)
 show wpAny _ _ (if (Value.ref t==Value.none)=true then _ else _) _ _ s
 rw[if_neg (show ¬ ((Value.ref t==Value.none)=true) from Bool.false_ne_true)]
 show wpAny _ _ (PySem.field (.ref it) 1 >>= _) _ _ s
 refine wpAny_bind (wpAny_field ho hd (x:=.int i 0) rfl ?_)
 show wpAny _ _ (seqItems? (.ref t) >>= _) _ _ s
 refine wpAny_bind (wpAny_seqItems hol hdl ?_);dsimp only;rw[Int.toNat_natCast,hi];refine wpAny_bind (wpAny_rule (wpAny_bind (wpAny_setField ho hd (by simp) ?_)));have hk:∀ b,C2 s.heap b->C2 (s.heap.update it (Obj.mapFields λ x=>x.setIfInBounds 0 Value.none)) b:=λ b h=>h.update (zvQ (by decide));refine stopC (s:={ s with heap:=_ }) (λ v e=>let ⟨b,r,c⟩:=hx v e;⟨b,r,hk b c⟩) λ h' a o' k ho' hcl'=>?_;refine wpAny_bind (wpAny_isInstance (s:={ s with heap:=h' }) (T := "StopIteration") (b:=true) ⟨_,ho',hcl'⟩ isSubtype_stop ?_);exact wpAny_pure (hQ _ λ b ob hb e=>k b ob ((Heap.SameBut.update ..).extBut b ob hb e))
open PyProof.Rows in
theorem zxB {env:Env}{elts:List Expr}{x1}{pos:Pos}{t:Addr}{items:Array Value}{Q:Unit->Shared->Prop}(hx:HdC s.heap A)(ht:IsTup s.heap t items)
  (hn:(assignEach elts env).length=items.size) (hstar:(assignEach elts env).findIdx? (·.1)=none)
  (h:∀ h',Heap.ExtBut s.heap.objs.size s.heap h'->wpAny (model prog w) A (assignInOrder ((assignEach elts env).map (·.2)) items.toList) Q E { s with heap:=h' }):
  wpAny (model prog w) A (assign (.Tuple elts x1 pos) env (.ref t)) Q E s:=by
 rw[assign_Tuple];refine wpAny_bind (wpAny_standAt ?_);unfold unpack;rw[hn,hstar];refine wpAny_bind (wpAny_holding ?_);have hlt:t≠s.heap.objs.size:=by refine q12 ht λ o ho _=>?_;exact Nat.ne_of_lt (Heap.lt_size ho)
 unfold unpackItems notIterableAtAll;refine wpAny_bind (wpAny_bind (wpAny_specialOf ht.typeIs slot_tuple_iter.lookup ?_));refine wpAny_pure ?_;simp only[Bool.false_eq_true,if_false];refine wpAny_bind (wpAny_holding (iter_tuple ht ?_));refine wpAny_bind (wpAny_holding (draw_tuple hlt items.size 0 _ _ ⟨_,Heap.get?_push_size _ rfl,rfl,rfl⟩ (ht.push _) (by lia) λ h1' hit1 hs1=>?_));have hall:List.take items.size (List.drop 0 items.toList)=items.toList:=by
  rw[List.drop_zero];exact List.take_of_length_le (by simp)
 rw[hall,if_neg (by simp)];have kp:∀ b o,s.heap.get? b=some o->h1'.get? b=some o:=λ b o e=>hs1.extBut b o (Nat.ne_of_lt (Heap.lt_size e)) (Heap.get?_push_of_some _ e);refine wpAny_bind (wpAny_holding (zrY (s:={ s with heap:=h1' }) (hx.keep kp) hit1 ((ht.push _).extBut hs1.extBut hlt) (by simp) λ h2 he2=>?_));simp only[Option.isSome_none,Bool.false_eq_true,if_false];exact wpAny_pure (h h2 λ b o hb e=>he2 b o hb (kp b o e))
theorem draw_list {it l:Addr}{items:Array Value}(hne:l≠it)(n:Nat):∀ (i:Nat) (s:Shared) (Q:List Value->Shared->Prop),s.heap.IsListIter it l i->s.heap.IsList l items->i+n<=items.size ->
  (∀ h',h'.IsListIter it l (i+n)->Heap.SameBut it s.heap h'->Q ((items.toList.drop i).take n) { s with heap:=h' })->wpAny (model prog w) A (draw (.ref it) n) Q E s:=by
 induction n with
 | zero=>exact λ i s Q hit _ _ hQ=>wpAny_pure (hQ s.heap hit (Heap.SameBut.refl ..))
 | succ n ih=>
  intro i s Q hit hl hle hQ;have hlt:i<items.size:=by lia
  show wpAny _ _ (pyNext (.ref it) >>= _) Q E s
  refine wpAny_bind (wpAny_pyNext_list_item hit hl (x:=items[i]) (by simp[hlt]) λ h1' hit1 hs1=>?_);refine q12 hl λ o ho r=>?_;refine wpAny_bind (wpAny_holding (ih (i+1) _ _ hit1 ⟨o,(hs1.2 l hne).trans ho,r⟩ (by lia) λ h2 hit2 hs2=>wpAny_pure ?_));have:=hQ h2 (by rw[show i+(n+1)=i+1+n by lia];exact hit2) (hs1.trans hs2);rw[List.drop_eq_getElem_cons (by simpa using hlt),List.take_succ_cons]at this;exact this
open PyProof.Rows in
theorem zsY {env:Env}{elts:List Expr}{x1}{pos:Pos}{t:Addr}{items:Array Value}{Q:Unit->Shared->Prop}(hx:HdC s.heap A)(ht:s.heap.IsList t items)
  (hn:(assignEach elts env).length=items.size) (hstar:(assignEach elts env).findIdx? (·.1)=none)
  (h:∀ h',Heap.ExtBut s.heap.objs.size s.heap h'->wpAny (model prog w) A (assignInOrder ((assignEach elts env).map (·.2)) items.toList) Q E { s with heap:=h' }):
  wpAny (model prog w) A (assign (.Tuple elts x1 pos) env (.ref t)) Q E s:=by
 rw[assign_Tuple];refine wpAny_bind (wpAny_standAt ?_);unfold unpack;rw[hn,hstar];refine wpAny_bind (wpAny_holding ?_);have hlt:t≠s.heap.objs.size:=by refine q12 ht λ o ho _=>?_;exact Nat.ne_of_lt (Heap.lt_size ho)
 unfold unpackItems notIterableAtAll;refine wpAny_bind (wpAny_bind (wpAny_specialOf ht.typeIs slot_list_iter.lookup ?_));refine wpAny_pure ?_;simp only[Bool.false_eq_true,if_false];refine wpAny_bind (wpAny_holding (wpAny_pyIter_list ht ?_));have ht':(s.heap.push { cls:=.type "list_iterator",data:=.fields #[.ref t,.int 0 0] }).IsList t items:=by refine q12 ht λ o ho r=>?_;exact⟨o,Heap.get?_push_of_some _ ho,r⟩
 refine wpAny_bind (wpAny_holding (draw_list hlt items.size 0 _ _ ⟨_,Heap.get?_push_size _ rfl,rfl,rfl⟩ ht' (by lia) λ h1' hit1 hs1=>?_));have hall:List.take items.size (List.drop 0 items.toList)=items.toList:=by
  rw[List.drop_zero];exact List.take_of_length_le (by simp)
 rw[hall,if_neg (by simp)];have kp:∀ b o,s.heap.get? b=some o->h1'.get? b=some o:=λ b o e=>hs1.extBut b o (Nat.ne_of_lt (Heap.lt_size e)) (Heap.get?_push_of_some _ e);refine wpAny_bind (wpAny_holding (zuY (s:={ s with heap:=h1' }) (hx.keep kp) hit1 (by refine q12 ht λ o ho r=>?_;exact⟨o,kp _ _ ho,r⟩) (by simp) λ h2 he2=>?_));simp only[Option.isSome_none,Bool.false_eq_true,if_false];exact wpAny_pure (h h2 λ b o hb e=>he2 b o hb (kp b o e))
noncomputable def znD (d:Addr)(i n ep:Nat):Data:=.fields #[.ref d,.int i 0,.int n 0,.int ep 0]
theorem dict_iter {d:Addr}{o:Obj}{es:Array DictEntry}{ep:Nat}{Q:Value->Shared->Prop}(hd:(d==sysModules)=false)(ho:s.heap.get? d=some o)(hx:o.ExactDict)(hdat:o.data=.dict es ep)
  (hQ:Q (.ref s.heap.objs.size) { s with heap:=s.heap.push { cls:=.type "dict_keyiterator",data:=znD d 0 es.size ep } }):
  wpAny (model prog w) A (pyIter (.ref d)) Q E s:=by
 have hT:s.TypeIs (.ref d) "dict" := ⟨o,ho,hx.1⟩
 refine wpAny_pyIter_slot hT F.slot_dict_iter (wpAny_call_entry F.slot_dict_iter hT F.entry_dict_iter ?_ (F.args_dict_iter_1 _));unfold Builtin.«dict.__iter__»;refine wpAny_bind ?_;unfold Builtin.Dict.dictSlotNone;refine wpAny_bind (wpAny_notOrdered_dict hT ?_)
 show wpAny _ _ (pure (Value.ref d)) _ _ s
 refine wpAny_pure ?_
 show wpAny _ _ (Builtin.Dict.showsAll d >>= _) _ _ s
 unfold Builtin.Dict.showsAll;rw[if_neg (by rw[hd];exact Bool.false_ne_true)];refine wpAny_bind (wpAny_pure ?_);refine wpAny_bind (wpAny_dictEntries ho hdat ?_);refine wpAny_bind (wpAny_dictEpoch ho hdat ?_);exact wpAny_bind (wpAny_newObj_type (wpAny_pure ⟨_,rfl, "dict_keyiterator",_,⟨_,Heap.get?_push_size _ rfl,rfl⟩,F.slot_dict_keyiterator_next.lookup,hQ⟩))
theorem dict_item {it d:Addr}{i ep:Nat}{oi o:Obj}{es:Array DictEntry}{e:DictEntry}{Q:Option Value->Shared->Prop}(hi:s.heap.get? it=some oi)(hic:oi.cls=.type "dict_keyiterator")(hid:oi.data=znD d i es.size ep)
  (ho:s.heap.get? d=some o) (hx:o.ExactDict) (hdat:o.data=.dict es ep) (he:es[i]?=some e)
  (hQ:∀ h' oi',h'.get? it=some oi'->oi'.cls=.type "dict_keyiterator" -> oi'.data=znD d (i+1) es.size ep->Heap.SameBut it s.heap h'->Q (some e.key) { s with heap:=h' }):
  wpAny (model prog w) A (pyNext (.ref it)) Q E s:=by
 have hT:s.TypeIs (.ref it) "dict_keyiterator" := ⟨oi,hi,hic⟩
 unfold pyNext;refine wpAny_bind (wpAny_attempt (wpAny_callSpecial?_slot (name:=Str.ofString "__next__") hT F.slot_dict_keyiterator_next
  (wpAny_call_entry F.slot_dict_keyiterator_next hT F.entry_dict_keyiterator_next ?_ (F.args_dict_keyiterator_next_1 _))))
 refine wpAny_bind (wpAny_pure ?_);refine wpAny_bind ?_;refine wpAny_bind ?_
 first|refine wpAny_bind (wpAny_typeNameOfWhole_keyiter hT (wpAny_pure ?_)) | refine wpAny_bind (wpAny_typeNameOf_keyiter hT (wpAny_pure ?_))
 refine wpAny_bind (wpAny_fieldsOf hi hid ?_);rw[show Builtin.Dict_items.ownsTuple "dict_keyiterator" = false by decide,if_neg Bool.false_ne_true]
 show wpAny _ _ (if (Value.ref d==Value.none)=true then _ else _) _ _ s
 rw[if_neg (show ¬ ((Value.ref d==Value.none)=true) from Bool.false_ne_true)];refine wpAny_bind (wpAny_pure ?_);refine wpAny_bind (wpAny_dictEntries ho hdat ?_);rw[if_neg (by simp)];refine wpAny_bind (wpAny_pure ?_);refine wpAny_bind (wpAny_dictEpoch ho hdat ?_);rw[if_neg (by simp)];refine wpAny_pure ?_;dsimp only;rw[if_neg (Int.not_lt.mpr (Int.natCast_nonneg i)),Int.toNat_natCast,he];refine wpAny_bind ?_
 first|refine wpAny_bind (wpAny_typeNameOfWhole_keyiter hT (wpAny_pure ?_)) | refine wpAny_bind (wpAny_typeNameOf_keyiter hT (wpAny_pure ?_))
 refine wpAny_bind (wpAny_isOneOf_keyiter hT ?_)
 show wpAny _ _ (PySem.setField (.ref it) 1 (rawInt ((i:Int)+1)) >>= _) _ _ s
 refine wpAny_bind (wpAny_setField hi hid (by simp) ?_);have hi':=Heap.get?_update_self (Obj.mapFields (·.setIfInBounds 1 (rawInt ((i:Int)+1)))) hi (Obj.isFreed_of_fields (Obj.data_mapFields hid _));have hc':(Obj.mapFields (·.setIfInBounds 1 (rawInt ((i:Int)+1))) oi).cls=.type "dict_keyiterator" := (Obj.cls_mapFields ..).trans hic;refine wpAny_bind (wpAny_holding ?_);refine wpAny_bind (wpAny_isOneOf_keyiter (s:={ s with heap:=s.heap.update it (Obj.mapFields (·.setIfInBounds 1 (rawInt ((i:Int)+1)))) }) ⟨_,hi',hc'⟩ ?_)
 show wpAny _ _ (pure e.key) _ _ _
 exact wpAny_pure (wpAny_pure ⟨_,rfl,wpAny_pure (hQ _ _ hi' hc' (by rw[Obj.data_mapFields hid];simp[znD,rawInt]) (Heap.SameBut.update ..))⟩)
theorem dict_end {it d:Addr}{i ep:Nat}{oi o:Obj}{es:Array DictEntry}{Q:Option Value->Shared->Prop}(hx:HdC s.heap A)(hi:s.heap.get? it=some oi)(hic:oi.cls=.type "dict_keyiterator")(hid:oi.data=znD d i es.size ep)
  (ho:s.heap.get? d=some o) (hdat:o.data=.dict es ep) (he:es[i]?=none)
  (hQ:∀ h',Heap.ExtBut it s.heap h'->Q none { s with heap:=h' }):wpAny (model prog w) A (pyNext (.ref it)) Q E s:=by
 have hT:s.TypeIs (.ref it) "dict_keyiterator" := ⟨oi,hi,hic⟩
 unfold pyNext;refine wpAny_bind (wpAny_attempt (wpAny_callSpecial?_slot (name:=Str.ofString "__next__") hT F.slot_dict_keyiterator_next
  (wpAny_call_entry F.slot_dict_keyiterator_next hT F.entry_dict_keyiterator_next ?_ (F.args_dict_keyiterator_next_1 _))))
 refine wpAny_bind (wpAny_pure ?_);refine wpAny_bind ?_;refine wpAny_bind ?_
 first|refine wpAny_bind (wpAny_typeNameOfWhole_keyiter hT (wpAny_pure ?_)) | refine wpAny_bind (wpAny_typeNameOf_keyiter hT (wpAny_pure ?_))
 refine wpAny_bind (wpAny_fieldsOf hi hid ?_);rw[show Builtin.Dict_items.ownsTuple "dict_keyiterator" = false by decide,if_neg Bool.false_ne_true]
 show wpAny _ _ (if (Value.ref d==Value.none)=true then _ else _) _ _ s
 rw[if_neg (show ¬ ((Value.ref d==Value.none)=true) from Bool.false_ne_true)];refine wpAny_bind (wpAny_pure ?_);refine wpAny_bind (wpAny_dictEntries ho hdat ?_);rw[if_neg (by simp)];refine wpAny_bind (wpAny_pure ?_);refine wpAny_bind (wpAny_dictEpoch ho hdat ?_);rw[if_neg (by simp)];refine wpAny_pure ?_;dsimp only;rw[if_neg (Int.not_lt.mpr (Int.natCast_nonneg i)),Int.toNat_natCast,he];refine wpAny_bind ?_
 first|refine wpAny_bind (wpAny_typeNameOfWhole_keyiter hT (wpAny_pure ?_)) | refine wpAny_bind (wpAny_typeNameOf_keyiter hT (wpAny_pure ?_))
 show wpAny _ _ (PySem.setField (.ref it) 0 .none >>= _) _ _ s
 refine wpAny_bind (wpAny_setField hi hid (by simp) ?_);have hk:∀ b,C2 s.heap b->C2 (s.heap.update it (Obj.mapFields λ x=>x.setIfInBounds 0 Value.none)) b:=λ b h=>h.update (zvQ (by decide));refine stopC (s:={ s with heap:=_ }) (λ v e=>let ⟨b,r,c⟩:=hx v e;⟨b,r,hk b c⟩) λ h' a o' k ho' hcl'=>?_;refine wpAny_bind (wpAny_isInstance (s:={ s with heap:=h' }) (T := "StopIteration") (b:=true) ⟨_,ho',hcl'⟩ isSubtype_stop ?_);exact wpAny_pure (hQ _ λ b ob hb e=>k b ob ((Heap.SameBut.update ..).extBut b ob hb e))
end
inductive PV where
 | none
 | bool (b:Bool)
 | int (i:Int)
 | str (s:Str)
 | tup (l:List PV)
 | ref (a:Addr)
 | ty (n:String)
 | bi (id:String)
mutual
noncomputable def PR (h:Heap):PV->Value->Prop
 | .none,v=>v=.none
 | .bool b,v=>v=.bool b
 | .int i,v=>∃ t,v=.int i t
 | .str x,v=>∃ t,v=.str x t
 | .tup l,v=>∃ a o vs n,v=.ref a/\h.get? a=some o/\o.cls=.type "tuple" /\ o.dict=Option.none/\o.data=.seq vs n/\PRs h l vs.toList
 | .ref a,v=>v=.ref a
 | .ty n,v=>v=.type n
 | .bi i,v=>v=.builtin i
noncomputable def PRs (h:Heap):List PV->List Value->Prop
 | [],vs=>vs=[]
 | p::ps,vs=>∃ v r,vs=v::r/\PR h p v/\PRs h ps r
end
theorem PR.int {h:Heap}{i:Int}{t:Tok}:PR h (.int i) (.int i t):=⟨t,rfl⟩
theorem PR.str {h:Heap}{i:Str}{t:Tok}:PR h (.str i) (.str i t):=⟨t,rfl⟩
theorem PR.none {h:Heap}:PR h .none .none:=rfl
theorem PR.bool {h:Heap}{b:Bool}:PR h (.bool b) (.bool b):=rfl
theorem PR.ref {h:Heap}{a:Addr}:PR h (.ref a) (.ref a):=rfl
theorem PR.ty {h:Heap}{a:String}:PR h (.ty a) (.type a):=rfl
theorem PR.bi {h:Heap}{a:String}:PR h (.bi a) (.builtin a):=rfl
theorem PR.ty_inv {h:Heap}{a:String}{v:Value}(x:PR h (.ty a) v):v=.type a:=x
theorem PR.bi_inv {h:Heap}{a:String}{v:Value}(x:PR h (.bi a) v):v=.builtin a:=x
theorem PRs.nil {h:Heap}:PRs h [] []:=rfl
theorem PRs.cons {h:Heap}{p:PV}{v:Value}{ps:List PV}{vs:List Value}(a:PR h p v)(b:PRs h ps vs):PRs h (p::ps) (v::vs):=⟨v,vs,rfl,a,b⟩
theorem PR.int_inv {h:Heap}{i:Int}{v:Value}(x:PR h (.int i) v):∃ t,v=.int i t:=x
theorem PR.str_inv {h:Heap}{i:Str}{v:Value}(x:PR h (.str i) v):∃ t,v=.str i t:=x
theorem PR.none_inv {h:Heap}{v:Value}(x:PR h .none v):v=.none:=x
theorem PR.bool_inv {h:Heap}{b:Bool}{v:Value}(x:PR h (.bool b) v):v=.bool b:=x
theorem PR.ref_inv {h:Heap}{a:Addr}{v:Value}(x:PR h (.ref a) v):v=.ref a:=x
theorem PR.tup_inv {h:Heap}{l:List PV}{v:Value}(x:PR h (.tup l) v):∃ a o vs n,v=.ref a/\h.get? a=some o/\o.cls=.type "tuple" /\ o.dict=Option.none/\o.data=.seq vs n/\PRs h l vs.toList:=x
theorem PRs.nil_inv {h:Heap}{vs:List Value}(x:PRs h [] vs):vs=[]:=x
theorem PRs.cons_inv {h:Heap}{p:PV}{ps:List PV}{vs:List Value}(x:PRs h (p::ps) vs):∃ v r,vs=v::r/\PR h p v/\PRs h ps r:=x
theorem PRs.length {h:Heap}{ps:List PV}:∀ {vs:List Value},PRs h ps vs->ps.length=vs.length:=by
 induction ps with
 | nil=>intro vs x;rw[x.nil_inv];rfl
 | cons p ps ih=>intro vs x;refine q23 x.cons_inv ?_;intro v r u0;cases u0;intro _ y;rw[List.length_cons,List.length_cons,ih y]
noncomputable def zaB (h h':Heap):Prop:=∀ b o,h.get? b=some o->o.cls=.type "tuple" -> (∃ vs n,o.data=.seq vs n)->h'.get? b=some o
theorem zaB.refl (h:Heap):zaB h h:=λ _ _ e _ _=>e
theorem zaB.trans {h1' h2 h3:Heap}(x:zaB h1' h2)(y:zaB h2 h3):zaB h1' h3:=λ b o e c d=>y b o (x b o e c d) c d
mutual
theorem PR.keep {h h':Heap}(k:zaB h h'):∀ (p:PV) {v:Value},PR h p v->PR h' p v
 | .none,v,x=>by rw[x.none_inv];exact PR.none
 | .bool b,v,x=>by rw[x.bool_inv];exact PR.bool
 | .int i,v,x=>by obtain⟨t,rfl⟩:=x.int_inv;exact PR.int
 | .str i,v,x=>by obtain⟨t,rfl⟩:=x.str_inv;exact PR.str
 | .ref a,v,x=>by rw[x.ref_inv];exact PR.ref
 | .ty a,v,x=>by rw[x.ty_inv];exact PR.ty
 | .bi a,v,x=>by rw[x.bi_inv];exact PR.bi
 | .tup l,v,x=>by
  refine q46 x.tup_inv ?_;intro a o vs n u0;cases u0;intro ho hc hd hs hr;exact⟨a,_,vs,n,rfl,k a o ho hc ⟨_,_,hs⟩,hc,hd,hs,PRs.keep k l hr⟩
theorem PRs.keep {h h':Heap}(k:zaB h h'):∀ (p:List PV) {v:List Value},PRs h p v->PRs h' p v
 | [],v,x=>by rw[x.nil_inv];exact PRs.nil
 | p::ps,v,x=>by refine q23 x.cons_inv ?_;intro v r u0;cases u0;intro y z;exact PRs.cons (PR.keep k p y) (PRs.keep k ps z)
end
theorem PRs.get {h:Heap}{ps:List PV}:∀ {vs:List Value} (i:Nat) {p:PV},PRs h ps vs->ps[i]?=some p->∃ v,vs[i]?=some v/\PR h p v:=by
 induction ps with
 | nil=>intro vs i p x e;rw[List.getElem?_nil]at e;cases e
 | cons p ps ih=>
  intro vs i q x e;refine q23 x.cons_inv ?_;intro v r u0;cases u0;intro y z;cases i with
  | zero=>cases e;exact⟨v,rfl,y⟩
  | succ i=>exact ih (vs:=r) i z e
theorem PRs.append {h:Heap}{ps:List PV}{qs:List PV}{ws:List Value}:∀ {vs:List Value},PRs h ps vs->PRs h qs ws->PRs h (ps++qs) (vs++ws):=by
 induction ps with
 | nil=>intro vs x y;rw[x.nil_inv];exact y
 | cons p ps ih=>intro vs x y;refine q23 x.cons_inv ?_;intro v r u0;cases u0;intro a b;exact PRs.cons a (ih b y)
theorem PRs.set {h:Heap}{ps:List PV}{p:PV}{v:Value}:∀ {vs:List Value} (i:Nat),PRs h ps vs->PR h p v->PRs h (ps.set i p) (vs.set i v):=by
 induction ps with
 | nil=>intro vs i x y;rw[x.nil_inv,List.set_nil,List.set_nil];exact PRs.nil
 | cons q ps ih=>
  intro vs i x y;refine q23 x.cons_inv ?_;intro w r u0;cases u0;intro a b;cases i with
  | zero=>exact PRs.cons y b
  | succ i=>exact PRs.cons a (ih i b y)
theorem PRs.replicate {h:Heap}{p:PV}{v:Value}(x:PR h p v):∀ n,PRs h (List.replicate n p) (List.replicate n v)
 | 0=>PRs.nil
 | n+1=>PRs.cons x (PRs.replicate x n)
noncomputable def pt (p:Pt):PV:=.tup [.int p.1,.int p.2]
theorem zjD {h:Heap}{p:Pt}{v:Value}(x:PR h (pt p) v):IsPt h p v:=by
 refine q46 x.tup_inv ?_;intro a o vs n u0;cases u0;intro ho hc hd hs hr;refine q23 hr.cons_inv λ v1 r1 e1 a1 b1=>?_;refine q23 b1.cons_inv λ v2 r2 e2 a2 b2=>?_;have:=b2.nil_inv;subst this;obtain⟨t,rfl⟩:=a1.int_inv;obtain⟨u,rfl⟩:=a2.int_inv;subst e2;refine⟨a,o,n,t,u,rfl,ho,hc,hd,?_⟩;rw[hs];congr 1;apply Array.toList_inj.mp;rw[e1]
theorem ziZ {h:Heap}{p:Pt}{v:Value}(x:IsPt h p v):PR h (pt p) v:=by
 refine q55 x ?_;clear x;intro a o n t u u0;cases u0;intro ho hc hd hs;exact⟨a,o,_,n,rfl,ho,hc,hd,hs,PRs.cons PR.int (PRs.cons PR.int PRs.nil)⟩
set_option genCtorIdx true in
inductive AO where
 | list (l:List PV)
 | pset (l:List Pt)
 | pdict (l:List (Pt×PV)) (pin:Option Obj:=none)
 | inst (C d:Addr)
 | attrs (l:List (Str×PV))
 | range (a b:Int)
 | bw (b w:Int)
 | cset (b w:Bool)
noncomputable abbrev zaA:=Addr->Option AO
noncomputable def upd (H:zaA)(a:Addr)(o:AO):zaA:=λ b=>if b=a then some o else H b
theorem zaC {H:zaA}{a:Addr}{o:AO}:upd H a o a=some o:=by simp[upd]
theorem zaD {H:zaA}{a b:Addr}{o:AO}(h:b≠a):upd H a o b=H b:=by simp[upd,h]
structure Cx where
 prog:Program
 w:World
 K:Frag
 h₀:Heap
 os:OsState
 view:Program
 loose:List Str
 mg:Str->Option Value
 mb:Str->Option Value
 scA:Addr
 scL:List PV
noncomputable abbrev Cx.M (C:Cx):Model:=model C.prog C.w
structure Cx.Ok (C:Cx):Prop where
 kin:C.K.In C.h₀
 top:TopRead C.view C.loose C.mg C.mb C.h₀
 sc:∃ vs n,IsL C.h₀ C.scA vs n/\PRs C.h₀ C.scL vs.toList
noncomputable def ptK (p:Pt):List Int:=[p.1,p.2]
noncomputable def DRel (h:Heap):List (Pt×PV)->List (List Int×Addr×Value)->Prop
 | [],xs=>xs=[]
 | e::l,xs=>∃ x r,xs=x::r/\x.1=ptK e.1/\PR h (pt e.1) (.ref x.2.1)/\PR h e.2 x.2.2/\DRel h l r
theorem DRel.keep {h h':Heap}(k:zaB h h'){l:List (Pt×PV)}:∀ {xs:List (List Int×Addr×Value)},DRel h l xs->DRel h' l xs:=by
 induction l with
 | nil=>exact λ x=>x
 | cons e l ih=>
  intro xs uu;refine q25 uu λ x r a b c d y=>?_
  exact⟨x,r,a,b,PR.keep k _ c,PR.keep k _ d,ih y⟩
noncomputable def zcC (C:Cx)(h:Heap)(a:Addr):AO->Prop
 | .list l=>∃ vs n,IsL h a vs n/\PRs h l vs.toList
 | .pset l=>PSet C.w h a l
 | .pdict l pin=>(∃ xs:List (List Int×Addr×Value),h.DictOfH (tupleKind (intKind C.prog C.w)) a xs/\DRel h l xs)/\∀ o,pin=some o->h.get? a=some o
 | .inst c d=>∃ o,h.get? a=some o/\o.cls=.ref c/\o.dict=some d/\o.data=.plain/\d≠a
 | .attrs l=>∃ mv,h.Ns1 a mv/\(∀ x,l.lookup x=none->mv x=none)/\∀ x p,l.lookup x=some p->∃ v,mv x=some v/\PR h p v
 | .range x y=>∃ t u v,IsRange h a x y 1 t u v
 | .bw x y=>∃ t u,h.DictOf (strKind C.prog C.w) a [("b",.int x t),("w",.int y u)]
 | .cset x y=>∃ S n,h.SetOf (strKind C.prog C.w) a S n/\(∀ k,S k=(x&&k == "b" || y&&k == "w"))/\n<=x.toNat+y.toNat
theorem IsTupleKey.keepT {C:Cx}{h h':Heap}(k:zaB h h'){ks:List Int}{a:Addr}(x:IsTupleKey (intKind C.prog C.w) h ks a):IsTupleKey (intKind C.prog C.w) h' ks a:=by
 refine q31 x λ o xs n u8=>q04 u8 λ ho hc hd r=>?_;exact⟨o,xs,n,k a o ho hc ⟨_,_,hd⟩,hc,hd,r⟩
theorem zcC.keep {C:Cx}{h h':Heap}{a:Addr}(k:zaB h h')(ha:∀ o,h.get? a=some o->h'.get? a=some o)(o:AO)(S:zcC C h a o):zcC C h' a o:=by
 cases o with
 | list l=>refine q22 S λ vs n il r=>?_;exact⟨vs,n,ha _ il,r.keep k⟩
 | pset l=>
  have S:PSet C.w h a l:=S;refine q42 S.obj λ o _ _ _ ho _=>?_;exact PSet.keep S ((ha o ho).trans ho.symm) λ b o e c d=>⟨o.slots,k b o e c d⟩
 | pdict l pin=>obtain⟨⟨xs,⟨o,es,ep,ho,hx,hd,he,hk,hn⟩,r⟩,hp⟩:=S;exact⟨⟨xs,⟨o,es,ep,ha o ho,hx,hd,he,λ x hx=>IsTupleKey.keepT k (hk x hx),hn⟩,DRel.keep k r⟩,λ o e=>ha o (hp o e)⟩
 | inst c d=>refine q12 S λ o ho r=>?_;exact⟨o,ha o ho,r⟩
 | attrs l=>refine q13 S λ mv N e r=>?_;exact⟨mv,N.at ha,e,λ x p e'=>(r x p e').imp λ v q=>⟨q.1,q.2.keep k⟩⟩
 | range x y=>refine q31 S λ t u v r=>?_;exact⟨t,u,v,ha _ r⟩
 | bw x y=>refine q51 S λ t u o es ep u8=>q02 u8 λ ho r=>?_;exact⟨t,u,o,es,ep,ha _ ho,r⟩
 | cset x y=>refine q22 S ?_;clear S;intro S n u0 q;obtain⟨o,es,ep,t,ho,r⟩:=u0;exact⟨S,n,⟨o,es,ep,t,ha _ ho,r⟩,q⟩
noncomputable def zdT (o:Obj):Prop:=o.cls=.type "tuple" -> ¬ ∃ vs n,o.data=.seq vs n
theorem zdT.cls {o:Obj}(h:o.cls≠.type "tuple"):zdT o:=λ e=>absurd e h
theorem zdT.dict {o:Obj}{es ep}(h:o.data=.dict es ep):zdT o:=λ _ u9=>q21 u9 λ vs n e=>by rw[h]at e;cases e
theorem zdT.cell {o:Obj}{v}(h:o.data=.cell v):zdT o:=λ _ u9=>q21 u9 λ vs n e=>by rw[h]at e;cases e
theorem zcC.there {C:Cx}{h:Heap}{a:Addr}{o:AO}(S:zcC C h a o):∃ ob,h.get? a=some ob/\zdT ob:=by
 cases o with
 | list l=>refine q22 S λ vs n il _=>?_;exact⟨_,il,.cls (by show Value.type "list" ≠ Value.type "tuple";decide)⟩
 | pset l=>
  have S:PSet C.w h a l:=S;refine q43 S.obj λ o _ _ _ ho hx _=>?_;exact⟨o,ho,.cls (by rw[hx.1];decide)⟩
 | pdict l pin=>obtain⟨⟨xs,⟨o,es,ep,ho,hx,_⟩,_⟩,_⟩:=S;exact⟨o,ho,.cls (by rw[hx.1];decide)⟩
 | inst c d=>refine q13 S λ o ho hc _=>?_;exact⟨o,ho,.cls (by rw[hc];intro e;cases e)⟩
 | attrs l=>refine q12 S λ mv u0 _=>?_;obtain⟨o,es,ep,ho,hd,_⟩:=u0;exact⟨o,ho,.dict hd⟩
 | range x y=>refine q31 S λ t u v r=>?_;exact⟨_,r,.cls (by show Value.type "range" ≠ Value.type "tuple";decide)⟩
 | bw x y=>refine q51 S λ t u o es ep u8=>q03 u8 λ ho hx _=>?_;exact⟨o,ho,.cls (by rw[hx.1];decide)⟩
 | cset x y=>refine q22 S ?_;clear S;intro S n u0 _;obtain⟨o,es,ep,t,ho,hx,_⟩:=u0;exact⟨o,ho,.cls (by rw[hx.1];decide)⟩
set_option genCtorIdx true in
inductive FK where
 | fn
 | cp (own:List Addr)
structure FR where
 comp:FK
 env:Env
 ls:List (Str×PV)
set_option genCtorIdx true in
inductive AF where
 | fr (f:FR)
 | hid (a:Addr) (o:Obj)
 | gh (h:Heap)
noncomputable def ownsE (c:FK)(env:Env):List Addr:=env.locals::match c with
 | .fn=>(env.cells.filter λ x=>env.kindOf x.1==some NameKind.cell).map (·.2)
 | .cp cs=>cs.filter λ a=>(env.cells.map (·.2)).contains a
noncomputable def zuW (env:Env):List Addr:=env.locals::env.cells.map (·.2)
noncomputable def AF.owns:AF->List Addr
 | .fr f=>ownsE f.comp f.env
 | .hid a _=>[a]
 | .gh _=>[]
noncomputable def AF.reads:AF->List Addr
 | .fr f=>zuW f.env
 | .hid a _=>[a]
 | .gh _=>[]
noncomputable def AF.hids:AF->List Addr
 | .fr _=>[]
 | .hid a _=>[a]
 | .gh _=>[]
theorem owns_reads {c:FK}{env:Env}{a:Addr}(h:a∈ownsE c env):a∈zuW env:=by
 unfold ownsE at h;unfold zuW;rcases List.mem_cons.mp h with rfl|h
 ·exact List.mem_cons_self
 ·refine List.mem_cons_of_mem _ ?_
  cases c with
  | fn=>
   refine q12 (List.mem_map.mp h) λ x hx u0=>?_;cases u0;exact List.mem_map.mpr ⟨x,(List.mem_filter.mp hx).1,rfl⟩
  | cp cs=>simpa using (List.mem_filter.mp h).2
theorem AF.owns_reads:∀ {f:AF} {a:Addr},a∈f.owns->a∈f.reads
 | .fr f,a,h=>AM.Internal.owns_reads h
 | .hid _ _,a,h=>h
 | .gh _,a,h=>h
structure FrOk (h:Heap)(f:FR):Prop where
 kind:f.env.scope.kind=.function
 globals:f.env.globals=mainGlobals
 builtins:f.env.builtins=builtinsNs
 ns:∃ m,h.Ns f.env.locals m/\∀ x p,f.ls.lookup x=some p->f.env.kindOf x=some .local->∃ v,m x=some v/\PR h p v
 cells:∀ x∈f.env.cells,∃ v,h.IsCell x.2 v
 cellv:∀ x p,f.ls.lookup x=some p->(f.env.kindOf x=some .cell\/f.env.kindOf x=some .free)->∃ c v,f.env.cells.lookup x=some c/\h.IsCell c (some v)/\PR h p v
 has:∀ x,f.env.kindOf x=some .cell\/f.env.kindOf x=some .free->∃ c,f.env.cells.lookup x=some c
 apart:f.env.cells.Pairwise λ x y=>x.2≠y.2
 locals:∀ x∈f.env.cells,x.2≠f.env.locals
 frame:f.comp=.fn->f.env.frame=some f.env.locals
noncomputable def AFok (h:Heap):AF->Prop
 | .fr f=>FrOk h f
 | .hid a o=>h.get? a=some o/\zdT o
 | .gh g=>zaB g h
noncomputable def Apart (f g:AF):Prop:=(∀ a∈f.owns,a∉g.reads)/\∀ a∈g.hids,a∉f.reads
noncomputable def New0 (C:Cx)(a:Addr):Prop:=C.h₀.get? a=none/\sysModules<a
structure Rep (C:Cx)(Fs:List AF)(H:zaA)(s:Shared):Prop where
 ok:C.Ok
 keep:∀ b o,C.h₀.get? b=some o->s.heap.get? b=some o
 gens:s.gens=#[]
 os:s.os=C.os
 frs:∀ f∈Fs,AFok s.heap f/\∀ a∈f.reads,C.h₀.get? a=none
 apart:Fs.Pairwise Apart
 objs:∀ a o,H a=some o->zcC C s.heap a o/\New0 C a/\∀ f∈Fs,a∉f.reads
theorem zcH {h h':Heap}{c:Addr}{v:Option Value}(x:h.IsCell c v)(k:∀ o,h.get? c=some o->h'.get? c=some o):h'.IsCell c v:=
 let ⟨o,ho,hd⟩:=x;⟨o,k o ho,hd⟩
theorem ns_at {h h':Heap}{a:Addr}{m:Str->Option Value}(x:h.Ns a m)(k:∀ o,h.get? a=some o->h'.get? a=some o):h'.Ns a m:=
 let ⟨o,es,ep,ho,r⟩:=x;⟨o,es,ep,k o ho,r⟩
theorem zvL {l:List (Str×Addr)}(hp:l.Pairwise λ x y=>x.2≠y.2){x y:Str}{c d:Addr}(hx:(x,c)∈l)(hy:(y,d)∈l)(hne:x≠y):c≠d:=by
 induction l with
 | nil=>cases hx
 | cons z l ih=>
  obtain⟨h1,h2⟩:=List.pairwise_cons.mp hp;rcases List.mem_cons.mp hx with ex|hx'
  ·rcases List.mem_cons.mp hy with ey|hy'
   ·rw[<- ey]at ex;cases ex;exact absurd rfl hne
   ·have:=h1 _ hy';rw[<- ex]at this;exact this
  ·rcases List.mem_cons.mp hy with ey|hy'
   ·have:=h1 _ hx';rw[<- ey]at this;exact λ e=>this e.symm
   ·exact ih h2 hx' hy'
theorem AFok.keep {h h':Heap}(k:zaB h h'):∀ {f:AF},(∀ a∈f.reads,∀ o,h.get? a=some o->h'.get? a=some o)->AFok h f->AFok h' f
 | .fr f,ka,x=>by
  have kl:=ka f.env.locals List.mem_cons_self;have kc:∀ y∈f.env.cells,∀ o,h.get? y.2=some o->h'.get? y.2=some o:=λ y hy=>ka y.2 (List.mem_cons_of_mem _ (List.mem_map.mpr ⟨y,hy,rfl⟩));refine q12 x.ns λ m hm hv=>?_;refine⟨x.kind,x.globals,x.builtins,⟨m,ns_at hm kl,λ y p a b=>let ⟨v,e,r⟩:=hv y p a b;⟨v,e,r.keep k⟩⟩,λ y e=>let ⟨v,r⟩:=x.cells y e;⟨v,zcH r (kc y e)⟩,
   λ y p a b=>let ⟨c,v,e,r,q⟩:=x.cellv y p a b;⟨c,v,e,zcH r (kc (y,c) (mem_of_lookup e)),q.keep k⟩,x.has,x.apart,x.locals,x.frame⟩
 | .hid a o,ka,⟨x,y⟩=>⟨ka a List.mem_cons_self o x,y⟩
 | .gh g,ka,x=>zaB.trans x k
theorem AFok.there {h:Heap}:∀ {f:AF},AFok h f->∀ a∈f.reads,∃ o,h.get? a=some o/\zdT o
 | .fr f,x,a,ha=>by
  rcases List.mem_cons.mp ha with rfl|ha
  ·refine q12 x.ns λ m u0 _=>?_;obtain⟨o,es,ep,ho,hd,_⟩:=u0;exact⟨o,ho,.dict hd⟩
  ·refine q12 (List.mem_map.mp ha) λ y hy u0=>?_;cases u0
   refine q22 (x.cells y hy) λ v o ho hd=>?_;exact⟨o,ho,.cell hd⟩
 | .hid a o,⟨x,y⟩,b,hb=>by rw[List.mem_singleton.mp hb];exact⟨o,x,y⟩
 | .gh g,_,b,hb=>by cases hb
section
variable {C:Cx}{Fs:List AF}{H H':zaA}{s s':Shared}
theorem Rep.mono (R:Rep C Fs H s)(h:∀ a o,H' a=some o->H a=some o):Rep C Fs H' s:=
 ⟨R.ok,R.keep,R.gens,R.os,R.frs,R.apart,λ a o e=>R.objs a o (h a o e)⟩
theorem Rep.sub {Gs:List AF}(R:Rep C Fs H s)(h:Gs.Sublist Fs):Rep C Gs H s:=
 ⟨R.ok,R.keep,R.gens,R.os,λ f hf=>R.frs f (h.subset hf),R.apart.sublist h,λ a o e=>let ⟨x,y,z⟩:=R.objs a o e;⟨x,y,λ g hg=>z g (h.subset hg)⟩⟩
theorem Rep.pop {f:AF}(R:Rep C (f::Fs) H s):Rep C Fs H s:=R.sub (List.sublist_cons_self _ _)
theorem Rep.pop2 {f g:AF}(R:Rep C (f::g::Fs) H s):Rep C (f::Fs) H s:=R.sub (.cons_cons _ (List.sublist_cons_self _ _))
theorem Rep.to (R:Rep C Fs H s)(Z:Addr->Prop)(hk:∀ b o,¬ Z b->s.heap.get? b=some o->s'.heap.get? b=some o)(tk:zaB s.heap s'.heap)
  (hb:∀ b,Z b->C.h₀.get? b=none) (hf:∀ f∈Fs,∀ a∈f.reads,¬ Z a)
  (ho:∀ a o,H' a=some o->(H a=some o/\¬ Z a)\/(zcC C s'.heap a o/\New0 C a/\∀ f∈Fs,a∉f.reads))
  (hg:s'.gens=s.gens:=by rfl) (hos:s'.os=s.os:=by rfl):Rep C Fs H' s':=by
 refine⟨R.ok,λ b o e=>hk b o (λ z=>by rw[hb b z]at e;cases e) (R.keep b o e),hg.trans R.gens,hos.trans R.os,λ f hf'=>⟨AFok.keep tk (λ a ha o e=>hk a o (hf f hf' a ha) e) (R.frs f hf').1,(R.frs f hf').2⟩,R.apart,λ a o e=>?_⟩;rcases ho a o e with ⟨e1,nz⟩|x
 ·refine q03 (R.objs a o e1) λ x y z=>?_
  exact⟨zcC.keep tk (λ ob eo=>hk a ob nz eo) o x,y,z⟩
 ·exact x
theorem Rep.ext (R:Rep C Fs H s)(hk:∀ b o,s.heap.get? b=some o->s'.heap.get? b=some o)(hg:s'.gens=s.gens:=by rfl)(hos:s'.os=s.os:=by rfl):Rep C Fs H s':=
 R.to (λ _=>False) (λ b o _ e=>hk b o e) (λ b o e _ _=>hk b o e) (λ _ h=>h.elim) (λ _ _ _ _ h=>h) (λ a o e=>.inl ⟨e,λ h=>h⟩) hg hos
theorem Rep.same (R:Rep C Fs H s)(hh:s'.heap=s.heap:=by rfl)(hg:s'.gens=s.gens:=by rfl)(hos:s'.os=s.os:=by rfl):Rep C Fs H s':=R.ext (λ b o e=>hh▸e) hg hos
theorem zaB.of_keep {h h':Heap}(hk:∀ b o,h.get? b=some o->h'.get? b=some o):zaB h h':=λ b o e _ _=>hk b o e
theorem zaB.of_ext {h h':Heap}{a:Addr}(hk:Heap.ExtBut a h h')(ha:∀ o,h.get? a=some o->zdT o):zaB h h':=λ b o e c d=>by
 by_cases hb:b=a
 ·subst hb;exact absurd d (ha o e c)
 ·exact hk b o hb e
theorem Rep.lt (R:Rep C Fs H s){a:Addr}{o:AO}(e:H a=some o):a<s.heap.objs.size:=let ⟨ob,h,_⟩:=(R.objs a o e).1.there;Heap.lt_size h
theorem Rep.fresh (R:Rep C Fs H s):H s.heap.objs.size=none:=by
 cases e:H s.heap.objs.size with
 | none=>rfl
 | some o=>exact absurd (R.lt e) (Nat.lt_irrefl _)
theorem Rep.fresh_ge (R:Rep C Fs H s){n:Nat}(hn:s.heap.objs.size<=n):H n=none/\New0 C n/\∀ f∈Fs,n∉f.reads:=by
 refine⟨?_,⟨?_,?_⟩,λ f hf h=>?_⟩
 ·cases e:H n with
  | none=>rfl
  | some o=>exact absurd (R.lt e) (Nat.not_lt.mpr hn)
 ·cases e:C.h₀.get? n with
  | none=>rfl
  | some o=>exact absurd (Heap.lt_size (R.keep _ _ e)) (Nat.not_lt.mpr hn)
 ·refine q31 R.ok.top.g λ o _ _ u8=>q02 u8 λ e _=>?_
  exact Nat.lt_of_lt_of_le (Nat.lt_of_le_of_lt (by decide) (Heap.lt_size (R.keep _ _ e))) hn
 ·refine q12 ((R.frs f hf).1.there _ h) λ o e _=>?_
  exact absurd (Heap.lt_size e) (Nat.not_lt.mpr hn)
noncomputable def LAt (C:Cx)(H:zaA)(a:Addr)(l:List PV):Prop:=H a=some (.list l)\/(a=C.scA/\l=C.scL)
theorem Rep.lat (R:Rep C Fs H s){a:Addr}{l:List PV}(e:LAt C H a l):∃ vs n,IsL s.heap a vs n/\PRs s.heap l vs.toList:=by
 rcases e with e|⟨rfl,rfl⟩
 ·exact (R.objs a _ e).1
 ·refine q22 R.ok.sc λ vs n il r=>?_
  exact⟨vs,n,R.keep _ _ il,PRs.keep (λ b o e _ _=>R.keep b o e) _ r⟩
theorem Rep.new (R:Rep C Fs H s){a:Addr}{o:AO}(hk:∀ b o,s.heap.get? b=some o->s'.heap.get? b=some o)(ha:s.heap.objs.size<=a)(hs:zcC C s'.heap a o)
  (hg:s'.gens=s.gens:=by rfl) (hos:s'.os=s.os:=by rfl):Rep C Fs (upd H a o) s':=by
 refine q03 (R.fresh_ge ha) λ x y z=>?_;refine R.to (λ _=>False) (λ b o _ e=>hk b o e) (λ b o e _ _=>hk b o e) (λ _ h=>h.elim) (λ _ _ _ _ h=>h) (λ b ob e=>?_) hg hos;unfold upd at e;split at e
 ·cases e;rename_i q;subst q;exact .inr ⟨hs,y,z⟩
 ·exact .inl ⟨e,λ h=>h⟩
theorem Rep.turn (R:Rep C Fs H s){a:Addr}{o o':AO}(e:H a=some o)(hk:Heap.ExtBut a s.heap s'.heap)(hs:zcC C s'.heap a o')
  (hg:s'.gens=s.gens:=by rfl) (hos:s'.os=s.os:=by rfl):Rep C Fs (upd H a o') s':=by
 refine q03 (R.objs a o e) λ x y z=>?_;refine q12 x.there λ ob hob hc=>?_;refine R.to (λ b=>b=a) (λ b o hb e=>hk b o hb e) (zaB.of_ext hk λ o' e'=>by rw[hob]at e';cases e';exact hc) (λ b h=>h▸y.1) (λ f hf b hb h=>z f hf (h▸hb)) (λ b ob e=>?_) hg hos;unfold upd at e;split at e
 ·cases e;rename_i q;subst q;exact .inr ⟨hs,y,z⟩
 ·rename_i q;exact .inl ⟨e,q⟩
theorem Rep.turnKeep (R:Rep C Fs H s){a:Addr}{o:AO}(e:H a=some o)(hk:Heap.ExtBut a s.heap s'.heap):zaB s.heap s'.heap:=by
 refine q12 ((R.objs a o e).1.there) λ ob hob hc=>?_;exact zaB.of_ext hk λ o' e'=>by rw[hob]at e';cases e';exact hc
theorem Rep.frame {f f':AF}(R:Rep C (f::Fs) H s){z:Addr}(hz:z∈f.owns)(hk:Heap.ExtBut z s.heap s'.heap)(tk:zaB s.heap s'.heap)(hf:AFok s'.heap f')(ho:f'.owns=f.owns)(hr:f'.reads=f.reads)(hh:f'.hids=f.hids)
  (hg:s'.gens=s.gens:=by rfl) (hos:s'.os=s.os:=by rfl):Rep C (f'::Fs) H s':=by
 obtain⟨a1,a2⟩:=List.pairwise_cons.mp R.apart;have hzb:=(R.frs f (.head _)).2 z (AF.owns_reads hz);have R':Rep C Fs H s':=R.pop.to (λ b=>b=z) (λ b o hb e=>hk b o hb e) tk (λ b h=>h▸hzb) (λ g hg a ha h=>(a1 g hg).1 z hz (h▸ha))
  (λ a o e=>.inl ⟨e,λ h=>(R.objs a o e).2.2 f (.head _) (h▸AF.owns_reads hz)⟩) hg hos
 refine⟨R.ok,R'.keep,R'.gens,R'.os,λ g hg=>?_,List.pairwise_cons.mpr ⟨λ g hg=>?_,a2⟩,λ a o e=>?_⟩
 ·rcases List.mem_cons.mp hg with rfl|hg
  ·exact⟨hf,λ a ha=>(R.frs f (.head _)).2 a (hr▸ha)⟩
  ·exact R'.frs g hg
 ·obtain⟨b1,b2⟩:=a1 g hg
  exact⟨λ a ha=>b1 a (ho▸ha),λ a ha=>hr▸b2 a ha⟩
 ·refine q03 (R'.objs a o e) λ x y z'=>?_
  refine⟨x,y,λ g hg=>?_⟩;rcases List.mem_cons.mp hg with rfl|hg
  ·rw[hr];exact (R.objs a o e).2.2 f (.head _)
  ·exact z' g hg
theorem Rep.hidden {pre post:List AF}{a:Addr}{o o':Obj}(R:Rep C (pre++.hid a o::post) H s)(hk:Heap.ExtBut a s.heap s'.heap)(ha:s'.heap.get? a=some o')(hc:zdT o')
  (hg:s'.gens=s.gens:=by rfl) (hos:s'.os=s.os:=by rfl):Rep C (pre++.hid a o'::post) H s'/\zaB s.heap s'.heap:=by
 refine q03 (List.pairwise_append.mp R.apart) λ p1 p2 p3=>?_;obtain⟨q1,q2⟩:=List.pairwise_cons.mp p2;obtain⟨⟨ho,hoc⟩,hb⟩:=R.frs (.hid a o) (by simp);have hb:=hb a List.mem_cons_self;have tk:zaB s.heap s'.heap:=zaB.of_ext hk λ o1 e=>by rw[ho]at e;cases e;exact hoc
 have nf:∀ f∈pre++post,a∉f.reads:=λ f hf=>by
  rcases List.mem_append.mp hf with hf|hf
  ·exact (p3 f hf _ (.head _)).2 a List.mem_cons_self
  ·exact (q1 f hf).1 a List.mem_cons_self
 have R':Rep C (pre++post) H s':=(R.sub (List.Sublist.append (List.Sublist.refl _) (List.sublist_cons_self _ _))).to (λ b=>b=a) (λ b o hb e=>hk b o hb e) tk (λ b h=>h▸hb) (λ g hg b hb h=>nf g hg (h▸hb))
  (λ b ob e=>.inl ⟨e,λ h=>(R.objs b ob e).2.2 (.hid a o) (by simp) (h▸List.mem_cons_self)⟩) hg hos
 refine⟨⟨R.ok,R'.keep,R'.gens,R'.os,λ g hg=>?_,?_,λ b ob e=>?_⟩,tk⟩
 ·rcases List.mem_append.mp hg with hg|hg
  ·exact R'.frs g (List.mem_append_left _ hg)
  ·rcases List.mem_cons.mp hg with rfl|hg
   ·exact⟨⟨ha,hc⟩,λ b hb'=>by rw[List.mem_singleton.mp hb'];exact hb⟩
   ·exact R'.frs g (List.mem_append_right _ hg)
 ·refine List.pairwise_append.mpr ⟨p1,List.pairwise_cons.mpr ⟨q1,q2⟩,λ f hf g hg=>?_⟩
  rcases List.mem_cons.mp hg with rfl|hg
  ·exact p3 f hf (.hid a o) (.head _)
  ·exact p3 f hf g (.tail _ hg)
 ·refine q03 (R'.objs b ob e) λ x y z=>?_
  refine⟨x,y,λ g hg=>?_⟩;rcases List.mem_append.mp hg with hg|hg
  ·exact z g (List.mem_append_left _ hg)
  ·rcases List.mem_cons.mp hg with rfl|hg
   ·exact (R.objs b ob e).2.2 (.hid a o) (by simp)
   ·exact z g (List.mem_append_right _ hg)
theorem Rep.push {f:AF}(R:Rep C Fs H s)(hf:AFok s.heap f)(hb:∀ a∈f.reads,C.h₀.get? a=none)(hH:∀ a∈f.reads,H a=none)(ho:∀ a∈f.owns,∀ g∈Fs,a∉g.reads)(hr:∀ g∈Fs,∀ a∈g.hids,a∉f.reads):Rep C (f::Fs) H s:=by
 refine⟨R.ok,R.keep,R.gens,R.os,λ g hg=>?_,List.pairwise_cons.mpr ⟨λ g hg=>⟨λ a ha=>ho a ha g hg,hr g hg⟩,R.apart⟩,λ a o e=>?_⟩
 ·rcases List.mem_cons.mp hg with rfl|hg
  ·exact⟨hf,hb⟩
  ·exact R.frs g hg
 ·refine q03 (R.objs a o e) λ x y z=>?_
  refine⟨x,y,λ g hg=>?_⟩;rcases List.mem_cons.mp hg with rfl|hg
  ·intro h;rw[hH a h]at e;cases e
  ·exact z g hg
theorem Rep.hide {a:Addr}{o:Obj}(R:Rep C Fs H s)(hk:∀ b o,s.heap.get? b=some o->s'.heap.get? b=some o)(ha:s.heap.objs.size<=a)(ho:s'.heap.get? a=some o)(hc:zdT o)
  (hg:s'.gens=s.gens:=by rfl) (hos:s'.os=s.os:=by rfl):Rep C (.hid a o::Fs) H s':=by
 refine q03 (R.fresh_ge ha) λ x y z=>?_;refine (R.ext hk hg hos).push ⟨ho,hc⟩ (λ b hb=>by rw[List.mem_singleton.mp hb];exact y.1) (λ b hb=>by rw[List.mem_singleton.mp hb];exact x) (λ b hb g hg=>by rw[List.mem_singleton.mp hb];exact z g hg) λ g hg b hb hb'=>?_;rw[List.mem_singleton.mp hb']at hb;have:a∈g.reads:=by cases g with|fr f=>cases hb|hid c o=>exact hb|gh _=>cases hb
 exact z g hg this
end
structure Tr where
 C:Cx
 n:Nat
 hd:Bool
noncomputable def zbJ:List AF->List Env
 | []=>[]
 | .fr ⟨.fn,env,_⟩::r=>env::zbJ r
 | .fr ⟨.cp _,_,_⟩::r=>zbJ r
 | .hid _ _::r=>zbJ r
 | .gh _::r=>zbJ r
noncomputable def ziS:List AF->List (Addr×Obj)
 | []=>[]
 | .fr _::r=>ziS r
 | .hid a o::r=>(a,o)::ziS r
 | .gh _::r=>ziS r
structure AOk (T:Tr)(Fs:List AF)(A:Around):Prop where
 frames:A.frames=some (zbJ Fs)
 depth:A.depth+4*T.n+10<=1000
 units:A.units+20*T.n+100<=9900
 handled:T.hd=false->A.handled=none
 ctx:∀ v,A.handled=some v->∃ a o,v=.ref a/\(a,o)∈ziS Fs/\Ctx2 o
theorem zkR {a:Addr}{o:Obj}{Fs:List AF}:(a,o)∈ziS Fs↔AF.hid a o∈Fs:=by
 induction Fs with
 | nil=>exact⟨nofun,nofun⟩
 | cons x r ih=>
  rw[List.mem_cons];cases x with
  | fr _=>exact ih.trans ⟨.inr,λ h=>h.elim nofun id⟩
  | gh _=>exact ih.trans ⟨.inr,λ h=>h.elim nofun id⟩
  | hid b o'=>
   show (a,o)∈(b,o')::ziS r↔_
   rw[List.mem_cons,ih];exact or_congr ⟨λ h=>by cases h;rfl,λ h=>by cases h;rfl⟩ Iff.rfl
theorem AOk.hdc {T:Tr}{Fs:List AF}{A:Around}{H:zaA}{s:Shared}(ok:AOk T Fs A)(R:Rep T.C Fs H s):HdC s.heap A:=λ v e=>
 let ⟨a,o,h,hm,c⟩:=ok.ctx v e;⟨a,h,o,(R.frs _ (zkR.mp hm)).1.1,c⟩
theorem zqS {T:Tr}{Fs Fs':List AF}{A:Around}(ok:AOk T Fs A)(h:∀ x∈ziS Fs,x∈ziS Fs'):∀ v,A.handled=some v->∃ a o,v=.ref a/\(a,o)∈ziS Fs'/\Ctx2 o:=λ v e=>
 let ⟨a,o,r,m,c⟩:=ok.ctx v e;⟨a,o,r,h _ m,c⟩
inductive zhS (T:Tr)(Fs:List AF)(s:Shared)(Q:PV->zaA->Prop)(v:Value)(s':Shared):Prop
 | mk (p:PV) (H':zaA) (pr:PR s'.heap p v) (R:Rep T.C Fs H' s') (k:zaB s.heap s'.heap) (q:Q p H'):zhS T Fs s Q v s'
inductive znC (T:Tr)(Fs:List AF)(s:Shared)(Q:Bool->zaA->Prop)(b:Bool)(s':Shared):Prop
 | mk (H':zaA) (R:Rep T.C Fs H' s') (k:zaB s.heap s'.heap) (q:Q b H'):znC T Fs s Q b s'
inductive PostC (T:Tr)(Fs:List AF)(s:Shared)(Q:Bool->zaA->Prop)(c:Value)(s':Shared):Prop
 | mk (b:Bool) (e:c=.bool b) (q:znC T Fs s Q b s'):PostC T Fs s Q c s'
inductive PostL (T:Tr)(Fs:List AF)(s:Shared)(Q:List PV->zaA->Prop)(vs:List Value)(s':Shared):Prop
 | mk (ps:List PV) (H':zaA) (pr:PRs s'.heap ps vs) (R:Rep T.C Fs H' s') (k:zaB s.heap s'.heap) (q:Q ps H'):PostL T Fs s Q vs s'
inductive zuD (T:Tr)(Fs:List AF)(s:Shared)(Q:zaA->Prop)(s':Shared):Prop
 | mk (H':zaA) (R:Rep T.C Fs H' s') (k:zaB s.heap s'.heap) (q:Q H'):zuD T Fs s Q s'
theorem zhS.elim {T:Tr}{Fs:List AF}{s:Shared}{Q:PV->zaA->Prop}{v:Value}{s':Shared}{P:Prop}(h:zhS T Fs s Q v s')(k:∀ (p:PV) (H':zaA),PR s'.heap p v->Rep T.C Fs H' s'->zaB s.heap s'.heap->Q p H'->P):P:=by cases h with|mk p H' a b c d=>exact k p H' a b c d
theorem znC.elim {T:Tr}{Fs:List AF}{s:Shared}{Q:Bool->zaA->Prop}{b:Bool}{s':Shared}{P:Prop}(h:znC T Fs s Q b s')(k:∀ (H':zaA),Rep T.C Fs H' s'->zaB s.heap s'.heap->Q b H'->P):P:=by cases h with|mk H' a b c=>exact k H' a b c
theorem PostC.elim {T:Tr}{Fs:List AF}{s:Shared}{Q:Bool->zaA->Prop}{c:Value}{s':Shared}{P:Prop}(h:PostC T Fs s Q c s')(k:∀ (b:Bool),c=.bool b->∀ (H':zaA),Rep T.C Fs H' s'->zaB s.heap s'.heap->Q b H'->P):P:=by cases h with|mk b e q=>exact q.elim (k b e)
theorem zuD.elim {T:Tr}{Fs:List AF}{s:Shared}{Q:zaA->Prop}{s':Shared}{P:Prop}(h:zuD T Fs s Q s')(k:∀ (H':zaA),Rep T.C Fs H' s'->zaB s.heap s'.heap->Q H'->P):P:=by cases h with|mk H' a b c=>exact k H' a b c
theorem PostL.elim {T:Tr}{Fs:List AF}{s:Shared}{Q:List PV->zaA->Prop}{vs:List Value}{s':Shared}{P:Prop}(h:PostL T Fs s Q vs s')(k:∀ (ps:List PV) (H':zaA),PRs s'.heap ps vs->Rep T.C Fs H' s'->zaB s.heap s'.heap->Q ps H'->P):P:=by cases h with|mk p H' a b c d=>exact k p H' a b c d
noncomputable def AE (T:Tr)(f:FR)(Fs:List AF)(H:zaA)(e:Expr)(Q:PV->zaA->Prop)(E:Value->Shared->Prop):Prop:=
 ∀ A s,AOk T (.fr f::Fs) A->Rep T.C (.fr f::Fs) H s->wpAny T.C.M A (eval e f.env) (zhS T (.fr f::Fs) s Q) E s
noncomputable def AT (T:Tr)(f:FR)(Fs:List AF)(H:zaA)(e:Expr)(Q:Bool->zaA->Prop)(E:Value->Shared->Prop):Prop:=
 ∀ A s,AOk T (.fr f::Fs) A->Rep T.C (.fr f::Fs) H s->wpAny T.C.M A (isTrue e f.env (eval e f.env)) (znC T (.fr f::Fs) s Q) E s
noncomputable def AL (T:Tr)(f:FR)(Fs:List AF)(H:zaA)(es:List Expr)(Q:List PV->zaA->Prop)(E:Value->Shared->Prop):Prop:=
 ∀ A s pos,AOk T (.fr f::Fs) A->Rep T.C (.fr f::Fs) H s->wpAny T.C.M A (spliced (backTo pos (starEach es f.env))) (PostL T (.fr f::Fs) s Q) E s
noncomputable def ABin (T:Tr)(Fs:List AF)(H:zaA)(op:Value->Value->Sem Value)(p q:PV)(Q:PV->zaA->Prop)(E:Value->Shared->Prop):Prop:=
 ∀ A s v w,AOk T Fs A->Rep T.C Fs H s->PR s.heap p v->PR s.heap q w->wpAny T.C.M A (op v w) (zhS T Fs s Q) E s
noncomputable def AUn (T:Tr)(Fs:List AF)(H:zaA)(op:Value->Sem Value)(p:PV)(Q:PV->zaA->Prop)(E:Value->Shared->Prop):Prop:=
 ∀ A s v,AOk T Fs A->Rep T.C Fs H s->PR s.heap p v->wpAny T.C.M A (op v) (zhS T Fs s Q) E s
noncomputable def ACmp (T:Tr)(Fs:List AF)(H:zaA)(op:CmpOp)(p q:PV)(Q:Bool->zaA->Prop)(E:Value->Shared->Prop):Prop:=
 ∀ A s v w,AOk T Fs A->Rep T.C Fs H s->PR s.heap p v->PR s.heap q w->wpAny T.C.M A (compareOp op v w) (PostC T Fs s Q) E s
noncomputable def ATr (T:Tr)(Fs:List AF)(H:zaA)(p:PV)(Q:Bool->zaA->Prop)(E:Value->Shared->Prop):Prop:=
 ∀ A s v,AOk T Fs A->Rep T.C Fs H s->PR s.heap p v->wpAny T.C.M A (truthy v) (znC T Fs s Q) E s
noncomputable def zaT (T:Tr)(Fs:List AF)(H:zaA)(g:PV)(ps:List PV)(Q:PV->zaA->Prop)(E:Value->Shared->Prop):Prop:=
 ∀ A s v vs,AOk T Fs A->Rep T.C Fs H s->PR s.heap g v->PRs s.heap ps vs->wpAny T.C.M A (call v vs) (zhS T Fs s Q) E s
noncomputable def zgG (T:Tr)(Fs:List AF)(H:zaA)(g:PV)(ps:List PV)(Q:PV->zaA->Prop)(E:Value->Shared->Prop):Prop:=
 ∀ A s v vs,AOk T Fs A->Rep T.C Fs H s->PR s.heap g v->PRs s.heap ps vs->codeAny T.C.M A (.call v ⟨vs,[]⟩) (λ r s'=>match r with | .ok (.ret u)=>zhS T Fs s Q u s' | .ok _=>False | .error e=>E e s') s
section
variable {T:Tr}{f:FR}{Fs:List AF}{H:zaA}{E:Value->Shared->Prop}{s:Shared}{A:Around}
theorem zgG.call {g:PV}{ps:List PV}{Q:PV->zaA->Prop}(h:zgG T Fs H g ps Q E):zaT T Fs H g ps Q E:=λ A s v vs ok R a b=>wpAny_call (h A s v vs ok R a b)
theorem zgG.mono {g:PV}{ps:List PV}{Q Q':PV->zaA->Prop}{E':Value->Shared->Prop}(h:zgG T Fs H g ps Q E)(hq:∀ p H,Q p H->Q' p H)(hE:∀ e s,E e s->E' e s):zgG T Fs H g ps Q' E':=
 λ A s v vs ok R a b=>codeAny_mono (h A s v vs ok R a b) λ r s' x=>by
  rcases r with e | (v | _ | _ | _)
  ·exact hE _ _ x
  all_goals first|exact x.elim | (obtain⟨p,H',a,b,c,d⟩:=x;exact⟨p,H',a,b,c,hq _ _ d⟩)
theorem zaI {Q:PV->zaA->Prop}{p:PV}{v:Value}{s':Shared}(R:Rep T.C Fs H s)(hp:PR s.heap p v)(hq:Q p H)(hh:s'.heap=s.heap:=by rfl)(hg:s'.gens=s.gens:=by rfl)(hos:s'.os=s.os:=by rfl):zhS T Fs s Q v s':=
 ⟨p,H,hh▸hp,R.same hh hg hos,hh▸zaB.refl _,hq⟩
theorem zaM {Q:Bool->zaA->Prop}{b:Bool}{s':Shared}(R:Rep T.C Fs H s)(hq:Q b H)(hh:s'.heap=s.heap:=by rfl)(hg:s'.gens=s.gens:=by rfl)(hos:s'.os=s.os:=by rfl):znC T Fs s Q b s':=
 ⟨H,R.same hh hg hos,hh▸zaB.refl _,hq⟩
theorem AE.mono {e:Expr}{Q Q':PV->zaA->Prop}(h:AE T f Fs H e Q E)(hq:∀ p H,Q p H->Q' p H):AE T f Fs H e Q' E:=
 λ A s ok R=>wpAny_mono (h A s ok R) (λ v s' hh=>hh.elim λ p H' a b c d=>⟨p,H',a,b,c,hq _ _ d⟩) λ _ _ x=>x
theorem zaT.noE {g:PV}{ps:List PV}{Q:PV->zaA->Prop}(h:zaT T Fs H g ps Q λ _ _=>False):zaT T Fs H g ps Q E:=
 λ A s v vs ok R a b=>wpAny_mono (h A s v vs ok R a b) (λ _ _ x=>x) λ _ _ x=>x.elim
theorem zaT.mono {g:PV}{ps:List PV}{Q Q':PV->zaA->Prop}(h:zaT T Fs H g ps Q E)(hq:∀ p H,Q p H->Q' p H):zaT T Fs H g ps Q' E:=
 λ A s v vs ok R a b=>wpAny_mono (h A s v vs ok R a b) (λ v s' hh=>hh.elim λ p H' a b c d=>⟨p,H',a,b,c,hq _ _ d⟩) λ _ _ x=>x
theorem AE.int {i:Int}{k:Nat}{pos:Pos}{Q:PV->zaA->Prop}(h:Q (.int i) H):AE T f Fs H (.Constant (.int i) k pos) Q E:=
 λ A s ok R=>wpAny_Constant_int (zaI R PR.int h)
theorem AE.str {x:Str}{k:Nat}{pos:Pos}{Q:PV->zaA->Prop}(h:Q (.str x) H):AE T f Fs H (.Constant (.str x) k pos) Q E:=
 λ A s ok R=>wpAny_Constant_str (zaI R PR.str h)
theorem AE.none {k:Nat}{pos:Pos}{Q:PV->zaA->Prop}(h:Q .none H):AE T f Fs H (.Constant .none k pos) Q E:=
 λ A s ok R=>wpAny_Constant_none (zaI R PR.none h)
theorem AE.bool {b:Bool}{k:Nat}{pos:Pos}{Q:PV->zaA->Prop}(h:Q (.bool b) H):AE T f Fs H (.Constant (.bool b) k pos) Q E:=
 λ A s ok R=>wpAny_Constant_bool (zaI R PR.bool h)
noncomputable def isVar:Option NameKind->Bool
 | some .local=>true
 | some .cell=>true
 | some .free=>true
 | _=>false
theorem zrH {x:Str}{p:PV}{Q:PV->zaA->Prop}(R:Rep T.C (.fr f::Fs) H s)(hk:isVar (f.env.kindOf x)=true)(hl:f.ls.lookup x=some p)(h:Q p H)(hc:(x==("__classdict__" : Str))=false):
  wpAny T.C.M A (loadName f.env x) (zhS T (.fr f::Fs) s Q) E s:=by
 have F:FrOk s.heap f:=(R.frs _ (.head _)).1;have hcase:f.env.kindOf x=some .local\/f.env.kindOf x=some .cell\/f.env.kindOf x=some .free:=by
  revert hk;generalize f.env.kindOf x=o;intro hk
  rcases o with _ | k
  ·cases hk
  ·cases k <;> first|exact .inl rfl|exact .inr (.inl rfl) | exact .inr (.inr rfl) | cases hk
 rcases hcase with hk|hk|hk
 ·refine q12 F.ns λ m hm hv=>?_
  refine q12 (hv x p hl hk) λ v e pr=>?_;exact wpAny_loadName_local F.kind hk hm e (zaI R pr h)
 ·refine q23 (F.cellv x p hl (.inl hk)) λ c v e ic pr=>?_
  exact wpAny_loadName_cell F.kind hk e ic (zaI R pr h)
 ·refine q23 (F.cellv x p hl (.inr hk)) λ c v e ic pr=>?_
  exact wpAny_loadName_free F.kind hk e ic (zaI R pr h) hc
theorem AE.name {x:Str}{pos:Pos}{p:PV}{nm:List (Str×NameKind)}{Q:PV->zaA->Prop}(hn:f.env.scope.names=nm)(hk:isVar (nm.lookup x)=true)(hl:f.ls.lookup x=some p)(h:Q p H)
  (hd:(x==("__debug__" : Str))=false:=by decide) (hc:(x==("__classdict__" : Str))=false:=by decide):AE T f Fs H (.Name x pos) Q E:=
 λ A s ok R=>wpAny_Name (zrH R (by rw[show f.env.kindOf x=f.env.scope.names.lookup x from rfl,hn];exact hk) hl h hc) hd
theorem AE.glob {x:Str}{pos:Pos}{a:Addr}{nm:List (Str×NameKind)}{Q:PV->zaA->Prop}(hn:f.env.scope.names=nm)(hk:nm.lookup x=some .globalImplicit)(he:nsIn T.C.K mainGlobals x=some (some (.ref a)))(h:Q (.ref a) H)
  (hd:(x==("__debug__" : Str))=false:=by decide):AE T f Fs H (.Name x pos) Q E:=λ A s ok R=>by
 have F:FrOk s.heap f:=(R.frs _ (.head _)).1;refine Name_function_global F.kind (by rw[show f.env.kindOf x=f.env.scope.names.lookup x from rfl,hn];exact hk) (loadGlobal_global (env:=f.env) ?_ (mg_of R.ok.kin R.ok.top.g he) (zaI R PR.ref h)) hd;rw[F.globals];exact R.ok.top.g.keeps R.keep
theorem zeX {x:Str}{pos:Pos}{v:Value}{Q:Value->Shared->Prop}(R:Rep T.C (.fr f::Fs) H s)(hk:f.env.kindOf x=some .globalImplicit)
  (hv:bootBuiltins x=some v) (hmiss:T.C.mg x=Option.none) (hnn:x ≠ "__name__") (h:Q v s) (hd:(x==("__debug__" : Str))=false):wpAny T.C.M A (eval (.Name x pos) f.env) Q E s:=by
 have F:FrOk s.heap f:=(R.frs _ (.head _)).1;refine Name_function_global F.kind hk (loadGlobal_builtin (env:=f.env) (mg:=T.C.mg) (mb:=T.C.mb) ?_ hmiss ?_ ((R.ok.top.builtins x hnn).trans hv) h) hd
 ·rw[F.globals];exact R.ok.top.g.keeps R.keep
 ·rw[F.builtins];exact R.ok.top.b.keeps R.keep
theorem AE.ty {x:Str}{pos:Pos}{n:String}{nm:List (Str×NameKind)}{Q:PV->zaA->Prop}(hmiss:T.C.mg x=Option.none)(hn:f.env.scope.names=nm)(hk:nm.lookup x=some .globalImplicit)(hv:bootBuiltins x=some (.type n))(h:Q (.ty n) H)
  (hnn:x ≠ "__name__" := by decide +kernel) (hd:(x==("__debug__" : Str))=false:=by decide):AE T f Fs H (.Name x pos) Q E:=λ A s ok R=>
 zeX R (by rw[show f.env.kindOf x=f.env.scope.names.lookup x from rfl,hn];exact hk) hv hmiss hnn (zaI R PR.ty h) hd
theorem AE.bi {x:Str}{pos:Pos}{n:String}{nm:List (Str×NameKind)}{Q:PV->zaA->Prop}(hmiss:T.C.mg x=Option.none)(hn:f.env.scope.names=nm)(hk:nm.lookup x=some .globalImplicit)(hv:bootBuiltins x=some (.builtin n))(h:Q (.bi n) H)
  (hnn:x ≠ "__name__" := by decide +kernel) (hd:(x==("__debug__" : Str))=false:=by decide):AE T f Fs H (.Name x pos) Q E:=λ A s ok R=>
 zeX R (by rw[show f.env.kindOf x=f.env.scope.names.lookup x from rfl,hn];exact hk) hv hmiss hnn (zaI R PR.bi h) hd
theorem AE.binop {l r:Expr}{op:Operator}{pos:Pos}{Q:PV->zaA->Prop}(h:AE T f Fs H l (λ p H1=>AE T f Fs H1 r (λ q H2'=>ABin T (.fr f::Fs) H2' (binaryOp op) p q Q E) E) E):AE T f Fs H (.BinOp l op r pos) Q E:=
 λ A s ok R=>wpAny_BinOp (wpAny_mono (h A s ok R) (λ v s₁ hh=>hh.elim λ p H1 pr R1 k1 h1'=>wpAny_mono (h1' A s₁ ok R1) (λ w s2 hh=>hh.elim λ q H2' qr R2 k2 h2=>
  wpAny_mono (h2 A s2 v w ok R2 (pr.keep k2) qr) (λ u s3 hh=>hh.elim λ p' H' pr' R' k' hq=>⟨p',H',pr',R',k1.trans (k2.trans k'),hq⟩) λ _ _ x=>x) λ _ _ x=>x) λ _ _ x=>x)
theorem AE.unop {l:Expr}{op:UnaryOp}{pos:Pos}{Q:PV->zaA->Prop}(h:AE T f Fs H l (λ p H1=>AUn T (.fr f::Fs) H1 (unaryOp op) p Q E) E):AE T f Fs H (.UnaryOp op l pos) Q E:=
 λ A s ok R=>wpAny_UnaryOp (wpAny_mono (h A s ok R) (λ v s₁ hh=>hh.elim λ p H1 pr R1 k1 h1'=>
  wpAny_mono (h1' A s₁ v ok R1 pr) (λ u s3 hh=>hh.elim λ p' H' pr' R' k' hq=>⟨p',H',pr',R',k1.trans k',hq⟩) λ _ _ x=>x) λ _ _ x=>x)
theorem ABin.ofInt {op:Value->Value->Sem Value}{a b:Int}{c:Int}{Q:PV->zaA->Prop}(h:Q (.int c) H)
  (hop:∀ A s t u (Q:Value->Shared->Prop),Q (.int c s.toks) { s with toks:=s.toks+1 }->wpAny T.C.M A (op (.int a t) (.int b u)) Q E s):ABin T Fs H op (.int a) (.int b) Q E:=λ A s v w ok R pv pw=>by
 obtain⟨t,rfl⟩:=pv.int_inv;obtain⟨u,rfl⟩:=pw.int_inv;exact hop A s t u _ (zaI R PR.int h)
theorem ABin.add {a b:Int}{Q:PV->zaA->Prop}(h:Q (.int (a+b)) H):ABin T Fs H (binaryOp .Add) (.int a) (.int b) Q E:=.ofInt h λ _ _ _ _ _ h=>P.add_int h
theorem ABin.sub {a b:Int}{Q:PV->zaA->Prop}(h:Q (.int (a-b)) H):ABin T Fs H (binaryOp .Sub) (.int a) (.int b) Q E:=.ofInt h λ _ _ _ _ _ h=>P.sub_int h
theorem ABin.mul {a b:Int}{Q:PV->zaA->Prop}(hm:IntMulOk a b)(h:Q (.int (a*b)) H):ABin T Fs H (binaryOp .Mult) (.int a) (.int b) Q E:=.ofInt h λ _ _ _ _ _ h=>P.mul_int h hm
theorem ABin.mod {a b:Int}{Q:PV->zaA->Prop}(hb:b≠0)(h:Q (.int (a.fmod b)) H):ABin T Fs H (binaryOp .Mod) (.int a) (.int b) Q E:=.ofInt h λ _ _ _ _ _ h=>mod_int' hb h
theorem ABin.div {a b:Int}{Q:PV->zaA->Prop}(hb:b≠0)(hp:Builtin.divisionGoesByPylong a b=false)(h:Q (.int (a.fdiv b)) H):ABin T Fs H (binaryOp .FloorDiv) (.int a) (.int b) Q E:=.ofInt h λ _ _ _ _ _ h=>floordiv_int hb h (.inl hp)
theorem ABin.pow {a b:Int}{Q:PV->zaA->Prop}(hb:0<=b)(hp:(Builtin.Int.intBits a:Int)*b<=2 ^ 27)(h:Q (.int (a ^ b.toNat)) H):ABin T Fs H (binaryOp .Pow) (.int a) (.int b) Q E:=.ofInt h λ _ _ _ _ _ h=>pow_int hb hp h
theorem AUn.neg {a:Int}{Q:PV->zaA->Prop}(h:Q (.int (-a)) H):AUn T Fs H (unaryOp .USub) (.int a) Q E:=λ A s v ok R pv=>by
 obtain⟨t,rfl⟩:=pv.int_inv;exact P.neg_int (zaI R PR.int h)
theorem AUn.not {p:PV}{Q:PV->zaA->Prop}(h:ATr T Fs H p (λ b H1=>Q (.bool (!b)) H1) E):AUn T Fs H (unaryOp .Not) p Q E:=λ A s v ok R pv=>
 not_value (wpAny_mono (h A s v ok R pv) (λ b s' hh=>hh.elim λ H' R' k q=>⟨_,H',PR.bool,R',k,q⟩) λ _ _ x=>x)
theorem ACmp.ofInt {op:CmpOp}{a b:Int}{c:Bool}{Q:Bool->zaA->Prop}(h:Q c H)
  (hop:∀ A s t u (Q:Value->Shared->Prop),Q (.bool c) s->wpAny T.C.M A (compareOp op (.int a t) (.int b u)) Q E s):ACmp T Fs H op (.int a) (.int b) Q E:=λ A s v w ok R pv pw=>by
 obtain⟨t,rfl⟩:=pv.int_inv;obtain⟨u,rfl⟩:=pw.int_inv;exact hop A s t u _ ⟨_,rfl,zaM R h⟩
theorem ACmp.lt {a b:Int}{Q:Bool->zaA->Prop}(h:Q (decide (a<b)) H):ACmp T Fs H .Lt (.int a) (.int b) Q E:=.ofInt h λ _ _ _ _ _ h=>P.lt_int h
theorem ACmp.le {a b:Int}{Q:Bool->zaA->Prop}(h:Q (decide (a<=b)) H):ACmp T Fs H .LtE (.int a) (.int b) Q E:=.ofInt h λ _ _ _ _ _ h=>P.le_int h
theorem ACmp.gt {a b:Int}{Q:Bool->zaA->Prop}(h:Q (decide (b<a)) H):ACmp T Fs H .Gt (.int a) (.int b) Q E:=.ofInt h λ _ _ _ _ _ h=>P.gt_int h
theorem ACmp.ge {a b:Int}{Q:Bool->zaA->Prop}(h:Q (decide (b<=a)) H):ACmp T Fs H .GtE (.int a) (.int b) Q E:=.ofInt h λ _ _ _ _ _ h=>P.ge_int h
theorem ACmp.eqInt {a b:Int}{Q:Bool->zaA->Prop}(h:Q (decide (a=b)) H):ACmp T Fs H .Eq (.int a) (.int b) Q E:=.ofInt h λ _ _ _ _ _ h=>P.eq_int (by rw[show (a==b)=decide (a=b) from rfl];exact h)
theorem ACmp.neInt {a b:Int}{Q:Bool->zaA->Prop}(h:Q (!decide (a=b)) H):ACmp T Fs H .NotEq (.int a) (.int b) Q E:=.ofInt h λ _ _ _ _ _ h=>P.ne_int (by rw[show (a != b)=!decide (a=b) from rfl];exact h)
theorem ACmp.eqStr {a b:Str}{Q:Bool->zaA->Prop}(h:Q (a==b) H):ACmp T Fs H .Eq (.str a) (.str b) Q E:=λ A s v w ok R pv pw=>by
 obtain⟨t,rfl⟩:=pv.str_inv;obtain⟨u,rfl⟩:=pw.str_inv;exact PyProof.Rows.eq_str ⟨_,rfl,zaM R h⟩
theorem ACmp.neStr {a b:Str}{Q:Bool->zaA->Prop}(h:Q (a != b) H):ACmp T Fs H .NotEq (.str a) (.str b) Q E:=λ A s v w ok R pv pw=>by
 obtain⟨t,rfl⟩:=pv.str_inv;obtain⟨u,rfl⟩:=pw.str_inv;exact PyProof.Rows.ne_str ⟨_,rfl,zaM R h⟩
noncomputable def PV.isNone:PV->Bool
 | .none=>true
 | _=>false
theorem PR.isNone {h:Heap}{p:PV}{v:Value}(x:PR h p v):(v==.none)=p.isNone:=by
 cases p with
 | none=>rw[x.none_inv];rfl
 | bool=>rw[x.bool_inv];rfl
 | int=>obtain⟨t,rfl⟩:=x.int_inv;rfl
 | str=>obtain⟨t,rfl⟩:=x.str_inv;rfl
 | tup=>refine q42 x.tup_inv ?_;intro a o vs n u0;cases u0;intro _;rfl
 | ref=>rw[x.ref_inv];rfl
 | ty=>rw[x.ty_inv];rfl
 | bi=>rw[x.bi_inv];rfl
theorem ACmp.isNone {p:PV}{Q:Bool->zaA->Prop}(h:Q p.isNone H):ACmp T Fs H .Is p .none Q E:=λ A s v w ok R pv pw=>by
 rw[pw.none_inv];exact is_none ⟨_,rfl,by rw[pv.isNone];exact zaM R h⟩
theorem ACmp.isNotNone {p:PV}{Q:Bool->zaA->Prop}(h:Q (!p.isNone) H):ACmp T Fs H .IsNot p .none Q E:=λ A s v w ok R pv pw=>by
 rw[pw.none_inv];exact isNot_none ⟨_,rfl,by rw[pv.isNone];exact zaM R h⟩
theorem zhQ {M:Model}{vs keep:List Value}{Q:Unit->Shared->Prop}(h:Q () s):wpAny M A (release vs keep) Q E s:=λ Γ p hΓ=>by rw[Sem.wp_release];exact h
theorem ztE {M:Model}{vs:List Value}{m:Sem Value}{Q:Value->Shared->Prop}(h:wpAny M A m Q E s):wpAny M A (operate vs m) Q E s:=λ Γ p hΓ=>by rw[Sem.wp_operate];exact h Γ p hΓ
theorem AE.cmp {l r:Expr}{op:CmpOp}{pos:Pos}{Q:PV->zaA->Prop}(h:AE T f Fs H l (λ p H1=>AE T f Fs H1 r (λ q H2'=>ACmp T (.fr f::Fs) H2' op p q (λ b H3=>Q (.bool b) H3) E) E) E)
  (hm:behindInMarks op r=false:=by with_unfolding_all rfl):AE T f Fs H (.Compare l [op] [r] pos) Q E:=
 λ A s ok R=>wpAny_Compare1 (wpAny_mono (h A s ok R) (λ v s₁ hh=>hh.elim λ p H1 pr R1 k1 h1'=>wpAny_mono (h1' A s₁ ok R1) (λ w s2 hh=>hh.elim λ q H2' qr R2 k2 h2=>
  wpAny_mono (h2 A s2 v w ok R2 (pr.keep k2) qr) (λ u s3 hh=>hh.elim λ b eb H' R' k' hq=>⟨.bool b,H',eb▸PR.bool,R',k1.trans (k2.trans k'),hq⟩) λ _ _ x=>x) λ _ _ x=>x) λ _ _ x=>x) hm
theorem AT.cmp {l r:Expr}{op:CmpOp}{pos:Pos}{Q:Bool->zaA->Prop}(h:AE T f Fs H l (λ p H1=>AE T f Fs H1 r (λ q H2'=>ACmp T (.fr f::Fs) H2' op p q Q E) E) E)
  (hm:behindInMarks op r=false:=by with_unfolding_all rfl):AT T f Fs H (.Compare l [op] [r] pos) Q E:=
 λ A s ok R=>wpAny_isTrue_Compare1 (wpAny_mono (h A s ok R) (λ v s₁ hh=>hh.elim λ p H1 pr R1 k1 h1'=>wpAny_mono (h1' A s₁ ok R1) (λ w s2 hh=>hh.elim λ q H2' qr R2 k2 h2=>
  wpAny_mono (h2 A s2 v w ok R2 (pr.keep k2) qr) (λ u s3 hh=>hh.elim λ b eb H' R' k' hq=>eb▸wpAny_truthy_bool ⟨H',R',k1.trans (k2.trans k'),hq⟩) λ _ _ x=>x) λ _ _ x=>x) λ _ _ x=>x) hm
theorem AT.cmp2 {l r r':Expr}{op op':CmpOp}{pos:Pos}{Q:Bool->zaA->Prop}
  (h:AE T f Fs H l (λ p H1=>AE T f Fs H1 r (λ q H2'=>ACmp T (.fr f::Fs) H2' op p q (λ b H3=>if b then AE T f Fs H3 r' (λ q' H4=>ACmp T (.fr f::Fs) H4 op' q q' Q E) E else Q false H3) E) E) E)
  (hm:behindInMarks op' r'=false:=by with_unfolding_all rfl):AT T f Fs H (.Compare l [op,op'] [r,r'] pos) Q E:=λ A s ok R=>by
 show wpAny _ _ (do testChain pos (<- eval l f.env) [op,op'] [eval r f.env,markedBehindIn op' r' (eval r' f.env)]) _ _ _
 refine wpAny_bind (wpAny_mono (h A s ok R) (λ v s₁ hh=>hh.elim λ p H1 pr R1 k1 h1'=>?_) λ _ _ x=>x);refine wpAny_bind (m:=holding _ _) (wpAny_holding (wpAny_mono (h1' A s₁ ok R1) (λ w s2 hh=>hh.elim λ q H2' qr R2 k2 h2=>wpAny_bind (wpAny_standAt ?_)) λ _ _ x=>x));refine wpAny_bind (wpAny_holding (wpAny_mono (h2 A s2 v w ok R2 (pr.keep k2) qr) (λ u s3 hh=>hh.elim λ b eb H3 R3 k3 h3=>?_) λ _ _ x=>x));subst eb;refine wpAny_bind (zhQ (wpAny_bind (wpAny_holding (wpAny_truthy_bool ?_))));cases b with
 | false=>exact wpAny_pure ⟨H3,R3,k1.trans (k2.trans k3),h3⟩
 | true=>
  simp only[if_true]at h3 ⊢;rw[markedBehindIn_of_false hm];refine wpAny_bind (m:=holding _ _) (wpAny_holding (wpAny_mono (h3 A s3 ok R3) (λ w' s4 hh=>hh.elim λ q' H4 qr' R4 k4 h4=>wpAny_bind (wpAny_standAt ?_)) λ _ _ x=>x));refine wpAny_bind (ztE (wpAny_mono (h4 A s4 w w' ok R4 (qr.keep (k3.trans k4)) qr') (λ u s5 hh=>hh.elim λ b eb H5 R5 k5 h5=>?_) (λ _ _ x=>x)));subst eb;exact wpAny_holding (wpAny_truthy_bool ⟨H5,R5,k1.trans (k2.trans (k3.trans (k4.trans k5))),h5⟩)
theorem AT.not {e:Expr}{pos:Pos}{Q:Bool->zaA->Prop}(h:AT T f Fs H e (λ b H1=>Q (!b) H1) E):AT T f Fs H (.UnaryOp .Not e pos) Q E:=
 λ A s ok R=>wpAny_isTrue_Not (wpAny_mono (h A s ok R) (λ b s₁ hh=>hh.elim λ H1 R1 k1 q=>⟨H1,R1,k1,q⟩) λ _ _ x=>x)
noncomputable def AAll (T:Tr)(f:FR)(Fs:List AF)(H:zaA)(op:BoolOp)(es:List Expr)(Q:Bool->zaA->Prop)(E:Value->Shared->Prop):Prop:=
 ∀ A s,AOk T (.fr f::Fs) A->Rep T.C (.fr f::Fs) H s->wpAny T.C.M A (allTrue op es f.env) (znC T (.fr f::Fs) s Q) E s
theorem AT.boolop {op:BoolOp}{es:List Expr}{pos:Pos}{Q:Bool->zaA->Prop}(h:AAll T f Fs H op es Q E):AT T f Fs H (.BoolOp op es pos) Q E:=λ A s ok R=>wpAny_isTrue_BoolOp (h A s ok R)
theorem AAll.and_nil {Q:Bool->zaA->Prop}(h:Q true H):AAll T f Fs H .And [] Q E:=λ A s ok R=>wpAny_allTrue_And_nil (zaM R h)
theorem AAll.or_nil {Q:Bool->zaA->Prop}(h:Q false H):AAll T f Fs H .Or [] Q E:=λ A s ok R=>wpAny_allTrue_Or_nil (zaM R h)
theorem AAll.and {e:Expr}{es:List Expr}{Q:Bool->zaA->Prop}(h:AT T f Fs H e (λ b H1=>if b then AAll T f Fs H1 .And es Q E else Q false H1) E):AAll T f Fs H .And (e::es) Q E:=λ A s ok R=>
 wpAny_allTrue_And_cons (wpAny_mono (h A s ok R) (λ b s₁ hh=>hh.elim λ H1 R1 k1 h1'=>by
  cases b with
  | false=>exact⟨H1,R1,k1,h1'⟩
  | true=>exact wpAny_mono (h1' A s₁ ok R1) (λ b s2 hh=>hh.elim λ H2' R2 k2 h2=>⟨H2',R2,k1.trans k2,h2⟩) λ _ _ x=>x) λ _ _ x=>x)
theorem AAll.or {e:Expr}{es:List Expr}{Q:Bool->zaA->Prop}(h:AT T f Fs H e (λ b H1=>if b then Q true H1 else AAll T f Fs H1 .Or es Q E) E):AAll T f Fs H .Or (e::es) Q E:=λ A s ok R=>
 wpAny_allTrue_Or_cons (wpAny_mono (h A s ok R) (λ b s₁ hh=>hh.elim λ H1 R1 k1 h1'=>by
  cases b with
  | true=>exact⟨H1,R1,k1,h1'⟩
  | false=>exact wpAny_mono (h1' A s₁ ok R1) (λ b s2 hh=>hh.elim λ H2' R2 k2 h2=>⟨H2',R2,k1.trans k2,h2⟩) λ _ _ x=>x) λ _ _ x=>x)
theorem AT.value {e:Expr}{Q:Bool->zaA->Prop}(h:AE T f Fs H e (λ p H1=>ATr T (.fr f::Fs) H1 p Q E) E)
  (he:isTrue e f.env (eval e f.env)=(do let v <- eval e f.env;standAt e.pos;holding [v] (truthy v)):=by rfl):AT T f Fs H e Q E:=λ A s ok R=>
 wpAny_isTrue_value (wpAny_mono (h A s ok R) (λ v s₁ hh=>hh.elim λ p H1 pr R1 k1 h1'=>wpAny_mono (h1' A s₁ v ok R1 pr) (λ b s2 hh=>hh.elim λ H2' R2 k2 h2=>⟨H2',R2,k1.trans k2,h2⟩) λ _ _ x=>x) λ _ _ x=>x) he
theorem ATr.bool {b:Bool}{Q:Bool->zaA->Prop}(h:Q b H):ATr T Fs H (.bool b) Q E:=λ A s v ok R pv=>by rw[pv.bool_inv];exact wpAny_truthy_bool (zaM R h)
theorem ATr.int {i:Int}{Q:Bool->zaA->Prop}(h:Q (!decide (i=0)) H):ATr T Fs H (.int i) Q E:=λ A s v ok R pv=>by
 obtain⟨t,rfl⟩:=pv.int_inv;exact P.truthy_int (zaM R (by rw[show (i != 0)=!decide (i=0) from rfl];exact h))
theorem AE.ifexp {t a b:Expr}{pos:Pos}{Q:PV->zaA->Prop}(h:AT T f Fs H t (λ c H1=>if c then AE T f Fs H1 a Q E else AE T f Fs H1 b Q E) E):AE T f Fs H (.IfExp t a b pos) Q E:=λ A s ok R=>
 wpAny_IfExp (wpAny_mono (h A s ok R) (λ c s₁ hh=>hh.elim λ H1 R1 k1 h1'=>by
  have tail:∀ {e:Expr},AE T f Fs H1 e Q E->wpAny T.C.M A (eval e f.env) (zhS T (.fr f::Fs) s Q) E s₁:=λ h=>wpAny_mono (h A s₁ ok R1) (λ v s2 hh=>hh.elim λ p H2' pr R2 k2 h2=>⟨p,H2',pr,R2,k1.trans k2,h2⟩) λ _ _ x=>x;cases c with
  | true=>exact tail h1'
  | false=>exact tail h1') λ _ _ x=>x)
theorem AL.nil {Q:List PV->zaA->Prop}(h:Q [] H):AL T f Fs H [] Q E:=λ A s pos ok R=>wpAny_items_nil ⟨[],H,PRs.nil,R,zaB.refl _,h⟩
theorem AL.cons {e:Expr}{es:List Expr}{Q:List PV->zaA->Prop}(h:AE T f Fs H e (λ p H1=>AL T f Fs H1 es (λ ps H2'=>Q (p::ps) H2') E) E)
  (he:starEach (e::es) f.env=(false,eval e f.env)::starEach es f.env:=by rfl):AL T f Fs H (e::es) Q E:=λ A s pos ok R=>
 wpAny_items_cons (wpAny_mono (h A s ok R) (λ v s₁ hh=>hh.elim λ p H1 pr R1 k1 h1'=>wpAny_mono (h1' A s₁ pos ok R1) (λ vs s2 hh=>hh.elim λ ps H2' prs R2 k2 h2=>
  ⟨p::ps,H2',PRs.cons (pr.keep k2) prs,R2,k1.trans k2,h2⟩) λ _ _ x=>x) λ _ _ x=>x) he
end
noncomputable abbrev Ls:=List (Str×PV)
inductive AFl where
 | next|brk|cont
 | ret (p:PV)
noncomputable def FlR (h:Heap):AFl->Flow->Prop
 | .next,.next=>True
 | .brk,.brk=>True
 | .cont,.cont=>True
 | .ret p,.ret v=>PR h p v
 | _,_=>False
inductive zuJ (T:Tr)(env:Env)(Fs:List AF)(s:Shared)(Q:AFl->Ls->zaA->Prop)(fl:Flow)(s':Shared):Prop
 | mk (a:AFl) (ls':Ls) (H':zaA) (fr:FlR s'.heap a fl) (R:Rep T.C (.fr ⟨.fn,env,ls'⟩::Fs) H' s') (k:zaB s.heap s'.heap) (q:Q a ls' H'):zuJ T env Fs s Q fl s'
inductive PostA (T:Tr)(f:FR)(Fs:List AF)(s:Shared)(Q:Ls->zaA->Prop)(s':Shared):Prop
 | mk (ls':Ls) (H':zaA) (R:Rep T.C (.fr { f with ls:=ls' }::Fs) H' s') (k:zaB s.heap s'.heap) (q:Q ls' H'):PostA T f Fs s Q s'
theorem zuJ.elim {T:Tr}{env:Env}{Fs:List AF}{s:Shared}{Q:AFl->Ls->zaA->Prop}{fl:Flow}{s':Shared}{P:Prop}(h:zuJ T env Fs s Q fl s')(k:∀ (a:AFl) (ls':Ls) (H':zaA),FlR s'.heap a fl->Rep T.C (.fr ⟨.fn,env,ls'⟩::Fs) H' s'->zaB s.heap s'.heap->Q a ls' H'->P):P:=by cases h with|mk a ls' H' x y z w=>exact k a ls' H' x y z w
theorem PostA.elim {T:Tr}{f:FR}{Fs:List AF}{s:Shared}{Q:Ls->zaA->Prop}{s':Shared}{P:Prop}(h:PostA T f Fs s Q s')(k:∀ (ls':Ls) (H':zaA),Rep T.C (.fr { f with ls:=ls' }::Fs) H' s'->zaB s.heap s'.heap->Q ls' H'->P):P:=by cases h with|mk ls' H' x y z=>exact k ls' H' x y z
noncomputable def AX (T:Tr)(env:Env)(Fs:List AF)(ls:Ls)(H:zaA)(ss:List Stmt)(Q:AFl->Ls->zaA->Prop)(E:Value->Shared->Prop):Prop:=
 ∀ A s,AOk T (.fr ⟨.fn,env,ls⟩::Fs) A->Rep T.C (.fr ⟨.fn,env,ls⟩::Fs) H s->wpAny T.C.M A (execs ss env) (zuJ T env Fs s Q) E s
noncomputable def AS (T:Tr)(env:Env)(Fs:List AF)(ls:Ls)(H:zaA)(st:Stmt)(Q:AFl->Ls->zaA->Prop)(E:Value->Shared->Prop):Prop:=
 ∀ A s,AOk T (.fr ⟨.fn,env,ls⟩::Fs) A->Rep T.C (.fr ⟨.fn,env,ls⟩::Fs) H s->wpAny T.C.M A (exec st env) (zuJ T env Fs s Q) E s
noncomputable def AA (T:Tr)(f:FR)(Fs:List AF)(H:zaA)(t:Expr)(p:PV)(Q:Ls->zaA->Prop)(E:Value->Shared->Prop):Prop:=
 ∀ A s v,AOk T (.fr f::Fs) A->Rep T.C (.fr f::Fs) H s->PR s.heap p v->wpAny T.C.M A (assign t f.env v) (λ _ s'=>PostA T f Fs s Q s') E s
noncomputable def Then (T:Tr)(env:Env)(Fs:List AF)(rest:List Stmt)(Q:AFl->Ls->zaA->Prop)(E:Value->Shared->Prop)(a:AFl)(ls:Ls)(H:zaA):Prop:=match a with
 | .next=>AX T env Fs ls H rest Q E
 | a=>Q a ls H
section
variable {T:Tr}{f:FR}{env:Env}{ls:Ls}{Fs:List AF}{H:zaA}{E:Value->Shared->Prop}{s:Shared}{A:Around}
theorem AOk.any {c:FK}{ls ls':Ls}(ok:AOk T (.fr ⟨c,env,ls⟩::Fs) A):AOk T (.fr ⟨c,env,ls'⟩::Fs) A:=by
 cases c <;> exact⟨ok.frames,ok.depth,ok.units,ok.handled,ok.ctx⟩
theorem AX.cons {st:Stmt}{rest:List Stmt}{Q:AFl->Ls->zaA->Prop}(h:AS T env Fs ls H st (Then T env Fs rest Q E) E):AX T env Fs ls H (st::rest) Q E:=λ A s ok R=>by
 refine wpAny_execs_cons (wpAny_mono (h A s ok R) (λ fl s₁ hh=>hh.elim λ a ls1 H1 fr R1 k1 h1'=>?_) λ _ _ x=>x);cases a <;> cases fl <;> first|exact fr.elim|skip
 ·exact wpAny_mono (h1' A s₁ ok.any R1) (λ fl s2 hh=>hh.elim λ a ls2 H2' fr R2 k2 h2=>⟨a,ls2,H2',fr,R2,k1.trans k2,h2⟩) λ _ _ x=>x
 ·exact⟨_,ls1,H1,fr,R1,k1,h1'⟩
 ·exact⟨_,ls1,H1,fr,R1,k1,h1'⟩
 ·exact⟨_,ls1,H1,fr,R1,k1,h1'⟩
theorem AX.nil {Q:AFl->Ls->zaA->Prop}(h:Q .next ls H):AX T env Fs ls H [] Q E:=λ A s ok R=>wpAny_execs_nil ⟨.next,ls,H,trivial,R,zaB.refl _,h⟩
theorem AX.mono {ss:List Stmt}{Q Q':AFl->Ls->zaA->Prop}(h:AX T env Fs ls H ss Q E)(hq:∀ a ls H,Q a ls H->Q' a ls H):AX T env Fs ls H ss Q' E:=
 λ A s ok R=>wpAny_mono (h A s ok R) (λ v s' hh=>hh.elim λ a ls' H' x y z q=>⟨a,ls',H',x,y,z,hq _ _ _ q⟩) λ _ _ x=>x
theorem frOk_weak {h:Heap}{c:FK}{ls ls':Ls}(x:FrOk h ⟨c,env,ls⟩)(hl:∀ y p,ls'.lookup y=some p->ls.lookup y=some p):FrOk h ⟨c,env,ls'⟩:=
 ⟨x.kind,x.globals,x.builtins,let ⟨m,a,b⟩:=x.ns;⟨m,a,λ y p e k=>b y p (hl y p e) k⟩,x.cells,λ y p e k=>x.cellv y p (hl y p e) k,x.has,x.apart,x.locals,x.frame⟩
theorem Rep.weak {C:Cx}{c:FK}{ls ls':Ls}{H H':zaA}(R:Rep C (.fr ⟨c,env,ls⟩::Fs) H s)(hl:∀ y p,ls'.lookup y=some p->ls.lookup y=some p)(hH:∀ a o,H' a=some o->H a=some o):Rep C (.fr ⟨c,env,ls'⟩::Fs) H' s:=by
 refine⟨R.ok,R.keep,R.gens,R.os,λ g hg=>?_,?_,λ a o e=>?_⟩
 ·rcases List.mem_cons.mp hg with rfl|hg
  ·exact⟨frOk_weak (R.frs _ (.head _)).1 hl,(R.frs _ (.head _)).2⟩
  ·exact R.frs g (.tail _ hg)
 ·exact List.pairwise_cons.mpr ⟨(List.pairwise_cons.mp R.apart).1,(List.pairwise_cons.mp R.apart).2⟩
 ·refine q03 (R.objs a o (hH a o e)) λ x y z=>?_
  refine⟨x,y,λ g hg=>?_⟩;rcases List.mem_cons.mp hg with rfl|hg
  ·exact z (.fr ⟨c,env,ls⟩) (.head _)
  ·exact z g (.tail _ hg)
noncomputable def ztH (c:FK)(env:Env)(x:Str):Prop:=match c with
 | .fn=>True
 | .cp cs=>∃ d,d∈cs/\env.cells.lookup x=some d
theorem zdE {x:Str}{p:PV}{v:Value}{c:FK}{Q:Unit->Shared->Prop}(R:Rep T.C (.fr ⟨c,env,ls⟩::Fs) H s)(hk:env.kindOf x=some .local\/(env.kindOf x=some .cell/\ztH c env x))(hp:PR s.heap p v)
  (h:∀ s',Rep T.C (.fr ⟨c,env,(x,p)::ls⟩::Fs) H s'->zaB s.heap s'.heap->Q () s'):wpAny T.C.M A (storeName env x v) Q E s:=by
 have F:FrOk s.heap ⟨c,env,ls⟩:=(R.frs _ (.head _)).1;have lk:∀ y q,((x,p)::ls).lookup y=some q->(y=x/\q=p)\/(y≠x/\ls.lookup y=some q):=λ y q e=>by
  rw[List.lookup_cons]at e
  by_cases hy:y=x
  ·subst hy;simp at e;exact .inl ⟨rfl,e.symm⟩
  ·have:(y==x)=false:=beq_eq_false_iff_ne.mpr hy
   rw[this]at e;exact .inr ⟨hy,e⟩
 refine q12 F.ns λ m hm hv=>?_;rcases hk with hk|hk
 ·have F1:=F.kind
  refine wpAny_storeName_local hk hm (λ h' hn' sb=>?_) (by rw[show env.scope.kind=.function from F1];rfl);have tk:zaB s.heap h':=zaB.of_ext sb.extBut λ o e=>by
   refine q31 hm λ o' es ep u8=>q03 u8 λ ho' hd _=>?_;rw[ho']at e;cases e;exact .dict hd
  refine h _ (R.frame (z:=env.locals) (s':={ s with heap:=h',toks:=s.toks+1 }) List.mem_cons_self sb.extBut tk ?_ rfl rfl rfl) tk;have kc:∀ y∈env.cells,∀ o,s.heap.get? y.2=some o->h'.get? y.2=some o:=λ y hy o e=>(sb.2 y.2 (F.locals y hy)).trans e;refine⟨F.kind,F.globals,F.builtins,⟨_,hn',λ y q e k=>?_⟩,λ y hy=>let ⟨v,r⟩:=F.cells y hy;⟨v,zcH r (kc y hy)⟩,λ y q e k=>?_,F.has,F.apart,F.locals,F.frame⟩
  ·rcases lk y q e with ⟨rfl,rfl⟩|⟨hy,e⟩
   ·exact⟨v,by simp,hp.keep tk⟩
   ·refine q12 (hv y q e k) λ u e1 r=>?_
    exact⟨u,by simp[hy,e1],r.keep tk⟩
  ·rcases lk y q e with ⟨rfl,rfl⟩|⟨hy,e⟩
   ·have k:env.kindOf y=some .cell\/env.kindOf y=some .free:=k
    rw[hk]at k;rcases k with k|k <;> cases k
   ·refine q23 (F.cellv y q e k) λ d u e1 r pr=>?_
    exact⟨d,u,e1,zcH r (kc (y,d) (mem_of_lookup e1)),pr.keep tk⟩
 ·obtain⟨hk,hoc⟩:=hk
  obtain⟨d,hd⟩:=F.has x (.inl hk);have hmem:=mem_of_lookup hd;obtain⟨v0,ic⟩:=F.cells (x,d) hmem;refine wpAny_storeName_cell F.kind hk hd ic λ h' ic' sb=>?_;have tk:zaB s.heap h':=zaB.of_ext sb.extBut λ o e=>by
   refine q12 ic λ o' ho' hd'=>?_;rw[ho']at e;cases e;exact .cell hd'
  have hdo:d∈ownsE c env:=by
   refine List.mem_cons_of_mem _ ?_;cases c with
   | fn=>exact List.mem_map.mpr ⟨(x,d),List.mem_filter.mpr ⟨hmem,by simp[hk]⟩,rfl⟩
   | cp cs=>
    refine q12 hoc λ d' h1 h2=>?_;rw[hd]at h2;cases h2;exact List.mem_filter.mpr ⟨h1,by simpa using ⟨x,hmem⟩⟩
  refine h _ (R.frame (z:=d) (s':={ s with heap:=h' }) hdo sb.extBut tk ?_ rfl rfl rfl) tk;have hLd:env.locals≠d:=λ e=>F.locals (x,d) hmem e.symm;refine⟨F.kind,F.globals,F.builtins,⟨m,ns_at hm (λ o e=>(sb.2 _ hLd).trans e),λ y q e k=>?_⟩,λ y hy=>?_,λ y q e k=>?_,F.has,F.apart,F.locals,F.frame⟩
  ·rcases lk y q e with ⟨rfl,rfl⟩|⟨hy,e⟩
   ·have k:env.kindOf y=some .local:=k
    rw[hk]at k;cases k
   ·refine q12 (hv y q e k) λ u e1 r=>?_
    exact⟨u,e1,r.keep tk⟩
  ·by_cases hyd:y.2=d
   ·exact⟨_,hyd▸ic'⟩
   ·obtain⟨u,r⟩:=F.cells y hy
    exact⟨u,zcH r λ o e=>(sb.2 _ hyd).trans e⟩
  ·rcases lk y q e with ⟨rfl,rfl⟩|⟨hy,e⟩
   ·exact⟨d,v,hd,ic',hp.keep tk⟩
   ·refine q23 (F.cellv y q e k) λ d' u e1 r pr=>?_
    have:d'≠d:=zvL F.apart (mem_of_lookup e1) hmem hy;exact⟨d',u,e1,zcH r (λ o e=>(sb.2 _ this).trans e),pr.keep tk⟩
noncomputable def zfC:Option NameKind->Bool
 | some .local=>true
 | some .cell=>true
 | _=>false
theorem zjZ {x:Str}{nm:List (Str×NameKind)}(hn:env.scope.names=nm)(hk:zfC (nm.lookup x)=true):env.kindOf x=some .local\/env.kindOf x=some .cell:=by
 rw[show env.kindOf x=env.scope.names.lookup x from rfl,hn]
 revert hk;generalize nm.lookup x=o;intro hk
 rcases o with _ | k
 ·cases hk
 ·cases k <;> first|exact .inl rfl|exact .inr rfl|cases hk
theorem zeE {x:Str}{nm:List (Str×NameKind)}(hn:env.scope.names=nm)(hk:zfC (nm.lookup x)=true):env.kindOf x=some .local\/(env.kindOf x=some .cell/\ztH .fn env x):=by
 rcases zjZ hn hk with h|h
 ·exact .inl h
 ·exact .inr ⟨h,trivial⟩
theorem AA.name {x:Str}{pos:Pos}{p:PV}{nm:List (Str×NameKind)}{Q:Ls->zaA->Prop}(hn:env.scope.names=nm)(hk:zfC (nm.lookup x)=true)(h:Q ((x,p)::ls) H):AA T ⟨.fn,env,ls⟩ Fs H (.Name x pos) p Q E:=
 λ A s v ok R hp=>wpAny_assign_Name (zdE R (zeE hn hk) hp λ s' R' tk=>⟨_,H,R',tk,h⟩)
theorem AS.assign1 {t value:Expr}{pos:Pos}{Q:AFl->Ls->zaA->Prop}(hs:swapsWithSole [t] value pos.line env=pure false)(hw:swappedStores [t] value env=pure none)(he:assignEach [t] env=[(false,assign t env)])
  (h:AE T ⟨.fn,env,ls⟩ Fs H value (λ p H1=>AA T ⟨.fn,env,ls⟩ Fs H1 t p (λ ls' H2'=>Q .next ls' H2') E) E):AS T env Fs ls H (.Assign [t] value pos) Q E:=λ A s ok R=>by
 show wpAny T.C.M A (do
  standAt pos
  if <- swapsWithSole [t] value pos.line env then do
   evalThenUse value env λ v=>assignAll v ((assignEach [t] env).map (·.2))
   pure .next
  else do
   let v <- eval value env
   assignStores env v (<- swappedStores [t] value env) ((assignEach [t] env).map (·.2))) _ _ _
 rw[hs,hw,he];refine wpAny_bind (wpAny_standAt (wpAny_bind (wpAny_pure ?_)));simp only[Bool.false_eq_true,if_false];refine wpAny_bind (wpAny_mono (h A s ok R) (λ v s₁ hh=>hh.elim λ p H1 pr R1 k1 h1'=>?_) λ _ _ x=>x);refine wpAny_bind (wpAny_pure ?_);unfold assignStores;refine wpAny_bind ?_
 show wpAny _ _ (assign t env v) _ _ _
 exact wpAny_mono (h1' A s₁ v ok R1 pr) (λ _ s2 hh=>hh.elim λ ls' H2' R2 k2 h2=>wpAny_pure ⟨.next,ls',H2',trivial,R2,k1.trans k2,h2⟩) λ _ _ x=>x
theorem AS.ite {test:Expr}{body orelse:List Stmt}{pos:Pos}{Q:AFl->Ls->zaA->Prop}(h:AT T ⟨.fn,env,ls⟩ Fs H test (λ b H1=>if b then AX T env Fs ls H1 body Q E else AX T env Fs ls H1 orelse Q E) E):AS T env Fs ls H (.If test body orelse pos) Q E:=λ A s ok R=>
 wpAny_If (wpAny_mono (h A s ok R) (λ b s₁ hh=>hh.elim λ H1 R1 k1 h1'=>by
  have tail:∀ {ss:List Stmt},AX T env Fs ls H1 ss Q E->wpAny T.C.M A (execs ss env) (zuJ T env Fs s Q) E s₁:=λ h=>wpAny_mono (h A s₁ ok R1) (λ v s2 hh=>hh.elim λ a ls2 H2' pr R2 k2 h2=>⟨a,ls2,H2',pr,R2,k1.trans k2,h2⟩) λ _ _ x=>x;cases b with
  | true=>exact tail h1'
  | false=>exact tail h1') λ _ _ x=>x)
theorem AS.ret {e:Expr}{pos:Pos}{Q:AFl->Ls->zaA->Prop}(h:AE T ⟨.fn,env,ls⟩ Fs H e (λ p H1=>Q (.ret p) ls H1) E):AS T env Fs ls H (.Return (some e) pos) Q E:=λ A s ok R=>
 wpAny_Return_some (wpAny_mono (h A s ok R) (λ v s₁ hh=>hh.elim λ p H1 pr R1 k1 h1'=>⟨.ret p,ls,H1,pr,R1,k1,h1'⟩) λ _ _ x=>x)
theorem AS.brk {pos:Pos}{Q:AFl->Ls->zaA->Prop}(h:Q .brk ls H):AS T env Fs ls H (.Break pos) Q E:=λ A s ok R=>wpAny_Break ⟨.brk,ls,H,trivial,R,zaB.refl _,h⟩
theorem AS.cont {pos:Pos}{Q:AFl->Ls->zaA->Prop}(h:Q .cont ls H):AS T env Fs ls H (.Continue pos) Q E:=λ A s ok R=>wpAny_Continue ⟨.cont,ls,H,trivial,R,zaB.refl _,h⟩
theorem AS.pass {pos:Pos}{Q:AFl->Ls->zaA->Prop}(h:Q .next ls H):AS T env Fs ls H (.Pass pos) Q E:=λ A s ok R=>wpAny_Pass ⟨.next,ls,H,trivial,R,zaB.refl _,h⟩
theorem AS.aug {x:Str}{p' pos:Pos}{op:Operator}{value:Expr}{old:PV}{nm:List (Str×NameKind)}{Q:AFl->Ls->zaA->Prop}(hn:env.scope.names=nm)(hk:zfC (nm.lookup x)=true)(hl:ls.lookup x=some old)
  (h:AE T ⟨.fn,env,ls⟩ Fs H value (λ p H1=>ABin T (.fr ⟨.fn,env,ls⟩::Fs) H1 (inplaceOp op) old p (λ r H2'=>Q .next ((x,r)::ls) H2') E) E) (hc:(x==("__classdict__" : Str))=false:=by decide):AS T env Fs ls H (.AugAssign (.Name x p') op value pos) Q E:=λ A s ok R=>by
 have hk':isVar (env.kindOf x)=true:=by
  rcases zjZ hn hk with e|e <;> rw[e] <;> rfl
 refine wpAny_AugAssign_Name (wpAny_mono (zrH (f:=⟨.fn,env,ls⟩) (Q:=λ p H'=>p=old/\H'=H) R hk' hl ⟨rfl,rfl⟩ hc) (λ v s0 hh=>hh.elim λ p0 H0 pr0 R0 k0 h₀=>?_) λ _ _ x=>x);obtain⟨rfl,rfl⟩:=h₀;refine wpAny_mono (h A s0 ok R0) (λ w s₁ hh=>hh.elim λ p H1 pr R1 k1 h1'=>?_) λ _ _ x=>x;refine wpAny_mono (h1' A s₁ v w ok R1 (pr0.keep k1) pr) (λ u s2 hh=>hh.elim λ r H2' pr2 R2 k2 h2=>?_) λ _ _ x=>x;exact zdE R2 (zeE hn hk) pr2 λ s' R' tk=>⟨.next,_,H2',trivial,R',k0.trans (k1.trans (k2.trans tk)),h2⟩
theorem zaE {h:Heap}{o:Obj}:∀ b ob,h.get? b=some ob->(h.push o).get? b=some ob:=λ b ob e=>Heap.get?_push_of_some _ e
theorem AE.tuple {es:List Expr}{k:Nat}{pos:Pos}{Q:PV->zaA->Prop}(h:AL T f Fs H es (λ ps H1=>ps.length<=1000/\Q (.tup ps) H1) E):AE T f Fs H (.Tuple es k pos) Q E:=λ A s ok R=>by
 refine wpAny_Tuple (wpAny_mono (h A s pos ok R) (λ vs s₁ hh=>hh.elim λ ps H1 prs R1 k1 hq=>?_) λ _ _ x=>x);have hz:=hq.1;have h1':=hq.2;refine⟨by rw[<- prs.length];exact Nat.le_trans hz (by decide),.tup ps,H1,?_,R1.ext zaE,k1.trans (zaB.of_keep zaE),h1'⟩;exact⟨_,_,_,_,rfl,Heap.get?_push_size _ rfl,rfl,rfl,rfl,PRs.keep (zaB.of_keep zaE) _ prs⟩
theorem znI {C:Cx}{h:Heap}{ps:List PV}{vs:List Value}(prs:PRs h ps vs):zcC C (h.push { cls:=.type "list",data:=.seq vs.toArray }) h.objs.size (.list ps):=
 ⟨_,_,Heap.get?_push_size _ rfl,PRs.keep (zaB.of_keep zaE) _ prs⟩
theorem AE.list {es:List Expr}{pos:Pos}{Q:PV->zaA->Prop}(h:AL T f Fs H es (λ ps H1=>ps.length<=1000/\∀ a,H1 a=Option.none->Q (.ref a) (upd H1 a (.list ps))) E):AE T f Fs H (.List es pos) Q E:=λ A s ok R=>by
 refine wpAny_List (wpAny_mono (h A s pos ok R) (λ vs s₁ hh=>hh.elim λ ps H1 prs R1 k1 hq=>?_) λ _ _ x=>x);have hz:=hq.1;have h1':=hq.2;exact⟨by rw[<- prs.length];exact Nat.le_trans hz (by decide),_,_,PR.ref,R1.new zaE (Nat.le_refl _) (znI prs),k1.trans (zaB.of_keep zaE),h1' _ R1.fresh⟩
end
structure zrA (K:Frag)(c:Addr):Prop where
 ga:findIn K (.ref c) "__getattribute__" = some (some (.builtin "object.__getattribute__"))
 gattr:findIn K (.ref c) "__getattr__" = some none
 sa:findIn K (.ref c) "__setattr__" = some (some (.builtin "object.__setattr__"))
 cd:(clsIn K c).any (·.hasDict)=true
 plain:plainOver K c=true
noncomputable def AGet (T:Tr)(Fs:List AF)(H:zaA)(name:Str)(p:PV)(Q:PV->zaA->Prop)(E:Value->Shared->Prop):Prop:=
 ∀ A s v,AOk T Fs A->Rep T.C Fs H s->PR s.heap p v->wpAny T.C.M A (getAttr v name true) (zhS T Fs s Q) E s
noncomputable def zdW (T:Tr)(Fs:List AF)(H:zaA)(name:Str)(p:PV)(g:PV):Prop:=
 ∀ A s v pl (Q:Value×List Value->Shared->Prop) E,AOk T Fs A->Rep T.C Fs H s->PR s.heap p v->(∀ u,PR s.heap g u->Q (u,[v]) s)->wpAny T.C.M A (getMethod v name pl) Q E s
noncomputable def ASub (T:Tr)(Fs:List AF)(H:zaA)(value slice:Expr)(p q:PV)(Q:PV->zaA->Prop)(E:Value->Shared->Prop):Prop:=
 ∀ A s v w,AOk T Fs A->Rep T.C Fs H s->PR s.heap p v->PR s.heap q w->wpAny T.C.M A (subscriptTail value slice v w) (zhS T Fs s Q) E s
noncomputable def zdL (T:Tr)(Fs:List AF)(H:zaA)(p i q:PV)(Q:zaA->Prop)(E:Value->Shared->Prop):Prop:=
 ∀ A s v w u,AOk T Fs A->Rep T.C Fs H s->PR s.heap p v->PR s.heap i w->PR s.heap q u->wpAny T.C.M A (setItem v w u) (λ _ s'=>zuD T Fs s Q s') E s
noncomputable def zhW (T:Tr)(Fs:List AF)(H:zaA)(name:Str)(p q:PV)(Q:zaA->Prop)(E:Value->Shared->Prop):Prop:=
 ∀ A s v u,AOk T Fs A->Rep T.C Fs H s->PR s.heap p v->PR s.heap q u->wpAny T.C.M A (setAttr v name u) (λ _ s'=>zuD T Fs s Q s') E s
section
variable {T:Tr}{f:FR}{env:Env}{ls:Ls}{Fs:List AF}{H:zaA}{E:Value->Shared->Prop}{s:Shared}{A:Around}
theorem Rep.kin {C:Cx}(R:Rep C Fs H s):C.K.In s.heap:=R.ok.kin.keeps R.keep
theorem zwF {h:Heap}{a:Addr}{m:Str->Option Value}(n:h.Ns1 a m)(name:Str):∃ o,h.get? a=some o/\lookIn name o=some (m name):=by
 refine q31 n λ o es ep u8=>q05 u8 λ ho hd hk _ hm=>?_;refine⟨o,ho,?_⟩;unfold lookIn;rw[hd];dsimp only;have:=hm name;unfold nsFind findBy at this;rw[<- Array.find?_toList]at this;cases e:es.toList.find? (·.key.isStr name) with
 | some en=>rw[e]at this;simp at this;simp[this]
 | none=>
  rw[e]at this;simp at this;have hr:es.toList.any (·.refKey)=false:=by
   rw[List.any_eq_false];intro x hx;refine q21 (hk x (by simpa using hx)) λ n t q=>?_
   simp[DictEntry.refKey,q]
  simp[hr,this]
theorem zmG {C:Cx}{x c d:Addr}{l:Ls}(R:Rep C Fs H s)(hx:H x=some (.inst c d))(hd:H d=some (.attrs l))(name:Str):
  ∃ ox od,InstAt s.heap x ox c (some od)/\ox.dict=some d/\s.heap.get? d=some od/\(∀ p,l.lookup name=some p->∃ v,lookIn name od=some (some v)/\PR s.heap p v)/\(l.lookup name=none->lookIn name od=some none):=by
 obtain⟨⟨ox,hox,hc,hdict,hdata,_⟩,_⟩:=R.objs x _ hx;obtain⟨⟨m,n,h1,h2⟩,_⟩:=R.objs d _ hd;refine q12 (zwF n name) λ od hod hl=>?_;refine⟨ox,od,⟨hox,hc,by unfold notCls;rw[hdata],by rw[hdict];exact hod⟩,hdict,hod,λ p e=>?_,λ e=>?_⟩
 ·refine q12 (h2 name p e) λ v e1 pr=>?_
  exact⟨v,by rw[hl,e1],pr⟩
 ·rw[hl,h1 name e]
theorem zqR {K:Frag}{c:Addr}{od:Obj}{name:Str}{v:Value}(hc:(clsIn K c).any (·.hasDict)=true)(hn:findIn K (.ref c) name=some none)(hl:lookIn name od=some (some v)):findObj K c (some od) name=some (.value v):=by
 refine q12 (any_some hc) λ cd h1 h2=>?_
 delta findObj
 rw[h1,Option.bind_some,hn,Option.bind_some];dsimp only;have e:W.ownOf cd (some od) name=some (some v):=by simp[W.ownOf,h2,hl]
 refine Eq.trans (b:=(W.ownOf cd (some od) name).bind _) rfl ?_;rw[e];rfl
noncomputable def PV.handed:PV->Bool
 | .bi _=>false
 | _=>true
theorem PR.handed {h:Heap}{p:PV}{v:Value}(x:PR h p v)(hp:p.handed=true):handedIn v=true:=by
 cases p with
 | none=>rw[x.none_inv];rfl
 | bool=>rw[x.bool_inv];rfl
 | int=>obtain⟨t,rfl⟩:=x.int_inv;rfl
 | str=>obtain⟨t,rfl⟩:=x.str_inv;rfl
 | tup=>refine q42 x.tup_inv ?_;intro a o vs n u0;cases u0;intro _;rfl
 | ref=>rw[x.ref_inv];rfl
 | ty=>rw[x.ty_inv];rfl
 | bi=>cases hp
theorem AGet.inst {x c d:Addr}{l:Ls}{name:Str}{p:PV}{Q:PV->zaA->Prop}(hc:zrA T.C.K c)(hn:findIn T.C.K (.ref c) name=some none)(hx:H x=some (.inst c d))(hd:H d=some (.attrs l))(hl:l.lookup name=some p)(hp:p.handed=true)(h:Q p H):
  AGet T Fs H name (.ref x) Q E:=λ A s v ok R pv=>by
 rw[pv.ref_inv];refine q25 (zmG R hx hd name) λ ox od I _ _ h1 _=>?_;refine q12 (h1 p hl) λ u e pr=>?_;exact get_value R.kin I hc.ga (zqR hc.cd hn e) (pr.handed hp) (zaI R pr h)
theorem zdW.own {x c d g:Addr}{l:Ls}{name:Str}(hc:zrA T.C.K c)(hf:findIn T.C.K (.ref c) name=some (some (.ref g)))(ht:typeIn T.C.K (.ref g)=some (.type "function"))(hx:H x=some (.inst c d))(hd:H d=some (.attrs l))(hl:l.lookup name=none):
  zdW T Fs H name (.ref x) (.ref g):=λ A s v pl Q E ok R pv h=>by
 rw[pv.ref_inv]at h ⊢;refine q25 (zmG R hx hd name) λ ox od I _ _ _ h2=>?_;exact method_fn R.kin I hc.ga hc.gattr hf ht (by unfold shadowIn;dsimp only;rw[h2 hl];rfl) (h _ PR.ref)
theorem AE.attr {value:Expr}{attr:Str}{pos:Pos}{Q:PV->zaA->Prop}(hb:attributeBase value attr f.env (eval value f.env)=eval value f.env)(h:AE T f Fs H value (λ p H1=>AGet T (.fr f::Fs) H1 attr p Q E) E):AE T f Fs H (.Attribute value attr pos) Q E:=λ A s ok R=>by
 rw[arm_eval_Attribute,hb];refine wpAny_bind (wpAny_mono (h A s ok R) (λ v s₁ hh=>hh.elim λ p H1 pr R1 k1 h1'=>wpAny_bind (wpAny_standAt (wpAny_bind (wpAny_holding (wpAny_mono (h1' A s₁ v ok R1 pr) (λ u s2 hh=>hh.elim λ q H2' qr R2 k2 h2=>?_) λ _ _ x=>x))))) λ _ _ x=>x);exact wpAny_bind (wpAny_letTemporaryGo (wpAny_pure ⟨q,H2',qr,R2,k1.trans k2,h2⟩))
theorem AE.sub {value slice:Expr}{pos:Pos}{Q:PV->zaA->Prop}(h:AE T f Fs H value (λ p H1=>AE T f Fs H1 slice (λ q H2'=>ASub T (.fr f::Fs) H2' value slice p q Q E) E) E):AE T f Fs H (.Subscript value slice pos) Q E:=λ A s ok R=>
 Subscript_ (wpAny_mono (h A s ok R) (λ v s₁ hh=>hh.elim λ p H1 pr R1 k1 h1'=>wpAny_mono (h1' A s₁ ok R1) (λ w s2 hh=>hh.elim λ q H2' qr R2 k2 h2=>
  wpAny_mono (h2 A s2 v w ok R2 (pr.keep k2) qr) (λ u s3 hh=>hh.elim λ p' H' pr' R' k' hq=>⟨p',H',pr',R',k1.trans (k2.trans k'),hq⟩) λ _ _ x=>x) λ _ _ x=>x) λ _ _ x=>x)
theorem zgP {C:Cx}{h:Heap}{a:Addr}{l:List PV}(S:zcC C h a (.list l)):∃ vs,h.IsList a vs/\PRs h l vs.toList:=by
 refine q22 S λ vs n il r=>?_;exact⟨vs,il.isList,r⟩
theorem item_of {h:Heap}{l:List PV}{vs:Array Value}(r:PRs h l vs.toList){i:Nat}{p:PV}(e:l[i]?=some p):∃ v,vs[i]?=some v/\PR h p v:=by
 refine q12 (r.get i e) λ v e' pr=>?_;exact⟨v,by rw[<- Array.getElem?_toList];exact e',pr⟩
theorem ASub.list {value slice:Expr}{a:Addr}{l:List PV}{k:Int}{p:PV}{Q:PV->zaA->Prop}(hH:H a=some (.list l))(h0:0<=k)(hk:k<2 ^ 63)(hx:l[k.toNat]?=some p)(h:Q p H)
  (hs:∀ u,subscripted slice false (.ref a) (.int k u)=operate [.ref a,.int k u] (getItem (.ref a) (.int k u)):=by intro _;rfl):ASub T Fs H value slice (.ref a) (.int k) Q E:=λ A s v w ok R pv pw=>by
 rw[pv.ref_inv];obtain⟨t,rfl⟩:=pw.int_inv;refine q12 (zgP (R.objs a _ hH).1) λ vs il r=>?_;refine q12 (item_of r hx) λ u e pr=>?_;exact tail_any il.typeIs slot_list_getitem.lookup (wpAny_getItem_list il h0 hk e (zaI R pr h)) (hs t)
theorem notSys {C:Cx}{a:Addr}{o:AO}(R:Rep C Fs H s)(e:H a=some o):(a==sysModules)=false:=
 beq_eq_false_iff_ne.mpr (Nat.ne_of_gt (R.objs a o e).2.1.2)
end
theorem DRel.length {h:Heap}{l:List (Pt×PV)}:∀ {xs:List (List Int×Addr×Value)},DRel h l xs->xs.length=l.length:=by
 induction l with
 | nil=>intro xs x;rw[show xs=[] from x];rfl
 | cons e l ih=>intro _ uu;refine q25 uu ?_;clear uu;intro x r u0;cases u0;intro _ _ _ y;rw[List.length_cons,List.length_cons,ih y]
theorem DRel.at {h:Heap}:∀ {l:List (Pt×PV)} {xs:List (List Int×Addr×Value)} {i:Nat} {e:Pt×PV},DRel h l xs->l[i]?=some e->∃ x,xs[i]?=some x/\PR h (pt e.1) (.ref x.2.1):=by
 intro l
 induction l with
 | nil=>exact λ _ e=>nomatch e
 | cons a l ih=>
  intro _ i e uu he;refine q25 uu ?_;clear uu;intro x r u0;cases u0;intro a1 a2 a3 a4;cases i with
  | zero=>cases he;exact⟨x,rfl,a2⟩
  | succ i=>exact ih (i:=i) a4 he
theorem Rep.pin {C:Cx}{Fs:List AF}{H:zaA}{s:Shared}(R:Rep C Fs H s){d:Addr}{l:List (Pt×PV)}{po:Option Obj}(h:H d=some (.pdict l po)):∃ ob,Rep C Fs (upd H d (.pdict l (some ob))) s:=by
 refine q03 (R.objs d _ h) λ u0 y z=>?_;obtain⟨x,-⟩:=u0;refine q12 x λ xs u0 q=>?_;obtain⟨o,es,ep,ho,r⟩:=u0;refine⟨o,R.ok,R.keep,R.gens,R.os,R.frs,R.apart,λ a ob e=>?_⟩;unfold upd at e;split at e
 ·rename_i w;cases e;subst w
  exact⟨⟨⟨xs,⟨o,es,ep,ho,r⟩,q⟩,λ _ e=>by cases e;exact ho⟩,y,z⟩
 ·exact R.objs a ob e
section
variable {T:Tr}{f:FR}{env:Env}{ls:Ls}{Fs:List AF}{H:zaA}{E:Value->Shared->Prop}{s:Shared}{A:Around}
theorem AOk.cl (ok:AOk T Fs A):A.units+100<=cLine:=by have:=ok.units;have:cLine=9900:=rfl;lia
theorem ztZ {v w:Value}{Q:Value->Shared->Prop}{M:Model}(h:wpAny M A (compareOp .In v w) (λ c s'=>∃ b,c=.bool b/\Q (.bool (!b)) s') E s):wpAny M A (compareOp .NotIn v w) Q E s:=by
 have h:wpAny M A (contains w v >>= λ b=>pure (Value.bool b)) (λ c s'=>∃ b,c=.bool b/\Q (.bool (!b)) s') E s:=h
 show wpAny M A (contains w v >>= λ b=>pure (Value.bool (!b))) Q E s
 intro Γ p hΓ;have:=h Γ p hΓ;rw[Sem.wp_bind']at this ⊢;refine Sem.wp_mono M Γ _ (λ b p' s' hb=>?_) (λ _ _ _ x=>x) _ _ this;obtain⟨b',e,q⟩:∃ b',Value.bool b=.bool b'/\Q (.bool (!b')) s':=hb;cases e;exact q
theorem ACmp.notIn {p q:PV}{Q:Bool->zaA->Prop}(h:ACmp T Fs H .In p q (λ b H1=>Q (!b) H1) E):ACmp T Fs H .NotIn p q Q E:=λ A s v w ok R pv pw=>
 ztZ (wpAny_mono (h A s v w ok R pv pw) (λ c s' ⟨b,e,⟨H1,R1,k1,q1⟩⟩=>⟨b,e,_,rfl,⟨H1,R1,k1,q1⟩⟩) λ _ _ x=>x)
end
noncomputable def NoE:Value->Shared->Prop:=λ _ _=>False
theorem zbO {α:Type}{l:List α}{n:Nat}(h:l.length=n+1):∃ a r,l=a::r/\r.length=n:=by
 cases l with
 | nil=>cases h
 | cons a r=>exact⟨a,r,rfl,Nat.succ.inj h⟩
theorem zgZ {fd:FuncData}{x:Str}(h:∀ a,bindArgs fd ⟨[a],[]⟩=pure [(x,a)])(vs:List Value)(hl:vs.length=[x].length):bindArgs fd ⟨vs,[]⟩=pure ([x].zip vs):=by
 refine q22 (zbO hl) λ a r1 e1 h1=>?_;subst e1;cases List.eq_nil_of_length_eq_zero h1;exact h a
theorem zkJ {fd:FuncData}{x y:Str}(h:∀ a b,bindArgs fd ⟨[a,b],[]⟩=pure [(x,a),(y,b)])(vs:List Value)(hl:vs.length=[x,y].length):bindArgs fd ⟨vs,[]⟩=pure ([x,y].zip vs):=by
 refine q22 (zbO hl) λ a r1 e1 h1=>?_;subst e1;refine q22 (zbO h1) λ b r2 e2 h2=>?_;subst e2;cases List.eq_nil_of_length_eq_zero h2;exact h a b
theorem zkO {fd:FuncData}{x y z:Str}(h:∀ a b c,bindArgs fd ⟨[a,b,c],[]⟩=pure [(x,a),(y,b),(z,c)])(vs:List Value)(hl:vs.length=[x,y,z].length):bindArgs fd ⟨vs,[]⟩=pure ([x,y,z].zip vs):=by
 refine q22 (zbO hl) λ a r1 e1 h1=>?_;subst e1;refine q22 (zbO h1) λ b r2 e2 h2=>?_;subst e2;refine q22 (zbO h2) λ c r3 e3 h3=>?_;subst e3;cases List.eq_nil_of_length_eq_zero h3;exact h a b c
theorem ziH {fd:FuncData}{x y z u:Str}(h:∀ a b c d,bindArgs fd ⟨[a,b,c,d],[]⟩=pure [(x,a),(y,b),(z,c),(u,d)])(vs:List Value)(hl:vs.length=[x,y,z,u].length):bindArgs fd ⟨vs,[]⟩=pure ([x,y,z,u].zip vs):=by
 refine q22 (zbO hl) λ a r1 e1 h1=>?_;subst e1;refine q22 (zbO h1) λ b r2 e2 h2=>?_;subst e2;refine q22 (zbO h2) λ c r3 e3 h3=>?_;subst e3;refine q22 (zbO h3) λ d r4 e4 h4=>?_;subst e4;cases List.eq_nil_of_length_eq_zero h4;exact h a b c d
theorem bind_of5 {fd:FuncData}{x y z u t:Str}(h:∀ a b c d e,bindArgs fd ⟨[a,b,c,d,e],[]⟩=pure [(x,a),(y,b),(z,c),(u,d),(t,e)])(vs:List Value)(hl:vs.length=[x,y,z,u,t].length):bindArgs fd ⟨vs,[]⟩=pure ([x,y,z,u,t].zip vs):=by
 refine q22 (zbO hl) λ a r1 e1 h1=>?_;subst e1;refine q22 (zbO h1) λ b r2 e2 h2=>?_;subst e2;refine q22 (zbO h2) λ c r3 e3 h3=>?_;subst e3;refine q22 (zbO h3) λ d r4 e4 h4=>?_;subst e4;refine q22 (zbO h4) λ e r5 e5 h5=>?_;subst e5;cases List.eq_nil_of_length_eq_zero h5;exact h a b c d e
theorem zcX {α:Type}{x:Str}{p:α}{l:List (Str×α)}:((x,p)::l).lookup x=some p:=by rw[List.lookup_cons,beq_self_eq_true]
theorem zbM {α:Type}{x y:Str}{p q:α}{l:List (Str×α)}(h:(x==y)=false)(e:l.lookup x=some p):((y,q)::l).lookup x=some p:=by rw[List.lookup_cons,h];exact e
theorem zhX {α:Type}{l:List (Str×α)}{n:Str}{c:α}(hn:(l.map (·.1)).Nodup)(hm:(n,c)∈l):l.lookup n=some c:=by
 induction l with
 | nil=>cases hm
 | cons a r ih=>
  obtain⟨h1,h2⟩:=List.nodup_cons.mp hn;refine (List.mem_cons.mp hm).elim (λ e=>?_) λ hm=>?_
  ·subst e;exact zcX
  ·exact zbM (beq_eq_false_iff_ne.mpr λ e=>h1 (List.mem_map.mpr ⟨(n,c),hm,e⟩)) (ih h2 hm)
theorem zhB {x:Str}{k:NameKind}{r:List (Str×NameKind)}{n:Nat}{acc:List (Str×Addr)}:cellsFrom n ((x,k)::r) acc=if (k==.cell)=true then cellsFrom (n+1) r ((x,n)::acc) else cellsFrom n r acc:=rfl
theorem zmV (names:List (Str×NameKind)):∀ (n:Nat) (acc:List (Str×Addr)),(acc.map (·.1)++names.map (·.1)).Nodup->((cellsFrom n names acc).map (·.1)).Nodup:=by
 induction names with
 | nil=>exact λ n acc h=>(List.append_nil (acc.map (·.1)))▸h
 | cons a r ih=>
  obtain⟨x,k⟩:=a;intro n acc h;rw[zhB];split
  ·exact ih (n+1) _ (List.perm_middle.nodup_iff.mp h)
  ·exact ih n acc (h.sublist (List.Sublist.append (List.Sublist.refl _) (List.sublist_cons_self _ _)))
theorem znO {x:Str}(names:List (Str×NameKind)):∀ (n:Nat) (acc:List (Str×Addr)),(acc.lookup x).isSome=true->((cellsFrom n names acc).lookup x).isSome=true:=by
 induction names with
 | nil=>exact λ _ _ h=>h
 | cons a r ih=>
  obtain⟨y,k⟩:=a;intro n acc h;rw[zhB];split
  ·refine ih (n+1) _ ?_
   rw[List.lookup_cons];cases x==y
   ·exact h
   ·rfl
  ·exact ih n acc h
theorem zdZ {x:Str}(names:List (Str×NameKind)):∀ (n:Nat) (acc:List (Str×Addr)),names.lookup x=some .cell->((cellsFrom n names acc).lookup x).isSome=true:=by
 induction names with
 | nil=>exact λ _ _ h=>nomatch h
 | cons a r ih=>
  obtain⟨y,k⟩:=a;intro n acc h;rw[List.lookup_cons]at h;rw[zhB];cases e:x==y with
  | true=>
   rw[e]at h;cases h;exact znO r _ _ (by rw[List.lookup_cons,e];rfl)
  | false=>
   rw[e]at h;split
   ·exact ih _ _ h
   ·exact ih _ _ h
theorem zvT {B:List (Str×Value)->(Str->Option Value)->Str->Option Value}{P:Str->Prop}[DecidablePred P](h0:∀ m,B [] m=m)(h1:∀ n v r m,B ((n,v)::r) m=B r (if P n then λ y=>if y=n then some v else m y else m)){x:Str}(hk:P x)(binds:List (Str×Value)):∀ (m:Str->Option Value),(binds.map (·.1)).Nodup->B binds m x=match binds.lookup x with|some v=>some v|none=>m x:=by
 induction binds with
 | nil=>exact λ m _=>congrFun (h0 m) x
 | cons a r ih=>
  obtain⟨n,v⟩:=a;intro m hn;obtain⟨q1,q2⟩:=List.nodup_cons.mp hn;rw[h1,ih _ q2,List.lookup_cons]
  by_cases e:x=n
  ·subst e
   have:r.lookup x=none:=by
    cases q:r.lookup x with
    | none=>rfl
    | some v=>exact absurd (List.mem_map.mpr ⟨_,mem_of_lookup q,rfl⟩) q1
   rw[this,beq_self_eq_true,if_pos hk];exact if_pos rfl
  ·rw[beq_eq_false_iff_ne.mpr e]
   cases r.lookup x with
   | some v=>rfl
   | none=>
    dsimp only;split
    ·exact if_neg e
    ·rfl
theorem bindL_get {kindOf:Str->Option NameKind}{x:Str}(hk:kindOf x=some .local)(binds:List (Str×Value))(m:Str->Option Value)(hn:(binds.map (·.1)).Nodup):bindL kindOf binds m x=match binds.lookup x with|some v=>some v|none=>m x:=
 zvT (P:=λ n=>kindOf n=some .local) (λ _=>rfl) (λ _ _ _ _=>rfl) hk binds m hn
theorem bindC_get {kindOf:Str->Option NameKind}{x:Str}(hk:kindOf x≠some .local)(binds:List (Str×Value))(m:Str->Option Value)(hn:(binds.map (·.1)).Nodup):bindC kindOf binds m x=match binds.lookup x with|some v=>some v|none=>m x:=
 zvT (P:=λ n=>kindOf n≠some .local) (λ _=>rfl) (λ _ _ r _=>congrArg (bindC kindOf r) (ite_not ..).symm) hk binds m hn
theorem zoR {h:Heap}{nms:List Str}:∀ {ps:List PV} {vs:List Value} {x:Str} {p:PV},PRs h ps vs->(nms.zip ps).lookup x=some p->∃ v,(nms.zip vs).lookup x=some v/\PR h p v:=by
 induction nms with
 | nil=>exact λ _ e=>nomatch e
 | cons n nms ih=>
  intro ps vs x p r e;cases ps with
  | nil=>cases e
  | cons q ps=>
   refine q23 r.cons_inv ?_;intro v rr u0;cases u0;intro pr r;rw[List.zip_cons_cons,List.lookup_cons]at e ⊢;cases hb:x==n with
   | true=>rw[hb]at e;cases e;exact⟨v,rfl,pr⟩
   | false=>rw[hb]at e;exact ih r e
structure zdR (K:Frag)(g:Addr)(fd:FuncData)(nms:List Str)(body:List Stmt):Prop where
 obj:∃ oc od osl,K.lookup g=some ⟨oc,od,.func fd,osl⟩
 body:fd.body=.stmts body
 clo:fd.closure=[]
 code:codeIn K fd.code fd.qualname=true
 globals:fd.globals=mainGlobals
 builtins:fd.builtins=builtinsNs
 bind:∀ vs:List Value,vs.length=nms.length->bindArgs fd ⟨vs,[]⟩=pure (nms.zip vs)
 kinds:nms.all (λ x=>zfC (fd.scope.names.lookup x))=true
 nodup:nms.Nodup
 names:(fd.scope.names.map (·.1)).Nodup
 nofree:fd.scope.names.all (λ x=>x.2 != .free)=true
 coro:fd.scope.isCoroutine=false
 gen:fd.scope.isGenerator=false
 kind:fd.scope.kind=.function
section
variable {T:Tr}{f:FR}{env:Env}{ls:Ls}{Fs:List AF}{H:zaA}{E:Value->Shared->Prop}{s:Shared}{A:Around}
noncomputable def Tr.down (T:Tr):Tr:={ T with n:=T.n-1 }
theorem zvM {d a c n k m:Nat}(h1:1<=n)(h:d+c*n+k<=m)(e:a<=c):d+a+c*(n-1)+k<=m:=by
 cases n with
 | zero=>cases h1
 | succ n=>
  refine Nat.le_trans (Nat.add_le_add_right ?_ k) h;rw[Nat.mul_succ,Nat.add_assoc,Nat.add_comm a];exact Nat.add_le_add_left (Nat.add_le_add_left e _) d
theorem AOk.deeper {env:Env}{ls:Ls}(ok:AOk T Fs A)(hn:1<=T.n):AOk T.down (.fr ⟨.fn,env,ls⟩::Fs) (A.deeper env):=by
 refine⟨?_,?_,?_,λ h=>ok.handled h,ok.ctx⟩
 ·show A.frames.map (env::·)=_;rw[ok.frames];rfl
 ·have:=ok.depth;show A.depth+1+4*(T.n-1)+10<=1000;exact zvM hn this (by decide)
 ·have:=ok.units;show A.units+3+20*(T.n-1)+100<=9900;exact zvM hn this (by decide)
theorem zuL {fd:FuncData}{g:Addr}{nms:List Str}{body:List Stmt}{ps:List PV}{vs:List Value}{s₁:Shared}(D:zdR T.C.K g fd nms body)(hlen:ps.length=nms.length)(R:Rep T.C Fs H s)(prs:PRs s.heap ps vs)
  (x:InCallC s (callEnvC fd s.heap.objs.size g).locals (bindL (callEnvC fd s.heap.objs.size g).kindOf (nms.zip vs) λ _=>none) (callEnvC fd s.heap.objs.size g).cells (bindC (callEnvC fd s.heap.objs.size g).kindOf (nms.zip vs) λ _=>none) s₁):
  Rep T.C (.fr ⟨.fn,callEnvC fd s.heap.objs.size g,nms.zip ps⟩::Fs) H s₁/\zaB s.heap s₁.heap:=by
 obtain⟨⟨h1',tk,rfl⟩,ns,keep,fresh⟩:=x.toInCall;have hk:zaB s.heap h1':=zaB.of_keep keep;have nd:((callEnvC fd s.heap.objs.size g).cells.map (·.1)).Nodup:=zmV _ _ _ (by simpa using D.names);have hvl:vs.length=nms.length:=by rw[<- prs.length];exact hlen
 have nb:((nms.zip vs).map (·.1)).Nodup:=by rw[List.map_fst_zip (by lia)];exact D.nodup
 refine⟨(R.ext (s':={ s with heap:=h1',toks:=tk }) keep).push ?_ ?_ ?_ ?_ ?_,hk⟩
 ·refine⟨D.kind,D.globals,D.builtins,⟨_,ns,λ y p e k=>?_⟩,λ y hy=>⟨_,x.cell y.1 y.2 (zhX nd hy)⟩,λ y p e k=>?_,λ y k=>?_,x.apart,λ y hy=>Nat.ne_of_gt (x.above y.1 y.2 hy),λ _=>rfl⟩
  ·refine q12 (zoR prs e) λ v e1 pr=>?_
   exact⟨v,by rw[bindL_get k _ _ nb,e1],pr.keep hk⟩
  ·refine q12 (zoR prs e) λ v e1 pr=>?_
   have k:(callEnvC fd s.heap.objs.size g).kindOf y=some .cell\/(callEnvC fd s.heap.objs.size g).kindOf y=some .free:=k;have kl:(callEnvC fd s.heap.objs.size g).kindOf y≠some .local:=by rcases k with k|k <;> rw[k] <;> intro q <;> cases q
   have kc:fd.scope.names.lookup y=some .cell:=by
    rcases k with k|k
    ·exact k
    ·have hm:y∈nms:=(List.of_mem_zip (mem_of_lookup e)).1
     have:=List.all_eq_true.mp D.kinds y hm;have k:fd.scope.names.lookup y=some .free:=k;rw[k]at this;cases this
   obtain⟨c,hc⟩:=Option.isSome_iff_exists.mp (zdZ (x:=y) fd.scope.names (s.heap.objs.size+1) [] kc);refine⟨c,v,hc,?_,pr.keep hk⟩;have:=x.cell y c hc;rw[bindC_get kl _ _ nb,e1]at this;exact this
  ·rcases k with k|k
   ·exact Option.isSome_iff_exists.mp (zdZ fd.scope.names _ _ k)
   ·have k:fd.scope.names.lookup y=some .free:=k
    have:=List.all_eq_true.mp D.nofree _ (mem_of_lookup k)
    simp at this
 all_goals
  have big:∀ a∈(AF.fr ⟨.fn,callEnvC fd s.heap.objs.size g,nms.zip ps⟩).reads,s.heap.objs.size<=a:=λ a ha=>by
   rcases List.mem_cons.mp ha with rfl|ha
   ·exact Nat.le_refl _
   ·refine q12 (List.mem_map.mp ha) λ y hy u0=>?_;cases u0
    exact Nat.le_of_lt (x.above y.1 y.2 hy)
 ·exact λ a ha=>(R.fresh_ge (big a ha)).2.1.1
 ·exact λ a ha=>(R.fresh_ge (big a ha)).1
 ·exact λ a ha k hk=>(R.fresh_ge (big a (AF.owns_reads ha))).2.2 k hk
 ·intro k hk a ha hb
  refine (R.fresh_ge (big a hb)).2.2 k hk ?_;cases k with
  | fr f=>cases ha
  | hid c o=>exact ha
  | gh _=>cases ha
theorem zxF {fd:FuncData}{g:Addr}{nms:List Str}{body:List Stmt}{ps:List PV}{vs:List Value}{R':Result->Shared->Prop}(D:zdR T.C.K g fd nms body)(hlen:ps.length=nms.length)(hn:1<=T.n)(ok:AOk T Fs A)(R:Rep T.C Fs H s)(prs:PRs s.heap ps vs)
  (h:∀ env s₁,env.scope=fd.scope->AOk T.down (.fr ⟨.fn,env,nms.zip ps⟩::Fs) (A.deeper env)->Rep T.C (.fr ⟨.fn,env,nms.zip ps⟩::Fs) H s₁->zaB s.heap s₁.heap ->
   wpAny T.C.M (A.deeper env) (execs body env) (λ f s'=>R' (.ok (.ret (match f with | .ret v=>v | _=>.none))) s')
    (λ e s'=>wpAny T.C.M (A.deeper env) (leaving env e) (λ _ s''=>R' (.error e) s'') (λ e' s''=>R' (.error e') s'') s') s₁):
  codeAny T.C.M A (.call (.ref g) ⟨vs,[]⟩) R' s:=by
 refine q31 D.obj λ oc od osl ho=>?_;refine codeAny_call_cells (fd:=fd) (by have:=ok.depth;show A.depth<1000;lia) (R.kin g _ ho) rfl (R.ok.top.nolimit.keeps R.keep) (codeRec_of R.kin D.code) D.body (D.bind vs (by rw[<- prs.length];exact hlen)) D.clo (λ x hx=>?_) (λ s₁ x=>?_) D.coro D.gen D.kind
 ·have hm:=(List.of_mem_zip hx).1
  have:=List.all_eq_true.mp D.kinds x.1 hm
  revert this
  cases e:fd.scope.names.lookup x.1 with
  | none=>intro q;cases q
  | some k=>
   intro q;cases k <;> first|exact .inl rfl|exact .inr ⟨rfl,zdZ _ _ _ e⟩|cases q
 ·obtain⟨R1,tk⟩:=zuL D hlen R prs x
  exact h _ s₁ rfl (ok.deeper hn) R1 tk
noncomputable def RetQ (Q:PV->zaA->Prop)(a:AFl)(_:Ls)(H:zaA):Prop:=match a with
 | .ret p=>Q p H
 | .next=>Q .none H
 | _=>False
end
noncomputable def zcS:List Expr->Bool
 | []=>true
 | e::r=>cond (Nat.beq e.ctorIdx 22) false (zcS r)
theorem zaZ {e:Expr}{es:List Expr}{env:Env}(h:zcS (e::es)=true):starEach (e::es) env=(false,eval e env)::starEach es env/\zcS es=true:=by
 cases e <;> first|exact⟨rfl,h⟩|cases h
theorem zhA {pos:Pos}{env:Env}:∀ {es:List Expr},zcS es=true->(backTo pos (starEach es env)).any (·.1)=false
 | [],_=>rfl
 | e::es,h=>by
  obtain⟨h1,h2⟩:=zaZ (env:=env) h;rw[h1]
  show (false||(backTo pos (starEach es env)).any (·.1))=false
  rw[zhA h2];rfl
noncomputable def calleeO (K:Frag)(a:Addr):Option Obj->Bool
 | some ⟨_,_,.func _,_⟩=>true
 | some ⟨_,_,.cls _,_⟩=>makesIn K a
 | _=>false
noncomputable def zgL (K:Frag):PV->Bool
 | .bi _=>true
 | .ty _=>true
 | .ref a=>calleeO K a (K.lookup a)
 | _=>false
section
variable {T:Tr}{f:FR}{env:Env}{ls:Ls}{Fs:List AF}{H:zaA}{E:Value->Shared->Prop}{s:Shared}{A:Around}
theorem zgA {M:Model}{g:Value}{pos:Pos}{es:List Expr}{Q:Args->Shared->Prop}(hs:zcS es=true)(h:wpAny M A (spliced (backTo pos (starEach es env))) (λ vs s'=>Q ⟨vs,[]⟩ s') E s):
  wpAny M A (evalArgs g true (backTo pos (starEach es env)) []) Q E s:=by
 cases es with
 | nil=>
  unfold evalArgs
  show wpAny M A (spliced [] >>= _) Q E s
  refine wpAny_bind (wpAny_mono h (λ vs s' h'=>?_) λ _ _ x=>x);refine wpAny_holding ?_;exact wpAny_bind (wpAny_pure (wpAny_bind (wpAny_pure (wpAny_pure h'))))
 | cons e es=>
  obtain⟨h1,h2⟩:=zaZ (env:=env) hs;rw[h1]at h ⊢;exact evalArgs_plain h
theorem zmI {g:PV}{v:Value}{first:List Value}{pos:Pos}{es:List Expr}{Q:Value->Shared->Prop}(hs:zcS es=true)(R:Rep T.C Fs H s)(hg:zgL T.C.K g=true)(pv:PR s.heap g v)
  (h:wpAny T.C.M A (spliced (backTo pos (starEach es env))) (λ vs s₁=>(∃ H1,Rep T.C Fs H1 s₁)/\wpAny T.C.M A (call v (first++vs)) Q E s₁) E s):
  wpAny T.C.M A (callWith pos v first (backTo pos (starEach es env)) []) Q E s:=by
 have tail:∀ {t:Sem Value} {s₁:Shared},wpAny T.C.M A t Q E s₁->wpAny T.C.M A (t >>= λ r=>holding [r] point >>= λ _=>pure r) Q E s₁:=
  λ ht=>wpAny_bind (wpAny_mono ht (λ r s2 hr=>wpAny_bind (wpAny_holding (wpAny_point (wpAny_pure hr)))) λ _ _ x=>x)
 cases g with
 | bi i=>
  rw[pv.bi_inv]at h ⊢;exact callWith_builtin (zhA hs) (zgA hs (wpAny_mono h (λ vs s₁ h1'=>h1'.2) λ _ _ x=>x))
 | ty n=>
  rw[pv.ty_inv]at h ⊢;exact PySem.callWith_type (zhA hs) (zgA hs (wpAny_mono h (λ vs s₁ h1'=>h1'.2) λ _ _ x=>x))
 | ref a=>
  rw[pv.ref_inv]at h ⊢;have hg:calleeO T.C.K a (T.C.K.lookup a)=true:=hg;cases ho:T.C.K.lookup a with
  | none=>rw[ho]at hg;cases hg
  | some o=>
  rw[ho]at hg;obtain⟨c,d,data,ex⟩:=o;cases data with
  | func fd=>
   refine callWith_function (zgA hs (wpAny_mono h (λ vs s₁ ⟨⟨H1,R1⟩,h1'⟩=>⟨⟨R1.kin a _ ho,rfl⟩,h1'⟩) λ _ _ x=>x))
  | cls cd=>
   delta callWith
   refine wpAny_bind (wpAny_holding (zgA hs (wpAny_mono h (λ vs s₁ ⟨⟨H1,R1⟩,h1'⟩=>wpAny_bind (wpAny_standAt ?_)) λ _ _ x=>x)));rw[zhA hs];refine wpAny_bind (m:=keeperOf (.ref a)) ?_;unfold keeperOf;refine wpAny_bind (wpAny_load (R1.kin a _ ho) ?_);refine wpAny_bind ((makes_of (M:=T.C.M) R1.kin hg).call.here (wpAny_pure ?_));rw[if_pos (by simp)];exact tail h1'
  | _=>cases hg
 | _=>cases hg
theorem AE.call {func:Expr}{args:List Expr}{pos:Pos}{Q:PV->zaA->Prop}(hf:∀ env,eval (.Call func args [] pos) env=(do callWith pos (<- eval func env) [] (backTo pos (starEach args env)) (backToKw pos (keywordEach [] env))))(hs:zcS args=true)
  (h:AE T f Fs H func (λ g H1=>zgL T.C.K g=true/\AL T f Fs H1 args (λ ps H2'=>zaT T (.fr f::Fs) H2' g ps Q E) E) E):AE T f Fs H (.Call func args [] pos) Q E:=λ A s ok R=>by
 rw[hf];refine wpAny_bind (wpAny_mono (h A s ok R) (λ v s₁ hh=>hh.elim λ g H1 pr R1 k1 hq=>?_) λ _ _ x=>x);have hg:=hq.1;have h1':=hq.2;refine zmI hs R1 hg pr (wpAny_mono (h1' A s₁ pos ok R1) (λ vs s2 ⟨ps,H2',prs,R2,k2,h2⟩=>⟨⟨_,R2⟩,?_⟩) λ _ _ x=>x);exact wpAny_mono (h2 A s2 v vs ok R2 (pr.keep k2) prs) (λ u s3 ⟨p',H',pr',R',k',hq⟩=>⟨p',H',pr',R',k1.trans (k2.trans k'),hq⟩) λ _ _ x=>x
theorem eval_meth (o:Expr)(name:Str)(apos pos:Pos)(args:List Expr)(env:Env):eval (.Call (.Attribute o name apos) args [] pos) env=(do
  let ov <- attributeBase o name env (eval o env)
  standAt apos.atName
  methodCall o name apos pos env ov (args.length+0) (backTo pos (starEach args env)) (backToKw pos (keywordEach [] env))):=rfl
theorem zwD {pos:Pos}{env:Env}{es:List Expr}(h:zcS es=true):(backTo pos (starEach es env)).all (!·.1)=true:=by
 induction es with
 | nil=>rfl
 | cons e es ih=>
  obtain⟨h1,h2⟩:=zaZ (env:=env) h;rw[h1];exact ih h2
theorem AE.meth {o:Expr}{name:Str}{apos pos:Pos}{args:List Expr}{Q:PV->zaA->Prop}(hb:attributeBase o name f.env (eval o f.env)=eval o f.env)(hs:zcS args=true)(hl:args.length<30)(hp:(apos.endLine==pos.line)=true)
  (h:AE T f Fs H o (λ p H1=>∃ g,zgL T.C.K g=true/\zdW T (.fr f::Fs) H1 name p g/\AL T f Fs H1 args (λ ps H2'=>zaT T (.fr f::Fs) H2' g (p::ps) Q E) E) E):AE T f Fs H (.Call (.Attribute o name apos) args [] pos) Q E:=λ A s ok R=>by
 rw[eval_meth,hb];refine wpAny_bind (wpAny_mono (h A s ok R) (λ v s₁ hh=>hh.elim λ p H1 pr R1 k1 hq=>?_) λ _ _ x=>x);refine q13 hq λ g hg hm h1'=>?_;refine wpAny_bind (wpAny_standAt ?_);have hform:methodCallForm (args.length+0) (backTo pos (starEach args f.env)) (backToKw pos (keywordEach [] f.env))=true:=by
  unfold methodCallForm;rw[zwD hs];have e:backToKw pos (keywordEach [] f.env)=[]:=rfl;rw[e];exact decide_eq_true hl
 unfold methodCall;rw[hform];have hc:calleeOf true o f.env v name=getMethod v name (importBound o f.env >>= λ b=>pure (b.getD true)):=if_pos rfl;have hp':methodCallPos true o f.env apos pos=pure pos:=if_pos hp;rw[hc,hp'];refine wpAny_bind (wpAny_holding (hm A s₁ v _ _ _ ok R1 pr λ u pu=>?_));refine wpAny_bind (wpAny_pure ?_);refine zmI hs R1 hg pu (wpAny_mono (h1' A s₁ pos ok R1) (λ vs s2 hh=>hh.elim λ ps H2' prs R2 k2 h2=>⟨⟨_,R2⟩,?_⟩) λ _ _ x=>x);exact wpAny_mono (h2 A s2 u (v::vs) ok R2 (pu.keep k2) (PRs.cons (pr.keep k2) prs)) (λ u s3 hh=>hh.elim λ p' H' pr' R' k' hq=>⟨p',H',pr',R',k1.trans (k2.trans k'),hq⟩) λ _ _ x=>x
end
section
variable {T:Tr}{f:FR}{env:Env}{ls:Ls}{Fs:List AF}{H:zaA}{E:Value->Shared->Prop}{s:Shared}{A:Around}
theorem zmZ {C:Cx}{h:Heap}{c:Addr}:zcC C ((h.push emptyDict).push (instObj c h.objs.size)) (h.objs.size+1) (.inst c h.objs.size):=
 ⟨_,by rw[show h.objs.size+1=(h.push emptyDict).objs.size from (Heap.size_push ..).symm];exact Heap.get?_push_size _ rfl,rfl,rfl,rfl,Nat.ne_of_lt (Nat.lt_succ_self _)⟩
theorem zhV {C:Cx}{h:Heap}{o:Obj}:zcC C ((h.push emptyDict).push o) h.objs.size (.attrs []):=by
 refine⟨λ _=>none,⟨emptyDict,#[],0,Heap.get?_push_of_some _ (Heap.get?_push_size _ rfl),rfl,?_,?_,λ _=>rfl⟩,λ _ _=>rfl,λ x p e=>by cases e⟩
 ·intro e he;simp at he
 ·exact List.Pairwise.nil
theorem under_tc {c:Addr}{rest:List Value}:(Code.builtin "type.__call__" ⟨.ref c::rest,[]⟩).weight=1/\(Code.builtin "type.__call__" ⟨.ref c::rest,[]⟩).cUnits=1/\(Code.builtin "type.__call__" ⟨.ref c::rest,[]⟩).envs=[]:=⟨rfl,rfl,rfl⟩
theorem AOk.creation {c:Addr}{rest:List Value}(ok:AOk T Fs A)(hn:1<=T.n):AOk T.down Fs (A.under (.builtin "type.__call__" ⟨.ref c::rest,[]⟩)):=by
 refine q03 (under_tc (c:=c) (rest:=rest)) λ h1 h2 h3=>?_;refine⟨?_,?_,?_,λ h=>ok.handled h,ok.ctx⟩
 ·show pushEnvs (Code.builtin "type.__call__" ⟨.ref c::rest,[]⟩).envs A.frames=_;rw[h3];exact ok.frames
 ·have:=ok.depth;show A.depth+(Code.builtin "type.__call__" ⟨.ref c::rest,[]⟩).weight+4*(T.n-1)+10<=1000;rw[h1];exact zvM hn this (by decide)
 ·have:=ok.units;show A.units+(Code.builtin "type.__call__" ⟨.ref c::rest,[]⟩).cUnits+20*(T.n-1)+100<=9900;rw[h2];exact zvM hn this (by decide)
theorem two_new {C:Cx}{h':Heap}{a b:Addr}{o o':AO}{s':Shared}(R:Rep C Fs H s)(hk:∀ b o,s.heap.get? b=some o->s'.heap.get? b=some o)(ha:s.heap.objs.size<=a)(hb:s.heap.objs.size<=b)(h1:zcC C s'.heap a o)(h2:zcC C s'.heap b o')
  (hg:s'.gens=s.gens:=by rfl) (hos:s'.os=s.os:=by rfl):Rep C Fs (upd (upd H a o) b o') s':=by
 refine q03 (R.fresh_ge ha) λ x y z=>?_;refine q03 (R.fresh_ge hb) λ x' y' z'=>?_;refine R.to (λ _=>False) (λ b o _ e=>hk b o e) (λ b o e _ _=>hk b o e) (λ _ h=>h.elim) (λ _ _ _ _ h=>h) (λ c ob e=>?_) hg hos;unfold upd at e;split at e
 ·cases e;rename_i q;subst q;exact .inr ⟨h2,y',z'⟩
 ·split at e
  ·cases e;rename_i q;subst q;exact .inr ⟨h1,y,z⟩
  ·exact .inl ⟨e,λ h=>h⟩
theorem zgG.cls {c fI:Addr}{ps:List PV}{Q:PV->zaA->Prop}(hm:makesIn T.C.K c=true)(hi:findIn T.C.K (.ref c) "__init__" = some (some (.ref fI)))(ht:typeIn T.C.K (.ref fI)=some (.type "function"))(hn:1<=T.n)
  (h:∀ x d,x≠d->H x=Option.none->H d=Option.none->zgG T.down Fs (upd (upd H d (.attrs [])) x (.inst c d)) (.ref fI) (.ref x::ps) (λ p H'=>p=.none/\Q (.ref x) H') E):zgG T Fs H (.ref c) ps Q E:=λ A s v vs ok R pv prs=>by
 rw[pv.ref_inv];obtain⟨hh,g,d,t,os⟩:=s;have Y:=makes_of (M:=T.C.M) R.kin hm;have k:∀ b o,hh.get? b=some o->((hh.push emptyDict).push (instObj c hh.objs.size)).get? b=some o:=λ b o e=>Heap.get?_push_of_some _ (Heap.get?_push_of_some _ e);refine make_core Y (looks_findIn R.kin hi) (λ self=>bind_fn R.kin self ht) (.inl rfl) ?_;have h1:=h (hh.objs.size+1) hh.objs.size (Nat.ne_of_gt (Nat.lt_succ_self _)) (R.fresh_ge (Nat.le_succ _)).1 R.fresh;have R1:Rep T.C Fs (upd (upd H hh.objs.size (.attrs [])) (hh.objs.size+1) (.inst c hh.objs.size)) ⟨(hh.push emptyDict).push (instObj c hh.objs.size),g,d,t,os⟩:=
  two_new (h':=hh) R k (Nat.le_refl _) (Nat.le_succ _) zhV zmZ
 have h2:=h1 _ _ (.ref fI) (.ref (hh.objs.size+1)::vs) (ok.creation (c:=c) (rest:=vs) hn) R1 PR.ref (PRs.cons PR.ref (PRs.keep (zaB.of_keep k) _ prs));refine codeAny_mono h2 λ r s' x=>?_;rcases r with e | (u | _ | _ | _)
 ·exact x
 all_goals first|exact x.elim|skip
 obtain⟨p,H',pr,R',k',rfl,hq⟩:=x;exact⟨pr.none_inv,_,H',PR.ref,R',(zaB.of_keep k).trans k',hq⟩
theorem zgG.cls0 {c:Addr}{Q:PV->zaA->Prop}(hm:makesIn T.C.K c=true)(hi:findIn T.C.K (.ref c) "__init__" = some (some (.builtin "object.__init__")))
  (h:∀ x d,x≠d->H x=Option.none->H d=Option.none->Q (.ref x) (upd (upd H d (.attrs [])) x (.inst c d))):zgG T Fs H (.ref c) [] Q E:=λ A s v vs ok R pv prs=>by
 rw[pv.ref_inv,prs.nil_inv];obtain⟨hh,g,d,t,os⟩:=s;have Y:=makes_of (M:=T.C.M) R.kin hm;have k:∀ b o,hh.get? b=some o->((hh.push emptyDict).push (instObj c hh.objs.size)).get? b=some o:=λ b o e=>Heap.get?_push_of_some _ (Heap.get?_push_of_some _ e);have R1:Rep T.C Fs (upd (upd H hh.objs.size (.attrs [])) (hh.objs.size+1) (.inst c hh.objs.size)) ⟨(hh.push emptyDict).push (instObj c hh.objs.size),g,d,t,os⟩:=
  two_new (h':=hh) R k (Nat.le_refl _) (Nat.le_succ _) zhV zmZ
 have hx:((hh.push emptyDict).push (instObj c hh.objs.size)).get? (hh.objs.size+1)=some (instObj c hh.objs.size):=by
  rw[show hh.objs.size+1=(hh.push emptyDict).objs.size from (Heap.size_push ..).symm];exact Heap.get?_push_size _ rfl
 refine make_core Y (looks_findIn R.kin hi) (λ self=>Looks.of_pure (oi_bind self)) (.inr ⟨rfl,rfl⟩) ?_;have t1:Looks T.C.M ((hh.push emptyDict).push (instObj c hh.objs.size)) (typeOf (.ref (hh.objs.size+1))) (.ref c):=(Looks.ld hx).andThen .now;have t2:Looks T.C.M ((hh.push emptyDict).push (instObj c hh.objs.size)) (isInstance (.ref (hh.objs.size+1)) (.type "object")) true:=t1.andThen (Y.top.keeps k);refine codeAny_call_builtin oi_plain entry_oi (@check_slot T.C.M _ _ _ "object.__init__" "object" "__init__" (.ref (hh.objs.size+1)) [] [] _ oi_kind oi_split t2 (oi_args (.ref (hh.objs.size+1))) ?_);rw[oi_run];exact wpAny_pure (And.intro rfl ⟨_,_,PR.ref,R1,zaB.of_keep k,h _ _ (Nat.ne_of_gt (Nat.lt_succ_self _)) (R.fresh_ge (Nat.le_succ _)).1 R.fresh⟩)
theorem ztI {C:Cx}{h h':Heap}{d:Addr}{l:Ls}{name:Str}{p:PV}{v:Value}{m:Str->Option Value}(tk:zaB h h')(hn:∀ x,l.lookup x=none->m x=none)(hs:∀ x p,l.lookup x=some p->∃ v,m x=some v/\PR h p v)
  (n':h'.Ns1 d (λ y=>if y=name then some v else m y)) (hp:PR h p v):zcC C h' d (.attrs ((name,p)::l)):=by
 refine⟨_,n',λ x e=>?_,λ x q e=>?_⟩
 ·rw[List.lookup_cons]at e
  by_cases hx:x=name
  ·subst hx;simp at e
  ·rw[beq_eq_false_iff_ne.mpr hx]at e;simp[hx,hn x e]
 ·rw[List.lookup_cons]at e
  by_cases hx:x=name
  ·subst hx;simp at e;subst e;exact⟨v,by simp,hp.keep tk⟩
  ·rw[beq_eq_false_iff_ne.mpr hx]at e
   refine q12 (hs x q e) λ u e1 pr=>?_;exact⟨u,by simp[hx,e1],pr.keep tk⟩
theorem zhW.inst {x c d:Addr}{l:Ls}{name:Str}{p:PV}{Q:zaA->Prop}(hc:zrA T.C.K c)(hn:findIn T.C.K (.ref c) name=some none)(hx:H x=some (.inst c d))(hd:H d=some (.attrs l))(hz:l.length<=10000)(h:Q (upd H d (.attrs ((name,p)::l)))):
  zhW T Fs H name (.ref x) p Q E:=λ A s v u ok R pv pu=>by
 rw[pv.ref_inv];refine q25 (zmG R hx hd name) λ ox od I hdict hod _ _=>?_;obtain⟨⟨m,n1,h1,h2⟩,_⟩:=R.objs d _ hd;refine set_plain R.kin I hc.sa ?_;have ht:takerIn T.C.K c name=some none:=by unfold takerIn;rw[hn];rfl
 refine osa_open (s:={ s with toks:=s.toks+1 }) R.kin I hc.plain ht λ b=>?_;refine q12 (any_some hc.cd) λ cd hcd hd'=>?_;obtain⟨hx',hcl,hno,-⟩:=I;obtain⟨oc,odi,oda,osl⟩:=ox;dsimp only at hcl hdict;subst hcl hdict;refine wpAny_bind (wpAny_pure (wpAny_bind (wpAny_bind (wpAny_loadPart hx' (wpAny_bind (looks_clsIn R.kin hcd _ _ _ _ (λ _ _ e=>e) ?_))))));rw[hd'];refine wpAny_pure (a:=some d) (wpAny_bind (wpAny_pure (wpAny_bind ?_)));refine wpAny_nsSet1 (s:={ s with toks:=s.toks+1 }) n1 λ h' n' sb=>?_;have tk:zaB s.heap h':=R.turnKeep (s':={ s with heap:=h',toks:=s.toks+1+1 }) hd sb.extBut;have hw:PySem.Within m (l.map (·.1)):=λ y hy=>by
  cases e:l.lookup y with
  | none=>exact absurd (h1 y e) hy
  | some q=>exact List.mem_map.mpr ⟨_,mem_of_lookup e,rfl⟩
 refine q31 (n'.count (PySem.Within.cons name u hw)) λ oD esD epD u8=>q03 u8 λ hoD hdD hcD=>?_;refine wpAny_bind (wpAny_lookBehind hoD (by rw[hdD];exact pastItsLine_dict (Nat.le_trans hcD (by rw[List.length_cons,List.length_map];exact Nat.le_trans (Nat.succ_le_succ hz) (by decide)))) ?_);refine wpAny_pure ?_
 show zuD T Fs s Q _
 exact⟨_,R.turn (o':=.attrs ((name,p)::l)) hd sb.extBut (ztI tk h1 h2 n' pu),tk,h⟩
theorem AA.attr {o:Expr}{attr:Str}{pos:Pos}{p:PV}{Q:Ls->zaA->Prop}(h:AE T f Fs H o (λ q H1=>zhW T (.fr f::Fs) H1 attr q p (λ H2'=>Q f.ls H2') E) E):AA T f Fs H (.Attribute o attr pos) p Q E:=λ A s v ok R pv=>by
 rw[arm_assign_Attribute];refine wpAny_bind (wpAny_holding (wpAny_mono (h A s ok R) (λ w s₁ hh=>hh.elim λ q H1 qr R1 k1 h1'=>?_) λ _ _ x=>x));refine wpAny_bind (wpAny_standAt (wpAny_bind (wpAny_holding (wpAny_mono (h1' A s₁ w v ok R1 qr (pv.keep k1)) (λ _ s2 hh=>hh.elim λ H2' R2 k2 h2=>zhQ ⟨f.ls,H2',R2,k1.trans k2,h2⟩) λ _ _ x=>x))))
theorem AA.sub {o i:Expr}{pos:Pos}{p:PV}{Q:Ls->zaA->Prop}(h:AE T f Fs H o (λ q H1=>AE T f Fs H1 i (λ j H2'=>zdL T (.fr f::Fs) H2' q j p (λ H3=>Q f.ls H3) E) E) E):AA T f Fs H (.Subscript o i pos) p Q E:=λ A s v ok R pv=>by
 rw[arm_assign_Subscript];refine wpAny_bind (wpAny_holding (wpAny_mono (h A s ok R) (λ w s₁ hh=>hh.elim λ q H1 qr R1 k1 h1'=>?_) λ _ _ x=>x));refine wpAny_bind (wpAny_holding (wpAny_mono (h1' A s₁ ok R1) (λ u s2 hh=>hh.elim λ j H2' jr R2 k2 h2=>?_) λ _ _ x=>x));refine wpAny_bind (wpAny_standAt (wpAny_bind (wpAny_holding (wpAny_mono (h2 A s2 w u v ok R2 (qr.keep k2) jr (pv.keep (k1.trans k2))) (λ _ s3 hh=>hh.elim λ H3 R3 k3 h3=>?_) λ _ _ x=>x))));exact zhQ ⟨f.ls,H3,R3,k1.trans (k2.trans k3),h3⟩
noncomputable def AAs (T:Tr)(f:FR)(Fs:List AF)(H:zaA)(ts:List Expr)(ps:List PV)(Q:Ls->zaA->Prop)(E:Value->Shared->Prop):Prop:=
 ∀ A s vs,AOk T (.fr f::Fs) A->Rep T.C (.fr f::Fs) H s->PRs s.heap ps vs->wpAny T.C.M A (assignInOrder ((assignEach ts f.env).map (·.2)) vs) (λ _ s'=>PostA T f Fs s Q s') E s
theorem AAs.nil {Q:Ls->zaA->Prop}(h:Q f.ls H):AAs T f Fs H [] [] Q E:=λ A s vs ok R pv=>by
 rw[pv.nil_inv];exact wpAny_pure ⟨f.ls,H,R,zaB.refl _,h⟩
theorem AAs.cons {t:Expr}{ts:List Expr}{p:PV}{ps:List PV}{Q:Ls->zaA->Prop}(he:assignEach (t::ts) f.env=(false,assign t f.env)::assignEach ts f.env)
  (h:AA T f Fs H t p (λ ls' H1=>AAs T { f with ls:=ls' } Fs H1 ts ps Q E) E):AAs T f Fs H (t::ts) (p::ps) Q E:=λ A s vs ok R pv=>by
 refine q23 pv.cons_inv ?_;intro v r u0;cases u0;intro pr prs;rw[he]
 show wpAny T.C.M A (holding r (assign t f.env v) >>= λ _=>assignInOrder ((assignEach ts f.env).map (·.2)) r) _ _ _
 refine wpAny_bind (wpAny_holding (wpAny_mono (h A s v ok R pr) (λ _ s₁ hh=>hh.elim λ ls' H1 R1 k1 h1'=>?_) λ _ _ x=>x));exact wpAny_mono (h1' A s₁ r (AOk.any ok) R1 (PRs.keep k1 _ prs)) (λ _ s2 hh=>hh.elim λ ls'' H2' R2 k2 h2=>⟨ls'',H2',R2,k1.trans k2,h2⟩) λ _ _ x=>x
theorem AA.tup {es:List Expr}{k:Nat}{pos:Pos}{ps:List PV}{Q:Ls->zaA->Prop}(hn:(assignEach es f.env).length=ps.length)(hst:(assignEach es f.env).findIdx? (·.1)=none)
  (h:AAs T f Fs H es ps Q E):AA T f Fs H (.Tuple es k pos) (.tup ps) Q E:=λ A s v ok R pv=>by
 refine q46 pv.tup_inv ?_;intro a o vs n u0;cases u0;intro ho hc hd hs r;have it:IsTup s.heap a vs:=⟨o,ho,hc,n,hs⟩
 refine zxB (ok.hdc R) it (by rw[hn,r.length,Array.length_toList]) hst λ h' ext=>?_;have kp:∀ b o,s.heap.get? b=some o->h'.get? b=some o:=λ b o e=>ext b o (Nat.ne_of_lt (Heap.lt_size e)) e;exact wpAny_mono (h A { s with heap:=h' } vs.toList ok (R.ext kp) (PRs.keep (zaB.of_keep kp) _ r)) (λ _ s2 hh=>hh.elim λ ls'' H2' R2 k2 h2=>⟨ls'',H2',R2,(zaB.of_keep kp).trans k2,h2⟩) λ _ _ x=>x
theorem AA.tupList {es:List Expr}{k:Nat}{pos:Pos}{a:Addr}{ps:List PV}{Q:Ls->zaA->Prop}(hH:LAt T.C H a ps)(hn:(assignEach es f.env).length=ps.length)(hst:(assignEach es f.env).findIdx? (·.1)=none)
  (h:AAs T f Fs H es ps Q E):AA T f Fs H (.Tuple es k pos) (.ref a) Q E:=λ A s v ok R pv=>by
 rw[pv.ref_inv];refine q22 (R.lat hH) λ vs n il r=>?_;refine zsY (ok.hdc R) (items:=vs) ⟨_,il,rfl,_,rfl⟩ (by rw[hn,r.length,Array.length_toList]) hst λ h' ext=>?_;have kp:∀ b o,s.heap.get? b=some o->h'.get? b=some o:=λ b o e=>ext b o (Nat.ne_of_lt (Heap.lt_size e)) e;exact wpAny_mono (h A { s with heap:=h' } vs.toList ok (R.ext kp) (PRs.keep (zaB.of_keep kp) _ r)) (λ _ s2 hh=>hh.elim λ ls'' H2' R2 k2 h2=>⟨ls'',H2',R2,(zaB.of_keep kp).trans k2,h2⟩) λ _ _ x=>x
end
inductive AIt where
 | list (a:Addr) (i:Nat)
 | range (x left:Int)
 | keys (d:Addr) (ob:Obj) (i:Nat)
noncomputable def IsIt (o:Obj):AIt->Prop
 | .list a i=>o.cls=.type "list_iterator" /\ o.data=.fields #[.ref a,.int i 0]
 | .range x left=>o={ cls:=.type "range_iterator",dict:=none,data:=.fields #[rawInt x,rawInt left,rawInt 1],slots:=#[] }
 | .keys d ob i=>o.cls=.type "dict_keyiterator" /\ ∃ es ep,ob.data=.dict es ep/\o.data=znD d i es.size ep
theorem IsIt.nc {o:Obj}{x:AIt}(h:IsIt o x):¬ Ctx2 o:=λ u9=>q12 u9 λ vs hd h2=>by
 cases x with
 | list a i=>rw[h.2]at hd;cases hd;cases h2
 | range x left=>rw[show o=_ from h]at hd;cases hd;cases h2
 | keys d ob i=>refine q02 h ?_;clear h;intro _ u8;refine q22 u8 ?_;clear u8;intro es ep _ h;rw[h]at hd;cases hd;cases h2
theorem IsIt.notTup {o:Obj}:∀ {x:AIt},IsIt o x->zdT o
 | .list a i,⟨h,_⟩=>.cls (by rw[h];decide)
 | .keys _ _ _,⟨h,_⟩=>.cls (by rw[h];decide)
 | .range _ _,h=>.cls (by rw[show o=_ from h];show Value.type "range_iterator" ≠ Value.type "tuple";decide)
noncomputable def zgF (H:zaA)(x:AIt)(K:PV->AIt->Prop)(D:Prop):Prop:=match x with
 | .list a i=>∃ l,H a=some (.list l)/\(∀ p,l[i]?=some p->K p (.list a (i+1)))/\(l[i]?=none->D)
 | .keys d ob i=>∃ l,H d=some (.pdict l (some ob))/\(∀ e,l[i]?=some e->K (pt e.1) (.keys d ob (i+1)))/\(l[i]?=none->D)
 | .range x left=>(0<left->K (.int x) (.range (x+1) (left-1)))/\(left<=0->D)
section
variable {T:Tr}{f:FR}{env:Env}{ls:Ls}{Fs:List AF}{H:zaA}{E:Value->Shared->Prop}{s:Shared}{A:Around}
theorem Rep.unhide {C:Cx}{pre post:List AF}{a:Addr}{o:Obj}{s':Shared}(R:Rep C (pre++.hid a o::post) H s)(hk:Heap.ExtBut a s.heap s'.heap)
  (hg:s'.gens=s.gens:=by rfl) (hos:s'.os=s.os:=by rfl):Rep C (pre++post) H s'/\zaB s.heap s'.heap:=by
 refine q03 (List.pairwise_append.mp R.apart) λ p1 p2 p3=>?_;obtain⟨q1,q2⟩:=List.pairwise_cons.mp p2;obtain⟨⟨ho,hoc⟩,hb⟩:=R.frs (.hid a o) (by simp);have hb:=hb a List.mem_cons_self;have tk:zaB s.heap s'.heap:=zaB.of_ext hk λ o1 e=>by rw[ho]at e;cases e;exact hoc
 have nf:∀ f∈pre++post,a∉f.reads:=λ f hf=>by
  rcases List.mem_append.mp hf with hf|hf
  ·exact (p3 f hf _ (.head _)).2 a List.mem_cons_self
  ·exact (q1 f hf).1 a List.mem_cons_self
 exact⟨(R.sub (List.Sublist.append (List.Sublist.refl _) (List.sublist_cons_self _ _))).to (λ b=>b=a) (λ b o hb e=>hk b o hb e) tk (λ b h=>h▸hb) (λ g hg b hb h=>nf g hg (h▸hb))
  (λ b ob e=>.inl ⟨e,λ h=>(R.objs b ob e).2.2 (.hid a o) (by simp) (h▸List.mem_cons_self)⟩) hg hos,tk⟩
theorem Rep.swap {C:Cx}{a:Addr}{o:Obj}{g:AF}(R:Rep C (.hid a o::g::Fs) H s):Rep C (g::.hid a o::Fs) H s:=by
 obtain⟨a1,a2⟩:=List.pairwise_cons.mp R.apart;obtain⟨b1,b2⟩:=List.pairwise_cons.mp a2;have h:=a1 g (.head _);have ha:a∉g.reads:=h.1 a List.mem_cons_self;refine⟨R.ok,R.keep,R.gens,R.os,λ x hx=>R.frs x (by simp only[List.mem_cons]at hx ⊢;rcases hx with h|h|h <;> simp[h]),List.pairwise_cons.mpr ⟨λ x hx=>?_,List.pairwise_cons.mpr ⟨λ x hx=>a1 x (.tail _ hx),b2⟩⟩,λ b ob e=>?_⟩
 ·rcases List.mem_cons.mp hx with rfl|hx
  ·exact⟨λ b hb hb'=>ha (by rw[<- List.mem_singleton.mp hb'];exact AF.owns_reads hb),λ b hb=>by rw[List.mem_singleton.mp hb];exact ha⟩
  ·exact b1 x hx
 ·refine q03 (R.objs b ob e) λ x y z=>?_
  exact⟨x,y,λ k hk=>z k (by simp only[List.mem_cons]at hk ⊢;rcases hk with h|h|h <;> simp[h])⟩
theorem AOk.hid {c:FK}{ls ls':Ls}{a:Addr}{o:Obj}(ok:AOk T (.fr ⟨c,env,ls⟩::Fs) A):AOk T (.fr ⟨c,env,ls'⟩::.hid a o::Fs) A:=by
 cases c <;> exact⟨ok.frames,ok.depth,ok.units,ok.handled,zqS ok λ x h=>.tail _ h⟩
theorem wp_next {pre post:List AF}{it:Addr}{o:Obj}{x:AIt}{K:PV->AIt->Prop}{D:Prop}{Q:Option Value->Shared->Prop}(hx:HdC s.heap A)(R:Rep T.C (pre++.hid it o::post) H s)(hi:IsIt o x)(ht:zgF H x K D)
  (hK:∀ p x' v o' s',K p x'->IsIt o' x'->PR s'.heap p v->Rep T.C (pre++.hid it o'::post) H s'->zaB s.heap s'.heap->Q (some v) s')
  (hD:∀ s',D->Rep T.C (pre++post) H s'->zaB s.heap s'.heap->Q none s'):wpAny T.C.M A (pyNext (.ref it)) Q E s:=by
 obtain⟨⟨ho,_⟩,_⟩:=R.frs (.hid it o) (by simp);cases x with
 | list a i=>
  refine q13 ht λ l hl h1 h2=>?_;refine q12 (zgP (R.objs a _ hl).1) λ vs il r=>?_;have hit:s.heap.IsListIter it a i:=⟨o,ho,hi.1,hi.2⟩
  cases e:l[i]? with
  | some p=>
   refine q12 (item_of r e) λ v ev pr=>?_;refine wpAny_pyNext_list_item hit il ev λ h' hit' sb=>?_;refine q13 hit' λ o' ho' hc' hd'=>?_;obtain⟨R',tk⟩:=R.hidden (s':={ s with heap:=h' }) sb.extBut ho' (IsIt.notTup (x:=.list a (i+1)) ⟨hc',hd'⟩);exact hK p _ v o' _ (h1 p e) ⟨hc',hd'⟩ (pr.keep tk) R' tk
  | none=>
   have ev:vs[i]?=none:=by
    rw[<- Array.getElem?_toList];have:=r.length;rw[List.getElem?_eq_none_iff]at e ⊢;lia
   refine zuY hx hit il ev λ h' ext=>?_;obtain⟨R',tk⟩:=R.unhide (s':={ s with heap:=h' }) ext;exact hD _ (h2 e) R' tk
 | range x left=>
  obtain⟨h1,h2⟩:=ht;have hit:IsRangeIter s.heap it x left 1:=by rw[show o=_ from hi]at ho;exact ho
  by_cases hl:0<left
  ·refine wpAny_pyNext_range_item hit hl λ h' hit' sb=>?_
   obtain⟨R',tk⟩:=R.hidden (s':={ s with heap:=h',toks:=s.toks+1 }) sb.extBut hit' (IsIt.notTup (x:=.range (x+1) (left-1)) rfl);exact hK _ _ _ _ _ (h1 hl) rfl PR.int R' tk
  ·refine range_end hx hit (by exact lqd hl) λ h' ext=>?_
   obtain⟨R',tk⟩:=R.unhide (s':={ s with heap:=h' }) ext;exact hD _ (h2 (by exact lqd hl)) R' tk
 | keys d ob i=>
  refine q13 ht λ l hl h1 h2=>?_;refine q02 hi λ hc u8=>q22 u8 λ es ep hob hid=>?_;obtain⟨⟨⟨xs,⟨o',es',ep',ho',hx',hd',he',-⟩,r⟩,hp⟩,-⟩:=R.objs d _ hl;have hpo:=hp ob rfl;rw[hpo]at ho';cases ho';rw[hob]at hd';cases hd';cases e:l[i]? with
  | some z=>
   refine q12 (r.at e) λ x hxi pr=>?_;have hei:es[i]?=some (entryOfKey (tupleKind (intKind T.C.prog T.C.w)) x):=by rw[entry_at he',hxi];rfl
   refine dict_item ho hc hid hpo hx' hob hei λ h' oi' q1 q2 q3 sb=>?_;have ii:IsIt oi' (.keys d ob (i+1)):=⟨q2,es,ep,hob,q3⟩
   obtain⟨R',tk⟩:=R.hidden (s':={ s with heap:=h' }) sb.extBut q1 (IsIt.notTup ii);exact hK _ _ _ oi' _ (h1 z e) ii (pr.keep tk) R' tk
  | none=>
   have hei:es[i]?=none:=by
    rw[entry_at he',List.getElem?_eq_none (by rw[r.length];exact List.getElem?_eq_none_iff.mp e)];rfl
   refine dict_end hx ho hc hid hpo hob hei λ h' ext=>?_;obtain⟨R',tk⟩:=R.unhide (s':={ s with heap:=h' }) ext;exact hD _ (h2 e) R' tk
noncomputable def zcV (T:Tr)(Fs:List AF)(H:zaA)(p:PV)(x:AIt):Prop:=
 ∀ A s v (Q:Value->Shared->Prop) E,AOk T Fs A->Rep T.C Fs H s->PR s.heap p v->(∀ it o s',IsIt o x->Rep T.C (.hid it o::Fs) H s'->zaB s.heap s'.heap->Q (.ref it) s')->wpAny T.C.M A (pyIter v) Q E s
theorem zcV.list {a:Addr}{l:List PV}(hH:H a=some (.list l)):zcV T Fs H (.ref a) (.list a 0):=λ A s v Q E ok R pv h=>by
 rw[pv.ref_inv];refine q12 (zgP (R.objs a _ hH).1) λ vs il r=>?_;exact wpAny_pyIter_list il (h _ _ _ ⟨rfl,rfl⟩ (R.hide zaE (Nat.le_refl _) (Heap.get?_push_size _ rfl) (.cls (by show Value.type "list_iterator" ≠ Value.type "tuple";decide))) (zaB.of_keep zaE))
theorem zcV.range {a:Addr}{x y:Int}(hH:H a=some (.range x y))(hx:-(2 ^ 62)<=x)(hx':x<2 ^ 62)(hy:-(2 ^ 62)<=y)(hy':y<2 ^ 62):zcV T Fs H (.ref a) (.range x (if x<y then y-x else 0)):=λ A s v Q E ok R pv h=>by
 rw[pv.ref_inv];refine q31 ((R.objs a _ hH).1) λ t u w ir=>?_;refine wpAny_pyIter_range ir (small_one hx hx' hy hy') ?_;rw[rangeSize_one];exact (h _ _ _ rfl (R.hide zaE (Nat.le_refl _) (Heap.get?_push_size _ rfl) (.cls (by show Value.type "range_iterator" ≠ Value.type "tuple";decide))) (zaB.of_keep zaE))
theorem zcV.keys {d:Addr}{l:List (Pt×PV)}{ob:Obj}(hH:H d=some (.pdict l (some ob))):zcV T Fs H (.ref d) (.keys d ob 0):=λ A s v Q E ok R pv h=>by
 rw[pv.ref_inv];obtain⟨⟨⟨xs,⟨o',es,ep,ho,hx,hd,-⟩,-⟩,hp⟩,-⟩:=R.objs d _ hH;have hpo:=hp ob rfl;rw[hpo]at ho;cases ho;refine dict_iter (notSys R hH) hpo hx hd ?_;have nt:zdT { cls:=.type "dict_keyiterator",data:=znD d 0 es.size ep }:=.cls (by show Value.type "dict_keyiterator" ≠ Value.type "tuple";decide);exact h _ _ _ ⟨rfl,es,ep,hd,rfl⟩ (R.hide zaE (Nat.le_refl _) (Heap.get?_push_size _ rfl) nt) (zaB.of_keep zaE)
theorem zkU {pre post:List AF}{it:Addr}{o:Obj}{x:AIt}{t:Expr}{v:Value}{C:Cx}{M:Model}{Q:Unit->Shared->Prop}(R:Rep C (pre++.hid it o::post) H s)(hi:IsIt o x)(h:Q () s):wpAny M A (letOwnedTupleGo t (.ref it) v) Q E s:=by
 obtain⟨⟨ho,_⟩,_⟩:=R.frs (.hid it o) (by simp);have main:wpAny M A (do
  let (.ref r,.ref a):=(Value.ref it,v) | return
  let o <- load r
  match o.cls,o.data with
  | .type n,.fields vs=>
   if ["enumerate", "zip", "dict_itemiterator", "dict_reverseitemiterator", "odict_iterator", "itertools.zip_longest", "itertools.pairwise"].contains n&&vs[0]?==some (rawInt a) then
    rule "for.unpacks-the-owned-tuple"
    updateField r 0 .none
  | _,_=>pure ()) Q E s:=by
  cases v <;> first|exact wpAny_pure h|skip
  refine wpAny_bind (wpAny_load ho ?_);cases x with
  | list a i=>
   rw[hi.1,hi.2];dsimp only;exact wpAny_pure h
  | range x y=>
   rw[show o=_ from hi];dsimp only;exact wpAny_pure h
  | keys d ob i=>
   refine q02 hi λ hc u8=>q22 u8 λ es ep hob hd=>?_;rw[hc,show o.data=.fields _ from hd];dsimp only;exact wpAny_pure h
 cases t <;> first|exact wpAny_pure h|exact main
theorem AA.mono {t:Expr}{p:PV}{Q Q':Ls->zaA->Prop}(h:AA T f Fs H t p Q E)(hq:∀ ls H,Q ls H->Q' ls H):AA T f Fs H t p Q' E:=
 λ A s v ok R pv=>wpAny_mono (h A s v ok R pv) (λ _ s' hh=>hh.elim λ ls' H' a b c=>⟨ls',H',a,b,hq _ _ c⟩) λ _ _ x=>x
noncomputable def zhZ (next:Ls->zaA->Prop)(Q:AFl->Ls->zaA->Prop)(a:AFl)(ls:Ls)(H:zaA):Prop:=match a with
 | .next=>next ls H
 | .cont=>next ls H
 | .brk=>Q .next ls H
 | .ret p=>Q (.ret p) ls H
noncomputable def zfR (T:Tr)(env:Env)(Fs:List AF)(ls:Ls)(target:Expr)(body:List Stmt)(Q:AFl->Ls->zaA->Prop)(E:Value->Shared->Prop)(p:PV)(H1:zaA):Prop:=
 ∀ A s s₁ v,AOk T (.fr ⟨.fn,env,ls⟩::Fs) A->Rep T.C (.fr ⟨.fn,env,ls⟩::Fs) H1 s₁->PR s₁.heap p v->zaB s.heap s₁.heap ->
  wpAny T.C.M A (pyIter v) (λ it s2=>codeAny T.C.M A (.forLoop target it body [] env) (λ r s'=>match r with | .ok f=>zuJ T env Fs s Q f s' | .error e=>cameBackBy T.C.M A env E e s') s2) E s₁
theorem AS.forTail {target iter:Expr}{body:List Stmt}{pos:Pos}{Q:AFl->Ls->zaA->Prop}(hs:∀ x,foldedSetIterable iter env x=pure x)(h:AE T ⟨.fn,env,ls⟩ Fs H iter (zfR T env Fs ls target body Q E) E):
  AS T env Fs ls H (.For target iter body [] pos) Q E:=λ A s ok R=>
 wpAny_For (wpAny_mono (h A s ok R) (λ v s₁ hh=>hh.elim λ p H1 pr R1 k1 h=>h A s s₁ v ok R1 pr k1) λ _ _ e=>e) hs
theorem zsS {target:Expr}{body:List Stmt}{Q:AFl->Ls->zaA->Prop}{p:PV}{H1:zaA}{Eb:List AF->Value->Shared->Prop}
  (hE:∀ A it o e s,AOk T (.fr ⟨.fn,env,ls⟩::Fs) A->Eb (.hid it o::Fs) e s->notedBy T.C.M A env (λ e s'=>cameBackBy T.C.M A env E e s') e s)
  (h:∃ x,zcV T (.fr ⟨.fn,env,ls⟩::Fs) H1 p x/\∃ (I:Nat->AIt->Ls->zaA->Prop) (n:Nat),I n x ls H1 /\
   ∀ n x ls' H',I n x ls' H'->zgF H' x (λ p x'=>∀ Fs',AA T ⟨.fn,env,ls'⟩ Fs' H' target p (λ ls1 H1=>AX T env Fs' ls1 H1 body (zhZ (λ ls2 H2'=>∃ m,m<n/\I m x' ls2 H2') Q) (Eb Fs')) NoE) (Q .next ls' H')):
  zfR T env Fs ls target body Q E p H1:=λ A s s₁ v ok R1 pr k1=>by
 refine q12 h λ x hx u8=>q22 u8 λ I n hI turn=>?_;refine hx A s₁ v _ _ ok R1 pr λ it o s2 hi R2 k2=>?_;have R2:=R2.swap;refine codeAny_forLoop_any (λ n s'=>∃ x ls' H' o,IsIt o x/\I n x ls' H'/\Rep T.C (.fr ⟨.fn,env,ls'⟩::.hid it o::Fs) H' s'/\zaB s.heap s'.heap) ?_ n ⟨x,ls,H1,o,hi,hI,R2,k1.trans k2⟩;intro n s3 uu;refine q41 uu λ x ls' H' o u8=>q04 u8 λ hi hI R3 k3=>?_
 refine wp_next (pre:=[.fr ⟨.fn,env,ls'⟩]) ((AOk.hid (ls:=ls) (ls':=ls') (a:=it) (o:=o) ok).hdc R3) R3 hi (turn n x ls' H' hI) (λ p x' v o' s4 hK hi' pv R4 k4=>?_) (λ s4 hD R4 k4=>?_)
 ·dsimp only
  refine zkU (pre:=[.fr ⟨.fn,env,ls'⟩]) R4 hi' ?_;refine wpAny_mono (hK (.hid it o'::Fs) A s4 v (AOk.hid ok) R4 pv) (λ _ s5 hh=>hh.elim λ ls1 H1' R5 k5 hX=>?_) λ _ _ e=>e.elim;refine wpAny_mono (hX A s5 (AOk.hid ok) R5) (λ fl s6 hh=>hh.elim λ a ls2 H2'' fr R6 k6 hQ=>?_) λ e s h=>hE A it o' e s ok h;have kk:=k3.trans (k4.trans (k5.trans k6));rcases a with _ | _ | _ | p <;> cases fl <;> first|exact fr.elim|skip
  ·refine q12 hQ λ m hm hI'=>?_;exact⟨m,hm,x',ls2,H2'',o',hi',hI',R6,kk⟩
  ·exact⟨.next,ls2,H2'',trivial,R6.pop2,kk,hQ⟩
  ·refine q12 hQ λ m hm hI'=>?_;exact⟨m,hm,x',ls2,H2'',o',hi',hI',R6,kk⟩
  ·exact⟨.ret p,ls2,H2'',fr,R6.pop2,kk,hQ⟩
 ·exact wpAny_execs_nil ⟨.next,ls',H',trivial,R4,k3.trans k4,hD⟩
theorem zpX {target:Expr}{body:List Stmt}{Q:AFl->Ls->zaA->Prop}{p:PV}{H1:zaA}
  (h:∃ x,zcV T (.fr ⟨.fn,env,ls⟩::Fs) H1 p x/\∃ (I:Nat->AIt->Ls->zaA->Prop) (n:Nat),I n x ls H1 /\
   ∀ n x ls' H',I n x ls' H'->zgF H' x (λ p x'=>∀ Fs',AA T ⟨.fn,env,ls'⟩ Fs' H' target p (λ ls1 H1=>AX T env Fs' ls1 H1 body (zhZ (λ ls2 H2'=>∃ m,m<n/\I m x' ls2 H2') Q) NoE) NoE) (Q .next ls' H')):
  zfR T env Fs ls target body Q E p H1:=zsS (Eb:=λ _=>NoE) (λ _ _ _ _ _ _ h=>h.elim) h
theorem it_list {target:Expr}{body:List Stmt}{Q:AFl->Ls->zaA->Prop}{p:PV}{H1:zaA}{Eb:List AF->Value->Shared->Prop}
  {a:Addr} {l:List PV} (e1:p=.ref a) (hl:H1 a=some (.list l)) (J:Nat->Ls->zaA->Prop) (h0:J 0 ls H1)
   (h1:∀ i ls' H',J i ls' H'->H' a=some (.list l))
   (h2:∀ i p ls' H' Fs',l[i]?=some p->J i ls' H'->AA T ⟨.fn,env,ls'⟩ Fs' H' target p (λ ls1 H1=>AX T env Fs' ls1 H1 body (zhZ (J (i+1)) Q) (Eb Fs')) NoE) (h3:∀ ls' H',J l.length ls' H'->Q .next ls' H'):
  ∃ x,zcV T (.fr ⟨.fn,env,ls⟩::Fs) H1 p x/\∃ (I:Nat->AIt->Ls->zaA->Prop) (n:Nat),I n x ls H1 /\
   ∀ n x ls' H',I n x ls' H'->zgF H' x (λ p x'=>∀ Fs',AA T ⟨.fn,env,ls'⟩ Fs' H' target p (λ ls1 H1=>AX T env Fs' ls1 H1 body (zhZ (λ ls2 H2'=>∃ m,m<n/\I m x' ls2 H2') Q) (Eb Fs')) NoE) (Q .next ls' H'):=by
 subst e1;refine⟨.list a 0,zcV.list hl,λ n x ls' H'=>∃ i,x=.list a i/\n=l.length-i/\i<=l.length/\J i ls' H',l.length,⟨0,rfl,rfl,Nat.zero_le _,h0⟩,?_⟩;intro n x ls' H' uu;refine q14 uu ?_;clear uu;intro i u0;cases u0;intro u1;cases u1;intro hle hJ;refine⟨l,h1 i ls' H' hJ,λ p e Fs'=>?_,λ e=>?_⟩
 ·have hlt:=(List.getElem?_eq_some_iff.mp e).1
  refine AA.mono (h2 i p ls' H' Fs' e hJ) λ ls1 H1 hX=>AX.mono hX λ a ls2 H2' hQ=>?_;cases a <;> first|exact hQ|exact⟨l.length-(i+1),zdX hlt,i+1,rfl,rfl,hlt,hQ⟩
 ·have:i=l.length:=Nat.le_antisymm hle (List.getElem?_eq_none_iff.mp e)
  subst this;exact h3 ls' H' hJ
theorem it_grow {target:Expr}{body:List Stmt}{Q:AFl->Ls->zaA->Prop}{p:PV}{H1:zaA}
  {a:Addr} (e1:p=.ref a) (hl:∃ l,H1 a=some (.list l)) (J:Nat->Nat->Ls->zaA->Prop) (n:Nat) (h0:J n 0 ls H1)
   (h1:∀ n i ls' H',J n i ls' H'->∃ l,H' a=some (.list l)/\(∀ p Fs',l[i]?=some p->AA T ⟨.fn,env,ls'⟩ Fs' H' target p (λ ls1 H1=>AX T env Fs' ls1 H1 body (zhZ (λ ls2 H2'=>∃ m,m<n/\J m (i+1) ls2 H2') Q) NoE) NoE) /\
    (l.length<=i->Q .next ls' H')):
  ∃ x,zcV T (.fr ⟨.fn,env,ls⟩::Fs) H1 p x/\∃ (I:Nat->AIt->Ls->zaA->Prop) (n:Nat),I n x ls H1 /\
   ∀ n x ls' H',I n x ls' H'->zgF H' x (λ p x'=>∀ Fs',AA T ⟨.fn,env,ls'⟩ Fs' H' target p (λ ls1 H1=>AX T env Fs' ls1 H1 body (zhZ (λ ls2 H2'=>∃ m,m<n/\I m x' ls2 H2') Q) NoE) NoE) (Q .next ls' H'):=by
 subst e1;obtain⟨l,hl⟩:=hl;refine⟨.list a 0,zcV.list hl,λ n x ls' H'=>∃ i,x=.list a i/\J n i ls' H',n,⟨0,rfl,h0⟩,?_⟩;intro n x ls' H' uu;refine q12 uu ?_;clear uu;intro i u0;cases u0;intro hJ;refine q13 (h1 n i ls' H' hJ) λ l hl h2 h3=>?_;refine⟨l,hl,λ p e Fs'=>?_,λ e=>h3 (List.getElem?_eq_none_iff.mp e)⟩;refine AA.mono (h2 p Fs' e) λ ls1 H1 hX=>AX.mono hX λ a ls2 H2' hQ=>?_;cases a <;> first|exact hQ | (refine q12 hQ λ m hm hJ'=>?_;exact⟨m,hm,i+1,rfl,hJ'⟩)
theorem it_range {target:Expr}{body:List Stmt}{Q:AFl->Ls->zaA->Prop}{p:PV}{H1:zaA}
  {a:Addr} {n:Nat} (e1:p=.ref a) (hl:H1 a=some (.range 0 n)) (hz:n<2 ^ 62) (J:Nat->Ls->zaA->Prop) (h0:J 0 ls H1)
   (h2:∀ i ls' H' Fs',i<n->J i ls' H'->AA T ⟨.fn,env,ls'⟩ Fs' H' target (.int i) (λ ls1 H1=>AX T env Fs' ls1 H1 body (zhZ (J (i+1)) Q) NoE) NoE) (h3:∀ ls' H',J n ls' H'->Q .next ls' H'):
  ∃ x,zcV T (.fr ⟨.fn,env,ls⟩::Fs) H1 p x/\∃ (I:Nat->AIt->Ls->zaA->Prop) (n:Nat),I n x ls H1 /\
   ∀ n x ls' H',I n x ls' H'->zgF H' x (λ p x'=>∀ Fs',AA T ⟨.fn,env,ls'⟩ Fs' H' target p (λ ls1 H1=>AX T env Fs' ls1 H1 body (zhZ (λ ls2 H2'=>∃ m,m<n/\I m x' ls2 H2') Q) NoE) NoE) (Q .next ls' H'):=by
 subst e1;refine⟨_,zcV.range hl (by decide) (by decide) (by lia) (by exact_mod_cast hz),λ k x ls' H'=>∃ i:Nat,x=.range i (n-i)/\k=n-i/\i<=n/\J i ls' H',n,⟨0,?_,rfl,Nat.zero_le _,h0⟩,?_⟩
 ·congr 1
  split <;> lia
 intro k x ls' H' uu;refine q14 uu ?_;clear uu;intro i u0;cases u0;intro u1;cases u1;intro hle hJ;refine⟨λ hp Fs'=>?_,λ e=>?_⟩
 ·refine AA.mono (h2 i ls' H' Fs' (by lia) hJ) λ ls1 H1 hX=>AX.mono hX λ a ls2 H2' hQ=>?_
  cases a <;> first|exact hQ|exact⟨n-(i+1),by lia,i+1,by congr 1;push_cast;lia,rfl,by lia,hQ⟩
 ·have:i=n:=by lia
  subst this;exact h3 ls' H' hJ
theorem AS.while_ {test:Expr}{body:List Stmt}{pos:Pos}{Q:AFl->Ls->zaA->Prop}(I:Nat->Ls->zaA->Prop)(n:Nat)(h0:I n ls H)
  (turn:∀ n ls' H',I n ls' H'->AT T ⟨.fn,env,ls'⟩ Fs H' test (λ b H1=>if b then AX T env Fs ls' H1 body (zhZ (λ ls2 H2'=>∃ m,m<n/\I m ls2 H2') Q) NoE else Q .next ls' H1) NoE):
  AS T env Fs ls H (.While test body [] pos) Q E:=λ A s ok R=>by
 refine wpAny_While (codeAny_whileLoop (λ n s'=>∃ ls' H',I n ls' H'/\Rep T.C (.fr ⟨.fn,env,ls'⟩::Fs) H' s'/\zaB s.heap s'.heap) ?_ n ⟨ls,H,h0,R,zaB.refl _⟩);intro n s₁ uu;refine q23 uu λ ls' H' hI R1 k1=>?_
 refine wpAny_mono (turn n ls' H' hI A s₁ (AOk.any ok) R1) (λ b s2 hh=>hh.elim λ H2' R2 k2 hb=>?_) λ _ _ e=>e.elim;cases b with
 | false=>exact wpAny_execs_nil ⟨.next,ls',H2',trivial,R2,k1.trans k2,hb⟩
 | true=>
  refine wpAny_mono (hb A s2 (AOk.any ok) R2) (λ fl s3 hh=>hh.elim λ a ls3 H3 fr R3 k3 hQ=>?_) λ _ _ e=>e.elim;have kk:=k1.trans (k2.trans k3);rcases a with _ | _ | _ | p <;> cases fl <;> first|exact fr.elim|skip
  ·refine q12 hQ λ m hm hI'=>?_;exact⟨m,hm,ls3,H3,hI',R3,kk⟩
  ·exact⟨.next,ls3,H3,trivial,R3,kk,hQ⟩
  ·refine q12 hQ λ m hm hI'=>?_;exact⟨m,hm,ls3,H3,hI',R3,kk⟩
  ·exact⟨.ret p,ls3,H3,fr,R3,kk,hQ⟩
end
noncomputable def All2 {α β:Type}(R:α->β->Prop):List α->List β->Prop
 | [],bs=>bs=[]
 | a::as,bs=>∃ b r,bs=b::r/\R a b/\All2 R as r
noncomputable def HD (C:Cx)(H:zaA):Nat->PV->Dat->Prop
 | _,.none,d=>d=.none
 | _,.int i,d=>d=.int i
 | _,.str x,d=>d=.str x/\PyData.strOk x=true
 | n+1,.tup l,d=>∃ ds,d=.tuple ds/\All2 (HD C H n) l ds
 | n+1,.ref a,d=>∃ l ds,LAt C H a l/\d=.list ds/\All2 (HD C H n) l ds
 | _,_,_=>False
theorem All2.mk {α β:Type}{R:α->β->Prop}{a:α}{b:β}{l:List α}{m:List β}(h:R a b)(t:All2 R l m):All2 R (a::l) (b::m):=⟨b,m,rfl,h,t⟩
theorem HD.none' {C:Cx}{H:zaA}{n:Nat}:HD C H (n+1) .none .none:=rfl
theorem HD.int' {C:Cx}{H:zaA}{n:Nat}{i:Int}:HD C H (n+1) (.int i) (.int i):=rfl
theorem HD.str' {C:Cx}{H:zaA}{n:Nat}{x:Str}(h:PyData.strOk x=true):HD C H (n+1) (.str x) (.str x):=⟨rfl,h⟩
theorem HD.tup' {C:Cx}{H:zaA}{n:Nat}{l:List PV}{ds:List Dat}(h:All2 (HD C H n) l ds):HD C H (n+1) (.tup l) (.tuple ds):=⟨ds,rfl,h⟩
theorem HD.list' {C:Cx}{H:zaA}{n:Nat}{a:Addr}{l:List PV}{ds:List Dat}(hl:LAt C H a l)(h:All2 (HD C H n) l ds):HD C H (n+1) (.ref a) (.list ds):=⟨l,ds,hl,rfl,h⟩
section
variable {T:Tr}{f:FR}{env:Env}{ls:Ls}{Fs:List AF}{H:zaA}{E:Value->Shared->Prop}{s:Shared}{A:Around}
theorem HD.okAll {C:Cx}{n:Nat}(ih:∀ p d,HD C H n p d->kqdOk n d=true)(l:List PV):∀ (ds:List Dat),All2 (HD C H n) l ds->∀ d∈ds,kqdOk n d=true:=by
 induction l with
 | nil=>intro ds h d hd;rw[show ds=[] from h]at hd;cases hd
 | cons p l il=>
  intro ds uu d hd;refine q23 uu λ b r e x y=>?_
  subst e;exact (List.mem_cons.mp hd).elim (λ e=>e▸ih p _ x) (il r y d)
theorem HD.ok {C:Cx}(n:Nat):∀ (p:PV) (d:Dat),HD C H n p d->kqdOk n d=true:=by
 induction n with
 | zero=>
  intro p d h;cases p with
  | none=>cases (show d=.none from h);rfl
  | int i=>cases (show d=.int i from h);rfl
  | str x=>obtain⟨e,h⟩:d=.str x/\PyData.strOk x=true:=h;subst e;exact h
  | _=>exact False.elim h
 | succ n ih=>
  intro p d h;cases p with
  | none=>cases (show d=.none from h);rfl
  | int i=>cases (show d=.int i from h);rfl
  | str x=>obtain⟨e,h⟩:d=.str x/\PyData.strOk x=true:=h;subst e;exact h
  | tup l=>
   obtain⟨ds,e,h⟩:∃ ds,d=.tuple ds/\All2 (HD C H n) l ds:=h;subst e
   simpa [kqdOk] using HD.okAll ih l ds h
  | ref a=>
   obtain⟨l,ds,_,e,h⟩:∃ l ds,LAt C H a l/\d=.list ds/\All2 (HD C H n) l ds:=h;subst e
   simpa [kqdOk] using HD.okAll ih l ds h
  | _=>exact False.elim h
theorem HD.readsAll {C:Cx}{n:Nat}(ih:∀ p d v,HD C H n p d->PR s.heap p v->∃ as,Reads s.heap v (kqdP d) as)(l:List PV):∀ (ds:List Dat) (vs:List Value),All2 (HD C H n) l ds->PRs s.heap l vs->∃ as,ReadsAll s.heap vs (kqdPs ds) as:=by
 induction l with
 | nil=>intro ds vs h r;rw[show ds=[] from h,r.nil_inv];exact⟨_,ReadsAll.nil⟩
 | cons p l il=>
  intro ds vs uu r';refine q23 uu λ b r e x y=>?_
  subst e;refine q23 r'.cons_inv ?_;intro v vs u0;cases u0;intro pr r';obtain⟨as,q⟩:=ih p b v x pr;obtain⟨bs,q'⟩:=il r vs y r';exact⟨_,ReadsAll.cons q q'⟩
theorem HD.reads {C:Cx}(R:Rep C Fs H s)(n:Nat):∀ (p:PV) (d:Dat) (v:Value),HD C H n p d->PR s.heap p v->∃ as,Reads s.heap v (kqdP d) as:=by
 induction n with
 | zero=>
  intro p d v h r;cases p with
  | none=>cases (show d=.none from h);rw[r.none_inv];exact⟨_,Reads.none⟩
  | int i=>cases (show d=.int i from h);obtain⟨t,rfl⟩:=r.int_inv;exact⟨_,Reads.int i t⟩
  | str x=>cases (show d=.str x from h.1);obtain⟨t,rfl⟩:=r.str_inv;exact⟨_,Reads.str x t⟩
  | _=>exact False.elim h
 | succ n ih=>
  intro p d v h r;cases p with
  | none=>cases (show d=.none from h);rw[r.none_inv];exact⟨_,Reads.none⟩
  | int i=>cases (show d=.int i from h);obtain⟨t,rfl⟩:=r.int_inv;exact⟨_,Reads.int i t⟩
  | str x=>cases (show d=.str x from h.1);obtain⟨t,rfl⟩:=r.str_inv;exact⟨_,Reads.str x t⟩
  | tup l=>
   obtain⟨ds,e,h⟩:∃ ds,d=.tuple ds/\All2 (HD C H n) l ds:=h;subst e;refine q46 r.tup_inv ?_;intro a o vs k u0;cases u0;intro ho hc hd hs rr;exact (HD.readsAll ih l ds vs.toList h rr).elim λ as q=>⟨_,reads_tuple_at ho hc hs q⟩
  | ref a=>
   obtain⟨l,ds,hl,e,h⟩:∃ l ds,LAt C H a l/\d=.list ds/\All2 (HD C H n) l ds:=h;subst e;rw[r.ref_inv];refine q22 (R.lat hl) λ vs k il rr=>?_;exact (HD.readsAll ih l ds vs.toList h rr).elim λ as q=>⟨_,reads_list_at il rfl rfl q⟩
  | _=>exact False.elim h
theorem ziI {C:Cx}{n:Nat}{p:PV}{d:Dat}(hn:n<=9)(h:HD C H n p d):SeqAt.shaped (kqdP d)=true:=by
 have l:=kqd_lay n d (HD.ok n p d h);unfold SeqAt.shaped;rw[l.1,Bool.true_and];exact decide_eq_true (Nat.le_trans l.2 (by exact lq2 hn rfl))
theorem ACmp.eqData {p q:PV}{d e:Dat}{Q:Bool->zaA->Prop}(hp:HD T.C H 9 p d)(hq:HD T.C H 9 q e)(h:∀ b,(b=true↔d=e)->Q b H):ACmp T Fs H .Eq p q Q E:=λ A s v w ok R pv pw=>by
 obtain⟨as,ra⟩:=HD.reads R 9 p d v hp pv;obtain⟨bs,rb⟩:=HD.reads R 9 q e w hq pw;have:=ok.cl;exact eq_dataH ra rb (ziI (by decide) hp) (ziI (by decide) hq) (by exact lq6 this rfl) ⟨_,rfl,zaM R (h _ (kqd_eqv 9 d e 9 (HD.ok 9 _ _ hp) (HD.ok 9 _ _ hq)))⟩
theorem ACmp.neData {p q:PV}{d e:Dat}{Q:Bool->zaA->Prop}(hp:HD T.C H 9 p d)(hq:HD T.C H 9 q e)(h:∀ b,(b=true↔d≠e)->Q b H):ACmp T Fs H .NotEq p q Q E:=λ A s v w ok R pv pw=>by
 obtain⟨as,ra⟩:=HD.reads R 9 p d v hp pv;obtain⟨bs,rb⟩:=HD.reads R 9 q e w hq pw;have:=ok.cl;refine ne_dataH ra rb (ziI (by decide) hp) (ziI (by decide) hq) (by exact lq6 this rfl) ⟨_,rfl,zaM R (h _ ?_)⟩;have k:=kqd_eqv 9 d e 9 (HD.ok 9 _ _ hp) (HD.ok 9 _ _ hq);cases hb:PyData.eqv (kqdP d) (kqdP e)
 ·simp only[hb]at k ⊢;simp;intro hde;exact Bool.false_ne_true (k.mpr hde)
 ·simp only[hb]at k ⊢;simp;exact k.mp trivial
theorem ACmp.inList {a:Addr}{l:List PV}{p:PV}{ds:List Dat}{d:Dat}{Q:Bool->zaA->Prop}(hl:LAt T.C H a l)(hds:All2 (HD T.C H 8) l ds)(hp:HD T.C H 8 p d)(h:∀ b,(b=true↔d∈ds)->Q b H):ACmp T Fs H .In p (.ref a) Q E:=λ A s v w ok R pv pw=>by
 rw[pw.ref_inv];refine q22 (R.lat hl) λ vs k il rr=>?_;obtain⟨as,ra⟩:=HD.readsAll (λ p d v=>HD.reads R 8 p d v) l ds vs.toList hds rr;obtain⟨bs,rx⟩:=HD.reads R 8 p d v hp pv;have hok:=HD.okAll (λ p d=>HD.ok 8 p d) l ds hds;have hdk:=HD.ok 8 p d hp;have l1:=kqd_layL hok;have ld:=kqd_lay 8 d hdk;have l2:=ld.2;have:=ok.cl;refine SeqAt.in_list_reads (reads_list_at il rfl rfl ra) rx l1.1 ld.1 ?_ ⟨_,rfl,zaM R (h _ (kqd_any ds d hok hdk))⟩;have:=Nat.min_le_right (PyData.depthAll (kqdPs ds)) (kqdP d).depth;lia
theorem ACmp.neBool {a b:Bool}{Q:Bool->zaA->Prop}(h:Q (a != b) H):ACmp T Fs H .NotEq (.bool a) (.bool b) Q E:=λ A s v w ok R pv pw=>by
 rw[pv.bool_inv,pw.bool_inv];exact PyProof.Rows.ne_bool ⟨_,rfl,zaM R h⟩
theorem zmJ {h:Heap}{a:Addr}{vs:Array Value}{n:Nat}(il:IsL h a vs n)(g:Array Value->Array Value):Heap.ExtBut a h (h.update a (Obj.mapSeq g)):=(Heap.SameBut.update ..).extBut
theorem zcW {h:Heap}{l:List PV}{vs:Array Value}(r:PRs h l vs.toList):vs.size=l.length:=by have:=r.length;simp at this;exact this.symm
theorem zdW.listAppend {a:Addr}{l:List PV}(hH:H a=some (.list l)):zdW T Fs H "append" (.ref a) (.bi "list.append"):=λ A s v pl Q E ok R pv h=>by
 rw[pv.ref_inv]at h ⊢;refine q22 ((R.objs a _ hH).1) λ vs n il r=>?_;exact getMethod_list_append il rfl rfl (h _ PR.bi)
theorem zaT.listAppend {a:Addr}{l:List PV}{p:PV}{Q:PV->zaA->Prop}(hH:H a=some (.list l))(hz:l.length<=100000)(h:Q .none (upd H a (.list (l++[p])))):zaT T Fs H (.bi "list.append") [.ref a,p] Q E:=λ A s v ws ok R pv prs=>by
 rw[pv.bi_inv];refine q23 prs.cons_inv ?_;intro w r1 u0;cases u0;intro pw prs;refine q23 prs.cons_inv ?_;intro u r2 u0;cases u0;intro pu prs;rw[prs.nil_inv,pw.ref_inv];refine q22 ((R.objs a _ hH).1) λ vs n il r=>?_;have hsz:vs.size<=sizeLine:=by rw[zcW r];exact Nat.le_trans hz (by decide)
 refine call_meets slot_list_append ⟨_,il,rfl⟩ entry_list_append (args_list_append _ _) (list_append a vs n u hsz) ⟨il,?_⟩;have tk:zaB s.heap (s.heap.update a (Obj.mapSeq λ x=>x.push u)):=R.turnKeep (s':={ s with heap:=s.heap.update a (Obj.mapSeq λ x=>x.push u) }) hH (zmJ il _);refine⟨.none,_,PR.none,R.turn (o':=.list (l++[p])) hH (zmJ il _) ⟨_,_,IsL.update il _,?_⟩,tk,h⟩;rw[Array.toList_push];exact (PRs.keep tk _ r).append (PRs.cons (pu.keep tk) PRs.nil)
theorem zdL.list {a:Addr}{l:List PV}{k:Int}{q:PV}{Q:zaA->Prop}(hH:H a=some (.list l))(h0:0<=k)(hk:k<l.length)(hz:l.length<=100000)(h:Q (upd H a (.list (l.set k.toNat q)))):zdL T Fs H (.ref a) (.int k) q Q E:=λ A s v w u ok R pv pw pu=>by
 rw[pv.ref_inv];obtain⟨t,rfl⟩:=pw.int_inv;refine q22 ((R.objs a _ hH).1) λ vs n il r=>?_;have hl:=il.isList;have hs:=zcW r;unfold setItem;refine wpAny_holding ?_;refine wpAny_bind (wpAny_sequenceKey hl.typeIs (by decide) ?_);refine wpAny_bind (wpAny_callSpecial?_slot (name:=Str.ofString "__setitem__") hl.typeIs slot_list_setitem
  (wpAny_call_entry slot_list_setitem hl.typeIs entry_list_setitem ?_ (args_list_setitem _ _ _)))
 show wpAny _ _ (Builtin.List.listSubscript? (.int k t) >>= _) _ _ s
 refine wpAny_bind (wpAny_listSubscript_int (fitsIndex_of h0 (by exact lq13 hk hz rfl)) ?_);obtain⟨j,rfl⟩:=Int.eq_ofNat_of_zero_le h0;have hj:j<vs.size:=by lia
 have hx':vs[j]?=some vs[j]:=Array.getElem?_eq_getElem hj
 show wpAny _ _ ((seqItemAt a j >>= λ r=>pure (r.map (j,·))) >>= _) _ _ s
 refine wpAny_bind (wpAny_bind (wpAny_seqItemAt il rfl (wpAny_pure ?_)));rw[hx']
 show wpAny _ _ (setSeqItemAt a j u >>= _) _ _ s
 have tk:zaB s.heap (s.heap.update a (Obj.mapSeq (·.setIfInBounds j u))):=R.turnKeep (s':={ s with heap:=s.heap.update a (Obj.mapSeq (·.setIfInBounds j u)) }) hH (zmJ il _);have hfin:zuD T Fs s Q { s with heap:=s.heap.update a (Obj.mapSeq (·.setIfInBounds j u)) }:=by
  refine⟨_,R.turn (o':=.list (l.set j q)) hH (zmJ il _) ⟨_,_,IsL.update il _,?_⟩,tk,h⟩;rw[Array.toList_setIfInBounds];exact (PRs.keep tk _ r).set j (pu.keep tk)
 refine wpAny_bind (wpAny_setSeqItemAt il rfl ?_);exact wpAny_pure ⟨.none,rfl,wpAny_pure hfin⟩
theorem zaT.lenList {a:Addr}{l:List PV}{Q:PV->zaA->Prop}(hH:LAt T.C H a l)(hz:l.length<=100000)(h:Q (.int l.length) H):zaT T Fs H (.bi "len") [.ref a] Q E:=λ A s v ws ok R pv prs=>by
 rw[pv.bi_inv];refine q23 prs.cons_inv ?_;intro w r1 u0;cases u0;intro pw prs;rw[prs.nil_inv,pw.ref_inv];refine q22 (R.lat hH) λ vs n il r=>?_;have hs:=zcW r;refine call_len_list il.isList (by rw[hs];exact lq16 hz rfl) ?_;rw[hs];exact zaI R PR.int h
theorem ATr.list {a:Addr}{l:List PV}{Q:Bool->zaA->Prop}(hH:LAt T.C H a l)(hz:l.length<=100000)(h:Q (!l.isEmpty) H):ATr T Fs H (.ref a) Q E:=λ A s v ok R pv=>by
 rw[pv.ref_inv];refine q22 (R.lat hH) λ vs n il r=>?_;have hs:=zcW r;refine wpAny_truthy_list il.isList (by rw[hs];exact lq16 hz rfl) ?_;have:vs.isEmpty=l.isEmpty:=by
  cases l with
  | nil=>have:vs.size=0:=hs;simp[Array.isEmpty,this]
  | cons x l=>simp at hs;simp[Array.isEmpty,hs]
 rw[this];exact zaM R h
theorem ABin.addList {a b:Addr}{l m:List PV}{Q:PV->zaA->Prop}(hl:LAt T.C H a l)(hm:LAt T.C H b m)(hz:l.length+m.length<=100000)(h:∀ c,H c=Option.none->Q (.ref c) (upd H c (.list (l++m)))):ABin T Fs H (binaryOp .Add) (.ref a) (.ref b) Q E:=λ A s v w ok R pv pw=>by
 rw[pv.ref_inv,pw.ref_inv];refine q22 (R.lat hl) λ vs n il r=>?_;refine q22 (R.lat hm) λ ws n' im r'=>?_;have hs:=zcW r;have hs':=zcW r';refine P.add_list il im ⟨_,_,PR.ref,R.new (o:=.list (l++m)) zaE (Nat.le_refl _) ⟨_,_,IsL.new _ _,?_⟩,zaB.of_keep zaE,h _ R.fresh⟩ (by rw[hs,hs'];exact Nat.le_trans hz (by decide));rw[Array.toList_append];exact (PRs.keep (zaB.of_keep zaE) _ r).append (PRs.keep (zaB.of_keep zaE) _ r')
end
theorem upd_self {H:zaA}{a:Addr}{o:AO}(h:H a=some o):upd H a o=H:=by
 funext b;unfold upd;split
 ·rename_i q;rw[q,h]
 ·rfl
section
variable {T:Tr}{f:FR}{env:Env}{ls:Ls}{Fs:List AF}{H:zaA}{E:Value->Shared->Prop}{s:Shared}{A:Around}
theorem Rep.pset {C:Cx}(R:Rep C Fs H s){a:Addr}{l:List Pt}(e:H a=some (.pset l)):PSet C.w s.heap a l:=(R.objs a _ e).1
theorem zaT.setNew {Q:PV->zaA->Prop}(h:∀ a,H a=Option.none->Q (.ref a) (upd H a (.pset []))):zaT T Fs H (.ty "set") [] Q E:=λ A s v ws ok R pv prs=>by
 rw[pv.ty_inv,prs.nil_inv];exact zjN λ S=>⟨_,_,PR.ref,R.new (o:=.pset []) zaE (Nat.le_refl _) S,zaB.of_keep zaE,h _ R.fresh⟩
theorem zdW.setAdd {a:Addr}{l:List Pt}(hH:H a=some (.pset l)):zdW T Fs H "add" (.ref a) (.bi "set.add"):=λ A s v pl Q E ok R pv h=>by
 rw[pv.ref_inv]at h ⊢;exact znN (R.pset hH) (h _ PR.bi)
theorem zdW.setPop {a:Addr}{l:List Pt}(hH:H a=some (.pset l)):zdW T Fs H "pop" (.ref a) (.bi "set.pop"):=λ A s v pl Q E ok R pv h=>by
 rw[pv.ref_inv]at h ⊢;exact znS (R.pset hH) (h _ PR.bi)
theorem zdW.setUpdate {a:Addr}{l:List Pt}(hH:H a=some (.pset l)):zdW T Fs H "update" (.ref a) (.bi "set.update"):=λ A s v pl Q E ok R pv h=>by
 rw[pv.ref_inv]at h ⊢;exact ziX (R.pset hH) (h _ PR.bi)
theorem zaT.setAdd {a:Addr}{l:List Pt}{p:Pt}{Q:PV->zaA->Prop}(hH:H a=some (.pset l))(hb:zdN p)(h:∀ l',l'.Nodup->(∀ q,q∈l'↔q=p\/q∈l)->Q .none (upd H a (.pset l'))):zaT T Fs H (.bi "set.add") [.ref a,pt p] Q E:=λ A s v ws ok R pv prs=>by
 rw[pv.bi_inv];refine q23 prs.cons_inv ?_;intro w r1 u0;cases u0;intro pw prs;refine q23 prs.cons_inv ?_;intro u r2 u0;cases u0;intro pu prs;rw[prs.nil_inv,pw.ref_inv];have S:=R.pset hH;have:=ok.cl;refine zqA (by exact lq6 this rfl) S (zjD pu) hb (λ hm tk=>?_) λ hm h' l' tk sb hp S'=>?_
 ·have h1:=h l S.nodup (λ q=>⟨.inr,λ x=>by rcases x with rfl|x;exact hm;exact x⟩)
  rw[upd_self hH]at h1;exact zaI R PR.none h1
 ·exact⟨.none,_,PR.none,R.turn (o':=.pset l') (s':={ s with heap:=h',toks:=tk }) hH sb.extBut S',R.turnKeep (s':={ s with heap:=h',toks:=tk }) hH sb.extBut,h l' S'.nodup λ q=>by rw[hp.mem_iff,List.mem_cons]⟩
theorem zaT.setPop {a:Addr}{l:List Pt}{Q:PV->zaA->Prop}(hH:H a=some (.pset l))(hne:l≠[])(h:∀ p l',p∈l->l'.Nodup->(∀ q,q∈l'↔q∈l/\q≠p)->l'.length+1=l.length->Q (pt p) (upd H a (.pset l'))):zaT T Fs H (.bi "set.pop") [.ref a] Q E:=λ A s v ws ok R pv prs=>by
 rw[pv.bi_inv];refine q23 prs.cons_inv ?_;intro w r1 u0;cases u0;intro pw prs;rw[prs.nil_inv,pw.ref_inv];have S:=R.pset hH;refine zqZ S hne λ i p v h' d hi sb S' hp=>?_;have hlt:=(List.getElem?_eq_some_iff.mp hi).1;refine⟨pt p,_,ziZ hp,R.turn (o':=.pset (l.eraseIdx i)) (s':={ s with heap:=h',drawn:=d }) hH sb.extBut S',R.turnKeep (s':={ s with heap:=h',drawn:=d }) hH sb.extBut,h p _ (List.mem_of_getElem? hi) S'.nodup (λ q=>?_) ?_⟩
 ·have hpm:=zeV l i hlt
  have e:l[i]=p:=(List.getElem?_eq_some_iff.mp hi).2;rw[e]at hpm;have nd:(p::l.eraseIdx i).Nodup:=hpm.nodup_iff.mpr S.nodup;have hn:=(List.nodup_cons.mp nd).1;rw[<- hpm.mem_iff];simp only[List.singleton_append,List.mem_cons];constructor
  ·intro hq;exact⟨.inr hq,λ e=>hn (e▸hq)⟩
  ·rintro⟨x|x,y⟩
   ·exact absurd x y
   ·exact x
 ·rw[List.length_eraseIdx,if_pos hlt];lia
theorem zaT.setUpdate {a b:Addr}{l m:List Pt}{Q:PV->zaA->Prop}(hH:H a=some (.pset l))(hb:H b=some (.pset m))(hne:a≠b)(h:∀ l',l'.Nodup->(∀ q,q∈l'↔q∈l\/q∈m)->Q .none (upd H a (.pset l'))):zaT T Fs H (.bi "set.update") [.ref a,.ref b] Q E:=λ A s v ws ok R pv prs=>by
 rw[pv.bi_inv];refine q23 prs.cons_inv ?_;intro w r1 u0;cases u0;intro pw prs;refine q23 prs.cons_inv ?_;intro u r2 u0;cases u0;intro pu prs;rw[prs.nil_inv,pw.ref_inv,pu.ref_inv];have:=ok.cl;exact zkE (by exact lq6 this rfl) (R.pset hH) (R.pset hb) hne λ h' l' sb hm S'=>
  ⟨.none,_,PR.none,R.turn (o':=.pset l') (s':={ s with heap:=h' }) hH sb.extBut S',R.turnKeep (s':={ s with heap:=h' }) hH sb.extBut,h l' S'.nodup hm⟩
theorem ACmp.inSet {a:Addr}{l:List Pt}{p:Pt}{Q:Bool->zaA->Prop}(hH:H a=some (.pset l))(hb:zdN p)(h:Q (decide (p∈l)) H):ACmp T Fs H .In (pt p) (.ref a) Q E:=λ A s v w ok R pv pw=>by
 rw[pw.ref_inv];have:=ok.cl;exact in_set (by exact lq6 this rfl) (R.pset hH) (zjD pv) hb λ tk=>⟨_,rfl,zaM R h⟩
theorem PSet.size_es {w:World}{h:Heap}{a:Addr}{l:List Pt}(S:PSet w h a l):∃ o es ep t,h.get? a=some o/\o.ExactSet/\o.data=.set es ep t/\t.fits es.size=true/\es.size=l.length:=by
 refine q46 S.obj λ o es ep t ho hx hd I hb El=>?_;exact⟨o,es,ep,t,ho,hx,hd,zbD I,by rw[<- Array.length_toList];exact El.length⟩
theorem zaT.lenSet {a:Addr}{l:List Pt}{Q:PV->zaA->Prop}(hH:H a=some (.pset l))(h:Q (.int l.length) H):zaT T Fs H (.bi "len") [.ref a] Q E:=λ A s v ws ok R pv prs=>by
 rw[pv.bi_inv];refine q23 prs.cons_inv ?_;intro w r1 u0;cases u0;intro pw prs;rw[prs.nil_inv,pw.ref_inv];have hl:=(R.pset hH).length_le;refine q41 ((R.pset hH).size_es) λ o es ep t u8=>q05 u8 λ ho hx hd hf hs=>?_;refine call_len_set ho hx hd hf (by rw[hs];exact lq16 hl rfl) ?_;rw[hs];exact zaI R PR.int h
theorem zxT:typeLookup (.type "set") "__bool__" = pure none:=by rw[typeLookup_type,builtinLookup_eq_fast];kernel_rfl
theorem ATr.set {a:Addr}{l:List Pt}{Q:Bool->zaA->Prop}(hH:H a=some (.pset l))(h:Q (!l.isEmpty) H):ATr T Fs H (.ref a) Q E:=λ A s v ok R pv=>by
 rw[pv.ref_inv];have hl:=(R.pset hH).length_le;refine q41 ((R.pset hH).size_es) λ o es ep t u8=>q05 u8 λ ho hx hd hf hs=>?_;have hT:s.TypeIs (.ref a) "set" := ⟨o,ho,hx.1⟩
 have key:wpAny T.C.M A (runValue (.builtin "len" ⟨[.ref a],[]⟩)) (λ r s'=>r=.int l.length (s.toks+1)/\znC T Fs s Q (!l.isEmpty) s') E s:=by
  refine wpAny_runValue (codeAny_builtin entry_len ?_);rw[Around.under_plainId plain_len _];exact wpAny_mono (wpAny_len_body_set (Q:=λ r s'=>r=.int l.length (s.toks+1)/\znC T Fs s Q (!l.isEmpty) s') ho hx hd hf (by rw[hs];exact lq16 hl rfl) ⟨by rw[hs],zaM R h⟩)
   (λ fin s' h'=>by refine q12 h' ?_;clear h';intro r u0;cases u0;intro hq;exact hq) λ _ _ e=>e
 have hne:((l.length:Int) != 0)=!l.isEmpty:=by cases l <;> simp;lia
 unfold truthy;refine wpAny_bind (wpAny_callSpecial?_none (name:=Str.ofString "__bool__") hT zxT ?_);refine wpAny_bind (wpAny_specialOf (name:=Str.ofString "__len__") hT F.slot_set_len.lookup ?_);exact wpAny_bind (wpAny_mono key (λ r s' h'=>by obtain⟨rfl,hq⟩:=h';exact wpAny_pure (hne▸hq)) λ _ _ e=>e)
theorem foldl_rep (x:Value)(n:Nat):∀ (acc:Array Value),(List.foldl (λ x1 x2=>x1++x2) acc (List.replicate n #[x])).toList=acc.toList++List.replicate n x:=by
 induction n with
 | zero=>exact λ acc=>(List.append_nil _).symm
 | succ n ih=>intro acc;rw[List.replicate_succ,List.foldl_cons,ih,List.replicate_succ,Array.toList_append];exact List.append_assoc ..
theorem ABin.mulList {a:Addr}{p:PV}{n:Int}{Q:PV->zaA->Prop}(hH:H a=some (.list [p]))(h0:0<=n)(hn:n<=100000)(h:∀ c,H c=Option.none->Q (.ref c) (upd H c (.list (List.replicate n.toNat p)))):ABin T Fs H (binaryOp .Mult) (.ref a) (.int n) Q E:=λ A s v w ok R pv pw=>by
 rw[pv.ref_inv];obtain⟨u,rfl⟩:=pw.int_inv;refine q22 ((R.objs a _ hH).1) λ vs k il r=>?_;refine q23 r.cons_inv λ x rr e px r2=>?_;rw[r2.nil_inv]at e;have hvs:vs=#[x]:=by apply Array.toList_inj.mp;rw[e]
 subst hvs;refine wpAny_binaryOp_repeat_ref (T := "list") (U := "int") (by decide) ⟨_,il,rfl⟩ (λ s'=>typeIs_int s' n u) noFill_list_mul F.fills_int_mul F.slot_int_rmul repeat_list F.slot_int_index.lookup
  (call_meets F.slot_int_rmul (typeIs_int s n u) F.entry_int_rmul (F.args_int_rmul_2 _ _) (int___rmul___int_list n u a #[x] k)
   ⟨il,rfl,⟨_,il,rfl⟩,call_meets F.slot_list_mul ⟨_,il,rfl⟩ F.entry_list_mul (F.args_list_mul_2 _ _)
    (AutoListH.list___mul___list_int_3 a #[x] k n u (by simp[Builtin.List.listFitsIndex];lia) (by simp;lia) (by simp[Builtin.List.listTooLong,sizeLine];lia)) ⟨il,?_⟩⟩)
 refine⟨_,_,PR.ref,R.new (o:=.list (List.replicate n.toNat p)) zaE (Nat.le_refl _) ⟨_,_,IsL.new _ _,?_⟩,zaB.of_keep zaE,h _ R.fresh⟩;rw[if_neg (by simp),foldl_rep];exact PRs.replicate (px.keep (zaB.of_keep zaE)) _
theorem zaT.range1 {n:Int}{Q:PV->zaA->Prop}(h:∀ c,H c=Option.none->Q (.ref c) (upd H c (.range 0 n))):zaT T Fs H (.ty "range") [.int n] Q E:=λ A s v ws ok R pv prs=>by
 rw[pv.ty_inv];refine q23 prs.cons_inv ?_;intro w r1 u0;cases u0;intro pw prs;rw[prs.nil_inv];obtain⟨u,rfl⟩:=pw.int_inv;exact call_range_1 ⟨_,_,PR.ref,R.new (o:=.range 0 n) (s':={ s with heap:=_,toks:=_ }) zaE (Nat.le_refl _) ⟨_,_,_,IsRange.new _ _ _ _ _ _ _⟩,zaB.of_keep zaE,h _ R.fresh⟩
theorem zaT.range2 {m n:Int}{Q:PV->zaA->Prop}(h:∀ c,H c=Option.none->Q (.ref c) (upd H c (.range m n))):zaT T Fs H (.ty "range") [.int m,.int n] Q E:=λ A s v ws ok R pv prs=>by
 rw[pv.ty_inv];refine q23 prs.cons_inv ?_;intro w r1 u0;cases u0;intro pw prs;refine q23 prs.cons_inv ?_;intro x r2 u0;cases u0;intro px prs;rw[prs.nil_inv];obtain⟨u,rfl⟩:=pw.int_inv;obtain⟨t,rfl⟩:=px.int_inv;exact call_range_2 ⟨_,_,PR.ref,R.new (o:=.range m n) (s':={ s with heap:=_,toks:=_ }) zaE (Nat.le_refl _) ⟨_,_,_,IsRange.new _ _ _ _ _ _ _⟩,zaB.of_keep zaE,h _ R.fresh⟩
end
noncomputable def zgX (l:List PV)(lo hi:Option Int):List PV:=(sliceRange (sliceBounds lo hi none l.length).1 (sliceBounds lo hi none l.length).2.1 (sliceBounds lo hi none l.length).2.2).filterMap (λ k=>l[k]?)
theorem PRs.pick {h:Heap}{l:List PV}{vs:List Value}(r:PRs h l vs)(idx:List Nat):PRs h (idx.filterMap (λ k=>l[k]?)) (idx.filterMap (λ k=>vs[k]?)):=by
 induction idx with
 | nil=>exact PRs.nil
 | cons i idx ih=>
  cases e:l[i]? with
  | none=>
   have:vs[i]?=none:=by rw[List.getElem?_eq_none_iff]at e ⊢;rw[<- r.length];exact e
   rw[List.filterMap_cons_none e,List.filterMap_cons_none this];exact ih
  | some p=>
   refine q12 (r.get i e) λ v ev pr=>?_;rw[List.filterMap_cons_some e,List.filterMap_cons_some ev];exact PRs.cons pr ih
theorem pick_runL (l:List PV)(a k:Nat):((List.range k).map (a+·)).filterMap (λ i=>l[i]?)=(l.drop a).take k:=by
 induction k with
 | zero=>rfl
 | succ k ih=>
  rw[List.range_succ,List.map_append,List.filterMap_append,ih,List.take_add_one]
  congr 1
  simp only[List.map_cons,List.map_nil,List.getElem?_drop];cases h:l[a+k]? <;> simp[h]
theorem zjF (l:List PV)(a b:Nat)(hb:b<=l.length)(ha:a<=l.length):(sliceRange (a:Int) (b:Int) 1).filterMap (λ k=>l[k]?)=(l.drop a).take (b-a):=by
 rw[sliceRange_one,pick_runL]
theorem zuO (i:Int)(n:Nat):∃ a:Nat,max 0 (min (if i<0 then i+n else i) (n:Int))=(a:Int)/\a<=n/\(0<=i->a=min i.toNat n):=by
 by_cases h:i<0
 ·have h1:i+n<=n:=by lia
  rw[if_pos h,Int.min_eq_left h1];refine⟨(i+n).toNat,?_,Int.toNat_le.mpr h1,λ h0=>absurd h (Int.not_lt.mpr h0)⟩;rw[Int.ofNat_toNat,Int.max_comm]
 ·rw[if_neg h]
  obtain⟨k,rfl⟩:=Int.eq_ofNat_of_zero_le (Int.not_lt.mp h);rw[Int.toNat_natCast]
  by_cases hk:k<=n
  ·rw[Int.min_eq_left (Int.ofNat_le.mpr hk),Int.max_eq_right (Int.natCast_nonneg _),Nat.min_eq_left hk]
   exact⟨k,rfl,hk,λ _=>rfl⟩
  ·have hk:=Nat.le_of_lt (Nat.not_le.mp hk)
   rw[Int.min_eq_right (Int.ofNat_le.mpr hk),Int.max_eq_right (Int.natCast_nonneg _),Nat.min_eq_right hk];exact⟨n,rfl,Nat.le_refl _,λ _=>rfl⟩
theorem zeP (lo hi:Option Int)(n:Nat):∃ a b:Nat,sliceBounds lo hi none n=((a:Int),(b:Int),1)/\a<=n/\b<=n /\
  (lo=none->a=0)/\(∀ i,lo=some i->0<=i->a=min i.toNat n)/\(hi=none->b=n)/\(∀ i,hi=some i->0<=i->b=min i.toNat n):=by
 have hA:∃ a:Nat,(sliceBounds lo hi none n).1=(a:Int)/\a<=n/\(lo=none->a=0)/\(∀ i,lo=some i->0<=i->a=min i.toNat n):=by
  cases lo with
  | none=>exact⟨0,rfl,Nat.zero_le _,λ _=>rfl,λ i e=>by cases e⟩
  | some i=>refine q13 (zuO i n) λ a h1 h2 h3=>?_;exact⟨a,by simpa [sliceBounds] using h1,h2,(λ e=>by cases e),λ j e=>by cases e;exact h3⟩
 have hB:∃ b:Nat,(sliceBounds lo hi none n).2.1=(b:Int)/\b<=n/\(hi=none->b=n)/\(∀ i,hi=some i->0<=i->b=min i.toNat n):=by
  cases hi with
  | none=>exact⟨n,by simp[sliceBounds],Nat.le_refl _,λ _=>rfl,λ i e=>by cases e⟩
  | some i=>refine q13 (zuO i n) λ a h1 h2 h3=>?_;exact⟨a,by simpa [sliceBounds] using h1,h2,(λ e=>by cases e),λ j e=>by cases e;exact h3⟩
 refine q14 hA λ a a1 a2 a3 a4=>?_;refine q14 hB λ b b1 b2 b3 b4=>?_;refine⟨a,b,?_,a2,b2,a3,a4,b3,b4⟩;rw[<- a1,<- b1];rfl
theorem ztR (l:List PV){i j:Int}(hi:0<=i)(hj:0<=j):zgX l (some i) (some j)=(l.take j.toNat).drop i.toNat:=by
 refine q21 (zeP (some i) (some j) l.length) λ a b u8=>q07 u8 λ e ha hb _ a2 _ b2=>?_;unfold zgX;rw[e,zjF l a b hb ha,a2 i rfl hi,b2 j rfl hj,List.drop_take]
 by_cases h:i.toNat<=l.length
 ·rw[Nat.min_eq_left h,List.take_eq_take_iff,List.length_drop,Nat.sub_min_sub_right,Nat.sub_min_sub_right,Nat.min_assoc,Nat.min_self]
 ·have h:=Nat.le_of_lt (Nat.not_le.mp h)
  rw[Nat.min_eq_right h,List.drop_length,List.drop_of_length_le h,List.take_nil,List.take_nil]
theorem zrX (l:List PV){j:Int}(hj:0<=j):zgX l none (some j)=l.take j.toNat:=by
 refine q21 (zeP none (some j) l.length) λ a b u8=>q07 u8 λ e ha hb a1 _ _ b2=>?_;unfold zgX;rw[e,zjF l a b hb ha,a1 rfl,b2 j rfl hj,List.drop_zero,Nat.sub_zero];rw[List.take_eq_take_iff,Nat.min_assoc,Nat.min_self]
theorem pslice_lo (l:List PV){i:Int}(hi:0<=i):zgX l (some i) none=l.drop i.toNat:=by
 refine q21 (zeP (some i) none l.length) λ a b u8=>q07 u8 λ e ha hb _ a2 b1 _=>?_;unfold zgX;rw[e,zjF l a b hb ha,a2 i rfl hi,b1 rfl]
 by_cases h:i.toNat<=l.length
 ·rw[Nat.min_eq_left h,<- List.length_drop,List.take_length]
 ·rw[Nat.min_eq_right (by lia),Nat.sub_self,List.take_zero,List.drop_of_length_le (by lia)]
section
variable {T:Tr}{f:FR}{env:Env}{ls:Ls}{Fs:List AF}{H:zaA}{E:Value->Shared->Prop}{s:Shared}{A:Around}
noncomputable def zkB (T:Tr)(f:FR)(Fs:List AF)(H:zaA)(e:Option Expr)(Q:Option Int->zaA->Prop)(E:Value->Shared->Prop):Prop:=match e with
 | none=>Q none H
 | some e=>AE T f Fs H e (λ p H1=>∃ i,p=.int i/\Q (some i) H1) E
theorem wp_part {e:Option Expr}{Q:Option Int->zaA->Prop}(h:zkB T f Fs H e Q E)(ok:AOk T (.fr f::Fs) A)(R:Rep T.C (.fr f::Fs) H s):
  wpAny T.C.M A (evalPart e f.env) (λ v s'=>∃ i H',IsPart v i/\Rep T.C (.fr f::Fs) H' s'/\zaB s.heap s'.heap/\Q i H') E s:=by
 cases e with
 | none=>exact wpAny_pure ⟨none,H,.none,R,zaB.refl _,h⟩
 | some e=>exact wpAny_mono (h A s ok R) (λ v s' hh=>hh.elim λ p H' pr R' k hq=>by refine q12 hq ?_;clear hq;intro i u0;cases u0;intro q;obtain⟨t,rfl⟩:=pr.int_inv;exact⟨some i,H',.int i t,R',k,q⟩) λ _ _ x=>x
theorem ex2 {α β:Type}{P:α->β->Prop}{Q:Prop}(h:∃ a b,P a b)(k:∀ a b,P a b->Q):Q:=by refine q21 h ?_;clear h;intro a b h;exact k a b h
theorem AE.slice {value:Expr}{lo hi:Option Expr}{p pos:Pos}{Q:PV->zaA->Prop}
  (h:AE T f Fs H value (λ q H1=>zkB T f Fs H1 lo (λ i H2'=>zkB T f Fs H2' hi (λ j H3=>∃ a l,q=.ref a/\LAt T.C H3 a l/\l.length<=100000/\∀ c,H3 c=Option.none->Q (.ref c) (upd H3 c (.list (zgX l i j)))) E) E) E):
  AE T f Fs H (.Subscript value (.Slice lo hi Option.none p) pos) Q E:=λ A s ok R=>by
 refine Subscript_ (wpAny_mono (h A s ok R) (λ v s₁ hh=>hh.elim λ q H1 qr R1 k1 h1'=>?_) λ _ _ x=>x);refine wpAny_Slice (wpAny_mono (wp_part h1' ok R1) (λ vl s2 hh=>ex2 hh λ i H2' hp=>?_) λ _ _ x=>x);have il:=hp.1;refine wpAny_mono (wp_part hp.2.2.2 ok hp.2.1) (λ vu s3 hh=>ex2 hh λ j H3 hq=>?_) λ _ _ x=>x;have k2:=hp.2.2.1;have iu:=hq.1;have R3:=hq.2.1;have k3:=hq.2.2.1;refine q24 hq.2.2.2 λ a l e hl hz h3=>?_;subst e;rw[qr.ref_inv];refine wpAny_pure ?_;refine q22 (R3.lat hl) λ vs n isl r=>?_;have hs:=zcW r;have R4:Rep T.C (.fr f::Fs) H3 { s3 with heap:=s3.heap.push { cls:=.type "slice",data:=.fields #[vl,vu,.none] } }:=R3.ext zaE;have il':=isl.push { cls:=.type "slice",data:=.fields #[vl,vu,.none] };have k4:zaB s3.heap (s3.heap.push { cls:=.type "slice",data:=.fields #[vl,vu,.none] }):=zaB.of_keep zaE;refine tail_any (T := "list") il'.isList.typeIs slot_list_getitem.lookup (wpAny_getItem_list_slice (st:=Option.none) il'.isList (Heap.IsSliceOf.new _ _ _ _) il iu .none (by simp) ?_ (by rw[hs];exact Nat.le_trans hz (by decide))) rfl;refine⟨_,_,PR.ref,R4.new (o:=.list (zgX l i j)) zaE (Nat.le_refl _) ⟨_,_,IsL.new _ _,?_⟩,k1.trans (k2.trans (k3.trans (k4.trans (zaB.of_keep zaE)))),h3 _ R4.fresh⟩;have:=(PRs.keep (k4.trans (zaB.of_keep (zaE (o:={ cls:=.type "list",data:=.seq (slicePick vs i j Option.none) })))) _ r).pick (sliceRange (sliceBounds i j Option.none vs.size).1 (sliceBounds i j Option.none vs.size).2.1 (sliceBounds i j Option.none vs.size).2.2);have e1:(slicePick vs i j Option.none).toList=(sliceRange (sliceBounds i j Option.none vs.size).1 (sliceBounds i j Option.none vs.size).2.1 (sliceBounds i j Option.none vs.size).2.2).filterMap (λ k=>vs.toList[k]?):=by
  unfold slicePick;simp
 rw[e1];unfold zgX;rw[hs]at this ⊢;exact this
theorem AE.dictEmpty {pos:Pos}{Q:PV->zaA->Prop}(h:∀ c,H c=Option.none->Q (.ref c) (upd H c (.pdict []))):AE T f Fs H (.Dict [] [] pos) Q E:=λ A s ok R=>
 wpAny_Dict_empty ⟨_,_,PR.ref,R.new (o:=.pdict []) zaE (Nat.le_refl _) ⟨⟨[],⟨_,#[],0,Heap.get?_push_size _ rfl,⟨rfl,rfl,rfl⟩,rfl,rfl,(λ x hx=>by cases hx),List.nodup_nil⟩,rfl⟩,λ _ e=>nomatch e⟩,zaB.of_keep zaE,h _ R.fresh⟩
end
section
variable {T:Tr}{f:FR}{env:Env}{ls:Ls}{Fs:List AF}{H:zaA}{E:Value->Shared->Prop}{s:Shared}{A:Around}
set_option maxHeartbeats 1000000 in
end
noncomputable def rem (H:zaA)(a:Addr):zaA:=λ b=>if b=a then none else H b
theorem rem_some {H:zaA}{a b:Addr}{o:AO}(h:rem H a b=some o):H b=some o/\b≠a:=by
 unfold rem at h;split at h
 ·cases h
 ·rename_i q;exact⟨h,q⟩
section
variable {T:Tr}{f:FR}{env:Env}{ls:Ls}{Fs:List AF}{H:zaA}{E:Value->Shared->Prop}{s:Shared}{A:Around}
theorem Rep.hideObj {C:Cx}{a:Addr}{o:Obj}{ob:AO}(R:Rep C Fs H s)(hH:H a=some ob)(ho:s.heap.get? a=some o):Rep C (.hid a o::Fs) (rem H a) s:=by
 refine q03 (R.objs a ob hH) λ x y z=>?_;refine q12 x.there λ o' ho' nt=>?_;rw[ho]at ho';cases ho';refine (R.mono λ b ob' e=>(rem_some e).1).push ⟨ho,nt⟩ (λ b hb=>by rw[List.mem_singleton.mp hb];exact y.1) (λ b hb=>by rw[List.mem_singleton.mp hb];simp[rem]) (λ b hb g hg=>by rw[List.mem_singleton.mp hb];exact z g hg) λ g hg b hb hb'=>?_;rw[List.mem_singleton.mp hb']at hb;have:a∈g.reads:=by cases g with|fr f=>cases hb|hid c o=>exact hb|gh _=>cases hb
 exact z g hg this
theorem Rep.showObj {C:Cx}{pre post:List AF}{a:Addr}{o:Obj}{ob:AO}(R:Rep C (pre++.hid a o::post) H s)(hn:New0 C a)(hs:zcC C s.heap a ob):Rep C (pre++post) (upd H a ob) s:=by
 refine q03 (List.pairwise_append.mp R.apart) λ p1 p2 p3=>?_;obtain⟨q1,q2⟩:=List.pairwise_cons.mp p2;have nf:∀ f∈pre++post,a∉f.reads:=λ f hf=>by
  rcases List.mem_append.mp hf with hf|hf
  ·exact (p3 f hf _ (.head _)).2 a List.mem_cons_self
  ·exact (q1 f hf).1 a List.mem_cons_self
 have R':Rep C (pre++post) H s:=R.sub (List.Sublist.append (List.Sublist.refl _) (List.sublist_cons_self _ _));refine⟨R'.ok,R'.keep,R'.gens,R'.os,R'.frs,R'.apart,λ b ob' e=>?_⟩;unfold upd at e;split at e
 ·cases e;rename_i q;subst q;exact⟨hs,hn,nf⟩
 ·exact R'.objs b ob' e
structure SetParts (C:Cx)(a:Addr)(o:Obj)(l':List Pt)(es:Array (Int×Value))(ep:Nat)(t:SetTable):Prop where
 ex:o.ExactSet
 data:o.data=.set es ep t
 inv:Tab.Inv t (es.toList.map (·.1))
 led:C.w.params.followText "set-order" = false->t.led=true/\t.plain=true
 len:l'.length=es.size
theorem zuV {C:Cx}(R:Rep C Fs H s){a:Addr}{l:List Pt}(hH:H a=some (.pset l)):∃ o es ep t l',s.heap.get? a=some o/\SetParts C a o l' es ep t/\l'.Perm l/\∀ (i:Nat) (q:Pt),l'[i]?=some q->∃ x:Int×Value,(zjO C.w a es ep)[i]?=some x/\IsPt s.heap q x.2:=by
 have S:=R.pset hH;refine q46 S.obj λ o es ep t ho hx hd I hb El=>?_;refine q12 (zvK (ztQ C.w a es ep).symm El) λ l' hp El'=>?_;refine⟨o,es,ep,t,l',ho,⟨hx,hd,I,hb,by rw[hp.length_eq,<- El.length,Array.length_toList]⟩,hp,λ i q e=>?_⟩;refine q12 (El'.at e) λ v e1 p1=>?_;exact⟨_,by rw[<- Array.getElem?_toList];exact e1,p1⟩
theorem owned_set {target:Expr}{it a:Addr}{k i n ep:Nat}{y:Value}{Q:Unit->Shared->Prop}{E:Value->Shared->Prop}{M:Program}{w:World}(hi:s.heap.get? it=some (zaX k i a n ep))(h:Q () s):wpAny (model M w) A (letOwnedTupleGo target (.ref it) y) Q E s:=by
 have triv:∀ t:Expr,(∀ y,letOwnedTupleGo t (.ref it) y=pure ()\/letOwnedTupleGo t (.ref it) y=(do
   let (.ref r,.ref a):=(Value.ref it,y) | return
   let o <- load r
   match o.cls,o.data with
   | .type n,.fields vs=>
    if ["enumerate", "zip", "dict_itemiterator", "dict_reverseitemiterator", "odict_iterator", "itertools.zip_longest", "itertools.pairwise"].contains n&&vs[0]?==some (rawInt a) then
     rule "for.unpacks-the-owned-tuple"
     updateField r 0 .none
   | _,_=>pure ())):=λ t y=>by cases t <;> first|exact .inl rfl|exact .inr rfl
 rcases triv target y with e|e <;> rw[e]
 ·exact wpAny_pure h
 ·clear e triv
  cases y <;> first|exact wpAny_pure h|skip
  exact wpAny_bind (wpAny_load hi (wpAny_pure h))
noncomputable def SetI (T:Tr)(env:Env)(Fs:List AF)(J:Nat->Ls->zaA->Prop)(h1':Heap)(it a:Addr)(o:Obj)(t:SetTable)(k ep len n:Nat)(s':Shared):Prop:=
 ∃ i ls' H',n=len-i/\i<=len/\J i ls' H'/\Rep T.C (.fr ⟨.fn,env,ls'⟩::.hid it (zaX (zcB T.C.w t i) i a k ep)::.hid a o::Fs) H' s'/\zaB h1' s'.heap
theorem set_tail {target:Expr}{body:List Stmt}{Q:AFl->Ls->zaA->Prop}{p:PV}{H1:zaA}(hh:T.hd=false)
  {a:Addr} {l:List Pt} (e:p=.ref a) (hH:H1 a=some (.pset l)) (J:List Pt->Nat->Ls->zaA->Prop) (h0:∀ l':List Pt,l'.Perm l->J l' 0 ls (rem H1 a))
   (h1:∀ l':List Pt,l'.Perm l->∀ i q ls' H' Fs',l'[i]?=some q->J l' i ls' H'->AA T ⟨.fn,env,ls'⟩ Fs' H' target (pt q) (λ ls1 H1=>AX T env Fs' ls1 H1 body (zhZ (J l' (i+1)) (λ _ _ _=>False)) NoE) NoE) (h2:∀ l':List Pt,l'.Perm l->∀ ls' H',J l' l'.length ls' H'->Q .next ls' (upd H' a (.pset l))):
  zfR T env Fs ls target body Q E p H1:=λ A s s₁ v ok R1 pr k1=>by
 subst e;rw[pr.ref_inv];refine q51 (zuV R1 hH) λ o es ep t l' u8=>q04 u8 λ ho SP hp hw=>?_;replace h0:=h0 l' hp;replace h1:=h1 l' hp;replace h2:=h2 l' hp;have S1:=R1.pset hH;have hn0:=(R1.objs a _ hH).2.1;have nt:(Value.type "set_iterator" : Value)≠.type "tuple" := by decide
 refine ziQ ho SP.ex SP.data SP.inv SP.led ?_;have R2:Rep T.C (.hid a o::.fr ⟨.fn,env,ls⟩::Fs) (rem H1 a) s₁:=R1.hideObj hH ho;have sl:zcB T.C.w t 0=0:=by unfold zcB;split <;> rfl
 have R4:Rep T.C (.hid s₁.heap.objs.size (zaX (zcB T.C.w t 0) 0 a es.size ep)::.fr ⟨.fn,env,ls⟩::.hid a o::Fs) (rem H1 a) { s₁ with heap:=s₁.heap.push (zaX 0 0 a es.size ep) }:=
  (R2.swap).hide zaE (Nat.le_refl _) (by rw[sl];exact Heap.get?_push_size _ rfl) (.cls nt)
 have R4:=R4.swap;generalize hit:s₁.heap.objs.size=it at R4 ⊢;have k2:zaB s₁.heap (s₁.heap.push (zaX 0 0 a es.size ep)):=zaB.of_keep zaE;refine codeAny_forLoop_any (SetI T env Fs (J l') s₁.heap it a o t es.size ep l'.length) ?_ l'.length ⟨0,ls,_,rfl,Nat.zero_le _,h0,R4,k2⟩;clear R4 k2 R2 sl hit h0;intro n s3 uu;refine q31 uu ?_;clear uu;intro i ls' H' u8;refine q05 u8 ?_;clear u8;intro u0;cases u0;intro hle hJ R5 k3;have hit':=(R5.frs (.hid it _) (.tail _ (.head _))).1.1;have ho':=(R5.frs (.hid a o) (.tail _ (.tail _ (.head _)))).1.1
 by_cases hlt:i<l'.length
 ·refine q12 (hw i l'[i] (List.getElem?_eq_getElem hlt)) λ x hx px=>?_
  refine zeY hit' ho' SP.ex SP.data SP.inv SP.led hx λ h' hi' sb=>?_;obtain⟨R6,k6⟩:=Rep.hidden (pre:=[.fr ⟨.fn,env,ls'⟩]) (s':={ s3 with heap:=h' }) R5 sb.extBut hi' (.cls nt);have kk:=k3.trans k6;refine owned_set (s:={ s3 with heap:=h' }) hi' ?_;refine wpAny_mono (h1 i l'[i] ls' H' (.hid it (zaX (zcB T.C.w t (i+1)) (i+1) a es.size ep)::.hid a o::Fs) (List.getElem?_eq_getElem hlt) hJ A { s3 with heap:=h' } x.2 ⟨ok.frames,ok.depth,ok.units,ok.handled,zqS ok λ x h=>.tail _ (.tail _ h)⟩ R6 (PR.keep kk _ (ziZ px))) (λ _ s7 hh=>hh.elim λ ls1 H1' R7 k7 hX=>?_) λ _ _ e=>e.elim;refine wpAny_mono (hX A s7 ⟨ok.frames,ok.depth,ok.units,ok.handled,zqS ok λ x h=>.tail _ (.tail _ h)⟩ R7) (λ fl s8 hh=>hh.elim λ b ls2 H2'' fr R8 k8 hQ=>?_) λ _ _ e=>e.elim;cases b <;> cases fl <;> first|exact fr.elim|exact hQ.elim|exact⟨_,zdX hlt,i+1,ls2,H2'',rfl,hlt,hQ,R8,kk.trans (k7.trans k8)⟩
 ·have hi:i=l'.length:=Nat.le_antisymm hle (Nat.le_of_not_lt hlt)
  subst hi;refine zfP (ok.handled hh) hit' ho' SP.ex SP.data SP.inv SP.led SP.len λ h' ext=>?_;obtain⟨R6,k6⟩:=Rep.unhide (pre:=[.fr ⟨.fn,env,ls'⟩]) (s':={ s3 with heap:=h' }) R5 ext;have ho'':h'.get? a=some o:=(R6.frs (.hid a o) (.tail _ (.head _))).1.1;have kk:=k3.trans k6;have St:zcC T.C h' a (.pset l):=PSet.keep S1 (ho''.trans ho.symm) λ b o e c d=>⟨o.slots,kk b o e c d⟩
  exact wpAny_execs_nil ⟨.next,ls',_,trivial,Rep.showObj (pre:=[.fr ⟨.fn,env,ls'⟩]) R6 hn0 St,k1.trans kk,h2 ls' H' hJ⟩
end
noncomputable abbrev zbY (vs:Array Value)(n:Nat):Obj:={ cls:=.type "list",dict:=none,data:=.seq vs n,slots:=#[] }
theorem zoL {vs:Array Value}{n:Nat}:zdT (zbY vs n):=.cls (by show Value.type "list" ≠ Value.type "tuple";decide)
noncomputable def CS (C:Cx)(f:FR)(mid:List AF)(D:Addr)(out:List PV)(post:List AF)(H:zaA)(s:Shared):Prop:=
 ∃ vs n,PRs s.heap out vs.toList/\Rep C (.fr f::(mid++.hid D (zbY vs n)::post)) H s
noncomputable def AIfs (T:Tr)(f:FR)(Fs:List AF)(H:zaA):List Expr->(Bool->zaA->Prop)->Prop
 | [],Q=>Q true H
 | c::r,Q=>AT T f Fs H c (λ b H1=>if b then AIfs T f Fs H1 r Q else Q false H1) NoE
noncomputable def zfT (T:Tr)(f:FR)(D:Addr)(post:List AF)(emit:Value->Env->Sem Unit)(H:zaA)(out:List PV)(K:List PV->zaA->Prop):Prop:=
 ∀ A s mid,AOk T (.fr f::(mid++.hid D (zbY #[] 0)::post)) A->CS T.C f mid D out post H s->wpAny T.C.M A (emit (.ref D) f.env) (λ _ s'=>∃ out' H',CS T.C f mid D out' post H' s'/\zaB s.heap s'.heap/\K out' H') NoE s
noncomputable def Sub (ls ls':Ls):Prop:=∀ y p,ls.lookup y=some p->ls'.lookup y=some p
theorem Sub.refl (ls:Ls):Sub ls ls:=λ _ _ e=>e
theorem Sub.cons {ls ls':Ls}{x:Str}{p:PV}(h:Sub ls ls')(hx:ls.lookup x=none):Sub ls ((x,p)::ls'):=λ y q e=>by
 rw[List.lookup_cons]
 by_cases hy:y=x
 ·subst hy;rw[hx]at e;cases e
 ·rw[beq_eq_false_iff_ne.mpr hy];exact h y q e
noncomputable def zkH (ifs:List Expr)(env:Env):Sem Bool:=forIn ifs true λ c r=>if r=true then do let ok <- isTrue c env (eval c env);pure (ForInStep.yield ok) else pure (ForInStep.yield r)
structure zbP (elt:Expr)(gens:List Comprehension)(scope:Scope)(pos:Pos)(d:Nat)(target:Expr)(ifs:List Expr)(emit:Value->Env->Sem Unit):Prop where
 turn:∃ p0,∀ it acc env,compTurn (.ListComp elt gens scope pos) d it acc env=(standAt p0 >>= λ _=>pyNext it >>= λ r=>match r with
  | none=>pure (.done .next)
  | some v=>letOwnedTupleGo target it v >>= λ _=>assign target env v >>= λ _=>zkH ifs env >>= λ ok=>
   (if ok=true then (emit acc env >>= λ _=>again (.compLoop (.ListComp elt gens scope pos) d it acc env)) else again (.compLoop (.ListComp elt gens scope pos) d it acc env)))
 start:∃ g,gens[d]?=some g/\g.is_async=0
section
variable {T:Tr}{f:FR}{env:Env}{ls:Ls}{Fs:List AF}{H:zaA}{E:Value->Shared->Prop}{s:Shared}{A:Around}
theorem zdH {vs:Array Value}{n:Nat}:¬ Ctx2 (zbY vs n):=λ u9=>q12 u9 λ _ h _=>nomatch h
theorem AOk.same {Gs Gs':List AF}(ok:AOk T Gs A)(h:zbJ Gs'=zbJ Gs)(hc:∀ x∈ziS Gs,Ctx2 x.2->x∈ziS Gs'):AOk T Gs' A:=⟨h▸ok.frames,ok.depth,ok.units,ok.handled,λ v e=>
 let ⟨a,o,r,m,c⟩:=ok.ctx v e;⟨a,o,r,hc _ m c,c⟩⟩
theorem zpT {pre post:List AF}{D:Addr}{o o':Obj}(hn:¬ Ctx2 o):∀ x∈ziS (pre++.hid D o::post),Ctx2 x.2->x∈ziS (pre++.hid D o'::post):=λ x hx hc=>by
 refine zkR.mpr ((List.mem_append.mp (zkR.mp hx)).elim (List.mem_append_left _) λ h=>List.mem_append_right _ ?_);refine (List.mem_cons.mp h).elim (λ e=>?_) (.tail _)
 injection e with e1 e2
 exact absurd (e2▸hc) hn
theorem zpF {pre post:List AF}{a:Addr}{o:Obj}:zbJ (pre++.hid a o::post)=zbJ (pre++post):=by
 induction pre with
 | nil=>rfl
 | cons x pre ih=>
  cases x with
  | fr f=>
   obtain⟨c,e,l⟩:=f;cases c with
   | fn=>exact congrArg (e::·) ih
   | cp cs=>exact ih
  | hid b o'=>exact ih
  | gh g=>exact ih
theorem wp_tests {c:FK}{Fs':List AF}{ifs:List Expr}{Q:Bool->zaA->Prop}(h:AIfs T ⟨c,env,ls⟩ Fs' H ifs Q)(ok:AOk T (.fr ⟨c,env,ls⟩::Fs') A)(R:Rep T.C (.fr ⟨c,env,ls⟩::Fs') H s):
  wpAny T.C.M A (zkH ifs env) (znC T (.fr ⟨c,env,ls⟩::Fs') s Q) NoE s:=by
 have off:∀ (ifs:List Expr) (s:Shared) (Q':Bool->Shared->Prop),Q' false s->wpAny T.C.M A (forIn ifs false λ c r=>if r=true then do let ok <- isTrue c env (eval c env);pure (ForInStep.yield ok) else pure (ForInStep.yield r)) Q' NoE s:=by
  intro ifs
  induction ifs with
  | nil=>intro s Q' h;exact wpAny_pure h
  | cons c ifs ih=>intro s Q' h;rw[List.forIn_cons];exact wpAny_bind (wpAny_pure (ih s Q' h))
 unfold zkH
 induction ifs generalizing s H with
 | nil=>exact wpAny_pure ⟨H,R,zaB.refl _,h⟩
 | cons e ifs ih=>
  rw[List.forIn_cons];simp only[if_true];refine wpAny_bind (wpAny_bind (wpAny_mono (h A s ok R) (λ b s₁ hh=>hh.elim λ H1 R1 k1 h1'=>wpAny_pure ?_) λ _ _ x=>x));cases b with
  | true=>exact wpAny_mono (ih h1' R1) (λ b s2 hh=>hh.elim λ H2' R2 k2 h2=>⟨H2',R2,k1.trans k2,h2⟩) λ _ _ x=>x
  | false=>exact off ifs s₁ _ ⟨H1,R1,k1,h1'⟩
theorem zhC {mid post:List AF}{D:Addr}{o o':Obj}:zbJ (mid++.hid D o::post)=zbJ (mid++.hid D o'::post):=zpF.trans zpF.symm
theorem AOk.mid {c:FK}{ls':Ls}{mid post:List AF}{D:Addr}{o o':Obj}(hn:¬ Ctx2 o)(ok:AOk T (.fr ⟨c,env,ls⟩::(mid++.hid D o::post)) A):AOk T (.fr ⟨c,env,ls'⟩::(mid++.hid D o'::post)) A:=
 ok.same (by cases c with|fn=>exact congrArg (env::·) zhC|cp _=>exact zhC) (zpT (pre:=mid) hn)
theorem AOk.mid2 {c:FK}{ls':Ls}{mid post:List AF}{D it:Addr}{o o' q q':Obj}(hq:¬ Ctx2 q)(hn:¬ Ctx2 o)(ok:AOk T (.fr ⟨c,env,ls⟩::(.hid it q::(mid++.hid D o::post))) A):AOk T (.fr ⟨c,env,ls'⟩::(.hid it q'::(mid++.hid D o'::post))) A:=
 ok.same (by cases c with|fn=>exact congrArg (env::·) zhC|cp _=>exact zhC) λ x hx hc=>by
  have hx:x∈(it,q)::ziS (mid++.hid D o::post):=hx;exact (List.mem_cons.mp hx).elim (λ e=>absurd (by rw[e]at hc;exact hc) hq) λ h=>.tail _ (zpT (pre:=mid) hn x h hc)
theorem AOk.mid3 {c:FK}{ls':Ls}{mid post:List AF}{D it:Addr}{o o' q':Obj}(hn:¬ Ctx2 o)(ok:AOk T (.fr ⟨c,env,ls⟩::(mid++.hid D o::post)) A):AOk T (.fr ⟨c,env,ls'⟩::(.hid it q'::(mid++.hid D o'::post))) A:=
 ok.same (by cases c with|fn=>exact congrArg (env::·) zhC|cp _=>exact zhC) λ x hx hc=>.tail _ (zpT (pre:=mid) hn x hx hc)
noncomputable def LTurns (T:Tr)(c:FK)(env:Env)(ls:Ls)(target:Expr)(ifs:List Expr)(emit:Value->Env->Sem Unit)(D:Addr)(post:List AF)(I:Nat->AIt->List PV->zaA->Prop)(D':List PV->zaA->Prop):Prop:=
 ∀ n x out H',I n x out H'->zgF H' x (λ p x'=>∀ Fs',AA T ⟨c,env,ls⟩ Fs' H' target p (λ ls' H2'=>Sub ls ls'/\AIfs T ⟨c,env,ls'⟩ Fs' H2' ifs (λ b H3=>if b then zfT T ⟨c,env,ls'⟩ D post emit H3 out (λ out' H4=>∃ m,m<n/\I m x' out' H4) else ∃ m,m<n/\I m x' out H3)) NoE) (D' out H')
noncomputable def CLI (C:Cx)(f:FR)(it D:Addr)(mid post:List AF)(I:Nat->AIt->List PV->zaA->Prop)(h₀:Heap)(n:Nat)(s':Shared):Prop:=
 ∃ x out H' o,IsIt o x/\I n x out H'/\CS C f (.hid it o::mid) D out post H' s'/\zaB h₀ s'.heap
theorem zsO {elt target:Expr}{gens:List Comprehension}{scope:Scope}{pos:Pos}{d:Nat}{ifs:List Expr}{emit:Value->Env->Sem Unit}{c:FK}{D it:Addr}{mid post:List AF}{o:Obj}{x:AIt}{out:List PV}{R':Result->Shared->Prop}(sh:zbP elt gens scope pos d target ifs emit)
  (I:Nat->AIt->List PV->zaA->Prop) (n:Nat) (hI:I n x out H) (D':List PV->zaA->Prop)
  (turn:LTurns T c env ls target ifs emit D post I D')
  (hi:IsIt o x) (ok:AOk T (.fr ⟨c,env,ls⟩::(.hid it o::(mid++.hid D (zbY #[] 0)::post))) A) (S:CS T.C ⟨c,env,ls⟩ (.hid it o::mid) D out post H s)
  (hR:∀ s' out' H',CS T.C ⟨c,env,ls⟩ mid D out' post H' s'->zaB s.heap s'.heap->D' out' H'->R' (.ok .next) s'):
  codeAny T.C.M A (.compLoop (.ListComp elt gens scope pos) d (.ref it) (.ref D) env) R' s:=by
 obtain⟨p0,ht⟩:=sh.turn;have hi0:=hi;refine codeAny_loop rfl (CLI T.C ⟨c,env,ls⟩ it D mid post I s.heap) ?_ n ⟨x,out,H,o,hi,hI,S,zaB.refl _⟩;rintro n s₁ ⟨x,out,H',o,hi,hI,⟨vs,k,prs,R1⟩,k1⟩
 show wpAny _ A ((compTurn (.ListComp elt gens scope pos) d (.ref it) (.ref D) env).onRaise (λ x=>do noteFrame x env;theTreesLotGoes x)) _ _ s₁
 refine wpAny_noted ?_;rw[ht];refine wpAny_bind (wpAny_standAt (wpAny_bind ?_));refine wp_next (pre:=[.fr ⟨c,env,ls⟩]) ((AOk.mid2 (q':=o) (ls':=ls) (o':=zbY vs k) hi0.nc zdH ok).hdc R1) R1 hi (turn n x out H' hI) (λ p x' v o' s2 hK hi' pv R2 k2=>?_) (λ s2 hD R2 k2=>?_)
 ·refine wpAny_bind (zkU (pre:=[.fr ⟨c,env,ls⟩]) R2 hi' ?_)
  refine wpAny_bind (wpAny_mono (hK _ A s2 v (ok.mid2 hi0.nc zdH) R2 pv) (λ _ s3 hh=>hh.elim λ ls' H3 R3 k3 hT=>?_) λ _ _ e=>e.elim);refine wpAny_bind (wpAny_mono (wp_tests hT.2 (ok.mid2 hi0.nc zdH) R3) (λ b s4 hh=>hh.elim λ H4 R4 k4 hb=>?_) λ _ _ e=>e.elim);have kk:=k2.trans (k3.trans k4);have prs':=PRs.keep kk _ prs;cases b with
  | false=>
   refine zdA (by decide) ?_;refine q12 hb λ m hm hI'=>?_;exact wpAny_pure ⟨rfl,m,hm,x',out,H4,o',hi',hI',⟨vs,k,prs',R4.weak hT.1 λ _ _ e=>e⟩,k1.trans kk⟩
  | true=>
   refine ziL rfl ?_;rw[if_pos rfl]at hb;refine wpAny_bind (wpAny_mono (hb A s4 (.hid it o'::mid) (ok.mid2 hi0.nc zdH) ⟨vs,k,prs',R4⟩) (λ _ s5 hh=>?_) λ _ _ e=>e.elim);refine q23 hh λ out' H5 u0 k5 u8=>q12 u8 λ m hm hI'=>?_;obtain⟨vs',k',prs',R5⟩:=u0;exact wpAny_pure ⟨rfl,m,hm,x',out',H5,o',hi',hI',⟨vs',k',prs',R5.weak hT.1 λ _ _ e=>e⟩,k1.trans (kk.trans k5)⟩
 ·exact wpAny_pure (hR s2 out H' ⟨vs,k,PRs.keep k2 _ prs,R2⟩ (k1.trans k2) hD)
end
theorem zhR:entryFor table "range_iterator.__iter__" = some Builtin.«dict_keyiterator.__iter__»:=
 entryFor_alias (id' := "dict_keyiterator.__iter__") (by kernel_rfl) rfl (by decide +kernel) (by kernel_rfl)
section
variable {T:Tr}{f:FR}{env:Env}{ls:Ls}{Fs:List AF}{H:zaA}{E:Value->Shared->Prop}{s:Shared}{A:Around}
theorem ztU {pre post:List AF}{it:Addr}{o:Obj}{x:AIt}{Q:Value->Shared->Prop}(R:Rep T.C (pre++.hid it o::post) H s)(hi:IsIt o x)(h:Q (.ref it) s):wpAny T.C.M A (pyIter (.ref it)) Q E s:=by
 obtain⟨⟨ho,_⟩,_⟩:=R.frs (.hid it o) (by simp);cases x with
 | list a i=>exact wpAny_pyIter_listiter ⟨o,ho,hi.1,hi.2⟩ h
 | range x left=>
  have hT:s.TypeIs (.ref it) "range_iterator" := ⟨o,ho,by rw[show o=_ from hi]⟩
  refine wpAny_pyIter_slot hT F.slot_range_iterator_iter (wpAny_call_entry F.slot_range_iterator_iter hT zhR ?_ (F.args_range_iterator_iter_1 _))
  show wpAny _ _ (ret (.ref it)) _ _ s
  exact wpAny_pure ⟨_,rfl, "range_iterator",_,hT,F.slot_range_iterator_next.lookup,h⟩
 | keys d ob i=>
  have hT:s.TypeIs (.ref it) "dict_keyiterator" := ⟨o,ho,hi.1⟩
  refine wpAny_pyIter_slot hT F.slot_dict_keyiterator_iter (wpAny_call_entry F.slot_dict_keyiterator_iter hT F.entry_dict_keyiterator_iter ?_ (F.args_dict_keyiterator_iter_1 _))
  show wpAny _ _ (ret (.ref it)) _ _ s
  exact wpAny_pure ⟨_,rfl, "dict_keyiterator",_,hT,F.slot_dict_keyiterator_next.lookup,h⟩
theorem zpP {elt target:Expr}{gens:List Comprehension}{scope:Scope}{pos:Pos}{d:Nat}{ifs:List Expr}{emit:Value->Env->Sem Unit}{it D:Addr}{pre post:List AF}{o:Obj}{x:AIt}{R':Result->Shared->Prop}(sh:zbP elt gens scope pos d target ifs emit)
  (hi:IsIt o x) (R:Rep T.C (pre++.hid it o::post) H s) (h:codeAny T.C.M A (.compLoop (.ListComp elt gens scope pos) d (.ref it) (.ref D) env) R' s):
  codeAny T.C.M A (.compStart (.ListComp elt gens scope pos) d (.ref it) (.ref D) env) R' s:=by
 refine q12 sh.start λ g hg ha=>?_;refine codeAny_of_tree ?_
 show wpAny _ A ((compStart (.ListComp elt gens scope pos) d (.ref it) (.ref D) env).onRaise (λ x=>do noteFrame x env;standAt theWindowsPlace)) _ _ s
 refine wpAny_notedAt ?_;unfold compStart;have hc:(clausesOf (.ListComp elt gens scope pos))[d]?=some g:=hg;rw[hc];have:((some g).elim false λ x=>x.is_async != 0)=false:=by simp[ha]
 rw[this,if_neg (by decide)];refine wpAny_bind (wpAny_askSetting (wpAny_ite ?_));split
 ·exact wpAny_pure ⟨rfl,h⟩
 ·refine wpAny_bind (wpAny_rule ?_)
  dsimp only;refine wpAny_bind (wpAny_standAt (wpAny_bind (ztU R hi (wpAny_pure ⟨rfl,h⟩))))
noncomputable def zrE (elt:Expr)(acc:Value)(env:Env):Sem Unit:=eval elt env >>= λ x=>call (.builtin "list.append") [acc,x] >>= λ _=>pure ()
theorem zfT.elt {elt:Expr}{D:Addr}{post:List AF}{out:List PV}{K:List PV->zaA->Prop}(hz:out.length<=100000)(h:∀ Fs',AE T f Fs' H elt (λ v H'=>K (out++[v]) H') NoE):zfT T f D post (zrE elt) H out K:=λ A s mid ok S=>by
 refine q22 S λ vs n prs R=>?_;refine wpAny_bind (wpAny_mono (h _ A s (AOk.mid zdH ok) R) (λ v s₁ hh=>hh.elim λ p H1 pr R1 k1 h1'=>?_) λ _ _ e=>e);have il:IsL s₁.heap D vs n:=(R1.frs (.hid D (zbY vs n)) (by simp)).1.1;have hs:=zcW prs;refine wpAny_bind (call_meets slot_list_append ⟨_,il,rfl⟩ entry_list_append (args_list_append _ _) (list_append D vs n v (by rw[hs];exact Nat.le_trans hz (by decide))) ⟨il,?_⟩);obtain⟨R2,k2⟩:=Rep.hidden (pre:=.fr f::mid) (s':={ s₁ with heap:=s₁.heap.update D (Obj.mapSeq λ x=>x.push v) }) R1 (zmJ il _) (IsL.update il _) zoL;have kk:=k1.trans k2;refine wpAny_pure ⟨out++[p],H1,⟨_,_,?_,R2⟩,kk,h1'⟩;rw[Array.toList_push];exact (PRs.keep kk _ prs).append (PRs.cons (pr.keep k2) PRs.nil)
noncomputable def ziD (elt:Expr)(gens:List Comprehension)(scope:Scope)(pos:Pos)(d:Nat)(iter:Expr)(acc:Value)(env:Env):Sem Unit:=
 eval iter env >>= λ x=>standAt iter.pos >>= λ _=>foldedSetIterable iter env x >>= λ x=>holding [x] (pyIter x) >>= λ it=>runOwn (.compStart (.ListComp elt gens scope pos) d it acc env) env >>= λ _=>pure ()
theorem zfT.nest {elt iter target:Expr}{gens:List Comprehension}{scope:Scope}{pos:Pos}{d:Nat}{ifs:List Expr}{emit:Value->Env->Sem Unit}{c:FK}{D:Addr}{post:List AF}{out:List PV}{K:List PV->zaA->Prop}(sh:zbP elt gens scope pos d target ifs emit)
  (hs:∀ x,foldedSetIterable iter env x=pure x)
  (h:∀ Fs',AE T ⟨c,env,ls⟩ Fs' H iter (λ p H1=>∃ x,zcV T (.fr ⟨c,env,ls⟩::Fs') H1 p x/\∃ (I:Nat->AIt->List PV->zaA->Prop) (n:Nat),I n x out H1/\LTurns T c env ls target ifs emit D post I K) NoE):
  zfT T ⟨c,env,ls⟩ D post (ziD elt gens scope pos d iter) H out K:=λ A s mid ok S=>by
 refine q22 S λ vs n prs R=>?_;have ok':=AOk.mid (ls':=ls) (o':=zbY vs n) zdH ok;refine wpAny_bind (wpAny_mono (h _ A s ok' R) (λ v s₁ pp=>pp.elim λ p H1 pr R1 k1 h=>?_) λ _ _ e=>e);refine q12 h λ x hx u8=>q22 u8 λ I m hI turn=>?_;refine wpAny_bind (wpAny_standAt (wpAny_bind (wpAny_of_eq (hs v) (wpAny_bind (wpAny_holding ?_)))));refine hx A s₁ v _ _ ok' R1 pr λ it o s2 hi R2 k2=>?_;have R2:=R2.swap;have kk:=k1.trans k2;refine wpAny_bind (wpAny_runOwn (zpP (pre:=[.fr ⟨c,env,ls⟩]) sh hi R2 ?_));refine zsO (T:=T) (mid:=mid) sh I m hI K turn hi (by show AOk T _ A;exact ok'.mid3 zdH) ⟨vs,n,PRs.keep kk _ prs,R2⟩ λ s3 out' H' S' k3 hK=>?_;exact wpAny_pure ⟨out',H',S',kk.trans k3,hK⟩
theorem shape1 {elt target iter:Expr}{ifs:List Expr}{scope:Scope}{pos:Pos}:zbP elt [⟨target,iter,ifs,0⟩] scope pos 0 target ifs (zrE elt):=
 ⟨⟨iter.pos,λ it acc env=>by
  rw[compTurn_list]
  rfl⟩,⟨_,rfl,rfl⟩⟩
end
noncomputable def zcD (env:Env):List (Str×NameKind)->List (Str×Addr)->List (Str×Addr)
 | [],acc=>acc
 | (n,k)::r,acc=>if k==.free then zcD env r ((n,(env.cells.lookup n).getD 0)::acc) else zcD env r acc
theorem zfV {env:Env}{n:Str}{k:NameKind}{r:List (Str×NameKind)}{acc:List (Str×Addr)}:zcD env ((n,k)::r) acc=if (k==.free)=true then zcD env r ((n,(env.cells.lookup n).getD 0)::acc) else zcD env r acc:=rfl
theorem zqX {scope:Scope}{env:Env}(h:∀ n,(n,NameKind.free)∈scope.names->∃ c,env.cells.lookup n=some c):closureFor scope env=pure (zcD env scope.names []):=by
 unfold closureFor;have main:∀ (names:List (Str×NameKind)) (acc:List (Str×Addr)),(∀ n,(n,NameKind.free)∈names->∃ c,env.cells.lookup n=some c) ->
   (forIn names acc λ (x:Str×NameKind) cs=>match x with | (name,kind)=>(if (kind==NameKind.free)=true then do
     let c <- cellOf env name
     pure (ForInStep.yield ((name,c)::cs)) else pure (ForInStep.yield cs):Sem (ForInStep (List (Str×Addr)))))=pure (zcD env names acc):=by
  intro names
  induction names with
  | nil=>intro acc _;rfl
  | cons x names ih=>
   obtain⟨n,k⟩:=x;intro acc hx;rw[List.forIn_cons,zfV]
   by_cases hk:(k==NameKind.free)=true
   ·have hk':k=.free:=by simpa using hk
    subst hk';obtain⟨c,hc⟩:=hx n (.head _);simp only[beq_self_eq_true,if_true];have:cellOf env n=pure c:=by unfold cellOf;rw[hc]
    rw[this];simp only[pure_bind];rw[ih _ λ m hm=>hx m (.tail _ hm),hc];rfl
   ·rw[if_neg hk]
    dsimp only;rw[if_neg hk];simp only[pure_bind];exact ih _ λ m hm=>hx m (.tail _ hm)
 exact (congrArg (λ m:Sem (List (Str×Addr))=>m >>= λ cs=>pure cs) (main scope.names [] h)).trans rfl
theorem zpU {env:Env}{x:Str}(names:List (Str×NameKind)):∀ (acc:List (Str×Addr)),(names.map (·.1)).Nodup->(zcD env names acc).lookup x=if names.lookup x=some .free then some ((env.cells.lookup x).getD 0) else acc.lookup x:=by
 induction names with
 | nil=>exact λ _ _=>(if_neg λ h=>nomatch h).symm
 | cons a r ih=>
  obtain⟨n,k⟩:=a;intro acc hn;obtain⟨h1,h2⟩:=List.nodup_cons.mp hn;rw[zfV,List.lookup_cons]
  by_cases e:x=n
  ·subst e
   have hr:r.lookup x≠some .free:=λ q=>h1 (List.mem_map.mpr ⟨_,mem_of_lookup q,rfl⟩);rw[beq_self_eq_true]
   by_cases hk:(k==NameKind.free)=true
   ·cases eq_of_beq hk
    rw[if_pos hk,ih _ h2,if_neg hr,if_pos rfl,List.lookup_cons,beq_self_eq_true]
   ·rw[if_neg hk,ih _ h2,if_neg hr,if_neg λ q=>hk (by cases q;rfl)]
  ·rw[beq_eq_false_iff_ne.mpr e]
   split
   ·rw[ih _ h2,List.lookup_cons,beq_eq_false_iff_ne.mpr e]
   ·exact ih _ h2
theorem zwE {env:Env}{y:Str×Addr}(names:List (Str×NameKind)):∀ (acc:List (Str×Addr)),y∈zcD env names acc->y∈acc\/((y.1,NameKind.free)∈names/\y.2=(env.cells.lookup y.1).getD 0):=by
 induction names with
 | nil=>exact λ _ h=>.inl h
 | cons a r ih=>
  obtain⟨n,k⟩:=a;intro acc h;rw[zfV]at h
  by_cases hk:(k==NameKind.free)=true
  ·rw[if_pos hk]at h
   cases eq_of_beq hk;refine (ih _ h).elim (λ h=>(List.mem_cons.mp h).elim (λ e=>?_) .inl) λ h=>.inr ⟨.tail _ h.1,h.2⟩;subst e;exact .inr ⟨.head _,rfl⟩
  ·rw[if_neg hk]at h
   exact (ih _ h).imp id λ h=>⟨.tail _ h.1,h.2⟩
theorem zsB {env:Env}(ha:env.cells.Pairwise λ x y=>x.2≠y.2)(names:List (Str×NameKind)):∀ (acc:List (Str×Addr)),(acc.map (·.1)++names.map (·.1)).Nodup->(∀ y∈acc,y∈env.cells)->(∀ n,(n,NameKind.free)∈names->∃ c,env.cells.lookup n=some c)->acc.Pairwise (λ x y=>x.2≠y.2)->(zcD env names acc).Pairwise λ x y=>x.2≠y.2:=by
 induction names with
 | nil=>exact λ _ _ _ _ h=>h
 | cons a r ih=>
  obtain⟨n,k⟩:=a;intro acc hn hm hx h;rw[zfV]
  by_cases hk:(k==NameKind.free)=true
  ·rw[if_pos hk]
   cases eq_of_beq hk;obtain⟨c,hc⟩:=hx n (.head _);have hmem:=mem_of_lookup hc;have hp:=List.perm_middle.nodup_iff.mp hn;rw[hc];exact ih _ hp (λ y hy=>(List.mem_cons.mp hy).elim (λ e=>e▸hmem) (hm y)) (λ m hm=>hx m (.tail _ hm)) (List.pairwise_cons.mpr ⟨λ y hy=>zvL ha hmem (hm y hy) λ e=>(List.nodup_cons.mp hp).1 (List.mem_append_left _ (e▸List.mem_map.mpr ⟨y,hy,rfl⟩)),h⟩)
  ·rw[if_neg hk]
   exact ih acc (hn.sublist (List.Sublist.append (List.Sublist.refl _) (List.sublist_cons_self _ _))) hm (λ m hm=>hx m (.tail _ hm)) h
noncomputable def relN (ns nm:List (Str×NameKind)):List (Str×NameKind):=ns.map λ (n,k)=>if k==.free&&nm.lookup n==some .cell then (n,.cell) else (n,k)
theorem zfS {nm:List (Str×NameKind)}{x:Str}(ns:List (Str×NameKind)):(relN ns nm).lookup x=(ns.lookup x).map λ k=>if k==.free&&nm.lookup x==some .cell then .cell else k:=by
 induction ns with
 | nil=>rfl
 | cons a r ih=>
  obtain⟨n,k⟩:=a;have e1:relN ((n,k)::r) nm=(n,if k==.free&&nm.lookup n==some .cell then .cell else k)::relN r nm:=congrArg (·::_) (by dsimp only;split <;> rfl);rw[e1,List.lookup_cons,List.lookup_cons]
  by_cases e:x=n
  ·subst e;rw[beq_self_eq_true];rfl
  ·rw[beq_eq_false_iff_ne.mpr e];exact ih
noncomputable def zeR (ns:List (Str×NameKind))(ls:Ls):Ls:=ls.filter λ e=>!zfC (ns.lookup e.1)
theorem zdB {ns:List (Str×NameKind)}{x:Str}{p:PV}{ls:Ls}:(zeR ns ls).lookup x=some p->ls.lookup x=some p/\zfC (ns.lookup x)=false:=by
 induction ls with
 | nil=>exact λ h=>by cases h
 | cons e ls ih=>
  intro h;obtain⟨y,q⟩:=e;unfold zeR at h ih;rw[List.filter_cons]at h
  by_cases e:x=y
  ·subst e
   cases hc:zfC (ns.lookup x) with
   | true=>
    rw[if_neg (by rw[hc];decide)]at h;rw[(ih h).2]at hc;cases hc
   | false=>
    rw[if_pos (by rw[hc];rfl)]at h;rw[List.lookup_cons,beq_self_eq_true]at h ⊢;exact⟨h,rfl⟩
  ·have hb:=beq_eq_false_iff_ne.mpr e
   rw[List.lookup_cons,hb];split at h
   ·rw[List.lookup_cons,hb]at h
    exact ih h
   ·exact ih h
structure zgM (scope:Scope)(nm:List (Str×NameKind)):Prop where
 kind:scope.kind=.function
 nodup:(scope.names.map (·.1)).Nodup
 free:∀ x∈scope.names,x.2=.free->nm.lookup x.1=some .cell\/nm.lookup x.1=some .free
theorem cf_mem (names:List (Str×NameKind)):∀ (h:Heap) (acc:List (Str×Addr)),∀ y∈cellsFrom h.objs.size names acc,y∈acc\/(h.objs.size<=y.2/\(pushCells h names).IsCell y.2 none):=by
 induction names with
 | nil=>exact λ h acc y hy=>.inl hy
 | cons e r ih=>
  intro h acc y hy;obtain⟨name,kind⟩:=e;unfold cellsFrom at hy;unfold pushCells
  by_cases hk:(kind==NameKind.cell)=true
  ·rw[if_pos hk]at hy ⊢
   rw[<- Heap.size_push (h:=h) (o:={ cls:=.type "cell",data:=.cell none })]at hy;rcases ih _ _ y hy with hy|⟨h1,h2⟩
   ·rcases List.mem_cons.mp hy with rfl|hy
    ·exact .inr ⟨Nat.le_refl _,_,pushCells_keeps _ _ _ _ (Heap.get?_push_size _ rfl),rfl⟩
    ·exact .inl hy
   ·rw[Heap.size_push]at h1
    exact .inr ⟨Nat.le_of_succ_le h1,h2⟩
  ·rw[if_neg hk]at hy ⊢
   exact ih h acc y hy
theorem cf_apart (names:List (Str×NameKind)):∀ (n:Nat) (acc:List (Str×Addr)),(∀ y∈acc,y.2<n)->acc.Pairwise (λ x y=>x.2≠y.2)->(cellsFrom n names acc).Pairwise λ x y=>x.2≠y.2:=by
 induction names with
 | nil=>exact λ n acc _ h=>h
 | cons e r ih=>
  intro n acc hl hp;obtain⟨name,kind⟩:=e;unfold cellsFrom
  by_cases hk:(kind==NameKind.cell)=true
  ·rw[if_pos hk]
   refine ih _ _ (λ y hy=>?_) (List.pairwise_cons.mpr ⟨λ y hy e=>?_,hp⟩)
   ·rcases List.mem_cons.mp hy with rfl|hy
    ·exact Nat.lt_succ_self n
    ·exact Nat.lt_succ_of_lt (hl y hy)
   ·have:=hl y hy
    rw[<- show n=y.2 from e]at this;exact Nat.lt_irrefl _ this
  ·rw[if_neg hk]
   exact ih n acc hl hp
theorem ztL {x:Str}{r:List (Str×NameKind)}(h:x∉r.map (·.1)):r.lookup x=none:=by
 cases e:r.lookup x with
 | none=>rfl
 | some k=>exact absurd (List.mem_map.mpr ⟨(x,k),mem_of_lookup e,rfl⟩) h
theorem cf_lookup {x:Str}(names:List (Str×NameKind)):∀ (n:Nat) (acc:List (Str×Addr)),(names.map (·.1)).Nodup ->
  (names.lookup x=some .cell->∃ d,(cellsFrom n names acc).lookup x=some d/\n<=d)/\(names.lookup x≠some .cell->(cellsFrom n names acc).lookup x=acc.lookup x):=by
 induction names with
 | nil=>exact λ n acc _=>⟨(λ e=>by cases e),λ _=>rfl⟩
 | cons e r ih=>
  intro n acc hn;obtain⟨name,kind⟩:=e;obtain⟨h1,h2⟩:=List.nodup_cons.mp (show (name::r.map (·.1)).Nodup from hn);unfold cellsFrom
  by_cases hx:x=name
  ·subst hx
   have hr:=ztL h1;rw[List.lookup_cons,beq_self_eq_true]
   by_cases hk:(kind==NameKind.cell)=true
   ·rw[if_pos hk]
    have hk':kind=.cell:=by simpa using hk
    subst hk';refine⟨λ _=>⟨n,?_,Nat.le_refl n⟩,λ h=>absurd rfl h⟩;rw[(ih (n+1) ((x,n)::acc) h2).2 (by rw[hr];exact λ e=>by cases e),List.lookup_cons,beq_self_eq_true]
   ·rw[if_neg hk]
    have hne:kind≠.cell:=λ e=>hk (by rw[e];rfl);exact⟨λ e=>absurd (Option.some.inj e) hne,λ _=>(ih n acc h2).2 (by rw[hr];exact λ e=>by cases e)⟩
  ·have hb:=beq_eq_false_iff_ne.mpr hx
   rw[List.lookup_cons,hb]
   by_cases hk:(kind==NameKind.cell)=true
   ·rw[if_pos hk]
    obtain⟨i1,i2⟩:=ih (n+1) ((name,n)::acc) h2;refine⟨λ e=>(i1 e).imp λ d q=>⟨q.1,Nat.le_of_succ_le q.2⟩,λ e=>(i2 e).trans ?_⟩;rw[List.lookup_cons,hb]
   ·rw[if_neg hk]
    exact ih n acc h2
noncomputable def ownCs (L:Nat)(cs:List (Str×Addr)):List Addr:=(cs.filter λ y=>decide (L<y.2)).map (·.2)
noncomputable def zsK (own:List Addr)(ns:List (Str×NameKind))(cenv:Env):Prop:=∀ x,ns.lookup x=some .cell->ztH (.cp own) cenv x
theorem zqD {M:Model}{A:Around}{E:Value->Shared->Prop}{s:Shared}{scope:Scope}{globals:Addr}{closure:List (Str×Addr)}{qual:Str}{func:Option Addr}{code:Value}{outer:Env}{builtins:Addr}{Q:Env->Shared->Prop}
  (hQ:∀ h',h'.Ns s.heap.objs.size (λ _=>none)->(∀ b o,s.heap.get? b=some o->h'.get? b=some o)->(∀ y∈cellsFrom (s.heap.objs.size+1) scope.names closure,y∈closure\/(s.heap.objs.size<y.2/\h'.IsCell y.2 none)) ->
   Q (newEnv scope s.heap.objs.size globals (cellsFrom (s.heap.objs.size+1) scope.names closure) qual func code (some outer) builtins) { s with heap:=h' }):
  wpAny M A (newFunctionEnv scope globals closure [] qual func code (some outer) builtins) Q E s:=by
 delta newFunctionEnv
 refine wpAny_bind (wpAny_alloc ?_);refine wpAny_bind (wpAny_layCells _ (λ name kind cells=>by cases hkc:kind==NameKind.cell <;> simp[hkc]) _ _ _ _ ?_);refine wpAny_bind ?_;rw[List.forIn_nil];refine wpAny_pure (wpAny_pure ?_);have hsz:(s.heap.push { cls:=.type "dict",data:=.dict #[] }).objs.size=s.heap.objs.size+1:=Heap.size_push ..;have h:=hQ (pushCells (s.heap.push { cls:=.type "dict",data:=.dict #[] }) scope.names) ((Heap.Ns.new s.heap (.type "dict")).keeps (pushCells_keeps _ _)) (λ b o e=>pushCells_keeps _ _ b o (Heap.get?_push_of_some _ e)) (λ y hy=>(cf_mem scope.names (s.heap.push { cls:=.type "dict",data:=.dict #[] }) closure y (by rw[hsz];exact hy)).imp id λ q=>⟨by have:=q.1;rw[hsz]at this;exact this,q.2⟩);rw[show ({ s with heap:=s.heap.push { cls:=.type (if (some outer).isSome=true then "dict" else "frame"),data:=.dict #[] } }:Shared).heap.objs.size=s.heap.objs.size+1 from hsz];exact h
section
variable {T:Tr}{f:FR}{env:Env}{ls:Ls}{Fs:List AF}{H:zaA}{E:Value->Shared->Prop}{s:Shared}{A:Around}
theorem zvV {C:Cx}{c:FK}{scope:Scope}{nm:List (Str×NameKind)}{mid:List AF}{L:Addr}{s':Shared}(hn:env.scope.names=nm)(sc:zgM scope nm)(R:Rep C (mid++.fr ⟨c,env,ls⟩::Fs) H s)(hmid:∀ g∈mid,∃ a o,g=.hid a o)
  (hL:s.heap.objs.size=L) (ns:s'.heap.Ns L (λ _=>none)) (hk:∀ b o,s.heap.get? b=some o->s'.heap.get? b=some o) (hg:s'.gens=s.gens) (hos:s'.os=s.os)
  (hcl:∀ y∈cellsFrom (L+1) scope.names (zcD env scope.names []),y∈zcD env scope.names []\/(L<y.2/\s'.heap.IsCell y.2 none)):
  ∃ cenv own,cenv=({ newEnv scope L env.globals (cellsFrom (L+1) scope.names (zcD env scope.names [])) env.qual none .none (some env) 0 with scope:=relabel scope env }:Env)/\cenv.scope.names=relN scope.names nm/\zsK own scope.names cenv /\
   Rep C (.fr ⟨.cp own,cenv,zeR scope.names ls⟩::(mid++.fr ⟨c,env,ls⟩::Fs)) H s':=by
 have F:FrOk s.heap ⟨c,env,ls⟩:=(R.frs (.fr ⟨c,env,ls⟩) (by simp)).1;have hasF:∀ n,(n,NameKind.free)∈scope.names->∃ d,env.cells.lookup n=some d:=λ n hm=>by
  have:=sc.free _ hm rfl;rw[<- hn]at this;exact F.has n this
 have names:(relabel scope env).names=relN scope.names nm:=by
  unfold relabel relN;dsimp only;apply List.map_congr_left;rintro⟨n,k⟩ _;have e1:env.kindOf n=nm.lookup n:=by rw[<- hn];rfl
  rw[show env.scope.kind=.function from F.kind,e1]
  simp
 have cmem:∀ y∈zcD env scope.names [],y∈env.cells:=λ y hy=>by
  rcases zwE _ _ hy with h|⟨h,e⟩
  ·cases h
  ·obtain⟨d,hd⟩:=hasF _ h
   rw[hd]at e;have:=mem_of_lookup hd
   rwa [show (y.1,d)=y from by rw[show d=y.2 from e.symm]]at this
 have clt:∀ y∈zcD env scope.names [],y.2<L:=λ y hy=>by
  refine q22 (F.cells y (cmem y hy)) λ v o ho _=>?_;exact hL▸Heap.lt_size ho
 have cfl:=λ x=>cf_lookup (x:=x) scope.names (L+1) (zcD env scope.names []) sc.nodup;refine⟨_,ownCs L (cellsFrom (L+1) scope.names (zcD env scope.names [])),rfl,names,λ x hx=>?_,?_⟩
 ·refine q12 ((cfl x).1 hx) λ d h1 h2=>?_
  exact⟨d,List.mem_map.mpr ⟨(x,d),List.mem_filter.mpr ⟨mem_of_lookup h1,decide_eq_true h2⟩,rfl⟩,h1⟩
 have tk:=zaB.of_keep hk;have kx:∀ x,((relN scope.names nm).lookup x=some .cell\/(relN scope.names nm).lookup x=some .free)->scope.names.lookup x=some .free\/scope.names.lookup x=some .cell:=λ x e=>by
  rw[zfS]at e;cases q:scope.names.lookup x with
  | none=>rw[q]at e;rcases e with e|e <;> cases e
  | some k'=>
   rw[q]at e;simp only[Option.map_some,Option.some.injEq]at e
   by_cases hc:(k'==NameKind.free&&nm.lookup x==some NameKind.cell)=true
   ·simp at hc;rw[hc.1];exact .inl rfl
   ·rw[if_neg hc]at e
    rcases e with rfl|rfl
    ·exact .inr rfl
    ·exact .inl rfl
 have look:∀ x,scope.names.lookup x=some .free->∃ d,env.cells.lookup x=some d/\(cellsFrom (L+1) scope.names (zcD env scope.names [])).lookup x=some d:=λ x hx=>by
  obtain⟨d,hd⟩:=hasF x (mem_of_lookup hx);refine⟨d,hd,((cfl x).2 (by rw[hx];exact λ e=>by cases e)).trans ?_⟩;rw[zpU _ _ sc.nodup,if_pos hx,hd];rfl
 have R':Rep C (mid++.fr ⟨c,env,ls⟩::Fs) H s':=R.ext hk hg hos;have fresh:∀ n,L<=n->H n=none/\New0 C n/\∀ f∈mid++.fr ⟨c,env,ls⟩::Fs,n∉f.reads:=λ n hn=>R.fresh_ge (by rw[hL];exact hn);have rd:∀ a∈zuW ({ newEnv scope L env.globals (cellsFrom (L+1) scope.names (zcD env scope.names [])) env.qual none .none (some env) 0 with scope:=relabel scope env }:Env),L<=a\/∃ y∈zcD env scope.names [],y.2=a:=λ a ha=>by
  rcases List.mem_cons.mp ha with e|ha
  ·exact .inl (Nat.le_of_eq e.symm)
  ·refine q12 (List.mem_map.mp ha) λ y hy u0=>?_;cases u0
   rcases hcl y hy with h|h
   ·exact .inr ⟨y,h,rfl⟩
   ·exact .inl (Nat.le_of_lt h.1)
 refine R'.push ?_ ?_ ?_ ?_ ?_
 ·refine⟨sc.kind,F.globals,F.builtins,⟨_,ns,λ x p e k=>?_⟩,λ y hy=>?_,λ x p e k=>?_,λ x k=>?_,cf_apart _ _ _ (λ y hy=>Nat.lt_succ_of_lt (clt y hy)) (zsB F.apart _ _ (by simpa using sc.nodup) (λ y hy=>by cases hy) hasF List.Pairwise.nil),λ y hy=>?_,λ e=>by cases e⟩
  ·exfalso
   have k:(relabel scope env).names.lookup x=some .local:=k;rw[names,zfS]at k;have:=(zdB e).2;cases q:scope.names.lookup x with
   | none=>rw[q]at k;cases k
   | some k'=>
    rw[q]at k this;simp only[Option.map_some,Option.some.injEq]at k;split at k
    ·cases k
    ·subst k;cases this
  ·rcases hcl y hy with h|h
   ·obtain⟨v,r⟩:=F.cells y (cmem y h)
    exact⟨v,zcH r λ o e=>hk _ o e⟩
   ·exact⟨none,h.2⟩
  ·have k:(relabel scope env).names.lookup x=some .cell\/(relabel scope env).names.lookup x=some .free:=k
   rw[names]at k;have hx:scope.names.lookup x=some .free:=(kx x k).resolve_right λ q=>by
    have:=(zdB e).2;rw[q]at this;cases this
   refine q12 (look x hx) λ d h1 h2=>?_;have hck:=sc.free _ (mem_of_lookup hx) rfl;rw[<- hn]at hck;refine q23 (F.cellv x p (zdB e).1 hck) λ d' v e1 r pr=>?_;rw[show env.cells.lookup x=some d from h1]at e1;cases e1;exact⟨d,v,h2,zcH r (λ o e=>hk _ o e),pr.keep tk⟩
  ·have k:(relabel scope env).names.lookup x=some .cell\/(relabel scope env).names.lookup x=some .free:=k
   rw[names]at k;rcases kx x k with hx|hx
   ·refine q12 (look x hx) λ d h1 h2=>?_
    exact⟨d,h2⟩
   ·exact ((cfl x).1 hx).imp λ d q=>q.1
  ·rcases hcl y hy with h|h
   ·exact Nat.ne_of_lt (clt y h)
   ·exact (Nat.ne_of_lt h.1).symm
 ·intro a ha
  rcases rd a ha with h|⟨y,hy,rfl⟩
  ·exact (fresh a h).2.1.1
  ·exact (R.frs (.fr ⟨c,env,ls⟩) (by simp)).2 y.2 (List.mem_cons_of_mem _ (List.mem_map.mpr ⟨y,cmem y hy,rfl⟩))
 ·intro a ha
  rcases rd a ha with h|⟨y,hy,rfl⟩
  ·exact (fresh a h).1
  ·cases q:H y.2 with
   | none=>rfl
   | some o=>exact absurd (List.mem_cons_of_mem _ (List.mem_map.mpr ⟨y,cmem y hy,rfl⟩)) ((R.objs y.2 o q).2.2 (.fr ⟨c,env,ls⟩) (by simp))
 ·intro a ha g hg
  have:L<=a:=by
   rcases List.mem_cons.mp ha with e|ha
   ·exact Nat.le_of_eq e.symm
   ·refine q12 (List.mem_map.mp (List.mem_filter.mp ha).1) λ y hy u0=>?_;cases u0
    exact Nat.le_of_lt (of_decide_eq_true (List.mem_filter.mp hy).2)
  exact (fresh a this).2.2 g hg
 ·intro g hg a ha hb
  rcases rd a hb with h|⟨y,hy,rfl⟩
  ·refine (fresh a h).2.2 g hg ?_
   cases g with
   | fr f=>cases ha
   | gh _=>cases ha
   | hid b o=>exact ha
  ·have hyr:y.2∈(AF.fr ⟨c,env,ls⟩).reads:=List.mem_cons_of_mem _ (List.mem_map.mpr ⟨y,cmem y hy,rfl⟩)
   cases g with
   | fr f=>cases ha
   | gh _=>cases ha
   | hid b o=>
    have hab:y.2=b:=List.mem_singleton.mp ha;refine q03 (List.pairwise_append.mp R.apart) λ p1 p2 p3=>?_;obtain⟨q1,q2⟩:=List.pairwise_cons.mp p2;rcases List.mem_append.mp hg with hg|hg
    ·exact (p3 _ hg _ (.head _)).1 b List.mem_cons_self (hab▸hyr)
    ·rcases List.mem_cons.mp hg with e|hg
     ·cases e
     ·exact (q1 _ hg).2 b List.mem_cons_self (hab▸hyr)
end
section
variable {T:Tr}{f:FR}{env:Env}{ls:Ls}{Fs:List AF}{H:zaA}{E:Value->Shared->Prop}{s:Shared}{A:Around}
theorem comp_pop {C:Cx}{cenv:Env}{own:List Addr}{l:Ls}{Gs:List AF}{h':Heap}(R:Rep C (.fr ⟨.cp own,cenv,l⟩::Gs) H s)(sb:Heap.SameBut cenv.locals s.heap h'):Rep C Gs H { s with heap:=h' }/\zaB s.heap h':=by
 obtain⟨a1,a2⟩:=List.pairwise_cons.mp R.apart;have F:FrOk s.heap ⟨.cp own,cenv,l⟩:=(R.frs _ (.head _)).1;have tk:zaB s.heap h':=zaB.of_ext sb.extBut λ o e=>by
  refine q12 F.ns λ m u0 _=>?_;obtain⟨o',es,ep,ho',hd,_⟩:=u0;rw[ho']at e;cases e;exact .dict hd
 refine⟨R.pop.to (s':={ s with heap:=h' }) (λ b=>b=cenv.locals) (λ b o hb e=>(sb.2 b hb).trans e) tk (λ b h=>by subst h;exact (R.frs _ (.head _)).2 _ List.mem_cons_self) (λ g hg a ha h=>(a1 g hg).1 cenv.locals List.mem_cons_self (h▸ha))
  (λ a o e=>.inl ⟨e,λ h=>(R.objs a o e).2.2 _ (.head _) (by rw[h];exact List.mem_cons_self)⟩),tk⟩
theorem zxV {C:Cx}{cenv:Env}{own:List Addr}{l:Ls}{Gs:List AF}(R:Rep C (.fr ⟨.cp own,cenv,l⟩::Gs) H s):∃ o,s.heap.get? cenv.locals=some o/\(∃ es ep,o.data=.dict es ep/\∀ h':Heap,h'.get? cenv.locals=some o->∃ m,h'.Ns cenv.locals m)/\Rep C (.hid cenv.locals o::Gs) H s:=by
 obtain⟨a1,a2⟩:=List.pairwise_cons.mp R.apart;have F:FrOk s.heap ⟨.cp own,cenv,l⟩:=(R.frs _ (.head _)).1;refine q12 F.ns λ m u0 _=>?_;obtain⟨o,es,ep,ho,hd,r⟩:=u0;refine⟨o,ho,⟨es,ep,hd,λ h' e=>⟨m,o,es,ep,e,hd,r⟩⟩,R.pop.push ⟨ho,.dict hd⟩ (λ a ha=>?_) (λ a ha=>?_) (λ a ha g hg=>?_) λ g hg a ha hb=>?_⟩
 ·rw[List.mem_singleton.mp ha];exact (R.frs _ (.head _)).2 _ List.mem_cons_self
 ·rw[List.mem_singleton.mp ha]
  cases q:H cenv.locals with
  | none=>rfl
  | some o=>exact absurd List.mem_cons_self ((R.objs _ o q).2.2 _ (.head _))
 ·rw[List.mem_singleton.mp ha];exact (a1 g hg).1 _ List.mem_cons_self
 ·rw[List.mem_singleton.mp hb]at ha
  exact (a1 g hg).2 _ ha List.mem_cons_self
theorem zvA {C:Cx}{Gs:List AF}{a:Addr}{o:Obj}(R:Rep C Gs H s)(hm:AF.hid a o∈Gs):H a=none:=by
 cases q:H a with
 | none=>rfl
 | some ob=>exact absurd List.mem_cons_self ((R.objs a ob q).2.2 _ hm)
noncomputable def zeH (T:Tr)(ns:List (Str×NameKind))(nm:List (Str×NameKind))(ls:Ls)(target:Expr)(ifs:List Expr)(emit:Value->Env->Sem Unit)(I:Nat->AIt->List PV->zaA->Prop)(D':List PV->zaA->Prop):Prop:=
 ∀ own cenv D post,cenv.scope.names=relN ns nm->zsK own ns cenv->LTurns T (.cp own) cenv (zeR ns ls) target ifs emit D post I D'
theorem zvN {elt target iter:Expr}{ifs:List Expr}{rest:List Comprehension}{scope:Scope}{pos:Pos}{emit:Value->Env->Sem Unit}{c:FK}{nm:List (Str×NameKind)}{use:Option (Value->Sem Unit)}{Q':Value->Shared->Prop}{D':List PV->zaA->Prop}
  (hh:T.hd=false) (hn:env.scope.names=nm) (sc:zgM scope nm) (hs:∀ x,foldedSetIterable iter env x=pure x) (sh:zbP elt (⟨target,iter,ifs,0⟩::rest) scope pos 0 target ifs emit)
  (h:AE T ⟨c,env,ls⟩ Fs H iter (λ p H1=>∃ x,zcV T (.fr ⟨c,env,ls⟩::Fs) H1 p x/\∃ (I:Nat->AIt->List PV->zaA->Prop) (n:Nat),I n x [] H1/\zeH T scope.names nm ls target ifs emit I D') E)
  (ok:AOk T (.fr ⟨c,env,ls⟩::Fs) A) (R:Rep T.C (.fr ⟨c,env,ls⟩::Fs) H s)
  (hpost:∀ D own cenv l s' vs n out H',New0 T.C D->PRs s'.heap out vs.toList->Rep T.C (.fr ⟨.cp own,cenv,l⟩::.hid D (zbY vs n)::.fr ⟨c,env,ls⟩::Fs) H' s'->zaB s.heap s'.heap->D' out H'->compPost T.C.M A E use Q' (.ref D) cenv.locals (.ok .next) s'):
  wpAny T.C.M A (comprehension (.ListComp elt (⟨target,iter,ifs,0⟩::rest) scope pos) scope env (firstIterPos (⟨target,iter,ifs,0⟩::rest) pos) (newList []) false (firstIter (⟨target,iter,ifs,0⟩::rest) env) use) Q' E s:=by
 have F:FrOk s.heap ⟨c,env,ls⟩:=(R.frs _ (.head _)).1;have hasF:∀ n,(n,NameKind.free)∈scope.names->∃ d,env.cells.lookup n=some d:=λ n hm=>by
  have:=sc.free _ hm rfl;rw[<- hn]at this;exact F.has n this
 refine wpAny_comprehension_free (g:=⟨target,iter,ifs,0⟩) rfl hs (zqX hasF) sc.kind (λ x hx e=>?_) ?_
 ·obtain⟨n,k⟩:=x
  have e:k=.local:=e;subst e;exact zhX sc.nodup hx
 show wpAny _ _ (eval iter env) _ _ _
 refine wpAny_mono (h A s ok R) (λ v s₁ pp=>pp.elim λ p H1 pr R1 k1 h=>?_) λ _ _ e=>e;refine q12 h λ x hx u8=>q22 u8 λ I n hI turn=>?_;refine hx A s₁ v _ _ ok R1 pr λ it o s2 hi R2 k2=>?_;refine wpAny_newObj_type ?_ (by show (#[]:Array Value).size<=sizeLine;decide);have R3:Rep T.C (.hid it o::.hid s2.heap.objs.size (zbY #[] 0)::.fr ⟨c,env,ls⟩::Fs) H1 { s2 with heap:=s2.heap.push (zbY #[] 0) }:=
  (R2.hide zaE (Nat.le_refl _) (Heap.get?_push_size _ rfl) zoL).swap
 have hD0:New0 T.C s2.heap.objs.size:=(R2.fresh_ge (Nat.le_refl _)).2.1;have k3:zaB s2.heap (s2.heap.push (zbY #[] 0)):=zaB.of_keep zaE;generalize s2.heap.objs.size=D at R3 hD0 ⊢;refine zqD λ h1' hns1 keep4 hcl=>?_;generalize hH2:s2.heap.push (zbY #[] 0)=H2 at R3 k3 hns1 keep4 hcl ⊢;refine q24 (zvV (C:=T.C) (s:={ s2 with heap:=H2 }) (s':={ s2 with heap:=h1' }) (mid:=[.hid it o,.hid D (zbY #[] 0)]) hn sc R3 (by intro g hg;simp at hg;rcases hg with rfl|rfl <;> exact⟨_,_,rfl⟩) rfl hns1 keep4 rfl rfl hcl) λ cenv own hce hcn hco R4=>?_;have k4:zaB H2 h1':=zaB.of_keep keep4;have okc:AOk T (.fr ⟨.cp own,cenv,zeR scope.names ls⟩::(.hid it o::([]++.hid D (zbY #[] 0)::.fr ⟨c,env,ls⟩::Fs))) A:=ok.same (by cases c <;> rfl) λ x hx _=>.tail _ (.tail _ hx);have hce':({ newEnv scope H2.objs.size env.globals (cellsFrom (H2.objs.size+1) scope.names (zcD env scope.names [])) env.qual none .none (some env) 0 with scope:=relabel scope env }:Env)=cenv:=hce.symm
 show codeAny T.C.M A (.compStart _ 0 (.ref it) (.ref D) { newEnv scope H2.objs.size env.globals (cellsFrom (H2.objs.size+1) scope.names (zcD env scope.names [])) env.qual none .none (some env) 0 with scope:=relabel scope env }) (compPost T.C.M A E use Q' (.ref D) H2.objs.size) _
 have hloc:H2.objs.size=cenv.locals:=by rw[hce];rfl
 rw[hce',hloc];refine zpP (pre:=[.fr ⟨.cp own,cenv,zeR scope.names ls⟩]) sh hi R4 ?_;refine zsO (T:=T) (mid:=[]) (post:=.fr ⟨c,env,ls⟩::Fs) sh I n hI D' (turn own cenv D _ hcn hco) hi okc ⟨#[],0,PRs.nil,R4⟩ λ s5 out H' S k5 hD'=>?_;refine q22 S λ vs m prs R5=>?_;exact hpost D own cenv _ s5 vs m out H' hD0 prs R5 (k1.trans (k2.trans (k3.trans (k4.trans k5)))) hD'
theorem AE.comp {elt target iter:Expr}{ifs:List Expr}{rest:List Comprehension}{scope:Scope}{pos:Pos}{emit:Value->Env->Sem Unit}{c:FK}{nm:List (Str×NameKind)}{Q:PV->zaA->Prop}
  (hh:T.hd=false) (hn:env.scope.names=nm) (sc:zgM scope nm) (hs:∀ x,foldedSetIterable iter env x=pure x) (sh:zbP elt (⟨target,iter,ifs,0⟩::rest) scope pos 0 target ifs emit)
  (h:AE T ⟨c,env,ls⟩ Fs H iter (λ p H1=>∃ x,zcV T (.fr ⟨c,env,ls⟩::Fs) H1 p x/\∃ (I:Nat->AIt->List PV->zaA->Prop) (n:Nat),I n x [] H1/\zeH T scope.names nm ls target ifs emit I (λ out H'=>∀ a,H' a=Option.none->Q (.ref a) (upd H' a (.list out)))) E):
  AE T ⟨c,env,ls⟩ Fs H (.ListComp elt (⟨target,iter,ifs,0⟩::rest) scope pos) Q E:=λ A s ok R=>by
 rw[eval_ListComp];refine zvN (use:=Option.none) hh hn sc hs sh h ok R λ D own cenv l s' vs n out H' hD0 prs R' k hQ=>?_;have F:FrOk s'.heap ⟨.cp own,cenv,l⟩:=(R'.frs _ (.head _)).1;refine q12 F.ns λ m hm _=>?_;refine⟨m,hm,λ h' sb=>?_⟩;obtain⟨R1,k1⟩:=comp_pop R' sb;have hd:h'.get? D=some (zbY vs n):=(R1.frs (.hid D _) (.head _)).1.1;have St:zcC T.C h' D (.list out):=⟨vs,n,hd,PRs.keep k1 _ prs⟩
 exact⟨.ref D,_,PR.ref,Rep.showObj (pre:=[]) R1 hD0 St,k.trans k1,hQ D (zvA R1 (.head _))⟩
theorem AS.assignComp {elt target iter:Expr}{ifs:List Expr}{rest:List Comprehension}{scope:Scope}{pos p' pos':Pos}{t:Str}{emit:Value->Env->Sem Unit}{nm:List (Str×NameKind)}{Q:AFl->Ls->zaA->Prop}
  (hh:T.hd=false) (hn:env.scope.names=nm) (hk:zfC (nm.lookup t)=true) (sc:zgM scope nm) (hs:∀ x,foldedSetIterable iter env x=pure x) (sh:zbP elt (⟨target,iter,ifs,0⟩::rest) scope pos 0 target ifs emit)
  (hsw:swapsWith (.ListComp elt (⟨target,iter,ifs,0⟩::rest) scope pos) (some (.Name t p')) pos'.line env=pure true)
  (h:AE T ⟨.fn,env,ls⟩ Fs H iter (λ p H1=>∃ x,zcV T (.fr ⟨.fn,env,ls⟩::Fs) H1 p x/\∃ (I:Nat->AIt->List PV->zaA->Prop) (n:Nat),I n x [] H1/\zeH T scope.names nm ls target ifs emit I (λ out H'=>∀ a,H' a=Option.none->Q .next ((t,.ref a)::ls) (upd H' a (.list out)))) E):
  AS T env Fs ls H (.Assign [.Name t p'] (.ListComp elt (⟨target,iter,ifs,0⟩::rest) scope pos) pos') Q E:=λ A s ok R=>by
 rw[arm_exec_Assign];rw[show swapsWithSole [.Name t p'] (.ListComp elt (⟨target,iter,ifs,0⟩::rest) scope pos) pos'.line env=pure true from hsw];refine wpAny_bind (wpAny_standAt (wpAny_bind (wpAny_pure ?_)));rw[if_pos rfl];rw[arm_evalThenUse_ListComp];refine wpAny_bind ?_
 show wpAny T.C.M A (comprehension (.ListComp elt (⟨target,iter,ifs,0⟩::rest) scope pos) scope env (firstIterPos (⟨target,iter,ifs,0⟩::rest) pos) (newList []) false (firstIter (⟨target,iter,ifs,0⟩::rest) env) (some λ v=>assignAll v [assign (.Name t p') env]) >>= λ _=>pure ()) _ _ _
 refine wpAny_bind ?_;refine zvN hh hn sc hs sh h ok R λ D own cenv l s' vs n out H' hD0 prs R' k hQ=>?_
 show wpAny T.C.M A (assign (.Name t p') env (.ref D)) _ _ _
 refine q13 (zxV R') λ oL hoL u0 R1=>?_;obtain⟨es,ep,hdL,hns⟩:=u0;have hd:s'.heap.get? D=some (zbY vs n):=(R1.frs (.hid D _) (by simp)).1.1;have St:zcC T.C s'.heap D (.list out):=⟨vs,n,hd,prs⟩
 have hDn:=zvA R1 (a:=D) (o:=zbY vs n) (by simp);have R2:=(Rep.showObj (pre:=[.hid cenv.locals oL]) R1 hD0 St).swap;refine wpAny_assign_Name (zdE R2 (zeE hn hk) PR.ref λ s3 R3 k3=>?_);obtain⟨m,hm⟩:=hns s3.heap (R3.frs (.hid cenv.locals oL) (by simp)).1.1;refine⟨m,hm,λ h' sb=>?_⟩;obtain⟨R4,k4⟩:=Rep.unhide (pre:=[.fr ⟨.fn,env,(t,.ref D)::ls⟩]) (s':={ s3 with heap:=h' }) R3 sb.extBut;exact wpAny_pure (wpAny_pure ⟨.next,_,_,trivial,R4,k.trans (k3.trans k4),hQ D hDn⟩)
end
noncomputable def zmX (C:Cx)(B:Heap)(s₁:Shared)(Fs:List AF)(H:zaA):Prop:=
 ∃ ds:List Addr,(∀ b o,b∉ds->s₁.heap.get? b=some o->B.get? b=some o)/\∀ d∈ds,H d=none/\C.h₀.get? d=none/\(∀ o,s₁.heap.get? d=some o->∃ es ep,o.data=.dict es ep)/\∀ f∈Fs,d∉f.hids
section
variable {C:Cx}{env:Env}{ls:Ls}{Fs:List AF}{H:zaA}{E:Value->Shared->Prop}{s s₁:Shared}{A:Around}{B:Heap}
theorem Rep.back (R:Rep C Fs H s₁)(hi:zmX C B s₁ Fs H)(st:B.StaysIn s.heap)(sl:s₁.heap.UpToSlots s.heap)(hg:s.gens=s₁.gens)(hos:s.os=s₁.os):Rep C Fs H s/\zaB s₁.heap s.heap:=by
 refine q12 hi λ ds h1 h2=>?_;have ex:∀ b o,b∉ds->s₁.heap.get? b=some o->s.heap.get? b=some o:=λ b o hb e=>st b o (h1 b o hb e);have tk:zaB s₁.heap s.heap:=λ b o e c u9=>q21 u9 λ vs n d=>ex b o (λ hb=>by refine q21 ((h2 b hb).2.2.1 o e) λ es ep q=>?_;rw[d]at q;cases q) e;refine⟨⟨R.ok,λ b o e=>ex b o (λ hb=>by rw[(h2 b hb).2.1]at e;cases e) (R.keep b o e),hg.trans R.gens,hos.trans R.os,λ f hf=>⟨?_,(R.frs f hf).2⟩,R.apart,λ a o e=>?_⟩,tk⟩
 ·have F:=(R.frs f hf).1
  cases f with
  | fr f=>
   have F:FrOk s₁.heap f:=F;refine q12 F.ns λ m hm hv=>?_;have kc:∀ y∈f.env.cells,∀ o,s₁.heap.get? y.2=some o->s.heap.get? y.2=some o:=λ y hy o e=>by
    refine q22 (F.cells y hy) λ v o' ho' hd'=>?_;refine ex _ _ (λ hb=>?_) e;refine q21 ((h2 _ hb).2.2.1 o' ho') λ es ep q=>?_;rw[hd']at q;cases q
   exact⟨F.kind,F.globals,F.builtins,⟨m,sl.ns hm,λ y p a b=>let ⟨v,e,r⟩:=hv y p a b;⟨v,e,r.keep tk⟩⟩,λ y e=>let ⟨v,r⟩:=F.cells y e;⟨v,zcH r (kc y e)⟩,
    λ y p a b=>let ⟨c,v,e,r,q⟩:=F.cellv y p a b;⟨c,v,e,zcH r (kc (y,c) (mem_of_lookup e)),q.keep tk⟩,F.has,F.apart,F.locals,F.frame⟩
  | hid a o=>exact⟨ex a o (λ hb=>(h2 a hb).2.2.2 _ hf List.mem_cons_self) F.1,F.2⟩
  | gh g=>exact zaB.trans F tk
 ·refine q03 (R.objs a o e) λ x y z=>?_
  exact⟨zcC.keep tk (λ ob eo=>ex a ob (λ hb=>by rw[(h2 a hb).1]at e;cases e) eo) o x,y,z⟩
theorem zmX.pop {f:AF}(hi:zmX C B s₁ (f::Fs) H):zmX C B s₁ Fs H:=let ⟨ds,h1,h2⟩:=hi;⟨ds,h1,λ d hd=>let ⟨a,b,c,e⟩:=h2 d hd;⟨a,b,c,λ g hg=>e g (.tail _ hg)⟩⟩
theorem hids_owns {f:AF}{a:Addr}(h:a∈f.hids):a∈f.owns:=by
 cases f with
 | fr f=>cases h
 | hid b o=>exact h
 | gh g=>cases h
theorem zwP {fr:FR}{Fs:List AF}(hp:Fs.Pairwise Apart)(hf:.fr fr∈Fs):∀ g∈Fs,fr.env.locals∉g.hids:=by
 induction Fs with
 | nil=>cases hf
 | cons x l ih=>
  intro g hg;obtain⟨h1,h2⟩:=List.pairwise_cons.mp hp;have hr:fr.env.locals∈(AF.fr fr).reads:=List.mem_cons_self;refine (List.mem_cons.mp hf).elim (λ e=>?_) λ hf'=>(List.mem_cons.mp hg).elim (λ e h=>?_) (ih h2 hf' g)
  ·subst e
   refine (List.mem_cons.mp hg).elim (λ e h=>?_) λ hg' h=>(h1 g hg').2 _ h hr;subst e;cases h
  ·subst e;exact (h1 _ hf').1 _ (hids_owns h) hr
theorem zoQ {env:Env}:∀ {Fs:List AF},env∈zbJ Fs->∃ ls,.fr ⟨.fn,env,ls⟩∈Fs:=by
 intro Fs
 induction Fs with
 | nil=>intro h;cases h
 | cons f r ih=>
  intro h;have tail:env∈zbJ r->∃ ls,AF.fr ⟨.fn,env,ls⟩∈f::r:=λ h=>let ⟨ls,q⟩:=ih h;⟨ls,.tail _ q⟩
  cases f with
  | fr f=>
   obtain⟨c,e,ls⟩:=f;cases c with
   | fn=>
    rcases List.mem_cons.mp h with rfl|h
    ·exact⟨ls,.head _⟩
    ·exact tail h
   | cp cs=>exact tail h
  | hid a o=>exact tail h
  | gh g=>exact tail h
theorem zrR {h:Heap}{l:List Env}(x:∀ env∈l,env.scope.kind=.function/\env.frame=some env.locals/\(∃ m,h.Ns env.locals m)/\B.get? env.locals=none):h.FunFrames B l:=by
 induction l with
 | nil=>trivial
 | cons env l ih=>
  refine q04 (x env (.head _)) λ k f u0 hb=>?_;obtain⟨m,o,es,ep,ho,hd,_⟩:=u0;exact⟨(by rw[k];intro q;cases q),⟨env.locals,o,f,hb,ho,λ vs q=>by rw[hd]at q;cases q⟩,ih λ e he=>x e (.tail _ he)⟩
noncomputable def Fly (C:Cx)(Fs:List AF)(X:String)(Q:zaA->Prop)(e:Value)(s:Shared):Prop:=
 ∃ a H s₁ B a0,e=.ref a/\Rep C Fs H s₁/\s.gens=s₁.gens/\s.os=s₁.os/\Q H/\Heap.FlyingW B (zbJ Fs) a (.type X) a0 s.heap/\(zmX C B s₁ Fs H/\s₁.heap.UpToSlots s.heap)/\C2 s.heap a
noncomputable def Held (C:Cx)(env:Env)(Fs:List AF)(X:String)(Q:Ls->zaA->Prop)(e:Value)(s:Shared):Prop:=
 ∃ ls a H s₁ B a0,e=.ref a/\Rep C (.fr ⟨.fn,env,ls⟩::Fs) H s₁/\s.gens=s₁.gens/\s.os=s₁.os/\Q ls H/\Heap.HeldW B (env::zbJ Fs) a (.type X) a0 env.locals s.heap/\(zmX C B s₁ (.fr ⟨.fn,env,ls⟩::Fs) H/\s₁.heap.UpToSlots s.heap)/\C2 s.heap a
noncomputable def Err (C:Cx)(env:Env)(Fs:List AF)(X:String)(Q:Ls->zaA->Prop)(e:Value)(s:Shared):Prop:=
 (∃ a ls H s₁,e=.ref a/\Rep C (.fr ⟨.fn,env,ls⟩::Fs) H s₁/\s.gens=s₁.gens/\s.os=s₁.os/\Q ls H/\Heap.NewExc s₁.heap s.heap a X) \/
 (∃ ls,Fly C (.fr ⟨.fn,env,ls⟩::Fs) X (Q ls) e s)\/Held C env Fs X Q e s
theorem Fly.mono {X:String}{Q Q':zaA->Prop}{e:Value}(h:Fly C Fs X Q e s)(hq:∀ H,Q H->Q' H):Fly C Fs X Q' e s:=by
 refine q51 h λ a H s₁ B a0 u8=>q06 u8 λ x1 x2 x3 x4 x5 x6=>?_;exact⟨a,H,s₁,B,a0,x1,x2,x3,x4,hq H x5,x6⟩
theorem Err.of_fly {X:String}{Q:Ls->zaA->Prop}{Q':zaA->Prop}{e:Value}(h:Fly C (.fr ⟨.fn,env,ls⟩::Fs) X Q' e s)(hq:∀ H,Q' H->Q ls H):Err C env Fs X Q e s:=.inr (.inl ⟨ls,h.mono hq⟩)
theorem new_parts {X:String}{a:Addr}(R1:Rep C (.fr ⟨.fn,env,ls⟩::Fs) H s₁)(hx:Heap.NewExc s₁.heap s.heap a X):∃ B:Heap,B.StaysIn s₁.heap/\B.get? a=none/\s.heap.FunFrames B (env::zbJ Fs)/\env.frame=some env.locals/\zmX C B s₁ (.fr ⟨.fn,env,ls⟩::Fs) H:=by
 let ds:=(env::zbJ Fs).filterMap (·.frame)
 have mem:∀ e'∈env::zbJ Fs,e'.scope.kind=.function/\e'.frame=some e'.locals/\(∃ m,s₁.heap.Ns e'.locals m)/\(hideAll s₁.heap ds).get? e'.locals=none:=λ e' he=>by
  obtain⟨ls',hm⟩:=zoQ (Fs:=.fr ⟨.fn,env,ls⟩::Fs) he;have F:FrOk s₁.heap ⟨.fn,e',ls'⟩:=(R1.frs _ hm).1;refine q12 F.ns λ m hm' _=>?_;exact⟨F.kind,F.frame rfl,⟨m,hm'⟩,hideAll_none _ (List.mem_filterMap.mpr ⟨e',he,F.frame rfl⟩)⟩
 have st:(hideAll s₁.heap ds).StaysIn s₁.heap:=λ b o q=>of_hideAll _ q;have hne:(hideAll s₁.heap ds).get? a=none:=by
  cases q:(hideAll s₁.heap ds).get? a with
  | none=>rfl
  | some o=>have:=st a o q;rw[hx.new]at this;cases this
 have ff:s.heap.FunFrames (hideAll s₁.heap ds) (env::zbJ Fs):=zrR λ e' he'=>let ⟨x1,x2,⟨m,x3⟩,x4⟩:=mem e' he';⟨x1,x2,⟨m,ns_at x3 λ o q=>hx.keeps _ _ q⟩,x4⟩
 refine⟨_,st,hne,ff,(mem env (.head _)).2.1,ds,λ b o hb q=>hideAll_get _ q hb,λ d hdm=>?_⟩;refine q12 (List.mem_filterMap.mp hdm) λ e' he' hf'=>?_;obtain⟨ls',hm⟩:=zoQ (Fs:=.fr ⟨.fn,env,ls⟩::Fs) he';refine q04 (mem e' he') λ _ x2 u0 _=>?_;obtain⟨m,o,es,ep,ho,hd',_⟩:=u0;obtain rfl:e'.locals=d:=by rw[x2]at hf';exact Option.some.inj hf'
 have hr:e'.locals∈(AF.fr ⟨.fn,e',ls'⟩).reads:=List.mem_cons_self;refine⟨?_,(R1.frs _ hm).2 _ hr,λ o' q=>?_,λ g hg=>zwP R1.apart hm g hg⟩
 ·cases q:H e'.locals with
  | none=>rfl
  | some o=>exact absurd hr ((R1.objs _ _ q).2.2 _ hm)
 ·rw[ho]at q;cases q;exact⟨es,ep,hd'⟩
theorem zqC {M:Model}{X:String}{Q:Ls->zaA->Prop}{e:Value}{K:Shared->Prop}(hA:A.frames=some (env::zbJ Fs))(h:Err C env Fs X Q e s)(k:∀ s',Held C env Fs X Q e s'->K s'):wpAny M A (noteFrame e env) (λ _ s'=>K s') E s:=by
 rcases h with ⟨a,ls,H,s₁,rfl,R1,hg,hos,hQ,hx⟩|⟨ls,a,H,s₁,B,a0,rfl,R1,hg,hos,hQ,hfl,⟨hi,sl⟩,hc2⟩|h
 ·refine q15 (new_parts R1 hx) λ B st hne ff hf hi=>?_
  refine q23 hx.there λ ob t he hc hd=>?_;refine wpAny_mono ((K2.note (.ref a) env).keep (e:=a) (Q:=λ _ s'=>∃ h',s'={ s with heap:=h' }/\Heap.HeldW B (env::zbJ Fs) a (.type X) t env.locals h'/\s.heap.UpToSlots h') ?_ ⟨ob,he,_,hd,rfl⟩) (λ _ s' hh=>?_) λ _ _ x=>x.1
  ·unfold noteFrame
   rw[hf];refine wpAny_bind (wpAny_field he hd (x:=.none) rfl ?_);rw[if_neg (by decide)];refine wpAny_entryW hA ff hf he (λ b o q=>hx.keeps b o (st b o q)) hne hd (by simp) rfl λ h' hN=>⟨h',rfl,?_⟩
   refine q04 hN λ k1 k2 k3 k4=>?_;rw[hc]at k3;exact⟨⟨k1,hne,k2,k3⟩,k4⟩
  ·obtain⟨⟨h',rfl,x1,x2⟩,c'⟩:=hh
   exact k _ ⟨ls,a,H,s₁,B,t,rfl,R1,hg,hos,hQ,x1,⟨hi,(Heap.UpToSlots.of_keeps hx.keeps).trans x2⟩,c'⟩
 ·have F:FrOk s₁.heap ⟨.fn,env,ls⟩:=(R1.frs _ (.head _)).1
  refine wpAny_mono ((K2.note (.ref a) env).keep (wpAny_looks_onW (Q:=λ _ s'=>∃ h',s'={ s with heap:=h' }/\Heap.HeldW B (env::zbJ Fs) a (.type X) a0 env.locals h'/\s.heap.UpToSlots h') hA (F.frame rfl) hfl λ h' x1 x2=>⟨h',rfl,x1,x2⟩) hc2) (λ _ s' hh=>?_) λ _ _ x=>x.1;obtain⟨⟨h',rfl,x1,x2⟩,c'⟩:=hh;exact k _ ⟨ls,a,H,s₁,B,a0,rfl,R1,hg,hos,hQ,x1,⟨hi,sl.trans x2⟩,c'⟩
 ·refine q61 (id h) ?_;intro ls a H s₁ B a0 u8;refine q07 u8 ?_;clear u8;intro u0;cases u0;intro R1 hg hos hQ hh r
  have F:FrOk s₁.heap ⟨.fn,env,ls⟩:=(R1.frs _ (.head _)).1;exact wpAny_noteFrame_againW (F.frame rfl) hh.2.2.2 (k _ h)
theorem zoC {M:Model}{X:String}{Q:Ls->zaA->Prop}{e:Value}{K:Shared->Prop}(h:Held C env Fs X Q e s)(k:∀ s' ls,Fly C (.fr ⟨.fn,env,ls⟩::Fs) X (Q ls) e s'->K s'):wpAny M A (setFlight e none) (λ _ s'=>K s') E s:=by
 refine q61 h ?_;clear h;intro ls a H s₁ B a0 u8;refine q08 u8 ?_;clear u8;intro u0;cases u0;intro R1 hg hos hQ hh u1 hc2;obtain⟨hi,sl⟩:=u1;have F:FrOk s₁.heap ⟨.fn,env,ls⟩:=(R1.frs _ (.head _)).1;refine wpAny_mono ((K2.setFlight (.ref a) none).keep (wpAny_landsW (Q:=λ _ s'=>∃ h',s'={ s with heap:=h' }/\Heap.FlyingW B (env::zbJ Fs) a (.type X) a0 h'/\s.heap.UpToSlots h') hh λ h' x1 x2=>⟨h',rfl,x1,x2⟩) hc2) (λ _ s' q=>?_) λ _ _ x=>x.1;obtain⟨⟨h',rfl,x1,x2⟩,c'⟩:=q;exact k _ ls ⟨a,H,s₁,B,a0,rfl,R1,hg,hos,hQ,x1,⟨hi,sl.trans x2⟩,c'⟩
theorem Fly.pop {X:String}{Q:zaA->Prop}{e:Value}(h:Fly C (.fr ⟨.fn,env,ls⟩::Fs) X Q e s):Fly C Fs X Q e s:=by
 refine q51 h λ a H s₁ B a0 u8=>q08 u8 λ r R1 hg hos hQ u0 u1 hc2=>?_;obtain⟨k1,k2,⟨_,_,k3⟩,k4⟩:=u0;obtain⟨hi,sl⟩:=u1;exact⟨a,H,s₁,B,a0,r,R1.pop,hg,hos,hQ,⟨k1,k2,k3,k4⟩,⟨hi.pop,sl⟩,hc2⟩
theorem leave_err {M:Model}{X:String}{Q:Ls->zaA->Prop}{e:Value}{R:Unit->Shared->Prop}(hA:A.frames=some (env::zbJ Fs))(h:Err C env Fs X Q e s)(k:∀ s',Fly C Fs X (λ H=>∃ ls,Q ls H) e s'->R () s'):wpAny M A (leaving env e) R E s:=by
 unfold leaving;exact wpAny_bind (wpAny_mono (zqC hA h λ _ h=>h) (λ _ s' h=>zoC h λ s'' ls h=>k s'' (h.pop.mono λ H hq=>⟨ls,hq⟩)) λ _ _ x=>x)
end
section
variable {T:Tr}{f:FR}{env:Env}{ls:Ls}{Fs:List AF}{H:zaA}{E:Value->Shared->Prop}{s:Shared}{A:Around}
theorem zgG.fnE {fd:FuncData}{g:Addr}{nms:List Str}{body:List Stmt}{ps:List PV}{Q:PV->zaA->Prop}{X:String}{QE:Ls->zaA->Prop}(D:zdR T.C.K g fd nms body)(hlen:ps.length=nms.length)(hn:1<=T.n)
  (hE:∀ e s,Fly T.C Fs X (λ H=>∃ ls,QE ls H) e s->E e s)
  (h:∀ env,env.scope=fd.scope->AX T.down env Fs (nms.zip ps) H body (RetQ Q) (Err T.C env Fs X QE)):zgG T Fs H (.ref g) ps Q E:=λ A s v vs ok R pv prs=>by
 rw[pv.ref_inv];refine zxF D hlen hn ok R prs λ env s₁ he ok1 R1 tk=>?_;refine wpAny_mono (h env he _ s₁ ok1 R1) (λ fl s' hh=>hh.elim λ a ls' H' fr R' k' hq=>?_) λ e s' x=>?_
 ·rcases a with _ | _ | _ | p <;> cases fl <;> first|exact fr.elim|exact hq.elim|skip
  ·exact⟨.none,H',PR.none,R'.pop,tk.trans k',hq⟩
  ·exact⟨p,H',fr,R'.pop,tk.trans k',hq⟩
 ·exact leave_err ok1.frames x λ s'' y=>hE _ _ y
theorem AS.raiseName {x:Str}{np pos:Pos}{X N I:String}{nm:List (Str×NameKind)}{Q:AFl->Ls->zaA->Prop}{QE:Ls->zaA->Prop}(hh:T.hd=false)(hc:ExcClass X N I)(hself:isSubtype (.type X) (.type X)=pure true)
  (hmiss:T.C.mg x=Option.none) (hn:env.scope.names=nm) (hk:nm.lookup x=some .globalImplicit) (hv:bootBuiltins x=some (.type X)) (h:QE ls H)
  (hnn:x ≠ "__name__" := by decide +kernel) (hd:(x==("__debug__" : Str))=false:=by decide):AS T env Fs ls H (.Raise (some (.Name x np)) Option.none pos) Q (Err T.C env Fs X QE):=λ A s ok R=>by
 refine Raise_classB (ok.handled hh) hc hself (zeX (f:=⟨.fn,env,ls⟩) R (by rw[show env.kindOf x=env.scope.names.lookup x from rfl,hn];exact hk) hv hmiss hnn ⟨rfl,rfl⟩ hd) λ h' e hx=>?_;exact .inl ⟨e,ls,H,s,rfl,R,rfl,rfl,h,hx⟩
theorem excFresh {C:Cx}{B:Heap}{s₁:Shared}{l:List Env}{a:Addr}{cls a0:Value}{h:Heap}(R:Rep C Fs H s₁)(hfl:Heap.FlyingW B l a cls a0 h)(hi:zmX C B s₁ Fs H)(sl:s₁.heap.UpToSlots h):s₁.heap.get? a=none:=by
 cases e:s₁.heap.get? a with
 | none=>rfl
 | some o=>
  exfalso
  refine q12 hi λ ds h1 h2=>?_;refine q04 hfl λ _ hB _ u8=>q51 u8 λ oe vs _ _ _ u8=>q04 u8 λ he _ hd _=>?_
  by_cases q:a∈ds
  ·refine q21 ((h2 a q).2.2.1 o e) λ es ep hdo=>?_
   obtain⟨sl',hs⟩:=sl a o e λ vs w=>by rw[hdo]at w;cases w
   rw[he]at hs;cases hs;have hd:o.data=.fields vs:=hd;rw[hdo]at hd;cases hd
  ·rw[h1 a o q e]at hB;cases hB
theorem Rep.exc {C:Cx}{s0 s4:Shared}{a:Addr}{oe:Obj}(R:Rep C Fs H s4)(R0:Rep C Fs H s0)(hn:s0.heap.get? a=none)(ho:s4.heap.get? a=some oe)(hc:Ctx2 oe):Rep C (.hid a oe::Fs) H s4:=by
 have nt:zdT oe:=λ _ u9=>q21 u9 λ vs n e=>by refine q12 hc λ ws hd _=>?_;rw[hd]at e;cases e
 have nr:∀ g∈Fs,a∉g.reads:=λ g hg h=>by
  refine q12 ((R0.frs g hg).1.there a h) λ o e _=>?_;rw[hn]at e;cases e
 refine R.push ⟨ho,nt⟩ (λ b hb=>?_) (λ b hb=>?_) (λ b hb g hg=>?_) λ g hg b hb hb'=>?_
 ·rw[List.mem_singleton.mp hb]
  cases e:C.h₀.get? a with
  | none=>rfl
  | some o=>have:=R0.keep a o e;rw[hn]at this;cases this
 ·rw[List.mem_singleton.mp hb]
  cases e:H a with
  | none=>rfl
  | some o=>refine q12 ((R0.objs a o e).1.there) λ ob h _=>?_;rw[hn]at h;cases h
 ·rw[List.mem_singleton.mp hb];exact nr g hg
 ·rw[List.mem_singleton.mp hb']at hb
  refine nr g hg ?_;cases g with
  | fr f=>cases hb
  | hid c o=>exact hb
  | gh _=>cases hb
noncomputable def Tr.inH (T:Tr):Tr:={ T with hd:=true }
theorem AS.try_ {body suite:List Stmt}{b0:Stmt}{x:Str}{np hp pos:Pos}{X Y:String}{nm:List (Str×NameKind)}{Q:AFl->Ls->zaA->Prop}{QE:Ls->zaA->Prop}
  (hmiss:T.C.mg x=Option.none) (hn:env.scope.names=nm) (hk:nm.lookup x=some .globalImplicit) (hv:bootBuiltins x=some (.type Y))
  (hexc:isSubtype (.type Y) (.type "BaseException")=pure true) (hnt:isSubtype (.type ((Manifest.find? Y).elim "type" λ y=>y.metatype)) (.type "tuple")=pure false) (hsub:isSubtype (.type X) (.type Y)=pure true)
  (h:∀ g,AX T env (.gh g::Fs) ls H body Q (Err T.C env (.gh g::Fs) X QE))
  (hs:∀ Fs' ls' H',QE ls' H'->AX T.inH env Fs' ls' H' (b0::suite) Q NoE)
  (hnn:x ≠ "__name__" := by decide +kernel) (hd:(x==("__debug__" : Str))=false:=by decide):
  AS T env Fs ls H (.Try body [.ExceptHandler (some (.Name x np)) Option.none (b0::suite) hp] [] [] pos) Q E:=λ A s ok R=>by
 have R':Rep T.C (.fr ⟨.fn,env,ls⟩::.gh s.heap::Fs) H s:=by
  obtain⟨a1,a2⟩:=List.pairwise_cons.mp R.apart;refine⟨R.ok,R.keep,R.gens,R.os,λ g hg=>?_,List.pairwise_cons.mpr ⟨λ g hg=>?_,List.pairwise_cons.mpr ⟨λ g hg=>⟨λ a ha=>(by cases ha),λ a ha h=>(by cases h)⟩,a2⟩⟩,λ a o e=>?_⟩
  ·rcases List.mem_cons.mp hg with rfl|hg
   ·exact R.frs _ (.head _)
   ·rcases List.mem_cons.mp hg with rfl|hg
    ·exact⟨zaB.refl _,λ a ha=>by cases ha⟩
    ·exact R.frs _ (.tail _ hg)
  ·rcases List.mem_cons.mp hg with rfl|hg
   ·exact⟨λ a ha h=>(by cases h),λ a ha=>(by cases ha)⟩
   ·exact a1 g hg
  ·refine q03 (R.objs a o e) λ x y z=>?_
   refine⟨x,y,λ g hg=>?_⟩;rcases List.mem_cons.mp hg with rfl|hg
   ·exact z _ (.head _)
   ·rcases List.mem_cons.mp hg with rfl|hg
    ·intro h;cases h
    ·exact z _ (.tail _ hg)
 have ok':∀ {ls'},AOk T (.fr ⟨.fn,env,ls'⟩::.gh s.heap::Fs) A:=⟨ok.frames,ok.depth,ok.units,ok.handled,ok.ctx⟩
 refine wpAny_Try_except (wpAny_mono (h s.heap A s ok' R') (λ fl s₁ hh=>hh.elim λ a ls1 H1 fr R1 k1 h1'=>?_) λ e s₁ hx=>?_)
 ·cases a <;> cases fl <;> first|exact fr.elim|skip
  ·exact wpAny_execs_nil ⟨.next,ls1,H1,fr,R1.pop2,k1,h1'⟩
  all_goals exact⟨_,ls1,H1,fr,R1.pop2,k1,h1'⟩
 ·refine wpAny_mono (zqC (Fs:=.gh s.heap::Fs) ok.frames hx λ _ h=>h) (λ _ s2 hh=>?_) λ _ _ x=>x
  refine wpAny_mono (zoC (K:=λ s'=>∃ ls',Fly T.C (.fr ⟨.fn,env,ls'⟩::.gh s.heap::Fs) X (QE ls') e s') hh λ s3 ls' h=>⟨ls',h⟩) (λ _ s3 hh=>?_) λ _ _ x=>x;refine q61 hh ?_;clear hh;intro ls' a H' s0 B a0 u8;refine q08 u8 ?_;clear u8;intro u0;cases u0;intro R0 hg hos hQ f3 u1 c3;obtain⟨hi,sl⟩:=u1;have R3:=(R0.back hi f3.1 sl hg hos).1;refine q12 f3.there λ ob hob hobc=>?_;refine wpAny_handleBy_builtin (X:=X) (T:=Y) (b:=true) hexc hnt hsub (zeX (f:=⟨.fn,env,ls'⟩) R3 (by rw[show env.kindOf x=env.scope.names.lookup x from rfl,hn];exact hk) hv hmiss hnn ⟨rfl,⟨ob,hob,hobc⟩,?_⟩ hd);rw[if_pos rfl];refine wpAny_mono ((K2.setFlight (.ref a) none).keep (lands_againW (Q:=λ _ s'=>∃ h',s'={ s3 with heap:=h' }/\Heap.FlyingW B (env::zbJ Fs) a (.type X) a0 h'/\s3.heap.UpToSlots h') f3 λ h' x1 x2=>⟨h',rfl,x1,x2⟩) c3) (λ _ s4 hh=>?_) λ _ _ x=>x.1;obtain⟨⟨h4,rfl,f4,u4⟩,c4⟩:=hh;obtain⟨R4,k4⟩:=R0.back (s:={ s3 with heap:=h4 }) hi f4.1 (sl.trans u4) hg hos;have kk:zaB s.heap h4:=(R4.frs (.gh s.heap) (.tail _ (.head _))).1;refine q12 c4 λ oe hoe hce=>?_;have R5:Rep T.C (.fr ⟨.fn,env,ls'⟩::.hid a oe::Fs) H' { s3 with heap:=h4 }:=(R4.exc R0 (excFresh R0 f3 hi sl) hoe hce).swap.sub (.cons_cons _ (.cons_cons _ (List.sublist_cons_self _ _)));refine wpAny_mono (hs (.hid a oe::Fs) ls' H' hQ (A.mark (some (.ref a))) _ ⟨ok.frames,ok.depth,ok.units,λ h=>(nomatch h),λ v e=>⟨a,oe,(by cases e;rfl),.head _,hce⟩⟩ R5) (λ fl s5 hh=>hh.elim λ a ls5 H5 fr R5 k5 h5=>⟨a,ls5,H5,fr,R5.pop2,kk.trans k5,h5⟩) λ _ _ x=>x.elim
end
section
theorem turn2a (elt t1 i1 t2 i2:Expr)(f1 f2:List Expr)(scope:Scope)(pos:Pos)(it acc:Value)(env:Env):compTurn (.ListComp elt [⟨t1,i1,f1,0⟩,⟨t2,i2,f2,0⟩] scope pos) 0 it acc env=(standAt i1.pos >>= λ _=>pyNext it >>= λ r=>match r with
  | none=>pure (.done .next)
  | some v=>letOwnedTupleGo t1 it v >>= λ _=>assign t1 env v >>= λ _=>zkH f1 env >>= λ ok=>
   (if ok=true then (eval i2 env >>= λ x=>standAt i2.pos >>= λ _=>foldedSetIterable i2 env x >>= λ x=>holding [x] (pyIter x) >>= λ it'=>runOwn (.compStart (.ListComp elt [⟨t1,i1,f1,0⟩,⟨t2,i2,f2,0⟩] scope pos) 1 it' acc env) env >>= λ _=>again (.compLoop (.ListComp elt [⟨t1,i1,f1,0⟩,⟨t2,i2,f2,0⟩] scope pos) 0 it acc env)) else again (.compLoop (.ListComp elt [⟨t1,i1,f1,0⟩,⟨t2,i2,f2,0⟩] scope pos) 0 it acc env))):=by rfl
theorem shape2a {elt t1 i1 t2 i2:Expr}{f1 f2:List Expr}{scope:Scope}{pos:Pos}:zbP elt [⟨t1,i1,f1,0⟩,⟨t2,i2,f2,0⟩] scope pos 0 t1 f1 (ziD elt [⟨t1,i1,f1,0⟩,⟨t2,i2,f2,0⟩] scope pos 1 i2):=
 ⟨⟨i1.pos,λ it acc env=>by rw[turn2a];simp only[ziD,bind_assoc,pure_bind];try rfl⟩,⟨_,rfl,rfl⟩⟩
theorem shape2b {elt t1 i1 t2 i2:Expr}{f1 f2:List Expr}{scope:Scope}{pos:Pos}:zbP elt [⟨t1,i1,f1,0⟩,⟨t2,i2,f2,0⟩] scope pos 1 t2 f2 (zrE elt):=
 ⟨⟨i2.pos,λ it acc env=>by rfl⟩,⟨_,rfl,rfl⟩⟩
noncomputable def Ext (H H':zaA):Prop:=∀ a o,H a=some o->H' a=some o
theorem Ext.refl (H:zaA):Ext H H:=λ _ _ e=>e
theorem Ext.trans {H1 H2' H3:zaA}(x:Ext H1 H2')(y:Ext H2' H3):Ext H1 H3:=λ a o e=>y a o (x a o e)
theorem Ext.upd {H H':zaA}{a:Addr}{o:AO}(x:Ext H H')(h:H a=none):Ext H (upd H' a o):=λ b ob e=>by
 unfold AM.Internal.upd;split
 ·rename_i q;subst q;rw[h]at e;cases e
 ·exact x b ob e
theorem Ext.none {H H':zaA}{a:Addr}(x:Ext H H')(h:H' a=none):H a=none:=by
 cases e:H a with
 | none=>rfl
 | some o=>rw[x a o e]at h;cases h
noncomputable def Wk (H H':zaA):Prop:=∀ a o,H a=some o->H' a=some o\/∃ l po,o=.pdict l/\H' a=some (.pdict l po)
theorem Ext.wk {H H':zaA}(x:Ext H H'):Wk H H':=λ a o e=>.inl (x a o e)
theorem Wk.ext {H1 H2' H3:zaA}(x:Ext H1 H2')(y:Wk H2' H3):Wk H1 H3:=λ a o e=>y a o (x a o e)
theorem Wk.unpin {H:zaA}{d:Addr}{l:List (Pt×PV)}{po:Option Obj}(h:H d=some (.pdict l po)):Wk (AM.Internal.upd H d (.pdict l)) H:=λ a o e=>by
 unfold AM.Internal.upd at e;split at e
 ·rename_i q;cases e;exact .inr ⟨l,po,rfl,q▸h⟩
 ·exact .inl e
theorem Wk.none {H H':zaA}{a:Addr}(x:Wk H H')(h:H' a=none):H a=none:=by
 cases e:H a with
 | none=>rfl
 | some o=>
  rcases x a o e with q|⟨l,po,-,q⟩
  ·rw[q]at h;cases h
  ·rw[q]at h;cases h
theorem Wk.both {H H':zaA}{a:Addr}{o:AO}(x:Wk H H'):Wk (AM.Internal.upd H a o) (AM.Internal.upd H' a o):=λ b ob e=>by
 unfold AM.Internal.upd at e ⊢;split
 ·rename_i q;rw[if_pos q]at e;exact .inl e
 ·rename_i q;rw[if_neg q]at e;exact x b ob e
theorem Rep.wk {C:Cx}{Fs:List AF}{H H':zaA}{s:Shared}(R:Rep C Fs H' s)(h:Wk H H'):Rep C Fs H s:=
 ⟨R.ok,R.keep,R.gens,R.os,R.frs,R.apart,λ a o e=>by
  rcases h a o e with q|⟨l,po,rfl,q⟩
  ·exact R.objs a o q
  ·refine q03 (R.objs a _ q) λ u0 y z=>?_;obtain⟨x,-⟩:=u0
   exact⟨⟨x,λ _ e=>nomatch e⟩,y,z⟩⟩
variable {T:Tr}{f:FR}{env:Env}{ls:Ls}{Fs:List AF}{H:zaA}{E:Value->Shared->Prop}{s:Shared}{A:Around}
theorem AE.forget {e:Expr}{Q:PV->zaA->Prop}(h:AE T f Fs H e (λ p H1=>∃ H2',Wk H2' H1/\Q p H2') E):AE T f Fs H e Q E:=
 λ A s ok R=>wpAny_mono (h A s ok R) (λ v s' ⟨p,H',a,b,c,H2',x,d⟩=>⟨p,H2',a,b.wk x,c,d⟩) λ _ _ x=>x
theorem AS.forget {st:Stmt}{Q:AFl->Ls->zaA->Prop}(h:AS T env Fs ls H st (λ a l H1=>∃ H2',Wk H2' H1/\Q a l H2') E):AS T env Fs ls H st Q E:=
 λ A s ok R=>wpAny_mono (h A s ok R) (λ v s' ⟨p,l,H',a,b,c,H2',x,d⟩=>⟨p,l,H2',a,b.wk x,c,d⟩) λ _ _ x=>x
theorem AE.pins {e:Expr}{Q:PV->zaA->Prop}(h:AE T f Fs H e (λ p H1=>Q p H1\/∃ d l,p=.ref d/\H1 d=some (.pdict l)/\∀ ob,Q p (AM.Internal.upd H1 d (.pdict l (some ob)))) E):AE T f Fs H e Q E:=
 λ A s ok R=>wpAny_mono (h A s ok R) (λ v s' hh=>by
  obtain⟨p,H',a,b,c,q|⟨d,l,rfl,hd,q⟩⟩:=hh
  ·exact⟨p,H',a,b,c,q⟩
  ·obtain⟨ob,R'⟩:=b.pin hd
   exact⟨.ref d,_,a,R',c,q ob⟩) λ _ _ x=>x
theorem zfR.weak {target:Expr}{body:List Stmt}{Q:AFl->Ls->zaA->Prop}{p:PV}{H1:zaA}(h:zfR T env Fs ls target body (λ a l H1=>∃ H2',Wk H2' H1/\Q a l H2') E p H1):zfR T env Fs ls target body Q E p H1:=λ A s s₁ v ok R pr k=>
 wpAny_mono (h A s s₁ v ok R pr k) (λ it s2 hc=>codeAny_mono hc λ r s' hx=>by
  cases r with
  | error e=>exact hx
  | ok f=>obtain⟨a,l,H',fr,b,c,H2',x,d⟩:=hx;exact⟨a,l,H2',fr,b.wk x,c,d⟩) λ _ _ x=>x
theorem AA.nameL {c:FK}{x:Str}{pos:Pos}{p:PV}{nm:List (Str×NameKind)}{Q:Ls->zaA->Prop}(hn:env.scope.names=nm)(hk:nm.lookup x=some .local)(h:Q ((x,p)::ls) H):AA T ⟨c,env,ls⟩ Fs H (.Name x pos) p Q E:=
 λ A s v ok R hp=>wpAny_assign_Name (zdE R (.inl (by rw[show env.kindOf x=env.scope.names.lookup x from rfl,hn];exact hk)) hp λ s' R' tk=>⟨_,H,R',tk,h⟩)
theorem zgF.mono {x:AIt}{K K':PV->AIt->Prop}{D D':Prop}(h:zgF H x K D)(hk:∀ p x',K p x'->K' p x')(hd:D->D'):zgF H x K' D':=by
 cases x with
 | list a i=>refine q13 h λ l h1 h2 h3=>?_;exact⟨l,h1,λ p e=>hk _ _ (h2 p e),λ e=>hd (h3 e)⟩
 | keys d ob i=>refine q13 h λ l h1 h2 h3=>?_;exact⟨l,h1,λ p e=>hk _ _ (h2 p e),λ e=>hd (h3 e)⟩
 | range x left=>exact⟨λ q=>hk _ _ (h.1 q),λ q=>hd (h.2 q)⟩
theorem zeH.mono {ns nm:List (Str×NameKind)}{target:Expr}{ifs:List Expr}{emit:Value->Env->Sem Unit}{I:Nat->AIt->List PV->zaA->Prop}{D D':List PV->zaA->Prop}(h:zeH T ns nm ls target ifs emit I D)(hd:∀ out H,D out H->D' out H):zeH T ns nm ls target ifs emit I D':=
 λ own cenv Dd post hc ho n x out H' hI=>zgF.mono (h own cenv Dd post hc ho n x out H' hI) (λ _ _ k=>k) (hd out H')
noncomputable def zfK (T:Tr)(ns nm:List (Str×NameKind))(c:FK)(env:Env)(ls:Ls)(Fs:List AF)(H:zaA)(iter target:Expr)(ifs:List Expr)(emit:Value->Env->Sem Unit)(P:List PV->zaA->Prop)(E:Value->Shared->Prop):Prop:=
 AE T ⟨c,env,ls⟩ Fs H iter (λ p H1=>∃ x,zcV T (.fr ⟨c,env,ls⟩::Fs) H1 p x/\∃ (I:Nat->AIt->List PV->zaA->Prop) (n:Nat),I n x [] H1/\zeH T ns nm ls target ifs emit I (λ out H'=>∃ H2',Wk H2' H'/\P out H2')) E
theorem AE.compG {elt target iter:Expr}{ifs:List Expr}{rest:List Comprehension}{scope:Scope}{pos:Pos}{emit:Value->Env->Sem Unit}{c:FK}{nm:List (Str×NameKind)}{Q:PV->zaA->Prop}
  (hh:T.hd=false) (hn:env.scope.names=nm) (sc:zgM scope nm) (hs:∀ x,foldedSetIterable iter env x=pure x) (sh:zbP elt (⟨target,iter,ifs,0⟩::rest) scope pos 0 target ifs emit)
  (h:zfK T scope.names nm c env ls Fs H iter target ifs emit (λ out H2'=>∀ a,H2' a=Option.none->Q (.ref a) (upd H2' a (.list out))) E):
  AE T ⟨c,env,ls⟩ Fs H (.ListComp elt (⟨target,iter,ifs,0⟩::rest) scope pos) Q E:=by
 refine AE.forget (AE.comp hh hn sc hs sh (AE.mono h ?_));intro p H1 uu;refine q12 uu λ x hx u8=>q22 u8 λ I n hI ht=>?_
 refine⟨x,hx,I,n,hI,ht.mono ?_⟩;intro out H' uu a ha;refine q12 uu λ H2' ex hP=>?_
 exact⟨_,ex.both,hP a (ex.none ha)⟩
theorem AS.assignCompG {elt target iter:Expr}{ifs:List Expr}{rest:List Comprehension}{scope:Scope}{pos p' pos':Pos}{t:Str}{emit:Value->Env->Sem Unit}{nm:List (Str×NameKind)}{Q:AFl->Ls->zaA->Prop}
  (hh:T.hd=false) (hn:env.scope.names=nm) (hk:zfC (nm.lookup t)=true) (sc:zgM scope nm) (hs:∀ x,foldedSetIterable iter env x=pure x) (sh:zbP elt (⟨target,iter,ifs,0⟩::rest) scope pos 0 target ifs emit)
  (hsw:swapsWith (.ListComp elt (⟨target,iter,ifs,0⟩::rest) scope pos) (some (.Name t p')) pos'.line env=pure true)
  (h:zfK T scope.names nm .fn env ls Fs H iter target ifs emit (λ out H2'=>∀ a,H2' a=Option.none->Q .next ((t,.ref a)::ls) (upd H2' a (.list out))) E):
  AS T env Fs ls H (.Assign [.Name t p'] (.ListComp elt (⟨target,iter,ifs,0⟩::rest) scope pos) pos') Q E:=by
 refine AS.forget (AS.assignComp hh hn hk sc hs sh hsw (AE.mono h ?_));intro p H1 uu;refine q12 uu λ x hx u8=>q22 u8 λ I n hI ht=>?_
 refine⟨x,hx,I,n,hI,ht.mono ?_⟩;intro out H' uu a ha;refine q12 uu λ H2' ex hP=>?_
 exact⟨_,ex.both,hP a (ex.none ha)⟩
theorem zmH {ns:List (Str×NameKind)}{x:Str}(h:ns.lookup x=some .local):(zeR ns ls).lookup x=Option.none:=by
 cases e:(zeR ns ls).lookup x with
 | none=>rfl
 | some p=>have:=(zdB e).2;rw[h]at this;cases this
theorem zpH {ns nm:List (Str×NameKind)}{x:Str}(h:ns.lookup x=some .local):(relN ns nm).lookup x=some .local:=by
 rw[zfS,h];rfl
noncomputable def zvH (T:Tr)(ns nm:List (Str×NameKind))(l:Ls)(H1:zaA)(ifs:List Expr)(elt:Expr)(r:Option PV):Prop:=
 ∀ own cenv Fs' H',cenv.scope.names=relN ns nm->Ext H1 H'->AIfs T ⟨.cp own,cenv,l⟩ Fs' H' ifs (λ b H''=>Ext H1 H''/\if b then ∃ v,r=some v/\∀ Fs'',AE T ⟨.cp own,cenv,l⟩ Fs'' H'' elt (λ u H3=>u=v/\Ext H1 H3) NoE else r=Option.none)
theorem AIfs.mono {ifs:List Expr}{Q Q':Bool->zaA->Prop}(h:AIfs T f Fs H ifs Q)(hq:∀ b H,Q b H->Q' b H):AIfs T f Fs H ifs Q':=by
 induction ifs generalizing H with
 | nil=>exact hq _ _ h
 | cons c r ih=>
  intro A s ok R;refine wpAny_mono (h A s ok R) (λ b s' hh=>hh.elim λ H' a k q=>⟨H',a,k,?_⟩) λ _ _ x=>x;cases b with
  | true=>exact ih q
  | false=>exact hq _ _ q
theorem zfT.mono {D:Addr}{post:List AF}{emit:Value->Env->Sem Unit}{out:List PV}{K K':List PV->zaA->Prop}(h:zfT T f D post emit H out K)(hk:∀ out H,K out H->K' out H):zfT T f D post emit H out K':=
 λ A s mid ok S=>wpAny_mono (h A s mid ok S) (λ _ s' u9=>q23 u9 λ o H' a b c=>⟨o,H',a,b,hk _ _ c⟩) λ _ _ x=>x
noncomputable def zbL (n m:Nat)(g:Nat->Nat->Option PV):List PV:=(List.range n).flatMap λ i=>(List.range m).filterMap (g i)
theorem zdU {g:Nat->Option PV}{j:Nat}:(List.range (j+1)).filterMap g=(List.range j).filterMap g++(match g j with|some v=>[v] | Option.none=>[]):=by
 rw[List.range_succ,List.filterMap_append]
 congr 1
 rw[List.filterMap_cons];cases g j <;> rfl
theorem zjY {n m:Nat}{g:Nat->Nat->Option PV}:zbL (n+1) m g=zbL n m g++(List.range m).filterMap (g n):=by
 unfold zbL;rw[List.range_succ,List.flatMap_append];simp
theorem znL {n m:Nat}{g:Nat->Nat->Option PV}:(zbL n m g).length<=n*m:=by
 induction n with
 | zero=>simp[zbL]
 | succ n ih=>
  rw[zjY,List.length_append,Nat.succ_mul];have:=List.length_filterMap_le (g n) (List.range m);simp only[List.length_range]at this;lia
noncomputable def zjG (j m:Nat):AIt:=.range j ((m:Int)-j)
theorem zjG.turn {H:zaA}{j m:Nat}{K:PV->AIt->Prop}{D:Prop}(hle:j<=m)(h:j<m->K (.int j) (zjG (j+1) m))(hd:j=m->D):zgF H (zjG j m) K D:=by
 refine⟨λ hp=>?_,λ e=>hd (Nat.le_antisymm hle (Int.ofNat_le.mp (Int.le_of_sub_nonpos e)))⟩;have q:zjG (j+1) m=.range ((j:Int)+1) ((m:Int)-j-1):=by
  unfold zjG;rw[show ((j+1:Nat):Int)=(j:Int)+1 from rfl,Int.sub_sub]
 exact q▸h (Int.ofNat_lt.mp (Int.lt_of_sub_pos hp))
theorem zcV.rngK {a:Addr}{lo m:Nat}(hH:H a=some (.range lo m))(hle:lo<=m)(hm:m<2 ^ 62):zcV T Fs H (.ref a) (zjG lo m):=by
 have hm':(m:Int)<2 ^ 62:=by exact_mod_cast hm
 have h:=zcV.range (T:=T) (Fs:=Fs) hH (Int.le_trans (by decide) (Int.natCast_nonneg lo)) (Int.lt_of_le_of_lt (Int.ofNat_le.mpr hle) hm') (Int.le_trans (by decide) (Int.natCast_nonneg m)) hm';have q:(if (lo:Int)<m then (m:Int)-lo else 0)=(m:Int)-(lo:Nat):=by split <;> lia
 rw[q]at h;exact h
theorem zcV.rng0 {a:Addr}{m:Nat}(hH:H a=some (.range 0 m))(hm:m<2 ^ 62):zcV T Fs H (.ref a) (zjG 0 m):=zcV.rngK (lo:=0) hH (Nat.zero_le m) hm
theorem ext_len {i n m:Nat}{g:Nat->Nat->Option PV}(hlt:i<n)(hz:n*m<=90000):(zbL i m g).length+m<=90000:=
 Nat.le_trans (Nat.add_le_add_right znL m) (Nat.le_trans (by rw[<- Nat.succ_mul];exact Nat.mul_le_mul_right _ hlt) hz)
theorem fm_len {j m:Nat}{out:List PV}{g:Nat->Option PV}(hlt:j<m)(hz:out.length+m<=90000):(out++(List.range j).filterMap g).length<=100000:=by
 have h3:=List.length_filterMap_le g (List.range j);rw[List.length_range]at h3;rw[List.length_append];exact Nat.le_trans (Nat.add_le_add_left (Nat.le_trans h3 (Nat.le_of_lt hlt)) _) (Nat.le_trans hz (by decide))
noncomputable def R1I (H1:zaA)(out:List PV)(g:Nat->Option PV)(m k:Nat)(z:AIt)(o:List PV)(H':zaA):Prop:=∃ j:Nat,z=zjG j m/\k=m-j/\j<=m/\o=out++(List.range j).filterMap g/\Ext H1 H'
theorem zfT.rng {y:Str}{yp:Pos}{t1 elt i1 i2:Expr}{ifs f1:List Expr}{scope:Scope}{pos:Pos}{nm:List (Str×NameKind)}{own:List Addr}{cenv:Env}{l:Ls}{D:Addr}{post:List AF}{m:Nat}{H1:zaA}{out:List PV}{K:List PV->zaA->Prop}(g:Nat->Option PV)(hh:T.hd=false)(hc:cenv.scope.names=relN scope.names nm)(hy:scope.names.lookup y=some .local)(hyn:l.lookup y=none)(hm:m<2 ^ 62)(hz:out.length+m<=90000)
  (hs:∀ v,foldedSetIterable i2 cenv v=pure v)
  (h:∀ Fs',AE T ⟨.cp own,cenv,l⟩ Fs' H i2 (λ q H2'=>∃ b,q=.ref b/\H2' b=some (.range 0 m)/\Ext H1 H2') NoE)
  (hg:∀ j,j<m->zvH T scope.names nm ((y,.int j)::l) H1 ifs elt (g j))
  (hK:∀ H',Ext H1 H'->K (out++(List.range m).filterMap g) H'):
  zfT T ⟨.cp own,cenv,l⟩ D post (ziD elt [⟨t1,i1,f1,0⟩,⟨.Name y yp,i2,ifs,0⟩] scope pos 1 i2) H out K:=by
 refine zfT.nest shape2b hs λ Fs''=>AE.mono (h Fs'') ?_;intro q H2' uu;refine q13 uu ?_;clear uu;intro b u0;cases u0;intro hb ex2;refine⟨_,zcV.rng0 hb hm,R1I H1 out g m,m,⟨0,rfl,rfl,Nat.zero_le _,(List.append_nil _).symm,ex2⟩,?_⟩;intro k z o H3 uu;refine q15 uu ?_;clear uu;intro j u0;cases u0;intro u1;cases u1;intro hle2 u2;cases u2;intro ex3;refine zjG.turn hle2 (λ hlt2 Fs3=>?_) (λ e=>by subst e;exact hK _ ex3);refine AA.nameL hc (zpH hy) ⟨(Sub.refl _).cons hyn,?_⟩;refine AIfs.mono (hg j hlt2 own cenv Fs3 H3 hc ex3) λ b H4 hb=>?_;have ex4:=hb.1;replace hb:=hb.2;cases b with
 | true=>
  rw[if_pos rfl]at hb ⊢;refine hb.elim λ v hb=>zfT.elt (fm_len hlt2 hz) λ Fs5=>AE.mono (hb.2 Fs5) ?_;rintro u H5 ⟨rfl,ex5⟩;exact⟨m-(j+1),zdX hlt2,j+1,rfl,rfl,hlt2,by rw[zdU,hb.1,List.append_assoc],ex5⟩
 | false=>
  rw[if_neg (by decide)]at hb ⊢;exact⟨m-(j+1),zdX hlt2,j+1,rfl,rfl,hlt2,by rw[zdU,hb,List.append_nil],ex4⟩
noncomputable def R2I (H1:zaA)(g:Nat->Nat->Option PV)(n m k:Nat)(z:AIt)(o:List PV)(H':zaA):Prop:=∃ i:Nat,z=zjG i n/\k=n-i/\i<=n/\o=zbL i m g/\Ext H1 H'
theorem zfK.range2 {x y:Str}{xp yp:Pos}{elt i1 i2:Expr}{ifs:List Expr}{scope:Scope}{pos:Pos}{nm:List (Str×NameKind)}{c:FK}{P:List PV->zaA->Prop}{n m:Nat}(g:Nat->Nat->Option PV)(hh:T.hd=false)(hx:scope.names.lookup x=some .local)(hy:scope.names.lookup y=some .local)(hxy:x≠y)(hz:n*m<=90000)(hn:n<2 ^ 62)(hm:m<2 ^ 62)
  (hs:∀ cenv v,cenv.scope.names=relN scope.names nm->foldedSetIterable i2 cenv v=pure v)
  (h:AE T ⟨c,env,ls⟩ Fs H i1 (λ p H1=>∃ a,p=.ref a/\H1 a=some (.range 0 n) /\
   (∀ (i:Nat) own cenv Fs' H',i<n->cenv.scope.names=relN scope.names nm->Ext H1 H'->AE T ⟨.cp own,cenv,(x,.int i)::zeR scope.names ls⟩ Fs' H' i2 (λ q H2'=>∃ b,q=.ref b/\H2' b=some (.range 0 m)/\Ext H1 H2') NoE) /\
   (∀ i j:Nat,i<n->j<m->zvH T scope.names nm ((y,.int j)::(x,.int i)::zeR scope.names ls) H1 ifs elt (g i j))/\P (zbL n m g) H1) E):
  zfK T scope.names nm c env ls Fs H i1 (.Name x xp) [] (ziD elt [⟨.Name x xp,i1,[],0⟩,⟨.Name y yp,i2,ifs,0⟩] scope pos 1 i2) P E:=by
 refine AE.mono h ?_;intro p H1 uu;refine q15 uu ?_;clear uu;intro a u0;cases u0;intro hl h2 hg hP;refine⟨_,zcV.rng0 hl hn,R2I H1 g n m,n,⟨0,rfl,rfl,Nat.zero_le _,rfl,Ext.refl _⟩,?_⟩;intro own cenv D post hc ho k z out H' uu;refine q15 uu ?_;clear uu;intro i u0;cases u0;intro u1;cases u1;intro hle u2;cases u2;intro ex;refine zjG.turn hle (λ hlt Fs'=>?_) (λ e=>by subst e;exact⟨H1,ex.wk,hP⟩);refine AA.nameL hc (zpH hx) ⟨(Sub.refl _).cons (zmH hx),?_⟩
 show zfT _ _ _ _ _ _ _ _
 exact zfT.rng (g i) hh hc hy (by rw[List.lookup_cons,beq_eq_false_iff_ne.mpr (Ne.symm hxy)];exact zmH hy) hm (ext_len hlt hz) (λ v=>hs cenv v hc) (λ Fs''=>h2 i own cenv Fs'' H' hlt hc ex) (λ j hj=>hg i j hlt hj)
  λ H3 ex3=>⟨n-(i+1),zdX hlt,i+1,rfl,rfl,hlt,by rw[zjY],ex3⟩
end
section
variable {T:Tr}{f:FR}{env:Env}{ls:Ls}{Fs:List AF}{H:zaA}{E:Value->Shared->Prop}{s:Shared}{A:Around}
theorem AA.tupSet {t:Expr}{k:Nat}{pos:Pos}{a:Addr}{q:Pt}{Q:Ls->zaA->Prop}(hh:T.hd=false)(hH:H a=some (.pset [q]))(he:assignEach [t] f.env=[(false,assign t f.env)])
  (h:AA T f Fs H t (pt q) Q E):AA T f Fs H (.Tuple [t] k pos) (.ref a) Q E:=λ A s v ok R pv=>by
 rw[pv.ref_inv,assign_Tuple];refine wpAny_bind (wpAny_standAt ?_);unfold unpack;rw[he]
 show wpAny _ _ (do assignInOrder [assign t f.env] (<- holding [.ref a] (unpackItems (.ref a) 1 Option.none))) _ _ _
 refine q51 (zuV R hH) λ o es ep tb l' u8=>q04 u8 λ ho SP hp hw=>?_;have hl':l'=[q]:=List.perm_singleton.mp hp;subst hl';have hT:s.TypeIs (.ref a) "set" := ⟨o,ho,SP.ex.1⟩
 have hsz:es.size=1:=SP.len.symm;refine wpAny_bind (wpAny_holding ?_);unfold unpackItems notIterableAtAll;refine wpAny_bind (wpAny_bind (wpAny_specialOf hT F.slot_set_iter.lookup ?_));refine wpAny_pure ?_;simp only[Bool.false_eq_true,if_false];refine wpAny_bind (wpAny_holding (ziQ ho SP.ex SP.data SP.inv SP.led ?_));have hslot:zcB T.C.w tb 0=0:=by unfold zcB;split <;> rfl
 have k1:∀ b o,s.heap.get? b=some o->(s.heap.push (zaX 0 0 a es.size ep)).get? b=some o:=zaE;refine q12 (hw 0 q rfl) λ x hx px=>?_;have hit:(s.heap.push (zaX 0 0 a es.size ep)).get? s.heap.objs.size=some (zaX (zcB T.C.w tb 0) 0 a es.size ep):=by rw[hslot];exact Heap.get?_push_size _ rfl
 refine wpAny_bind (wpAny_holding (show wpAny _ _ (pyNext (.ref s.heap.objs.size) >>= _) _ _ _ from wpAny_bind ?_));refine zeY (i:=0) hit (k1 a o ho) SP.ex SP.data SP.inv SP.led hx λ h1' hit1 sb1=>?_;refine wpAny_bind (wpAny_holding (show wpAny _ _ (pure []) _ _ _ from wpAny_pure (wpAny_pure ?_)));rw[if_neg (by simp)];have hne:a≠s.heap.objs.size:=Nat.ne_of_lt (Heap.lt_size ho);have ho1:h1'.get? a=some o:=(sb1.2 a hne).trans (k1 a o ho);refine wpAny_bind (wpAny_holding (zfP (i:=1) (ok.handled hh) hit1 ho1 SP.ex SP.data SP.inv SP.led hsz.symm λ h2 ex2'=>?_));simp only[Option.isSome_none,Bool.false_eq_true,if_false];refine wpAny_pure ?_;have kp:∀ b o,s.heap.get? b=some o->h2.get? b=some o:=λ b o e=>by
  have hb:b≠s.heap.objs.size:=Nat.ne_of_lt (Heap.lt_size e);exact ex2' b o hb ((sb1.2 b hb).trans (k1 b o e))
 refine wpAny_bind (m:=holding [] (assign t f.env x.2)) (wpAny_holding (wpAny_mono (h A { s with heap:=h2 } x.2 ok (R.ext kp) (PR.keep (zaB.of_keep kp) _ (ziZ px))) (λ _ s2 hh=>hh.elim λ ls'' H2' R2 k2 h2=>?_) λ _ _ x=>x));exact wpAny_pure ⟨ls'',H2',R2,(zaB.of_keep kp).trans k2,h2⟩
theorem ASub.topStr {value slice:Expr}{a:Addr}{x y:Str}{tk:Tok}{es:Array DictEntry}{n:Nat}{Q:PV->zaA->Prop}(hl:T.C.K.lookup a=some ⟨.type "dict",none,.dict es n,#[]⟩)(hk:KeysLit T.C.w.params es.toList)(e:nsIn T.C.K a x=some (some (.str y tk)))
  (h:Q (.str y) H) (hs:∀ t,subscripted slice false (.ref a) (.str x t)=operate [.ref a,.str x t] (getItem (.ref a) (.str x t)):=by intro _;rfl):ASub T Fs H value slice (.ref a) (.str x) Q E:=λ A s v w ok R pv pw=>by
 rw[pv.ref_inv];obtain⟨t,rfl⟩:=pw.str_inv;have hm:=mapOf_K (prog:=T.C.prog) R.kin hl hk;exact tail_any hm.typeIs slot_dict_getitem.lookup (wpAny_getItem_of (strKind_is T.C.prog T.C.w x t) hm (find_K hl e) (zaI R PR.str h)) (hs t)
end
theorem zmQ {α:Type}{x y:Str}{q:α}{l:List (Str×α)}(h:(x==y)=false)(e:l.lookup x=none):((y,q)::l).lookup x=none:=by rw[List.lookup_cons,h];exact e
section
variable {T:Tr}{f:FR}{env:Env}{ls:Ls}{Fs:List AF}{H:zaA}{E:Value->Shared->Prop}{s:Shared}{A:Around}
theorem AS.exp {e:Expr}{pos:Pos}{Q:AFl->Ls->zaA->Prop}(hs:swapsWith e none pos.line env=pure false)
  (h:AE T ⟨.fn,env,ls⟩ Fs H e (λ _ H1=>Q .next ls H1) E):AS T env Fs ls H (.Expr e pos) Q E:=λ A s ok R=>by
 have F:FrOk s.heap ⟨.fn,env,ls⟩:=(R.frs _ (.head _)).1;have hk:env.scope.kind=.function:=F.kind;refine wpAny_Expr_any (wpAny_mono (h A s ok R) (λ v s₁ hh=>hh.elim λ p H1 pr R1 k1 h1'=>⟨.next,ls,H1,trivial,R1,k1,h1'⟩) λ _ _ x=>x) ?_ hs;unfold interactive;rw[hk];rfl
theorem AAs.nil' {c:FK}{Q:Ls->zaA->Prop}(h:Q ls H):AAs T ⟨c,env,ls⟩ Fs H [] [] Q E:=AAs.nil h
theorem AAs.cons' {c:FK}{t:Expr}{ts:List Expr}{p:PV}{ps:List PV}{Q:Ls->zaA->Prop}(he:assignEach (t::ts) env=(false,assign t env)::assignEach ts env)
  (h:AA T ⟨c,env,ls⟩ Fs H t p (λ ls' H1=>AAs T ⟨c,env,ls'⟩ Fs H1 ts ps Q E) E):AAs T ⟨c,env,ls⟩ Fs H (t::ts) (p::ps) Q E:=AAs.cons he h
theorem zwH {elt:Expr}{gens:List Comprehension}{scope:Scope}{pos p':Pos}{t:Str}{line:Nat}{nm:List (Str×NameKind)}(hk:env.scope.kind=.function)(hn:env.scope.names=nm)(hl:(nm.lookup t==some .local)=true)(hline:(p'.line==pos.line)=true)
  (hf:(scope.names.any λ (n,k)=>n==t&&(k==.local||k==.cell))=false):swapsWith (.ListComp elt gens scope pos) (some (.Name t p')) line env=pure true:=by
 have hb:env.blockKind=.function:=by unfold Env.blockKind;rw[hk];rfl
 have hl':(env.kindOf t==some .local)=true:=by rw[show env.kindOf t=env.scope.names.lookup t from rfl,hn];exact hl
 unfold swapsWith
 show pure _=pure true
 rw[hb,hl',show (Expr.ListComp elt gens scope pos).pos=pos from rfl,hline,hf]
 rfl
end
section
variable {T:Tr}{f:FR}{env:Env}{ls:Ls}{Fs:List AF}{H:zaA}{E:Value->Shared->Prop}{s:Shared}{A:Around}
theorem AS.mono {st:Stmt}{Q Q':AFl->Ls->zaA->Prop}(h:AS T env Fs ls H st Q E)(hq:∀ a ls H,Q a ls H->Q' a ls H):AS T env Fs ls H st Q' E:=
 λ A s ok R=>wpAny_mono (h A s ok R) (λ v s' hh=>hh.elim λ a ls' H' x y z q=>⟨a,ls',H',x,y,z,hq _ _ _ q⟩) λ _ _ x=>x
theorem zwR {ns:List (Str×NameKind)}{x:Str}{p:PV}(h:zfC (ns.lookup x)=false){ls:Ls}:ls.lookup x=some p->(zeR ns ls).lookup x=some p:=by
 induction ls with
 | nil=>exact λ e=>by cases e
 | cons e ls ih=>
  intro e
  rename_i y
  obtain⟨y,q⟩:=y;unfold zeR at ih ⊢;rw[List.filter_cons]
  by_cases hy:x=y
  ·subst hy
   rw[if_pos (by rw[h];rfl)];rw[List.lookup_cons,beq_self_eq_true]at e ⊢;exact e
  ·have hb:=beq_eq_false_iff_ne.mpr hy
   rw[List.lookup_cons,hb]at e;split
   ·rw[List.lookup_cons,hb];exact ih e
   ·exact ih e
theorem ziN {n:Nat}(h:n<=5):IntMulOk (n:Int) (n:Int):=by
 have h:∀ n<6,Builtin.Int.intBits (n:Nat)<=64:=by decide +kernel
 exact IntMulOk.of_left (h n (Nat.lt_succ_of_le ‹_›))
end
section
variable {T:Tr}{f:FR}{env:Env}{ls:Ls}{Fs:List AF}{H:zaA}{E:Value->Shared->Prop}{s:Shared}{A:Around}
theorem zkB.some {e:Expr}{Q:Option Int->zaA->Prop}(h:AE T f Fs H e (λ p H1=>∃ i,p=.int i/\Q (Option.some i) H1) E):zkB T f Fs H (Option.some e) Q E:=h
theorem zbI {a b:Int}(h0:0<=b)(h:b<2 ^ 30):Builtin.divisionGoesByPylong a b=false:=by
 unfold Builtin.divisionGoesByPylong;simp only[Bool.and_eq_false_iff,decide_eq_false_iff_not];left;split
 ·decide
 ·have h1:b.natAbs<2 ^ 30:=by lia
  have:b.natAbs.log2<30:=(Nat.log2_lt (by rename_i q;intro e;apply q;simp;lia)).mpr h1;lia
end
theorem zsM {lo:Nat}(names:List (Str×NameKind)):∀ (n:Nat) (acc:List (Str×Addr)),(∀ y∈acc,lo<=y.2/\y.2<n)->lo<=n->acc.Pairwise (λ x y=>x.2≠y.2) ->
  (∀ y∈cellsFrom n names acc,lo<=y.2)/\(cellsFrom n names acc).Pairwise λ x y=>x.2≠y.2:=by
 induction names with
 | nil=>exact λ n acc h _ hp=>⟨λ y hy=>(h y hy).1,hp⟩
 | cons a r ih=>
  obtain⟨x,k⟩:=a;intro n acc h hl hp;rw[zhB];split
  ·exact ih (n+1) ((x,n)::acc) (λ y hy=>(List.mem_cons.mp hy).elim (λ e=>e▸⟨hl,Nat.lt_succ_self _⟩) λ hy=>⟨(h y hy).1,Nat.lt_succ_of_lt (h y hy).2⟩) (Nat.le_succ_of_le hl) (List.pairwise_cons.mpr ⟨λ y hy e=>Nat.ne_of_lt (h y hy).2 e.symm,hp⟩)
  ·exact ih n acc h hl hp
theorem zsN {cm:Str->Option Value}{cs:List (Str×Addr)}{cells:List (Addr×Obj)}(X:CellsAre cm cs cells):∀ y∈cs,∃ o,(y.2,o)∈cells/\o.data=.cell (cm y.1):=by
 induction X with
 | nil=>exact λ y h=>by cases h
 | cons hd X ih=>exact λ y h=>(List.mem_cons.mp h).elim (λ e=>e▸⟨_,.head _,hd⟩) λ h=>(ih y h).imp λ o q=>⟨.tail _ q.1,q.2⟩
theorem prs_ints {h:Heap}{vs:List Value}{xs:List Int}(X:IntsAre vs xs):PRs h (xs.map PV.int) vs:=by
 induction X with
 | nil=>exact PRs.nil
 | cons n t r ih=>exact PRs.cons PR.int ih
theorem law_end {C:Cx}{A:Around}{env:Env}{s₁ s:Shared}{body:List Stmt}(hh:C.h₀=s₁.heap)(ho:C.os=s₁.os)(hA:A.frames=some [env])(hd:A.depth<=400)(hu:A.units<=100)(hn:A.handled=none)
  (R:Rep C [.fr ⟨.fn,env,[("script",.ref C.scA)]⟩] (λ _=>none) s)
  (h:AX ⟨C,30,false⟩ env [] [("script",.ref C.scA)] (λ _=>none) body (λ a _ _=>a=.ret (.bool true)) NoE)
  {Q:Flow->Shared->Prop} {E:Value->Shared->Prop} (hQ:∀ s',(∀ b o,s₁.heap.get? b=some o->s'.heap.get? b=some o)->s'.os=s₁.os->s'.gens=#[]->Q (.ret (.bool true)) s'):
  wpAny (model C.prog C.w) A (execs body env) Q E s:=by
 refine wpAny_mono (h A s ⟨hA,by show A.depth+4*30+10<=1000;lia,by show A.units+20*30+100<=9900;lia,λ _=>hn,λ v e=>by rw[hn]at e;cases e⟩ R) (λ fl s' pp=>pp.elim λ a ls' H' fr R' k' hq=>?_) λ _ _ x=>x.elim;subst hq;cases fl with
 | ret v=>
  have:v=.bool true:=PR.bool_inv (h:=s'.heap) fr;subst this;exact hQ s' (λ b o e=>R'.keep b o (hh▸e)) (R'.os.trans ho) R'.gens
 | next=>exact fr.elim
 | brk=>exact fr.elim
 | cont=>exact fr.elim
theorem law_rep {C:Cx}(ok:C.Ok){scope:Scope}{name:Str}{fa:Addr}{cd:Value}{h1':Heap}{s₁:Shared}{d:Nat}{tk:Nat}{m cm:Str->Option Value}{cells:List (Addr×Obj)}(hh:C.h₀=s₁.heap)(ho:C.os=s₁.os)(hg:s₁.gens=#[])
  (F:Fr s₁.heap s₁.heap.objs.size h1' m) (hm:m "script" = some (.ref C.scA)) (N:News s₁.heap s₁.heap.objs.size h1' cells) (X:CellsAre cm (cellsFrom (s₁.heap.objs.size+1) scope.names []) cells)
  (hk:scope.kind=.function) (hl:scope.names.lookup ("script" : Str)=some .local) (hfree:scope.names.all (λ x=>x.2 != .free)=true):
  Rep C [.fr ⟨.fn,envOfC name scope s₁.heap.objs.size fa cd,[("script",.ref C.scA)]⟩] (λ _=>none) ⟨h1',s₁.gens,s₁.drawn,tk,s₁.os⟩:=by
 obtain⟨lo,ap⟩:=zsM (lo:=s₁.heap.objs.size+1) scope.names (s₁.heap.objs.size+1) [] (λ y hy=>by cases hy) (Nat.le_refl _) List.Pairwise.nil;have one:∀ (x:Str) (p:PV),([(("script" : Str),PV.ref C.scA)]:Ls).lookup x=some p->x = "script" /\ p=.ref C.scA:=λ x p e=>by
  rw[List.lookup_cons]at e;cases hb:x==("script" : Str) with
  | true=>rw[hb]at e;exact⟨by simpa using hb,(Option.some.inj e).symm⟩
  | false=>rw[hb]at e;cases e
 refine⟨ok,λ b o e=>F.keep b o (hh▸e),hg,ho.symm,λ f hf=>?_,List.pairwise_singleton _ _,λ a o e=>by cases e⟩;rw[List.mem_singleton.mp hf];refine⟨⟨hk,rfl,rfl,⟨m,F.ns,λ x p e _=>?_⟩,λ y hy=>?_,λ x p e k=>?_,λ x k=>?_,ap,λ y hy=>?_,λ _=>rfl⟩,λ a ha=>?_⟩
 ·obtain⟨rfl,rfl⟩:=one x p e
  exact⟨_,hm,PR.ref⟩
 ·refine q12 (zsN X y hy) λ o hm' hd=>?_
  exact⟨_,o,N.get hm',hd⟩
 ·obtain⟨rfl,rfl⟩:=one x p e
  have k:scope.names.lookup ("script" : Str)=some .cell\/scope.names.lookup ("script" : Str)=some .free:=k;rw[hl]at k;rcases k with k|k <;> cases k
 ·have k:scope.names.lookup x=some .cell\/scope.names.lookup x=some .free:=k
  rcases k with k|k
  ·exact Option.isSome_iff_exists.mp (zdZ scope.names _ _ k)
  ·have:=List.all_eq_true.mp hfree _ (mem_of_lookup k)
   simp at this
 ·exact Nat.ne_of_gt (lo y hy)
 ·rw[hh]
  have big:s₁.heap.objs.size<=a:=by
   rcases List.mem_cons.mp ha with rfl|ha
   ·exact Nat.le_refl _
   ·refine q12 (List.mem_map.mp ha) λ y hy u0=>?_;cases u0
    exact Nat.le_of_succ_le (lo y hy)
  exact Heap.get?_none_of_le big
theorem script_at {P:Params}{h:Heap}{a:Addr}{vs:List Value}{xs:List Int}(w:Well P h (.ref a) (ofPy (PyData.list (xs.map PyData.int))))(hL:h.IsList a vs.toArray)(hI:IntsAre vs xs):∃ vs n,IsL h a vs n/\PRs h (xs.map PV.int) vs.toList:=by
 refine q13 hL λ o ho hc u8=>q11 u8 λ n hd=>?_;cases w with
 | list h1 h2=>
  rw[ho]at h1;cases h1;have e:vs.toArray=_:=(Data.seq.inj hd).1.symm;exact⟨_,_,ho,by rw[<- e];exact prs_ints hI⟩
theorem miss_of {p:Program}{loose:List Str}{mean:ExcName->Option Value}{mg mb:Str->Option Value}{h:Heap}(T:Top p loose mean mg mb h){xs:List Str}
  (hx:xs.all (λ x=>!decide (x∈startupNames)&&!decide (x∈loose)&&!decide (x∈(recsOf p).map (·.name))&&!decide (x∈(litsOf p).map (·.1))&&!decide (x∈(clssOf p loose).map (·.name)))=true):∀ x∈xs,mg x=none:=λ x h=>by
 have:=List.all_eq_true.mp hx x h;simp only[Bool.and_eq_true,Bool.not_eq_true',decide_eq_false_iff_not]at this;obtain⟨⟨⟨⟨h1,h2⟩,h3⟩,h4⟩,h5⟩:=this;exact T.free x h1 h2 h3 h4 h5
noncomputable def bwAt (x y:Int)(c:Str):Int:=cond (c == "b") x y
noncomputable def znM (x y:Int)(c:Str)(z:Int):AO:=cond (c == "b") (.bw z y) (.bw x z)
noncomputable def csPut (x y:Bool)(c:Str):AO:=cond (c == "b") (.cset true y) (.cset x true)
noncomputable def csAt (x y:Bool)(c:Str):Bool:=cond (c == "b") x y
theorem zjM:("b" : Str) ≠ "w" := by decide +kernel
theorem ziU:("w" : Str) ≠ "b" := by decide +kernel
theorem stored_b (x y v:Value):stored ([("b",x),("w",y)]:List (Str×Value)) "b" v=([("b",v),("w",y)]:List (Str×Value)):=by simp[stored,ziU]
theorem stored_w (x y v:Value):stored ([("b",x),("w",y)]:List (Str×Value)) "w" v=([("b",x),("w",v)]:List (Str×Value)):=by simp[stored,zjM]
theorem merged_bw (x y:Value):merged ([]:List (Str×Value)) [("b",x),("w",y)]=([("b",x),("w",y)]:List (Str×Value)):=by simp[merged,stored,zjM]
section
variable {T:Tr}{f:FR}{env:Env}{ls:Ls}{Fs:List AF}{H:zaA}{E:Value->Shared->Prop}{s:Shared}{A:Around}
theorem zoB {C:Cx}{h:Heap}{c:Str}{v:Value}(x:PR h (.str c) v):(strKind C.prog C.w).is c v=true/\v.scannable=true:=by
 obtain⟨t,rfl⟩:=x.str_inv;exact⟨by show Value.isStrOf c (.str c t)=true;simp[Value.isStrOf],rfl⟩
noncomputable def zxU (T:Tr)(Fs:List AF)(H:zaA)(p q:PV)(Q:PV->zaA->Prop)(E:Value->Shared->Prop):Prop:=
 ∀ A s v w,AOk T Fs A->Rep T.C Fs H s->PR s.heap p v->PR s.heap q w->wpAny T.C.M A (getItem v w) (zhS T Fs s Q) E s
theorem zxU.bw {d:Addr}{x y:Int}{c:Str}{Q:PV->zaA->Prop}(hH:H d=some (.bw x y))(hc:c = "b" \/ c = "w")(h:Q (.int (bwAt x y c)) H):zxU T Fs H (.ref d) (.str c) Q E:=λ A s v w ok R pv pw=>by
 rw[pv.ref_inv];refine q21 ((R.objs d _ hH).1) λ t u D=>?_;have hk:=(zoB (C:=T.C) pw).1;rcases hc with rfl|rfl
 ·exact wpAny_getItem_of hk D.mapOf (v:=.int x t) (by simp[valueAt]) (zaI (s':={ s with toks:=s.toks+1 }) R PR.int h)
 ·exact wpAny_getItem_of hk D.mapOf (v:=.int y u) (by simp[valueAt,zjM]) (zaI (s':={ s with toks:=s.toks+1 }) R PR.int h)
theorem ASub.bw {value slice:Expr}{d:Addr}{x y:Int}{c:Str}{Q:PV->zaA->Prop}(hH:H d=some (.bw x y))(hc:c = "b" \/ c = "w")(h:Q (.int (bwAt x y c)) H)
  (hs:∀ w,subscripted slice false (.ref d) w=operate [.ref d,w] (getItem (.ref d) w):=by intro _;rfl):ASub T Fs H value slice (.ref d) (.str c) Q E:=λ A s v w ok R pv pw=>by
 have:=zxU.bw (E:=E) hH hc h A s v w ok R pv pw;rw[pv.ref_inv]at this ⊢;refine q21 ((R.objs d _ hH).1) λ t u D=>?_;exact tail_any D.typeIs slot_dict_getitem.lookup this (hs w)
theorem zdL.bw {d:Addr}{x y z:Int}{c:Str}{Q:zaA->Prop}(hH:H d=some (.bw x y))(hc:c = "b" \/ c = "w")(h:Q (upd H d (znM x y c z))):zdL T Fs H (.ref d) (.str c) (.int z) Q E:=λ A s v w u ok R pv pw pu=>by
 rw[pv.ref_inv];obtain⟨t',rfl⟩:=pu.int_inv;refine q21 ((R.objs d _ hH).1) λ t u D=>?_;have hk:=(zoB (C:=T.C) pw).1;refine wpAny_setItem_pairs hk D (λ h' D' sb=>⟨_,R.turn (o':=znM x y c z) (s':={ s with heap:=h',toks:=s.toks+1 }) hH sb.extBut ?_,R.turnKeep (s':={ s with heap:=h',toks:=s.toks+1 }) hH sb.extBut,h⟩) (show 2<=sizeLine by decide);rcases hc with rfl|rfl
 ·rw[stored_b]at D'
  exact⟨t',u,D'⟩
 ·rw[stored_w]at D'
  exact⟨t,t',D'⟩
theorem zdW.csAdd {a:Addr}{x y:Bool}(hH:H a=some (.cset x y)):zdW T Fs H "add" (.ref a) (.bi "set.add"):=λ A s v pl Q E ok R pv h=>by
 rw[pv.ref_inv]at h ⊢;refine q22 ((R.objs a _ hH).1) λ S n hS _=>?_;exact getMethod_set_add hS (h _ PR.bi)
theorem zaT.csAdd {a:Addr}{x y:Bool}{c:Str}{Q:PV->zaA->Prop}(hH:H a=some (.cset x y))(hc:c = "b" \/ c = "w")(h:Q .none (upd H a (csPut x y c))):zaT T Fs H (.bi "set.add") [.ref a,.str c] Q E:=λ A s v ws ok R pv prs=>by
 rw[pv.bi_inv];refine q23 prs.cons_inv ?_;intro w r1 u0;cases u0;intro pw prs;refine q23 prs.cons_inv ?_;intro u r2 u0;cases u0;intro pu prs;rw[prs.nil_inv,pw.ref_inv];refine q23 ((R.objs a _ hH).1) λ S n hS hk hn=>?_;obtain⟨k1,k2⟩:=zoB (C:=T.C) pu;have hn2:n<=2:=by cases x <;> cases y <;> simp at hn <;> lia
 refine call_set_add k1 k2 hS (by unfold scanBound;lia) λ h' sb hS'=>⟨.none,_,PR.none,R.turn (o':=csPut x y c) (s':={ s with heap:=h',toks:=s.toks+1 }) hH sb.extBut ?_,R.turnKeep (s':={ s with heap:=h',toks:=s.toks+1 }) hH sb.extBut,h⟩
 rcases hc with rfl|rfl
 ·refine⟨_,_,hS',λ k=>?_,?_⟩
  ·rw[hk];cases x <;> cases y <;> by_cases q:k = "b" <;> simp[q,zjM]
  ·rw[hk];cases x <;> cases y <;> simp[zjM]at hn ⊢ <;> exact hn
 ·refine⟨_,_,hS',λ k=>?_,?_⟩
  ·rw[hk];cases x <;> cases y <;> by_cases q:k = "w" <;> simp[q,ziU]
  ·rw[hk];cases x <;> cases y <;> simp[ziU]at hn ⊢ <;> exact hn
theorem ACmp.inCs {a:Addr}{x y:Bool}{c:Str}{Q:Bool->zaA->Prop}(hH:H a=some (.cset x y))(hc:c = "b" \/ c = "w")(h:Q (csAt x y c) H):ACmp T Fs H .In (.str c) (.ref a) Q E:=λ A s v w ok R pv pw=>by
 rw[pw.ref_inv];refine q23 ((R.objs a _ hH).1) λ S n hS hk hn=>?_;obtain⟨k1,k2⟩:=zoB (C:=T.C) pv;have e:S c=csAt x y c:=by
  rw[hk];rcases hc with rfl|rfl
  ·simp[csAt,zjM]
  ·simp[csAt,beq_eq_false_iff_ne.mpr ziU]
 exact wpAny_inSet_of k1 k2 hS (by rw[e];exact⟨_,rfl,zaM (s':={ s with toks:=s.toks+1 }) R h⟩)
theorem zaT.csNew {Q:PV->zaA->Prop}(h:∀ a,H a=Option.none->Q (.ref a) (upd H a (.cset false false))):zaT T Fs H (.ty "set") [] Q E:=λ A s v ws ok R pv prs=>by
 rw[pv.ty_inv,prs.nil_inv];refine zjN λ S=>⟨_,_,PR.ref,R.new (o:=.cset false false) zaE (Nat.le_refl _) ?_,zaB.of_keep zaE,h _ R.fresh⟩
 refine q41 S.size_es λ o es ep t u8=>q05 u8 λ ho hx hd hf hs=>?_;have he:es=#[]:=Array.eq_empty_of_size_eq_zero hs;subst he;exact⟨λ _=>false,0,⟨o,#[],ep,t,ho,hx,hd,(λ e he=>by simp at he),(λ k=>by simp),by decide,hf,rfl⟩,λ k=>rfl,Nat.le_refl _⟩
theorem AE.bw0 {k1 k2 k3 k4:Nat}{p1 p2 p3 p4 pos:Pos}{x y:Int}{Q:PV->zaA->Prop}(h:∀ c,H c=Option.none->Q (.ref c) (upd H c (.bw x y))):
  AE T f Fs H (.Dict [some (.Constant (.str "b") k1 p1),some (.Constant (.str "w") k2 p2)] [.Constant (.int x) k3 p3,.Constant (.int y) k4 p4] pos) Q E:=λ A s ok R=>by
 refine wpAny_Dict_pairs (knd:=strKind T.C.prog T.C.w) (pairs:=[(eval (.Constant (.str "b") k1 p1) f.env,do let x <- eval (.Constant (.int x) k3 p3) f.env;standAt pos;pure x),(eval (.Constant (.str "w") k2 p2) f.env,do let x <- eval (.Constant (.int y) k4 p4) f.env;standAt pos;pure x)]) rfl (by simp) (show 2<=15 by decide) ?_;refine evalPairs_cons (wpAny_Constant_str (wpAny_bind (wpAny_Constant_int (wpAny_bind (wpAny_standAt (wpAny_pure ?_))))));refine evalPairs_cons (wpAny_Constant_str (wpAny_bind (wpAny_Constant_int (wpAny_bind (wpAny_standAt (wpAny_pure ?_))))));refine evalPairs_nil ⟨[("b",_),("w",_)],⟨(zoB (C:=T.C) (h:=s.heap) PR.str).1,rfl,(zoB (C:=T.C) (h:=s.heap) PR.str).1,rfl,trivial⟩,Heap.DictOf.new _,λ h' D' sb=>?_⟩;have kp:∀ b o,s.heap.get? b=some o->h'.get? b=some o:=λ b o e=>sb.extBut b o (Nat.ne_of_lt (Heap.lt_size e)) (Heap.get?_push_of_some _ e);refine⟨_,_,PR.ref,R.new (o:=.bw x y) kp (Nat.le_refl _) ?_,zaB.of_keep kp,h _ R.fresh⟩;rw[merged_bw]at D';exact⟨_,_,D'⟩
end
section
variable {C:Cx}{env:Env}{ls:Ls}{Fs:List AF}{H:zaA}{E:Value->Shared->Prop}{s s₁:Shared}{A:Around}{B:Heap}
theorem zmX.pop2 {f g:AF}(hi:zmX C B s₁ (f::g::Fs) H):zmX C B s₁ (f::Fs) H:=let ⟨ds,h1,h2⟩:=hi;⟨ds,h1,λ d hd=>let ⟨a,b,c,e⟩:=h2 d hd;⟨a,b,c,λ x hx=>e x ((List.mem_cons.mp hx).elim (λ q=>q▸.head _) λ q=>.tail _ (.tail _ q))⟩⟩
noncomputable def Thr (C:Cx)(f:FR)(Fs:List AF)(X:String)(Q:zaA->Prop)(e:Value)(s:Shared):Prop:=
 (∃ a H s₁,e=.ref a/\Rep C (.fr f::Fs) H s₁/\s.gens=s₁.gens/\s.os=s₁.os/\Q H/\Heap.NewExc s₁.heap s.heap a X)\/Fly C (.fr f::Fs) X Q e s
theorem Err.of_thr {X:String}{Q:Ls->zaA->Prop}{Q':zaA->Prop}{e:Value}(h:Thr C ⟨.fn,env,ls⟩ Fs X Q' e s)(hq:∀ H,Q' H->Q ls H):Err C env Fs X Q e s:=by
 rcases h with ⟨a,H,s₁,x1,x2,x3,x4,x5,x6⟩|h
 ·exact .inl ⟨a,ls,H,s₁,x1,x2,x3,x4,hq _ x5,x6⟩
 ·exact Err.of_fly h hq
theorem ztB {M:Model}{base:Heap}{l:List Env}{e L:Addr}{cls a0:Value}{Q:Unit->Shared->Prop}(R:Heap.HeldW base l e cls a0 L s.heap)
  (h:∀ h',Heap.HeldW base l e cls a0 L h'->s.heap.UpToSlots h'->Q () { s with heap:=h' }):wpAny M A (setFlight (.ref e) (some L)) Q E s:=by
 refine q04 R λ hkb hen hl u8=>q51 u8 λ oe vs T oT ts u8=>q09 u8 λ he hcls hd h1 hnT hTe hT hdT h3=>?_;have hsz3:3<ts.size:=(Array.getElem?_eq_some_iff.mp h3).1;have other:∀ b,b≠T->(s.heap.update T (Obj.mapFields (·.setIfInBounds 3 ((some L).elim Value.none λ f=>rawInt f)))).get? b=s.heap.get? b:=
  λ b hb=>Heap.get?_update_other _ _ (Ne.symm hb)
 have noRecord:∀ b o,s.heap.get? b=some o->(∀ vs,o.data≠.fields vs)->b≠T:=λ b o hb hnf q=>by
  rw[q,hT]at hb;injection hb with hb;subst hb;exact hnf ts hdT
 unfold setFlight;refine wpAny_bind (wpAny_field he hd h1 ?_);rw[if_pos (show (Value.ref T != Value.none)=true from by simp)];refine wpAny_setField hT hdT hsz3 (h _ ⟨λ b o hbo=>(other b λ q=>by rw[q,hnT]at hbo;cases hbo).trans (hkb b o hbo),hen,
  hl.of_keeps λ b o hb hnf=>⟨o,(other b (noRecord b o hb hnf)).trans hb,rfl⟩,?_⟩ λ b o hb hnf=>⟨o.slots,(other b (noRecord b o hb hnf)).trans hb⟩)
 exact⟨oe,vs,T,_,_,(other e (Ne.symm hTe)).trans he,hcls,hd,h1,hnT,hTe,Heap.get?_update_self _ hT (Obj.isFreed_of_fields (Obj.data_mapFields hdT _)),Obj.data_mapFields hdT _,by simp[hsz3]⟩
theorem came_held {M:Model}{l:List Env}{e:Addr}{cls a0:Value}(hf:env.frame=some env.locals)(hh:Heap.HeldW B l e cls a0 env.locals s.heap)(c:C2 s.heap e)
  (k:∀ h',Heap.HeldW B l e cls a0 env.locals h'->s.heap.UpToSlots h'->C2 h' e->E (.ref e) { s with heap:=h' }):cameBackBy M A env E (.ref e) s:=by
 refine q55 hh.2.2.2 λ oe vs T oT ts he hcls hd h1 r=>?_;unfold cameBackBy;refine wpAny_bind (wpAny_field he hd h1 ?_);rw[if_neg (show ¬ ((Value.ref T==Value.none)=true) from by simp),hf];refine wpAny_mono ((K2.setFlight (.ref e) (some env.locals)).keep (ztB (Q:=λ _ s'=>∃ h',s'={ s with heap:=h' }/\Heap.HeldW B l e cls a0 env.locals h'/\s.heap.UpToSlots h') hh λ h' x1 x2=>⟨h',rfl,x1,x2⟩) c) (λ _ s' q=>?_) λ _ _ x=>x.1;obtain⟨⟨h',rfl,x1,x2⟩,c'⟩:=q;exact k h' x1 x2 c'
theorem loop_err {M:Model}{X:String}{QE:Ls->zaA->Prop}{e:Value}{it:Addr}{o:Obj}(hA:A.frames=some (env::zbJ Fs))(h:Err C env (.hid it o::Fs) X QE e s)(k:∀ s',Err C env Fs X QE e s'->E e s'):
  notedBy M A env (λ e s'=>cameBackBy M A env E e s') e s:=by
 unfold notedBy;refine zqC (Fs:=.hid it o::Fs) hA h λ s' hh=>?_;refine q61 hh ?_;clear hh;intro ls a H s₁ B a0 u8;refine q08 u8 ?_;clear u8;intro u0;cases u0;intro R1 hg hos hQ hh u1 hc2;obtain⟨hi,sl⟩:=u1;have F:FrOk s₁.heap ⟨.fn,env,ls⟩:=(R1.frs _ (.head _)).1;exact came_held (F.frame rfl) hh hc2 λ h'' y1 y2 y3=>k _ (.inr (.inr ⟨ls,a,H,s₁,B,a0,rfl,R1.pop2,hg,hos,hQ,y1,⟨hi.pop2,sl.trans y2⟩,y3⟩))
end
section
variable {T:Tr}{f:FR}{env:Env}{ls:Ls}{Fs:List AF}{H:zaA}{E:Value->Shared->Prop}{s:Shared}{A:Around}
theorem ASub.listOut {value slice:Expr}{a:Addr}{l:List PV}{k:Int}{Q:PV->zaA->Prop}{R:zaA->Prop}(hh:T.hd=false)(hH:H a=some (.list l))(hout:k < -(l.length:Int)\/(l.length:Int)<=k)(hlo:-(2 ^ 63)<=k)(hhi:k<2 ^ 63)(hR:R H)
  (hE:∀ e s,Thr T.C f Fs "IndexError" R e s->E e s) (hs:∀ u,subscripted slice false (.ref a) (.int k u)=operate [.ref a,.int k u] (getItem (.ref a) (.int k u)):=by intro _;rfl):ASub T (.fr f::Fs) H value slice (.ref a) (.int k) Q E:=λ A s v w ok R pv pw=>by
 rw[pv.ref_inv];obtain⟨t,rfl⟩:=pw.int_inv;refine q12 (zgP (R.objs a _ hH).1) λ vs il r=>?_;have hz:=zcW r;exact tail_any il.typeIs slot_list_getitem.lookup (wpAny_getItem_list_out (ok.handled hh) il (by rw[hz];exact hout) hlo hhi λ h' tk e hx=>hE _ _ (.inl ⟨e,H,s,rfl,R,rfl,rfl,hR,hx⟩)) (hs t)
noncomputable def zqI (T:Tr)(f:FR)(Fs:List AF)(H:zaA)(es:List Expr)(Q:Bool->zaA->Prop)(E:Value->Shared->Prop):Prop:=
 (es=[]->Q true H)/\(es≠[]->∀ pos A s,AOk T (.fr f::Fs) A->Rep T.C (.fr f::Fs) H s->wpAny T.C.M A (boolOp pos .And (evalEach es f.env)) (zhS T (.fr f::Fs) s (λ p H=>∃ b,p=.bool b/\Q b H)) E s)
theorem zqI.nil {Q:Bool->zaA->Prop}(h:Q true H):zqI T f Fs H [] Q E:=⟨λ _=>h,λ h=>absurd rfl h⟩
theorem zqI.cons {e:Expr}{es:List Expr}{Q:Bool->zaA->Prop}(h:AE T f Fs H e (λ p H1=>∃ c,p=.bool c/\cond c (zqI T f Fs H1 es Q E) (Q false H1)) E):zqI T f Fs H (e::es) Q E:=by
 refine⟨λ h=>(nomatch h),λ _ pos A s ok R=>?_⟩;cases es with
 | nil=>
  show wpAny _ _ (eval e f.env) _ _ _
  refine wpAny_mono (h A s ok R) (λ v s' hh=>hh.elim λ p H' a b c d=>?_) λ _ _ x=>x;refine q12 d ?_;clear d;intro cc u0;cases u0;intro d;refine⟨_,H',a,b,c,cc,rfl,?_⟩;cases cc with
  | true=>exact d.1 rfl
  | false=>exact d
 | cons e' es=>
  show wpAny _ _ (eval e f.env >>= _) _ _ _
  refine wpAny_bind (wpAny_mono (h A s ok R) (λ v s' hh=>hh.elim λ p H' a b c d=>?_) λ _ _ x=>x);refine q12 d ?_;clear d;intro cc u0;cases u0;intro d;rw[a.bool_inv];refine wpAny_bind (wpAny_standAt (wpAny_bind (wpAny_holding (wpAny_truthy_bool ?_))));cases cc with
  | true=>exact wpAny_mono (d.2 (λ q=>(nomatch q)) pos A s' ok b) (λ v' s'' hh=>hh.elim λ p' H'' a' b' c' d'=>⟨p',H'',a',b',c.trans c',d'⟩) λ _ _ x=>x
  | false=>exact wpAny_pure ⟨.bool false,H',PR.bool,b,c,false,rfl,d⟩
theorem AE.andv {es:List Expr}{pos:Pos}{Q:Bool->zaA->Prop}(hne:es≠[])(h:zqI T f Fs H es Q E):AE T f Fs H (.BoolOp .And es pos) (λ p H=>∃ b,p=.bool b/\Q b H) E:=λ A s ok R=>by
 rw[arm_eval_BoolOp];exact h.2 hne pos A s ok R
theorem AS.augI {o i value:Expr}{tpos pos:Pos}{op:Operator}{Q:AFl->Ls->zaA->Prop}
  (h:AE T ⟨.fn,env,ls⟩ Fs H o (λ p H1=>AE T ⟨.fn,env,ls⟩ Fs H1 i (λ q H2'=>zxU T (.fr ⟨.fn,env,ls⟩::Fs) H2' p q (λ old H3=>AE T ⟨.fn,env,ls⟩ Fs H3 value (λ v H4=>
   ABin T (.fr ⟨.fn,env,ls⟩::Fs) H4 (inplaceOp op) old v (λ r H5=>zdL T (.fr ⟨.fn,env,ls⟩::Fs) H5 p q r (Q .next ls) E) E) E) E) E) E)
  (hi:∀ ov iv new,augStore i ov iv new=(do holding [new,ov,iv] (setItem ov iv new);release [new,ov,iv] [];pure .next):=by intros;rfl):AS T env Fs ls H (.AugAssign (.Subscript o i tpos) op value pos) Q E:=λ A s ok R=>by
 refine wpAny_AugAssign_SubscriptAny (wpAny_mono (h A s ok R) (λ ov s₁ hh=>hh.elim λ p H1 pp R1 k1 h1'=>?_) λ _ _ x=>x) hi;refine wpAny_mono (h1' A s₁ ok R1) (λ iv s2 hh=>hh.elim λ q H2' pq R2 k2 h2=>?_) λ _ _ x=>x;refine wpAny_mono (h2 A s2 ov iv ok R2 (pp.keep k2) pq) (λ old s3 hh=>hh.elim λ r H3 po R3 k3 h3=>?_) λ _ _ x=>x;refine wpAny_mono (h3 A s3 ok R3) (λ v s4 hh=>hh.elim λ r' H4 pv R4 k4 h4=>?_) λ _ _ x=>x;refine wpAny_mono (h4 A s4 old v ok R4 (po.keep k4) pv) (λ new s5 hh=>hh.elim λ r'' H5 pn R5 k5 h5=>?_) λ _ _ x=>x;have k25:=k3.trans (k4.trans k5);refine wpAny_mono (h5 A s5 ov iv new ok R5 (pp.keep (k2.trans k25)) (pq.keep k25) pn) (λ _ s6 hh=>?_) λ _ _ x=>x;obtain⟨H6,R6,k6,h6⟩:=hh;exact⟨.next,ls,H6,trivial,R6,k1.trans (k2.trans (k25.trans k6)),h6⟩
theorem list_tailE {target:Expr}{body:List Stmt}{Q:AFl->Ls->zaA->Prop}{p:PV}{H1:zaA}{X:String}{QE:Ls->zaA->Prop}(hE:∀ e s,Err T.C env Fs X QE e s->E e s)
  {a:Addr} {l:List PV} (e1:p=.ref a) (hl:H1 a=some (.list l)) (J:Nat->Ls->zaA->Prop) (h0:J 0 ls H1)
   (h1:∀ i ls' H',J i ls' H'->H' a=some (.list l))
   (h2:∀ i p ls' H' Fs',l[i]?=some p->J i ls' H'->AA T ⟨.fn,env,ls'⟩ Fs' H' target p (λ ls1 H1=>AX T env Fs' ls1 H1 body (zhZ (J (i+1)) Q) (Err T.C env Fs' X QE)) NoE) (h3:∀ ls' H',J l.length ls' H'->Q .next ls' H'):
  zfR T env Fs ls target body Q E p H1:=
 zsS (Eb:=λ Fs'=>Err T.C env Fs' X QE) (λ A it o e s ok h=>loop_err ok.frames h λ s' h=>hE e s' h) (it_list e1 hl J h0 h1 h2 h3)
theorem owned_tup {target:Expr}{it t:Addr}{i:Nat}{y:Value}{Q:Unit->Shared->Prop}{M:Program}{w:World}(hi:IsTupIter s.heap it t i)(h:Q () s):wpAny (model M w) A (letOwnedTupleGo target (.ref it) y) Q E s:=by
 refine q13 hi λ o ho hc hd=>?_;have triv:∀ t:Expr,(∀ y,letOwnedTupleGo t (.ref it) y=pure ()\/letOwnedTupleGo t (.ref it) y=(do
   let (.ref r,.ref a):=(Value.ref it,y) | return
   let o <- load r
   match o.cls,o.data with
   | .type n,.fields vs=>
    if ["enumerate", "zip", "dict_itemiterator", "dict_reverseitemiterator", "odict_iterator", "itertools.zip_longest", "itertools.pairwise"].contains n&&vs[0]?==some (rawInt a) then
     rule "for.unpacks-the-owned-tuple"
     updateField r 0 .none
   | _,_=>pure ())):=λ t y=>by cases t <;> first|exact .inl rfl|exact .inr rfl
 rcases triv target y with e|e <;> rw[e]
 ·exact wpAny_pure h
 ·clear e triv
  cases y <;> first|exact wpAny_pure h|skip
  refine wpAny_bind (wpAny_load ho ?_);rw[hc,hd];exact wpAny_pure h
noncomputable def TupI (T:Tr)(env:Env)(Fs:List AF)(J:Nat->Ls->zaA->Prop)(h1':Heap)(it a:Addr)(len n:Nat)(s':Shared):Prop:=
 ∃ i ls' H' o,n=len-i/\i<=len/\J i ls' H'/\o.cls=.type "tuple_iterator" /\ o.data=.fields #[.ref a,.int i 0]/\Rep T.C (.fr ⟨.fn,env,ls'⟩::.hid it o::Fs) H' s'/\zaB h1' s'.heap
theorem tup_tail {target:Expr}{body:List Stmt}{Q:AFl->Ls->zaA->Prop}{p:PV}{H1:zaA}
  {l:List PV} (e1:p=.tup l) (J:Nat->Ls->zaA->Prop) (h0:J 0 ls H1)
   (h1:∀ i q ls' H' Fs',l[i]?=some q->J i ls' H'->AA T ⟨.fn,env,ls'⟩ Fs' H' target q (λ ls1 H1=>AX T env Fs' ls1 H1 body (zhZ (J (i+1)) Q) NoE) NoE) (h2:∀ ls' H',J l.length ls' H'->Q .next ls' H'):
  zfR T env Fs ls target body Q E p H1:=λ A s s₁ v ok R1 pr k1=>by
 subst e1;refine q46 pr.tup_inv ?_;intro a o vs n u0;cases u0;intro ho hc hd hs hr;have ht:IsTup s₁.heap a vs:=⟨o,ho,hc,n,hs⟩
 have hz:=zcW hr;have nt:(Value.type "tuple_iterator" : Value)≠.type "tuple" := by decide
 refine iter_tuple ht ?_;have R4:Rep T.C (.hid s₁.heap.objs.size { cls:=.type "tuple_iterator",data:=.fields #[.ref a,.int 0 0] }::.fr ⟨.fn,env,ls⟩::Fs) H1 { s₁ with heap:=s₁.heap.push { cls:=.type "tuple_iterator",data:=.fields #[.ref a,.int 0 0] } }:=
  R1.hide zaE (Nat.le_refl _) (Heap.get?_push_size _ rfl) (.cls nt)
 have R4:=R4.swap;have hne:a≠s₁.heap.objs.size:=Nat.ne_of_lt (Heap.lt_size ho);have k2:zaB s₁.heap (s₁.heap.push { cls:=.type "tuple_iterator",data:=.fields #[.ref a,.int 0 0] }):=zaB.of_keep zaE;generalize s₁.heap.objs.size=it at R4 hne ⊢;refine codeAny_forLoop_any (TupI T env Fs J s₁.heap it a l.length) ?_ l.length ⟨0,ls,_,_,rfl,Nat.zero_le _,h0,rfl,rfl,R4,k2⟩;clear R4 k2 h0;intro n s3 uu;refine q41 uu ?_;clear uu;intro i ls' H' oi u8;refine q07 u8 ?_;clear u8;intro u0;cases u0;intro hle hJ oc od R5 k3;have hit:IsTupIter s3.heap it a i:=⟨oi,(R5.frs (.hid it _) (.tail _ (.head _))).1.1,oc,od⟩
 have ht':IsTup s3.heap a vs:=⟨o,k3 a o ho hc ⟨vs,_,hs⟩,hc,_,hs⟩
 by_cases hlt:i<l.length
 ·refine q12 (hr.get i (List.getElem?_eq_getElem hlt)) λ x hx px=>?_
  refine next_tuple_item hit ht' (by rw[<- Array.getElem?_toList];exact hx) λ h' hi' sb=>?_;refine q13 (id hi') λ o' ho' oc' od'=>?_;obtain⟨R6,k6⟩:=Rep.hidden (pre:=[.fr ⟨.fn,env,ls'⟩]) (s':={ s3 with heap:=h' }) R5 sb.extBut ho' (.cls (by rw[oc'];exact nt));have kk:=k3.trans k6;refine owned_tup (s:={ s3 with heap:=h' }) hi' ?_;refine wpAny_mono (h1 i l[i] ls' H' (.hid it o'::Fs) (List.getElem?_eq_getElem hlt) hJ A { s3 with heap:=h' } x (AOk.hid ok) R6 (px.keep kk)) (λ _ s7 hh=>hh.elim λ ls1 H1' R7 k7 hX=>?_) λ _ _ e=>e.elim;refine wpAny_mono (hX A s7 (AOk.hid ok) R7) (λ fl s8 hh=>hh.elim λ b ls2 H2'' fr R8 k8 hQ=>?_) λ _ _ e=>e.elim;have k9:=kk.trans (k7.trans k8);rcases b with _ | _ | _ | p <;> cases fl <;> first|exact fr.elim|skip
  ·exact⟨_,zdX hlt,i+1,ls2,H2'',o',rfl,hlt,hQ,oc',od',R8,k9⟩
  ·exact⟨.next,ls2,H2'',trivial,R8.pop2,k1.trans k9,hQ⟩
  ·exact⟨_,zdX hlt,i+1,ls2,H2'',o',rfl,hlt,hQ,oc',od',R8,k9⟩
  ·exact⟨.ret p,ls2,H2'',fr,R8.pop2,k1.trans k9,hQ⟩
 ·have hi:i=l.length:=Nat.le_antisymm hle (Nat.le_of_not_lt hlt)
  subst hi;refine zrY ((AOk.hid (ls:=ls) (ls':=ls') (a:=it) (o:=oi) ok).hdc R5) hit ht' (by rw[<- Array.getElem?_toList,List.getElem?_eq_none_iff,Array.length_toList,hz];exact Nat.le_refl _) λ h' ext=>?_;obtain⟨R6,k6⟩:=Rep.unhide (pre:=[.fr ⟨.fn,env,ls'⟩]) (s':={ s3 with heap:=h' }) R5 ext;exact wpAny_execs_nil ⟨.next,ls',H',trivial,R6,k1.trans (k3.trans k6),h2 ls' H' hJ⟩
end
theorem zxN {α:Type}(l:List α):(List.range l.length).filterMap (λ k=>l[k]?)=l:=by
 induction l with
 | nil=>rfl
 | cons a l ih=>
  rw[List.length_cons,List.range_succ_eq_map,List.filterMap_cons]
  show a::_=_
  rw[List.filterMap_map];exact congrArg (a::·) ih
theorem fm_congr {α β:Type}{f g:α->Option β}(l:List α)(h:∀ a∈l,f a=g a):l.filterMap f=l.filterMap g:=by
 induction l with
 | nil=>rfl
 | cons a l ih=>rw[List.filterMap_cons,List.filterMap_cons,h a (.head _),ih λ b hb=>h b (.tail _ hb)]
theorem pick_rev (l:List PV):(sliceRange (sliceBounds none none (some (-1)) l.length).1 (sliceBounds none none (some (-1)) l.length).2.1 (sliceBounds none none (some (-1)) l.length).2.2).filterMap (λ k=>l[k]?)=l.reverse:=by
 rw[show sliceRange (sliceBounds none none (some (-1)) l.length).1 (sliceBounds none none (some (-1)) l.length).2.1 (sliceBounds none none (some (-1)) l.length).2.2=(List.range l.length).map λ k=>l.length-1-k from picked_rev l.length,List.filterMap_map];have:=zxN l.reverse;rw[List.length_reverse]at this;refine Eq.trans (fm_congr _ λ k hk=>?_) this;exact (List.getElem?_reverse (List.mem_range.mp hk)).symm
section
variable {T:Tr}{f:FR}{env:Env}{ls:Ls}{Fs:List AF}{H:zaA}{E:Value->Shared->Prop}{s:Shared}{A:Around}
theorem AE.sliceRev {value st:Expr}{p pos:Pos}{Q:PV->zaA->Prop}
  (h:AE T f Fs H value (λ q H1=>AE T f Fs H1 st (λ r H2'=>r=.int (-1)/\∃ a l,q=.ref a/\LAt T.C H2' a l/\l.length<=100000/\∀ c,H2' c=Option.none->Q (.ref c) (upd H2' c (.list l.reverse))) E) E):
  AE T f Fs H (.Subscript value (.Slice Option.none Option.none (some st) p) pos) Q E:=λ A s ok R=>by
 refine Subscript_ (wpAny_mono (h A s ok R) (λ v s₁ hh=>hh.elim λ q H1 qr R1 k1 h1'=>?_) λ _ _ x=>x);refine wpAny_Slice (wpAny_pure (wpAny_pure ?_));refine wpAny_mono (h1' A s₁ ok R1) (λ vu s3 hh=>hh.elim λ r' H3 rr R3 k3 h3=>?_) λ _ _ x=>x;refine q02 h3 ?_;clear h3;intro u0;cases u0;intro u8;refine q24 u8 ?_;clear u8;intro a l u1;cases u1;intro hl hz h3;obtain⟨t,rfl⟩:=rr.int_inv;rw[qr.ref_inv];refine q22 (R3.lat hl) λ vs n isl r=>?_;have hs:=zcW r;have R4:Rep T.C (.fr f::Fs) H3 { s3 with heap:=s3.heap.push { cls:=.type "slice",data:=.fields #[.none,.none,.int (-1) t] } }:=R3.ext zaE;have il':=isl.push { cls:=.type "slice",data:=.fields #[.none,.none,.int (-1) t] };have k4:zaB s3.heap (s3.heap.push { cls:=.type "slice",data:=.fields #[.none,.none,.int (-1) t] }):=zaB.of_keep zaE;refine tail_any (T := "list") il'.isList.typeIs slot_list_getitem.lookup (wpAny_getItem_list_slice (st:=some (-1)) il'.isList (Heap.IsSliceOf.new _ _ _ _) .none .none (.int (-1) t) (by simp) ?_ (by rw[hs];exact Nat.le_trans hz (by decide))) rfl;refine⟨_,_,PR.ref,R4.new (o:=.list l.reverse) zaE (Nat.le_refl _) ⟨_,_,IsL.new _ _,?_⟩,k1.trans (k3.trans (k4.trans (zaB.of_keep zaE))),h3 _ R4.fresh⟩;have:=(PRs.keep (k4.trans (zaB.of_keep (zaE (o:={ cls:=.type "list",data:=.seq (slicePick vs Option.none Option.none (some (-1))) })))) _ r).pick (sliceRange (sliceBounds Option.none Option.none (some (-1)) vs.size).1 (sliceBounds Option.none Option.none (some (-1)) vs.size).2.1 (sliceBounds Option.none Option.none (some (-1)) vs.size).2.2);have e1:(slicePick vs Option.none Option.none (some (-1))).toList=(sliceRange (sliceBounds Option.none Option.none (some (-1)) vs.size).1 (sliceBounds Option.none Option.none (some (-1)) vs.size).2.1 (sliceBounds Option.none Option.none (some (-1)) vs.size).2.2).filterMap (λ k=>vs.toList[k]?):=by
  unfold slicePick;simp
 rw[e1];rw[hs]at this ⊢;rw[pick_rev]at this;exact this
end
section
variable {T:Tr}{env:Env}{Fs:List AF}{ls:Ls}{H:zaA}{E:Value->Shared->Prop}
theorem AS.swap2 (hh:T.hd=false){x y:Str}{p1 p2 tp pos:Pos}{k:Nat}{value:Expr}{nm:List (Str×NameKind)}{Q:AFl->Ls->zaA->Prop}(hn:env.scope.names=nm)(hx:zfC (nm.lookup x)=true)(hy:zfC (nm.lookup y)=true)
  (hs:swapsWithSole [.Tuple [.Name x p1,.Name y p2] k tp] value pos.line env=pure false) (hw:swappedStores [.Tuple [.Name x p1,.Name y p2] k tp] value env=pure (some [x,y]))
  (h:AE T ⟨.fn,env,ls⟩ Fs H value (λ p H1=>∃ a b,p=.tup [a,b]/\Q .next ((x,a)::(y,b)::ls) H1) E):AS T env Fs ls H (.Assign [.Tuple [.Name x p1,.Name y p2] k tp] value pos) Q E:=λ A s ok R=>by
 refine Assign_Tuple_swapped (names:=[x,y]) ?_ hs hw;refine wpAny_mono (h A s ok R) (λ v s₁ hh'=>hh'.elim λ p H1 pr R1 k1 h1'=>?_) λ _ _ x=>x;refine q22 h1' ?_;clear h1';intro a b u0;cases u0;intro hq;refine q46 pr.tup_inv ?_;intro t o vs n u0;cases u0;intro ho hc hd hs' r;refine q23 r.cons_inv λ va r1 e1 pa r=>?_;refine q23 r.cons_inv λ vb r2 e2 pb r=>?_;rw[e2,r.nil_inv]at e1;have hz:vs.size=[x,y].length:=by rw[<- Array.length_toList,e1];rfl
 rw[<- hz];refine unpackItems_tuple (ok.handled hh) ⟨o,ho,hc,n,hs'⟩ λ h' ext=>?_;rw[e1];have kp:∀ b o,s₁.heap.get? b=some o->h'.get? b=some o:=λ b o e=>ext b o (Nat.ne_of_lt (Heap.lt_size e)) e;have tk:=zaB.of_keep kp
 show wpAny T.C.M A (do holding [va] (bindName env y vb);assignInOrder [bindName env x] [va]) _ E _
 refine wpAny_bind (wpAny_holding (wpAny_bindName (zdE (R1.ext (s':={ s₁ with heap:=h' }) kp) (zeE hn hy) (pb.keep tk) λ s2 R2 k2=>?_)))
 show wpAny T.C.M A (do holding [] (bindName env x va);assignInOrder [] []) _ E _
 refine wpAny_bind (wpAny_holding (wpAny_bindName (zdE R2 (zeE hn hx) ((pa.keep tk).keep k2) λ s3 R3 k3=>?_)));exact wpAny_pure ⟨.next,_,H1,trivial,R3,((k1.trans tk).trans k2).trans k3,hq⟩
end
noncomputable abbrev LN:=List (Nat×PV)
inductive CT where
 | one (x:Nat)
 | many (xs:List Nat)
inductive IE where
 | int (i:Int)
 | str (s:Str)
 | none
 | bool (b:Bool)
 | var (x:Nat)
 | glob (p:PV)
 | bin (o:Operator) (a b:IE)
 | un (o:UnaryOp) (a:IE)
 | cmp (o:CmpOp) (a b:IE)
 | cmp2 (o o':CmpOp) (a b c:IE)
 | boolop (o:BoolOp) (l:IE)
 | ife (t a b:IE)
 | nil
 | cons (a b:IE)
 | tup (l:IE)
 | list (l:IE)
 | attr (a:IE) (x:Str)
 | sub (a i:IE)
 | slice (a lo hi:IE)
 | call (g:PV) (l:IE)
 | meth (o:IE) (x:Str) (l:IE)
 | comp (t:CT) (it fs e:IE)
 | compRR (x y:Nat) (i1 i2 fs e:IE)
 | bw0 (x y:Int)
inductive IT where
 | var (x:Nat)
 | tup (l:IT)
 | tupS (t:IT)
 | tupL (l:IT)
 | nil
 | cons (a b:IT)
 | attr (e:IE) (x:Str)
 | sub (e i:IE)
inductive IS where
 | skip
 | seq (a b:IS)
 | cut (a:IS)
 | expr (e:IE)
 | assign (t:IT) (e:IE)
 | assignC (x:Nat) (e:IE)
 | ite (t:IE) (a b:IS)
 | ret (e:IE)
 | dead
 | cont
 | for_ (t:IT) (it:IE) (b:IS)
 | while_ (t:IE) (b:IS)
 | try_ (b:IS) (x:Str) (Y:String) (h:IS)
 | raise_ (x:Str) (Y:String)
 | augS (d i:IE) (o:Operator) (e:IE)
 | swap (x y:Nat) (e:IE)
set_option genCtorIdx true in
inductive Md where
 | v|t|a|o|b
@[irreducible] noncomputable def SBin (T:Tr) (op:Value->Value->Sem Value) (p q:PV) (H:zaA) (Q:PV->zaA->Prop):Prop:=∀ Fs,ABin T Fs H op p q Q NoE
@[irreducible] noncomputable def SCmp (T:Tr) (op:CmpOp) (p q:PV) (H:zaA) (Q:Bool->zaA->Prop):Prop:=∀ Fs,ACmp T Fs H op p q Q NoE
@[irreducible] noncomputable def STr (T:Tr) (p:PV) (H:zaA) (Q:Bool->zaA->Prop):Prop:=∀ Fs,ATr T Fs H p Q NoE
@[irreducible] noncomputable def SGet (T:Tr) (x:Str) (p:PV) (H:zaA) (Q:PV->zaA->Prop):Prop:=∀ Fs,AGet T Fs H x p Q NoE
@[irreducible] noncomputable def zbQ (T:Tr) (x:Str) (p:PV) (H:zaA) (g:PV):Prop:=zgL T.C.K g=true/\∀ Fs,zdW T Fs H x p g
@[irreducible] noncomputable def SSub (T:Tr) (p q:PV) (H:zaA) (Q:PV->zaA->Prop):Prop:=∀ Fs value slice,(∀ o i,subscripted slice false o i=operate [o,i] (getItem o i))->ASub T Fs H value slice p q Q NoE
@[irreducible] noncomputable def zaQ (T:Tr) (p i q:PV) (H:zaA) (Q:zaA->Prop):Prop:=∀ Fs,zdL T Fs H p i q Q NoE
@[irreducible] noncomputable def zaP (T:Tr) (x:Str) (p q:PV) (H:zaA) (Q:zaA->Prop):Prop:=∀ Fs,zhW T Fs H x p q Q NoE
@[irreducible] noncomputable def zaG (T:Tr) (X:String) (g:PV) (ps:List PV) (H:zaA) (Q:PV->zaA->Prop) (R:zaA->Prop):Prop:=
 ∀ Fs E,(∀ e s,Fly T.C Fs X R e s->E e s)->zaT T Fs H g ps Q E
noncomputable def zfI (p q:PV)(A:Int->Int->Prop)(B:Prop):Prop:=match p with
 | .int a=>(match q with
  | .int b=>A a b
  | _=>B)
 | _=>B
noncomputable def onStrs (p q:PV)(A:Str->Str->Prop)(B:Prop):Prop:=match p with
 | .str a=>(match q with
  | .str b=>A a b
  | _=>B)
 | _=>B
noncomputable def onNone (q:PV)(A B:Prop):Prop:=match q with
 | .none=>A
 | _=>B
noncomputable def wBin (T:Tr)(o:Operator)(p q:PV)(H:zaA)(Q:PV->zaA->Prop):Prop:=match o with
 | .Add=>zfI p q (λ a b=>Q (.int (a+b)) H) (SBin T (binaryOp .Add) p q H Q)
 | .Sub=>zfI p q (λ a b=>Q (.int (a-b)) H) (SBin T (binaryOp .Sub) p q H Q)
 | .Mult=>zfI p q (λ a b=>IntMulOk a b/\Q (.int (a*b)) H) (SBin T (binaryOp .Mult) p q H Q)
 | .Mod=>zfI p q (λ a b=>b≠0/\Q (.int (a.fmod b)) H) (SBin T (binaryOp .Mod) p q H Q)
 | .FloorDiv=>zfI p q (λ a b=>(b≠0/\Builtin.divisionGoesByPylong a b=false)/\Q (.int (a.fdiv b)) H) (SBin T (binaryOp .FloorDiv) p q H Q)
 | .Pow=>zfI p q (λ a b=>(0<=b/\(Builtin.Int.intBits a:Int)*b<=2 ^ 27)/\Q (.int (a ^ b.toNat)) H) (SBin T (binaryOp .Pow) p q H Q)
 | _=>False
noncomputable def wAug (T:Tr)(o:Operator)(p q:PV)(H:zaA)(Q:PV->zaA->Prop):Prop:=SBin T (inplaceOp o) p q H Q
noncomputable def wCmp (T:Tr)(o:CmpOp)(p q:PV)(H:zaA)(Q:Bool->zaA->Prop):Prop:=match o with
 | .Lt=>zfI p q (λ a b=>Q (decide (a<b)) H) (SCmp T .Lt p q H Q)
 | .LtE=>zfI p q (λ a b=>Q (decide (a<=b)) H) (SCmp T .LtE p q H Q)
 | .Gt=>zfI p q (λ a b=>Q (decide (b<a)) H) (SCmp T .Gt p q H Q)
 | .GtE=>zfI p q (λ a b=>Q (decide (b<=a)) H) (SCmp T .GtE p q H Q)
 | .Eq=>zfI p q (λ a b=>Q (decide (a=b)) H) (onStrs p q (λ a b=>Q (a==b) H) (SCmp T .Eq p q H Q))
 | .NotEq=>zfI p q (λ a b=>Q (!decide (a=b)) H) (onStrs p q (λ a b=>Q (a != b) H) (SCmp T .NotEq p q H Q))
 | .Is=>onNone q (Q p.isNone H) (SCmp T .Is p q H Q)
 | .IsNot=>onNone q (Q (!p.isNone) H) (SCmp T .IsNot p q H Q)
 | .NotIn=>SCmp T .In p q H (λ b H'=>Q (!b) H')
 | .In=>SCmp T .In p q H Q
noncomputable def wTr (T:Tr)(p:PV)(H:zaA)(Q:Bool->zaA->Prop):Prop:=match p with
 | .bool b=>Q b H
 | .int i=>Q (!decide (i=0)) H
 | p=>STr T p H Q
noncomputable def wFin (T:Tr)(m:Md)(Q:PV->zaA->Prop)(p:PV)(H:zaA):Prop:=match m with
 | .v=>Q p H
 | .t=>wTr T p H (λ b H'=>Q (.bool b) H')
 | _=>False
noncomputable def wUn (T:Tr)(o:UnaryOp)(p:PV)(H:zaA)(Q:PV->zaA->Prop):Prop:=match o,p with
 | .USub,.int a=>Q (.int (-a)) H
 | .Not,p=>wTr T p H (λ b H'=>Q (.bool (!b)) H')
 | _,_=>False
noncomputable def lkN (x:Nat):LN->Option PV
 | []=>Option.none
 | (y,p)::l=>cond (Nat.beq x y) (some p) (lkN x l)
noncomputable def IE.isNo:IE->Bool
 | .none=>true
 | _=>false
noncomputable def wPart (no:Bool)(lo:PV)(Q:Option Int->Prop):Prop:=match no,lo with
 | true,_=>Q Option.none
 | false,.int i=>Q (some i)
 | false,_=>False
@[irreducible] noncomputable def SRev (T:Tr) (p:PV) (H:zaA) (Q:PV->zaA->Prop):Prop:=
 ∃ a l,p=.ref a/\LAt T.C H a l/\l.length<=100000/\∀ c,H c=Option.none->Q (.ref c) (upd H c (.list l.reverse))
noncomputable def IE.isCons:IE->Bool
 | .cons _ _=>true
 | _=>false
@[irreducible] noncomputable def zqO (T:Tr) (p q:PV) (H:zaA) (Q:PV->zaA->Prop):Prop:=∀ Fs,zxU T Fs H p q Q NoE
@[irreducible] noncomputable def SSubR (T:Tr) (X:String) (p q:PV) (H:zaA) (Q:PV->zaA->Prop) (R:zaA->Prop):Prop:=
 SSub T p q H Q\/X = "IndexError" /\ T.hd=false/\R H/\∃ a l k,p=.ref a/\H a=some (.list l)/\q=.int k/\(k < -(l.length:Int)\/(l.length:Int)<=k)/\-(2 ^ 63)<=k/\k<2 ^ 63
@[irreducible] noncomputable def zdV (T:Tr) (p:PV) (lo hi:Option Int) (H:zaA) (Q:PV->zaA->Prop):Prop:=
 ∃ a l,p=.ref a/\LAt T.C H a l/\l.length<=100000/\∀ c,H c=Option.none->Q (.ref c) (upd H c (.list (zgX l lo hi)))
inductive zfD (T:Tr)(p:PV)(H:zaA)(step:PV->zaA->(Option PV->zaA->Prop)->Prop)(Q:PV->zaA->Prop):Prop
 | list (a:Addr) (l:List PV) (e:p=.ref a) (hl:H a=some (.list l)) (hz:l.length<=100000) (J:Nat->List PV->zaA->Prop) (h0:J 0 [] H)
   (hk:∀ i out H',J i out H'->H' a=some (.list l))
   (turn:∀ i v out H',l[i]?=some v->J i out H'->step v H' (λ r H''=>J (i+1) (out++r.toList) H''))
   (fin:∀ out H',J l.length out H'->∃ H2',Ext H2' H'/\∀ c,H2' c=Option.none->Q (.ref c) (upd H2' c (.list out))):zfD T p H step Q
 | rangeF (a:Addr) (lo n:Nat) (e:p=.ref a) (hle:lo<=n) (hl:H a=some (.range lo n)) (hz:n<=100000) (J:Nat->List PV->zaA->Prop) (h0:J lo [] H)
   (turn:∀ (i:Nat) out H',lo<=i->i<n->J i out H'->step (.int i) H' (λ r H''=>J (i+1) (out++r.toList) H''))
   (fin:∀ out H',J n out H'->∃ H2',Ext H2' H'/\∀ c,H2' c=Option.none->Q (.ref c) (upd H2' c (.list out))):zfD T p H step Q
theorem zfD.range {T:Tr}{p:PV}{H:zaA}{step:PV->zaA->(Option PV->zaA->Prop)->Prop}{Q:PV->zaA->Prop}(a:Addr)(n:Nat)(e:p=.ref a)(hl:H a=some (.range 0 n))(hz:n<=100000)(J:Nat->List PV->zaA->Prop)(h0:J 0 [] H)
  (turn:∀ (i:Nat) out H',i<n->J i out H'->step (.int i) H' (λ r H''=>J (i+1) (out++r.toList) H''))
  (fin:∀ out H',J n out H'->∃ H2',Ext H2' H'/\∀ c,H2' c=Option.none->Q (.ref c) (upd H2' c (.list out))):zfD T p H step Q:=.rangeF a 0 n e (Nat.zero_le n) hl hz J h0 (λ i out H' _=>turn i out H') fin
noncomputable def zrW:CT->PV->LN->Option LN
 | .one x,p,ls=>some ((x,p)::ls)
 | .many [x,y],.tup [p,q],ls=>some ((y,q)::(x,p)::ls)
 | _,_,_=>Option.none
noncomputable def CT.vars:CT->List Nat
 | .one x=>[x]
 | .many xs=>xs
noncomputable def zhU (vs:List Nat):LN->LN
 | []=>[]
 | (y,p)::l=>cond (vs.any (Nat.beq y)) (zhU vs l) ((y,p)::zhU vs l)
noncomputable def cutT (A:List PV->zaA->Prop)(p:PV)(H:zaA):Prop:=match p with
 | .tup ps=>A ps H
 | _=>False
noncomputable def noR:zaA->Prop:=λ _=>False
noncomputable def w (T:Tr)(X:String):IE->Md->LN->zaA->(zaA->Prop)->(PV->zaA->Prop)->Prop
 | .int i,m,ls,H,R,Q=>wFin T m Q (.int i) H
 | .str i,m,ls,H,R,Q=>wFin T m Q (.str i) H
 | .none,m,ls,H,R,Q=>wFin T m Q .none H
 | .bool i,m,ls,H,R,Q=>wFin T m Q (.bool i) H
 | .var x,m,ls,H,R,Q=>match lkN x ls with
  | some p=>wFin T m Q p H
  | Option.none=>False
 | .glob p,m,ls,H,R,Q=>wFin T m Q p H
 | .bin o a b,m,ls,H,R,Q=>w T X a .v ls H R λ p H1=>w T X b .v ls H1 R λ q H2'=>wBin T o p q H2' (wFin T m Q)
 | .un o a,m,ls,H,R,Q=>match m,o with
  | .t,.Not=>w T X a .t ls H R λ p H1=>match p with
   | .bool b=>Q (.bool (!b)) H1
   | _=>False
  | .v,o=>w T X a .v ls H R λ p H1=>wUn T o p H1 Q
  | _,_=>False
 | .cmp o a b,m,ls,H,R,Q=>match m with
  | .v=>w T X a .v ls H R λ p H1=>w T X b .v ls H1 R λ q H2'=>wCmp T o p q H2' λ c H3=>Q (.bool c) H3
  | .t=>w T X a .v ls H R λ p H1=>w T X b .v ls H1 R λ q H2'=>wCmp T o p q H2' λ c H3=>Q (.bool c) H3
  | _=>False
 | .cmp2 o o' a b c,m,ls,H,R,Q=>match m with
  | .t=>w T X a .v ls H R λ p H1=>w T X b .v ls H1 R λ q H2'=>wCmp T o p q H2' λ d H3=>cond d (w T X c .v ls H3 R λ q' H4=>wCmp T o' q q' H4 λ d' H5=>Q (.bool d') H5) (Q (.bool false) H3)
  | _=>False
 | .boolop o l,m,ls,H,R,Q=>match m,o with
  | .t,.And=>w T X l .a ls H R Q
  | .t,.Or=>w T X l .o ls H R Q
  | .v,.And=>cond l.isCons (w T X l .b ls H R Q) False
  | _,_=>False
 | .ife t a b,m,ls,H,R,Q=>match m with
  | .v=>w T X t .t ls H R λ p H1=>match p with
   | .bool c=>cond c (w T X a .v ls H1 R Q) (w T X b .v ls H1 R Q)
   | _=>False
  | _=>False
 | .nil,m,ls,H,R,Q=>match m with
  | .v=>Q (.tup []) H
  | .a=>Q (.bool true) H
  | .o=>Q (.bool false) H
  | .b=>Q (.bool true) H
  | .t=>False
 | .cons a b,m,ls,H,R,Q=>match m with
  | .v=>w T X a .v ls H R λ p H1=>w T X b .v ls H1 R (cutT λ ps H2'=>Q (.tup (p::ps)) H2')
  | .a=>w T X a .t ls H R λ p H1=>match p with
   | .bool c=>cond c (w T X b .a ls H1 R Q) (Q (.bool false) H1)
   | _=>False
  | .o=>w T X a .t ls H R λ p H1=>match p with
   | .bool c=>cond c (Q (.bool true) H1) (w T X b .o ls H1 R Q)
   | _=>False
  | .b=>w T X a .v ls H R λ p H1=>match p with
   | .bool c=>cond c (w T X b .b ls H1 R Q) (Q (.bool false) H1)
   | _=>False
  | .t=>False
 | .tup l,m,ls,H,R,Q=>w T X l .v ls H R (cutT λ ps H1=>cond (Nat.ble ps.length 1000) (wFin T m Q (.tup ps) H1) False)
 | .list l,m,ls,H,R,Q=>w T X l .v ls H R (cutT λ ps H1=>cond (Nat.ble ps.length 1000) (∀ c,H1 c=Option.none->wFin T m Q (.ref c) (upd H1 c (.list ps))) False)
 | .attr a x,m,ls,H,R,Q=>w T X a .v ls H R λ p H1=>SGet T x p H1 (wFin T m Q)
 | .sub a i,m,ls,H,R,Q=>w T X a .v ls H R λ p H1=>w T X i .v ls H1 R λ q H2'=>SSub T p q H2' (wFin T m Q)
 | .slice a lo hi,m,ls,H,R,Q=>w T X a .v ls H R λ p H1=>w T X lo .v ls H1 R λ i H2'=>wPart lo.isNo i λ i'=>w T X hi .v ls H2' R λ j H3=>wPart hi.isNo j λ j'=>zdV T p i' j' H3 (wFin T m Q)
 | .call g l,m,ls,H,R,Q=>w T X l .v ls H R (cutT λ ps H1=>zaG T X g ps H1 (wFin T m Q) R)
 | .meth o x l,m,ls,H,R,Q=>w T X o .v ls H R λ p H1=>∃ g,zbQ T x p H1 g/\w T X l .v ls H1 R (cutT λ ps H2'=>zaG T X g (p::ps) H2' (wFin T m Q) R)
 | .comp t it fs e,m,ls,H,R,Q=>w T X it .v ls H R λ p H1=>zfD T p H1 (λ v H' K=>match zrW t v (zhU t.vars ls) with
  | some ls'=>w T X fs .a ls' H' noR λ b H2'=>match b with
   | .bool b=>cond b (w T X e .v ls' H2' noR λ r H3=>K (some r) H3) (K Option.none H2')
   | _=>False
  | Option.none=>False) (wFin T m Q)
 | .compRR x y i1 i2 fs e,m,ls,H,R,Q=>∃ (n k:Nat) (g:Nat->Nat->Option PV),n*k<=90000/\n<2 ^ 62/\k<2 ^ 62/\w T X i1 .v ls H R λ p H1=>∃ a,p=.ref a/\H1 a=some (.range 0 n) /\
   (∀ (i:Nat) H',i<n->Ext H1 H'->w T X i2 .v ((x,.int i)::zhU [x,y] ls) H' noR λ q H2'=>∃ b,q=.ref b/\H2' b=some (.range 0 k)/\Ext H1 H2') /\
   (∀ (i j:Nat) H',i<n->j<k->Ext H1 H'->w T X fs .a ((y,.int j)::(x,.int i)::zhU [x,y] ls) H' noR λ b H2'=>match b with
    | .bool b=>Ext H1 H2'/\cond b (∃ r,g i j=some r/\w T X e .v ((y,.int j)::(x,.int i)::zhU [x,y] ls) H2' noR λ q H3=>q=r/\Ext H1 H3) (g i j=Option.none)
    | _=>False) /\
   ∀ c,H1 c=Option.none->wFin T m Q (.ref c) (upd H1 c (.list (zbL n k g)))
 | .bw0 x y,m,ls,H,R,Q=>∀ c,H c=Option.none->wFin T m Q (.ref c) (upd H c (.bw x y))
noncomputable def IT.len:IT->Nat
 | .cons _ b=>b.len+1
 | _=>0
noncomputable def lenOk (p:PV)(n:Nat):Bool:=match p with
 | .tup ps=>Nat.beq ps.length n
 | _=>false
noncomputable def wT (T:Tr)(X:String):IT->PV->LN->zaA->(LN->zaA->Prop)->(LN->zaA->Prop)->Prop
 | .var x,p,ls,H,R,Q=>Q ((x,p)::ls) H
 | .tup l,p,ls,H,R,Q=>cond (lenOk p l.len) (wT T X l p ls H R Q) False
 | .tupS t,p,ls,H,R,Q=>∃ a q,p=.ref a/\H a=some (.pset [q])/\wT T X t (pt q) ls H R Q
 | .tupL l,p,ls,H,R,Q=>∃ a ps,p=.ref a/\LAt T.C H a ps/\Nat.beq ps.length l.len=true/\wT T X l (.tup ps) ls H R Q
 | .nil,p,ls,H,R,Q=>match p with
  | .tup []=>Q ls H
  | _=>False
 | .cons a b,p,ls,H,R,Q=>match p with
  | .tup (q::ps)=>wT T X a q ls H R λ ls' H'=>wT T X b (.tup ps) ls' H' R Q
  | _=>False
 | .attr e x,p,ls,H,R,Q=>w T X e .v ls H (R ls) λ q H1=>zaP T x q p H1 λ H2'=>Q ls H2'
 | .sub e i,p,ls,H,R,Q=>w T X e .v ls H (R ls) λ q H1=>w T X i .v ls H1 (R ls) λ j H2'=>zaQ T q j p H2' λ H3=>Q ls H3
noncomputable def zkF (N:LN->zaA->Prop)(Q:AFl->LN->zaA->Prop)(a:AFl)(ls:LN)(H:zaA):Prop:=match a with
 | .next=>N ls H
 | .cont=>N ls H
 | .brk=>Q .next ls H
 | .ret p=>Q (.ret p) ls H
noncomputable def SubN:LN->LN->Prop
 | [],_=>True
 | (x,p)::l,ls=>lkN x ls=some p/\SubN l ls
noncomputable def ziO {α:Type}(L:α->LN)(J:α->zaA->Prop)(ls:LN)(H:zaA):Prop:=∃ b,SubN (L b) ls/\J b H
inductive WFor (T:Tr)(p:PV)(ls:LN)(H:zaA)(step:PV->LN->zaA->(AFl->LN->zaA->Prop)->Prop)(Q:AFl->LN->zaA->Prop):Prop
 | list (a:Addr) (l:List PV) (e:p=.ref a) (hl:H a=some (.list l)) (α:Type) (L:α->LN) (J:Nat->α->zaA->Prop) (b0:α) (s0:SubN (L b0) ls) (h0:J 0 b0 H)
   (hk:∀ i b H',J i b H'->H' a=some (.list l))
   (turn:∀ i v b H',l[i]?=some v->J i b H'->step v (L b) H' (zkF (ziO L (J (i+1))) Q))
   (fin:∀ b H',J l.length b H'->Q .next (L b) H'):WFor T p ls H step Q
 | grow (a:Addr) (e:p=.ref a) (hl:∃ l,H a=some (.list l)) (α:Type) (L:α->LN) (J:Nat->Nat->α->zaA->Prop) (n:Nat) (b0:α) (s0:SubN (L b0) ls) (h0:J n 0 b0 H)
   (turn:∀ n i b H',J n i b H'->∃ l,H' a=some (.list l)/\(∀ v,l[i]?=some v->step v (L b) H' (zkF (ziO L (λ b H2'=>∃ m,m<n/\J m (i+1) b H2')) Q))/\(l.length<=i->Q .next (L b) H')):WFor T p ls H step Q
 | range (a:Addr) (n:Nat) (e:p=.ref a) (hl:H a=some (.range 0 n)) (hz:n<2 ^ 62) (α:Type) (L:α->LN) (J:Nat->α->zaA->Prop) (b0:α) (s0:SubN (L b0) ls) (h0:J 0 b0 H)
   (turn:∀ (i:Nat) b H',i<n->J i b H'->step (.int i) (L b) H' (zkF (ziO L (J (i+1))) Q))
   (fin:∀ b H',J n b H'->Q .next (L b) H'):WFor T p ls H step Q
 | set (hh:T.hd=false) (a:Addr) (l:List Pt) (e:p=.ref a) (hl:H a=some (.pset l)) (α:Type) (L:α->LN)
   (J:List Pt->Nat->α->zaA->Prop) (b0:α) (s0:SubN (L b0) ls) (h0:∀ l':List Pt,l'.Perm l->J l' 0 b0 (rem H a))
   (turn:∀ (l':List Pt) i q b H',l'.Perm l->l'[i]?=some q->J l' i b H'->step (pt q) (L b) H' (zkF (ziO L (J l' (i+1))) (λ _ _ _=>False)))
   (fin:∀ (l':List Pt) b H',l'.Perm l->J l' l'.length b H'->Q .next (L b) (upd H' a (.pset l))):WFor T p ls H step Q
 | tup (l:List PV) (e:p=.tup l) (α:Type) (L:α->LN) (J:Nat->α->zaA->Prop) (b0:α) (s0:SubN (L b0) ls) (h0:J 0 b0 H)
   (turn:∀ i v b H',l[i]?=some v->J i b H'->step v (L b) H' (zkF (ziO L (J (i+1))) Q))
   (fin:∀ b H',J l.length b H'->Q .next (L b) H'):WFor T p ls H step Q
@[irreducible] noncomputable def WForR (T:Tr) (p:PV) (ls:LN) (H:zaA) (step:PV->LN->zaA->(AFl->LN->zaA->Prop)->Prop) (Q:AFl->LN->zaA->Prop):Prop:=
 ∃ (a:Addr) (l:List PV),p=.ref a/\H a=some (.list l)/\∃ (α:Type) (L:α->LN) (J:Nat->α->zaA->Prop) (b0:α),SubN (L b0) ls/\J 0 b0 H/\(∀ i b H',J i b H'->H' a=some (.list l)) /\
  (∀ i v b H',l[i]?=some v->J i b H'->step v (L b) H' (zkF (ziO L (J (i+1))) Q))/\∀ b H',J l.length b H'->Q .next (L b) H'
noncomputable def cutK {α:Type}(L:α->LN)(P:α->zaA->Prop)(Q:AFl->LN->zaA->Prop)(a:AFl)(ls:LN)(H:zaA):Prop:=match a with
 | .next=>ziO L P ls H
 | .brk=>Q .brk ls H
 | .cont=>Q .cont ls H
 | .ret p=>Q (.ret p) ls H
noncomputable def noRL:LN->zaA->Prop:=λ _ _=>False
structure zuA (X Y:String):Prop where
 exc:isSubtype (.type Y) (.type "BaseException")=pure true
 tup:isSubtype (.type ((Manifest.find? Y).elim "type" λ y=>y.metatype)) (.type "tuple")=pure false
 sub:isSubtype (.type X) (.type Y)=pure true
structure RaiseOk (Y:String):Prop where
 cls:∃ N I,ExcClass Y N I
 self:isSubtype (.type Y) (.type Y)=pure true
noncomputable def wS:IS->String->Tr->LN->zaA->(LN->zaA->Prop)->(AFl->LN->zaA->Prop)->Prop
 | .skip,X,T,ls,H,R,Q=>Q .next ls H
 | .seq a b,X,T,ls,H,R,Q=>wS a X T ls H R λ fl ls' H'=>match fl with
  | .next=>wS b X T ls' H' R Q
  | fl=>Q fl ls' H'
 | .cut a,X,T,ls,H,R,Q=>∃ (α:Type) (L:α->LN) (P:α->zaA->Prop),wS a X T ls H R (cutK L P Q)/\∀ b H',P b H'->Q .next (L b) H'
 | .expr e,X,T,ls,H,R,Q=>w T X e .v ls H (R ls) λ _ H'=>Q .next ls H'
 | .assign t e,X,T,ls,H,R,Q=>w T X e .v ls H (R ls) λ p H1=>wT T X t p ls H1 R λ ls' H'=>Q .next ls' H'
 | .assignC x e,X,T,ls,H,R,Q=>w T X e .v ls H (R ls) λ p H1=>Q .next ((x,p)::ls) H1
 | .swap x y e,X,T,ls,H,R,Q=>w T X e .v ls H (R ls) λ p H1=>∃ a b,p=.tup [a,b]/\Q .next ((x,a)::(y,b)::ls) H1
 | .ite t a b,X,T,ls,H,R,Q=>w T X t .t ls H (R ls) λ p H1=>match p with
  | .bool c=>cond c (wS a X T ls H1 R Q) (wS b X T ls H1 R Q)
  | _=>False
 | .ret e,X,T,ls,H,R,Q=>w T X e .v ls H (R ls) λ p H1=>Q (.ret p) ls H1
 | .dead,X,T,ls,H,R,Q=>False
 | .cont,X,T,ls,H,R,Q=>Q .cont ls H
 | .for_ t it b,X,T,ls,H,R,Q=>w T X it .v ls H (R ls) λ p H1=>WFor T p ls H1 (λ v ls' H' K=>wT T X t v ls' H' noRL λ ls'' H''=>wS b X T ls'' H'' noRL K) Q
 | .while_ t b,X,T,ls,H,R,Q=>∃ (α:Type) (L:α->LN) (I:Nat->α->zaA->Prop) (n:Nat) (b0:α),SubN (L b0) ls/\I n b0 H/\∀ n b1 H',I n b1 H'->w T X t .t (L b1) H' noR λ p H1=>match p with
  | .bool c=>cond c (wS b X T (L b1) H1 noRL (zkF (ziO L (λ b2 H2'=>∃ m,m<n/\I m b2 H2')) Q)) (Q .next (L b1) H1)
  | _=>False
 | .try_ b x Y h,X,T,ls,H,R,Q=>∃ (X':String) (QE:LN->zaA->Prop),zuA X' Y/\wS b X' T ls H QE Q/\∀ ls' H',QE ls' H'->wS h X T.inH ls' H' noRL Q
 | .raise_ x Y,X,T,ls,H,R,Q=>X=Y/\RaiseOk Y/\R ls H
 | .augS d i o e,X,T,ls,H,R,Q=>w T X d .v ls H (R ls) λ p H1=>w T X i .v ls H1 (R ls) λ q H2'=>zqO T p q H2' λ old H3=>w T X e .v ls H3 (R ls) λ v H4=>wAug T o old v H4 λ r H5=>zaQ T p q r H5 λ H6=>Q .next ls H6
noncomputable abbrev GT:=List (Str×PV×Bool)
noncomputable def GOk1 (C:Cx)(x:Str)(p:PV)(c:Bool):Prop:=(c=true->zgL C.K p=true)/\match p with
 | .ref a=>nsIn C.K mainGlobals x=some (some (.ref a))
 | .ty n=>C.mg x=none/\bootBuiltins x=some (.type n)
 | .bi n=>C.mg x=none/\bootBuiltins x=some (.builtin n)
 | _=>False
noncomputable def GOk (C:Cx)(G:GT):Prop:=∀ e∈G,GOk1 C e.1 e.2.1 e.2.2
noncomputable def gEq:PV->PV->Bool
 | .ref a,.ref b=>Nat.beq a b
 | .ty a,.ty b=>a==b
 | .bi a,.bi b=>a==b
 | _,_=>false
theorem gEq_eq {p q:PV}(h:gEq p q=true):p=q:=by
 cases p with
 | ref a=>cases q with
  | ref b=>exact congrArg PV.ref (Nat.eq_of_beq_eq_true h)
  | _=>cases h
 | ty a=>cases q with
  | ty b=>exact congrArg PV.ty (eq_of_beq (α:=String) h)
  | _=>cases h
 | bi a=>cases q with
  | bi b=>exact congrArg PV.bi (eq_of_beq (α:=String) h)
  | _=>cases h
 | _=>cases h
noncomputable def gHas (G:GT)(s:Str)(p:PV)(call:Bool):Bool:=G.any λ e=>e.1==s&&gEq e.2.1 p&&(!call||e.2.2)
noncomputable def ztV (nm:List (Str×NameKind))(s:Str):Bool:=nm.lookup s==some .globalImplicit&&s != "__name__" && s != "__debug__"
noncomputable def vName (names:List Str)(nm:List (Str×NameKind))(x:Nat)(s:Str):Bool:=names[x]?==some s&&isVar (nm.lookup s)&&s != "__debug__" && s != "__classdict__"
noncomputable def zvZ (names:List Str)(nm:List (Str×NameKind))(x:Nat)(s:Str):Bool:=names[x]?==some s&&zfC (nm.lookup s)
noncomputable def lName (names:List Str)(nm:List (Str×NameKind))(x:Nat)(s:Str):Bool:=names[x]?==some s&&nm.lookup s==some .local
noncomputable def IE.isL:IE->Bool
 | .nil=>true
 | .cons _ _=>true
 | _=>false
noncomputable def scOk (scope:Scope)(nm:List (Str×NameKind)):Bool:=scope.kind==.function&&decide (scope.names.map (·.1)).Nodup&&scope.names.all (λ x=>x.2 != .free||nm.lookup x.1==some .cell||nm.lookup x.1==some .free)
theorem sc_ok {scope:Scope}{nm:List (Str×NameKind)}(h:scOk scope nm=true):zgM scope nm:=by
 simp only[scOk,Bool.and_eq_true,beq_iff_eq,decide_eq_true_eq,List.all_eq_true,bne_iff_ne,Bool.or_eq_true,ne_eq]at h;obtain⟨⟨h1,h2⟩,h4⟩:=h;exact⟨h1,h2,λ x hx e=>by
  rcases h4 x hx with (h|h) | h
  ·exact absurd e h
  ·exact .inl h
  ·exact .inr h⟩
noncomputable def ownOk (names:List Str)(vs:List Nat)(scope:Scope):Bool:=scope.names.all λ x=>!zfC (some x.2)||((x.1 == ".0" && !names.any (· == ".0"))||vs.any λ v=>names[v]?==some x.1)
noncomputable def one {α:Type}:List α->Option α
 | [e]=>some e
 | _=>none
theorem zgU {α:Type}{l:List α}{e:α}(h:one l=some e):l=[e]:=by
 cases l with
 | nil=>cases h
 | cons x r=>cases r with
  | nil=>cases h;rfl
  | cons _ _=>cases h
noncomputable def two {α:Type}:List α->Option (α×α)
 | [e,e']=>some (e,e')
 | _=>none
theorem zjQ {α:Type}{l:List α}{e:α×α}(h:two l=some e):l=[e.1,e.2]:=by
 cases l with
 | nil=>cases h
 | cons x r=>cases r with
  | nil=>cases h
  | cons y r=>cases r with
   | nil=>cases h;rfl
   | cons _ _=>cases h
structure Inf where
 tag:Nat
 k:List Expr:=[]
 s:Str:=⟨#[]⟩
 o:Operator:=.Add
 u:UnaryOp:=.Not
 cs:List CmpOp:=[]
 b:BoolOp:=.And
 c:Const:=.none
 sc:Scope:=default
 g:List Comprehension:=[]
 kw:List Keyword:=[]
 p:Pos:=⟨0,0,0,0⟩
 os:List (Option Expr):=[]
noncomputable def inf:Expr->Inf
 | .Constant c _ _=>{ tag:=0,c:=c }
 | .Name s _=>{ tag:=1,s:=s }
 | .BinOp l o r _=>{ tag:=2,k:=[l,r],o:=o }
 | .UnaryOp u r _=>{ tag:=3,k:=[r],u:=u }
 | .Compare l cs r _=>{ tag:=4,k:=l::r,cs:=cs }
 | .BoolOp b r _=>{ tag:=5,k:=r,b:=b }
 | .IfExp a b c _=>{ tag:=6,k:=[a,b,c] }
 | .Tuple vs _ _=>{ tag:=7,k:=vs }
 | .List vs _=>{ tag:=8,k:=vs }
 | .Dict os v _=>{ tag:=9,k:=v,os:=os }
 | .Attribute o s p=>{ tag:=10,k:=[o],s:=s,p:=p }
 | .Subscript o s _=>{ tag:=11,k:=[o,s] }
 | .Slice a b c _=>{ tag:=12,os:=[a,b,c] }
 | .Call f a kw p=>{ tag:=13,k:=f::a,kw:=kw,p:=p }
 | .ListComp e g sc _=>{ tag:=14,k:=[e],g:=g,sc:=sc }
 | .Lambda ..=>{ tag:=15 }
 | .NamedExpr ..=>{ tag:=15 }
 | .Set ..=>{ tag:=16 }
 | .SetComp ..=>{ tag:=15 }
 | .DictComp ..=>{ tag:=15 }
 | .GeneratorExp ..=>{ tag:=15 }
 | .Await ..=>{ tag:=15 }
 | .Yield ..=>{ tag:=15 }
 | .YieldFrom ..=>{ tag:=15 }
 | .FormattedValue ..=>{ tag:=15 }
 | .JoinedStr ..=>{ tag:=15 }
 | .Starred ..=>{ tag:=15 }
noncomputable def InfOk (e:Expr)(i:Inf):Prop:=match i.tag with
 | 0=>∃ k p,e=.Constant i.c k p
 | 1=>∃ p,e=.Name i.s p
 | 2=>∃ l r p,i.k=[l,r]/\e=.BinOp l i.o r p
 | 3=>∃ r p,i.k=[r]/\e=.UnaryOp i.u r p
 | 4=>∃ l r p,i.k=l::r/\e=.Compare l i.cs r p
 | 5=>∃ p,e=.BoolOp i.b i.k p
 | 6=>∃ a b c p,i.k=[a,b,c]/\e=.IfExp a b c p
 | 7=>∃ k p,e=.Tuple i.k k p
 | 8=>∃ p,e=.List i.k p
 | 9=>∃ p,e=.Dict i.os i.k p
 | 10=>∃ o,i.k=[o]/\e=.Attribute o i.s i.p
 | 11=>∃ o s p,i.k=[o,s]/\e=.Subscript o s p
 | 12=>∃ a b c p,i.os=[a,b,c]/\e=.Slice a b c p
 | 13=>∃ f a,i.k=f::a/\e=.Call f a i.kw i.p
 | 14=>∃ x p,i.k=[x]/\e=.ListComp x i.g i.sc p
 | _=>True
theorem inf_ok (e:Expr):InfOk e (inf e):=by
 cases e with
 | Constant=>exact⟨_,_,rfl⟩
 | Name=>exact⟨_,rfl⟩
 | BinOp=>exact⟨_,_,_,rfl,rfl⟩
 | UnaryOp=>exact⟨_,_,rfl,rfl⟩
 | Compare=>exact⟨_,_,_,rfl,rfl⟩
 | BoolOp=>exact⟨_,rfl⟩
 | IfExp=>exact⟨_,_,_,_,rfl,rfl⟩
 | Tuple=>exact⟨_,_,rfl⟩
 | List=>exact⟨_,rfl⟩
 | Dict=>exact⟨_,rfl⟩
 | Attribute=>exact⟨_,rfl,rfl⟩
 | Subscript=>exact⟨_,_,_,rfl,rfl⟩
 | Slice=>exact⟨_,_,_,_,rfl,rfl⟩
 | Call=>exact⟨_,_,rfl,rfl⟩
 | ListComp=>exact⟨_,_,rfl,rfl⟩
 | _=>exact trivial
theorem zeF {α:Type}{n m:Nat}{o:Option α}{x:α}(h:cond (Nat.beq n m) o none=some x):n=m/\o=some x:=by
 cases e:Nat.beq n m with
 | true=>rw[e]at h;exact⟨Nat.eq_of_beq_eq_true e,h⟩
 | false=>rw[e]at h;cases h
theorem zeG {e:Expr}{n:Nat}{i:Inf}(hi:inf e=i)(h:i.tag=n):InfOk e { i with tag:=n }:=by
 subst h;subst hi;exact inf_ok e
noncomputable def ucons {α:Type}:List α->Option (α×List α)
 | []=>none
 | a::l=>some (a,l)
noncomputable def three {α:Type}:List α->Option (α×α×α)
 | [a,b,c]=>some (a,b,c)
 | _=>none
noncomputable def zeL (e:Expr):Option (Const):=cond (Nat.beq (inf e).tag 0) (some (inf e).c) none
noncomputable def zcZ (e:Expr):Option (Str):=cond (Nat.beq (inf e).tag 1) (some (inf e).s) none
noncomputable def asBin (e:Expr):Option (Expr×Operator×Expr):=cond (Nat.beq (inf e).tag 2) ((two (inf e).k).map λ k=>(k.1,(inf e).o,k.2)) none
noncomputable def asUn (e:Expr):Option (UnaryOp×Expr):=cond (Nat.beq (inf e).tag 3) ((one (inf e).k).map λ k=>((inf e).u,k)) none
noncomputable def asCmp (e:Expr):Option (Expr×List CmpOp×List Expr):=cond (Nat.beq (inf e).tag 4) ((ucons (inf e).k).map λ k=>(k.1,(inf e).cs,k.2)) none
noncomputable def asBool (e:Expr):Option (BoolOp×List Expr):=cond (Nat.beq (inf e).tag 5) (some ((inf e).b,(inf e).k)) none
noncomputable def asIf (e:Expr):Option (Expr×Expr×Expr):=cond (Nat.beq (inf e).tag 6) (three (inf e).k) none
noncomputable def zqM (e:Expr):Option (List Expr):=cond (Nat.beq (inf e).tag 7) (some (inf e).k) none
noncomputable def asList (e:Expr):Option (List Expr):=cond (Nat.beq (inf e).tag 8) (some (inf e).k) none
noncomputable def asDict (e:Expr):Option (List (Option Expr)×List Expr):=cond (Nat.beq (inf e).tag 9) (some ((inf e).os,(inf e).k)) none
noncomputable def zsD (e:Expr):Option (Expr×Str×Pos):=cond (Nat.beq (inf e).tag 10) ((one (inf e).k).map λ k=>(k,(inf e).s,(inf e).p)) none
noncomputable def asSub (e:Expr):Option (Expr×Expr):=cond (Nat.beq (inf e).tag 11) (two (inf e).k) none
noncomputable def asSlice (e:Expr):Option (Option Expr×Option Expr×Option Expr):=cond (Nat.beq (inf e).tag 12) (three (inf e).os) none
noncomputable def asCall (e:Expr):Option (Expr×List Expr×List Keyword×Pos):=cond (Nat.beq (inf e).tag 13) ((ucons (inf e).k).map λ k=>(k.1,k.2,(inf e).kw,(inf e).p)) none
noncomputable def zpK (e:Expr):Option (Expr×List Comprehension×Scope):=cond (Nat.beq (inf e).tag 14) ((one (inf e).k).map λ k=>(k,(inf e).g,(inf e).sc)) none
theorem zeC {e:Expr}{x}(h:zeL e=some x):∃ k p,e=.Constant x k p:=by
 obtain⟨ht,h⟩:=zeF h;refine q21 (zeG rfl ht) λ k p he=>?_;cases h;exact⟨k,p,he⟩
theorem zaS {e:Expr}{x}(h:zcZ e=some x):∃ p,e=.Name x p:=by
 obtain⟨ht,h⟩:=zeF h;obtain⟨p,he⟩:=zeG rfl ht;cases h;exact⟨p,he⟩
theorem asBin_ok {e:Expr}{x}(h:asBin e=some x):∃ p,e=.BinOp x.1 x.2.1 x.2.2 p:=by
 obtain⟨ht,h⟩:=zeF h;refine q31 (zeG rfl ht) λ l r p u8=>q02 u8 λ hk he=>?_;rw[show (inf e).k=_ from hk]at h;cases h;exact⟨p,he⟩
theorem asUn_ok {e:Expr}{x}(h:asUn e=some x):∃ p,e=.UnaryOp x.1 x.2 p:=by
 obtain⟨ht,h⟩:=zeF h;refine q22 (zeG rfl ht) λ l p hk he=>?_;rw[show (inf e).k=_ from hk]at h;cases h;exact⟨p,he⟩
theorem zuZ {e:Expr}{x}(h:asCmp e=some x):∃ p,e=.Compare x.1 x.2.1 x.2.2 p:=by
 obtain⟨ht,h⟩:=zeF h;refine q31 (zeG rfl ht) λ l r p u8=>q02 u8 λ hk he=>?_;rw[show (inf e).k=_ from hk]at h;cases h;exact⟨p,he⟩
theorem asBool_ok {e:Expr}{x}(h:asBool e=some x):∃ p,e=.BoolOp x.1 x.2 p:=by
 obtain⟨ht,h⟩:=zeF h;obtain⟨p,he⟩:=zeG rfl ht;cases h;exact⟨p,he⟩
theorem asIf_ok {e:Expr}{x}(h:asIf e=some x):∃ p,e=.IfExp x.1 x.2.1 x.2.2 p:=by
 obtain⟨ht,h⟩:=zeF h;refine q42 (zeG rfl ht) λ a b c p hk he=>?_;rw[show (inf e).k=_ from hk]at h;cases h;exact⟨p,he⟩
theorem ziW {e:Expr}{x}(h:zqM e=some x):∃ k p,e=.Tuple x k p:=by
 obtain⟨ht,h⟩:=zeF h;refine q21 (zeG rfl ht) λ k p he=>?_;cases h;exact⟨k,p,he⟩
theorem asList_ok {e:Expr}{x}(h:asList e=some x):∃ p,e=.List x p:=by
 obtain⟨ht,h⟩:=zeF h;obtain⟨p,he⟩:=zeG rfl ht;cases h;exact⟨p,he⟩
theorem asDict_ok {e:Expr}{x}(h:asDict e=some x):∃ p,e=.Dict x.1 x.2 p:=by
 obtain⟨ht,h⟩:=zeF h;obtain⟨p,he⟩:=zeG rfl ht;cases h;exact⟨p,he⟩
theorem zmW {e:Expr}{x}(h:zsD e=some x):e=.Attribute x.1 x.2.1 x.2.2:=by
 obtain⟨ht,h⟩:=zeF h;refine q12 (zeG rfl ht) λ o hk he=>?_;rw[show (inf e).k=_ from hk]at h;cases h;exact he
theorem zkM {e:Expr}{x}(h:asSub e=some x):∃ p,e=.Subscript x.1 x.2 p:=by
 obtain⟨ht,h⟩:=zeF h;refine q31 (zeG rfl ht) λ o s p u8=>q02 u8 λ hk he=>?_;rw[show (inf e).k=_ from hk]at h;cases h;exact⟨p,he⟩
theorem zxR {e:Expr}{x}(h:asSlice e=some x):∃ p,e=.Slice x.1 x.2.1 x.2.2 p:=by
 obtain⟨ht,h⟩:=zeF h;refine q42 (zeG rfl ht) λ a b c p hk he=>?_;rw[show (inf e).os=_ from hk]at h;cases h;exact⟨p,he⟩
theorem zrS {e:Expr}{x}(h:asCall e=some x):e=.Call x.1 x.2.1 x.2.2.1 x.2.2.2:=by
 obtain⟨ht,h⟩:=zeF h;refine q22 (zeG rfl ht) λ f a hk he=>?_;rw[show (inf e).k=_ from hk]at h;cases h;exact he
theorem ziF {e:Expr}{x}(h:zpK e=some x):∃ p,e=.ListComp x.1 x.2.1 x.2.2 p:=by
 obtain⟨ht,h⟩:=zeF h;refine q22 (zeG rfl ht) λ x p hk he=>?_;rw[show (inf e).k=_ from hk]at h;cases h;exact⟨p,he⟩
noncomputable def baseOk (e:Expr):Bool:=!(Nat.beq (inf e).tag 13)
theorem base_ok {o:Expr}{x:Str}{env:Env}{wh:Sem Value}(h:baseOk o=true):attributeBase o x env wh=wh:=by
 cases o <;> first|rfl|cases h
noncomputable def idxOk (e:Expr):Bool:=!(Nat.beq (inf e).tag 12)
theorem idx_ok {s:Expr}(h:idxOk s=true)(o i:Value):subscripted s false o i=operate [o,i] (getItem o i):=by
 cases s <;> first|rfl|cases h
noncomputable def zsT (e:Expr):Bool:=!(Nat.beq (inf e).tag 3||(Nat.beq (inf e).tag 4||(Nat.beq (inf e).tag 5||Nat.beq (inf e).tag 6)))
theorem zvU {e:Expr}(h:zsT e=true)(env:Env)(t:Sem Value):isTrue e env t=(do let v <- t;standAt e.pos;holding [v] (truthy v)):=by
 cases e <;> first|rfl|cases h
noncomputable def zjL (e:Expr):Bool:=!(Nat.beq (inf e).tag 16)
theorem zqN {e:Expr}(h:zjL e=true)(env:Env)(x:Value):foldedSetIterable e env x=pure x:=by
 cases e <;> first|rfl|cases h
theorem zpV {op:CmpOp}{e:Expr}(h:zjL e=true):behindInMarks op e=false:=by
 cases e <;> first|rfl|cases h
noncomputable def cInt (i:Int):Const->Bool
 | .int j=>i==j
 | _=>false
noncomputable def cStr (i:Str):Const->Bool
 | .str j=>i==j
 | _=>false
noncomputable def cBool (i:Bool):Const->Bool
 | .bool j=>i==j
 | _=>false
noncomputable def cNone:Const->Bool
 | .none=>true
 | _=>false
theorem cInt_ok {i:Int}{c:Const}(h:cInt i c=true):c=.int i:=by cases c <;> first|cases h | (rw[eq_of_beq h])
theorem cStr_ok {i:Str}{c:Const}(h:cStr i c=true):c=.str i:=by cases c <;> first|cases h | (rw[eq_of_beq h])
theorem cBool_ok {i:Bool}{c:Const}(h:cBool i c=true):c=.bool i:=by cases c <;> first | (rw[eq_of_beq h]) | cases h
theorem cNone_ok {c:Const}(h:cNone c=true):c=.none:=by cases c <;> first|rfl|cases h
noncomputable def emp {α:Type}:List α->Bool
 | []=>true
 | _=>false
theorem zhK {α:Type}{l:List α}(h:emp l=true):l=[]:=by cases l <;> first|rfl|cases h
theorem any_some {α:Type}{o:Option α}{f:α->Bool}(h:o.any f=true):∃ x,o=some x/\f x=true:=by
 cases o with
 | none=>cases h
 | some x=>exact⟨x,rfl,h⟩
noncomputable def oN {α:Type}:Option α->Bool
 | none=>true
 | _=>false
theorem oN_ok {α:Type}{o:Option α}(h:oN o=true):o=none:=by cases o <;> first|rfl|cases h
noncomputable def mCT (names:List Str)(nm:List (Str×NameKind))(t:CT)(e:Expr):Bool:=match t with
 | .one x=>(zcZ e).any (zvZ names nm x)
 | .many vs=>(two vs).any λ v=>(zqM e).any λ es=>(two es).any λ x=>(zcZ x.1).any (lName names nm v.1)&&(zcZ x.2).any (lName names nm v.2)
noncomputable def mE (G:GT)(names:List Str)(hd:Bool):IE->List (Str×NameKind)->List Expr->Bool
 | .int i,nm,es=>(one es).any λ e=>(zeL e).any (cInt i)
 | .str i,nm,es=>(one es).any λ e=>(zeL e).any (cStr i)
 | .none,nm,es=>(one es).any λ e=>(zeL e).any cNone
 | .bool b,nm,es=>(one es).any λ e=>(zeL e).any (cBool b)
 | .var x,nm,es=>(one es).any λ e=>(zcZ e).any (vName names nm x)
 | .glob p,nm,es=>(one es).any λ e=>(zcZ e).any λ s=>ztV nm s&&gHas G s p false
 | .bin o a b,nm,es=>(one es).any λ e=>(asBin e).any λ x=>(o==x.2.1&&(!a.isL&&!b.isL))&&(mE G names hd a nm [x.1]&&mE G names hd b nm [x.2.2])
 | .un o a,nm,es=>(one es).any λ e=>(asUn e).any λ x=>(o==x.1&&!a.isL)&&mE G names hd a nm [x.2]
 | .cmp o a b,nm,es=>(one es).any λ e=>(asCmp e).any λ x=>(one x.2.1).any λ op=>(one x.2.2).any λ r=>(o==op&&(zjL r&&(!a.isL&&!b.isL)))&&(mE G names hd a nm [x.1]&&mE G names hd b nm [r])
 | .cmp2 o o' a b c,nm,es=>(one es).any λ e=>(asCmp e).any λ x=>(two x.2.1).any λ op=>(two x.2.2).any λ r=>(o==op.1&&(o'==op.2&&(zjL r.2&&(!a.isL&&(!b.isL&&!c.isL)))))&&(mE G names hd a nm [x.1]&&(mE G names hd b nm [r.1]&&mE G names hd c nm [r.2]))
 | .boolop o l,nm,es=>(one es).any λ e=>(asBool e).any λ x=>(o==x.1&&l.isL)&&mE G names hd l nm x.2
 | .ife t a b,nm,es=>(one es).any λ e=>(asIf e).any λ x=>(!t.isL&&(!a.isL&&!b.isL))&&(mE G names hd t nm [x.1]&&(mE G names hd a nm [x.2.1]&&mE G names hd b nm [x.2.2]))
 | .nil,nm,es=>emp es
 | .cons a b,nm,es=>match es with
  | e::r=>(zcS (e::r)&&(!a.isL&&b.isL))&&(mE G names hd a nm [e]&&mE G names hd b nm r)
  | []=>false
 | .tup l,nm,es=>(one es).any λ e=>(zqM e).any λ x=>l.isL&&mE G names hd l nm x
 | .list l,nm,es=>(one es).any λ e=>(asList e).any λ x=>l.isL&&mE G names hd l nm x
 | .attr a y,nm,es=>(one es).any λ e=>(zsD e).any λ x=>(y==x.2.1&&(baseOk x.1&&!a.isL))&&mE G names hd a nm [x.1]
 | .sub a i,nm,es=>(one es).any λ e=>(asSub e).any λ x=>(idxOk x.2&&(!a.isL&&!i.isL))&&(mE G names hd a nm [x.1]&&mE G names hd i nm [x.2])
 | .slice a lo hi,nm,es=>(one es).any λ e=>(asSub e).any λ x=>(asSlice x.2).any λ z=>(oN z.2.2&&(!a.isL&&(!lo.isL&&!hi.isL)))&&(mE G names hd a nm [x.1]&&((match z.1 with
    | some e=>!lo.isNo&&mE G names hd lo nm [e]
    | none=>lo.isNo)&&(match z.2.1 with
    | some e=>!hi.isNo&&mE G names hd hi nm [e]
    | none=>hi.isNo)))
 | .call g l,nm,es=>(one es).any λ e=>(asCall e).any λ x=>(zcZ x.1).any λ s=>(emp x.2.2.1&&(ztV nm s&&(gHas G s g true&&(zcS x.2.1&&l.isL))))&&mE G names hd l nm x.2.1
 | .meth o y l,nm,es=>(one es).any λ e=>(asCall e).any λ x=>(zsD x.1).any λ z=>(emp x.2.2.1&&(y==z.2.1&&(baseOk z.1&&(zcS x.2.1&&(Nat.blt x.2.1.length 30&&(z.2.2.endLine==x.2.2.2.line&&(l.isL&&!o.isL)))))))&&(mE G names hd o nm [z.1]&&mE G names hd l nm x.2.1)
 | .comp t it fs e,nm,es=>(one es).any λ x=>(zpK x).any λ x=>(one x.2.1).any λ g=>(!hd&&(scOk x.2.2 nm&&(ownOk names t.vars x.2.2&&(zjL g.iter&&(mCT names x.2.2.names t g.target&&(g.is_async==0&&(!it.isL&&(fs.isL&&!e.isL)))))))) &&
    (mE G names hd it nm [g.iter]&&(mE G names hd fs (relN x.2.2.names nm) g.ifs&&mE G names hd e (relN x.2.2.names nm) [x.1]))
 | .compRR x y i1 i2 fs e,nm,es=>(one es).any λ z=>(zpK z).any λ z=>(two z.2.1).any λ g=>(zcZ g.1.target).any λ s=>(zcZ g.2.target).any λ t=>
    (!hd&&(scOk z.2.2 nm&&(ownOk names [x,y] z.2.2&&(zjL g.1.iter&&(zjL g.2.iter&&(lName names z.2.2.names x s&&(lName names z.2.2.names y t&&(s != t&&(g.1.is_async==0&&(g.2.is_async==0&&(emp g.1.ifs&&(!i1.isL&&(!i2.isL&&(fs.isL&&!e.isL)))))))))))))) &&
    (mE G names hd i1 nm [g.1.iter]&&(mE G names hd i2 (relN z.2.2.names nm) [g.2.iter]&&(mE G names hd fs (relN z.2.2.names nm) g.2.ifs&&mE G names hd e (relN z.2.2.names nm) [z.1])))
 | .bw0 x y,nm,es=>(one es).any λ e=>(asDict e).any λ z=>(two z.1).any λ k=>(two z.2).any λ v=>(k.1.any λ e=>(zeL e).any (cStr "b"))&&((k.2.any λ e=>(zeL e).any (cStr "w"))&&((zeL v.1).any (cInt x)&&(zeL v.2).any (cInt y)))
noncomputable def Cov (names:List Str)(l:LN)(ls:Ls):Prop:=∀ x p,lkN x l=some p->∃ s,names[x]?=some s/\ls.lookup s=some p
noncomputable def zdM (T:Tr)(f:FR)(Fs:List AF)(H:zaA)(m:Md)(L:Bool)(es:List Expr)(Q:PV->zaA->Prop)(E:Value->Shared->Prop):Prop:=match m,L,es with
 | .v,true,es=>AL T f Fs H es (λ ps H=>Q (.tup ps) H) E
 | .v,false,[e]=>AE T f Fs H e Q E
 | .t,false,[e]=>AT T f Fs H e (λ b H=>Q (.bool b) H) E
 | .a,true,es=>AAll T f Fs H .And es (λ b H=>Q (.bool b) H) E/\(E=NoE->AIfs T f Fs H es (λ b H=>Q (.bool b) H))
 | .o,true,es=>AAll T f Fs H .Or es (λ b H=>Q (.bool b) H) E
 | .b,true,es=>zqI T f Fs H es (λ b H=>Q (.bool b) H) E
 | _,_,_=>True
section
variable {T:Tr}{f:FR}{env:Env}{ls:Ls}{Fs:List AF}{H:zaA}{E:Value->Shared->Prop}{names:List Str}{lsN:LN}
theorem zqY {C:Cx}{G:GT}(GO:GOk C G){s:Str}{p:PV}{c:Bool}(h:gHas G s p c=true):GOk1 C s p c:=by
 refine q12 (List.any_eq_true.mp h) λ e he h=>?_;simp only[Bool.and_eq_true,beq_iff_eq,Bool.or_eq_true,Bool.not_eq_true']at h;obtain⟨⟨h1,h2⟩,h3⟩:=h;have:=GO e he;rw[h1,gEq_eq h2]at this;refine⟨λ q=>this.1 ?_,this.2⟩;rcases h3 with h3|h3
 ·rw[q]at h3;cases h3
 ·exact h3
theorem zqL {nm:List (Str×NameKind)}{s:Str}(h:ztV nm s=true):nm.lookup s=some .globalImplicit/\s ≠ "__name__" /\ (s==("__debug__" : Str))=false:=by
 simp only[ztV,Bool.and_eq_true,beq_iff_eq,bne_iff_ne,ne_eq]at h;exact⟨h.1.1,h.1.2,beq_eq_false_iff_ne.mpr h.2⟩
theorem AE.gl {C:Cx}{G:GT}{nm:List (Str×NameKind)}{s:Str}{pos:Pos}{p:PV}{Q:PV->zaA->Prop}{c:Bool}(hn:f.env.scope.names=nm)(h:ztV nm s=true)(g:GOk1 T.C s p c)(hq:Q p H):AE T f Fs H (.Name s pos) Q E:=by
 refine q03 (zqL h) λ h1 h2 h3=>?_;obtain⟨-,g⟩:=g;cases p with
 | ref a=>exact AE.glob hn h1 g hq h3
 | ty n=>exact AE.ty g.1 hn h1 g.2 hq h2 h3
 | bi n=>exact AE.bi g.1 hn h1 g.2 hq h2 h3
 | _=>exact g.elim
theorem vName_ok {nm:List (Str×NameKind)}{x:Nat}{s:Str}(h:vName names nm x s=true):names[x]?=some s/\isVar (nm.lookup s)=true/\(s==("__debug__" : Str))=false/\(s==("__classdict__" : Str))=false:=by
 simp only[vName,Bool.and_eq_true,beq_iff_eq,bne_iff_ne,ne_eq]at h;exact⟨h.1.1.1,h.1.1.2,beq_eq_false_iff_ne.mpr h.1.2,beq_eq_false_iff_ne.mpr h.2⟩
theorem Cov.get (cv:Cov names lsN ls){x:Nat}{p:PV}{s:Str}(h:lkN x lsN=some p)(hs:names[x]?=some s):ls.lookup s=some p:=by
 refine q12 (cv x p h) λ s' h1 h2=>?_;rw[hs]at h1;cases h1;exact h2
theorem ziR {x y:Nat}{p:PV}{l:LN}:lkN x ((y,p)::l)=if x=y then some p else lkN x l:=by
 show cond (Nat.beq x y) _ _=_
 by_cases h:x=y
 ·subst h;rw[Nat.beq_refl,if_pos rfl];rfl
 ·rw[if_neg h]
  cases e:Nat.beq x y with
  | true=>exact absurd (Nat.eq_of_beq_eq_true e) h
  | false=>rfl
theorem zrI (nd:names.Nodup){x y:Nat}{s:Str}(hx:names[x]?=some s)(hy:names[y]?=some s):x=y:=by
 obtain⟨h1,e1⟩:=List.getElem?_eq_some_iff.mp hx;obtain⟨h2,e2⟩:=List.getElem?_eq_some_iff.mp hy;exact (List.getElem_inj nd).mp (e1.trans e2.symm)
theorem Cov.put (nd:names.Nodup)(cv:Cov names lsN ls){x:Nat}{p:PV}{s:Str}(hs:names[x]?=some s):Cov names ((x,p)::lsN) ((s,p)::ls):=λ y q h=>by
 rw[ziR]at h;split at h
 ·cases h;rename_i e;subst e;exact⟨s,hs,zcX⟩
 ·rename_i e
  refine q12 (cv y q h) λ s' h1 h2=>?_;exact⟨s',h1,zbM (beq_eq_false_iff_ne.mpr λ e'=>e (zrI nd h1 (e'▸hs))) h2⟩
theorem zwT {vs:List Nat}{y:Nat}{q:PV}{l:LN}:zhU vs ((y,q)::l)=cond (vs.any (Nat.beq y)) (zhU vs l) ((y,q)::zhU vs l):=rfl
theorem lkN_drop {vs:List Nat}{x:Nat}{p:PV}{l:LN}:lkN x (zhU vs l)=some p->lkN x l=some p/\x∉vs:=by
 induction l with
 | nil=>exact λ h=>nomatch h
 | cons a l ih=>
  obtain⟨y,q⟩:=a;intro h;rw[zwT]at h;rw[ziR];cases e:vs.any (Nat.beq y) with
  | true=>
   rw[e]at h;obtain⟨h1,h2⟩:=ih h;refine⟨?_,h2⟩;rw[if_neg,h1];intro exy;subst exy;refine q12 (List.any_eq_true.mp e) λ z hz ez=>?_;exact h2 (Nat.eq_of_beq_eq_true ez▸hz)
  | false=>
   rw[e]at h;replace h:lkN x ((y,q)::zhU vs l)=some p:=h;rw[ziR]at h
   by_cases exy:x=y
   ·subst exy
    rw[if_pos rfl]at h ⊢;refine⟨h,λ hm=>?_⟩;rw[List.any_eq_true.mpr ⟨x,hm,Nat.beq_refl x⟩]at e;cases e
   ·rw[if_neg exy]at h ⊢
    exact ih h
theorem Cov.drop (nd:names.Nodup)(cv:Cov names lsN ls){vs:List Nat}{scope:Scope}(ho:ownOk names vs scope=true):Cov names (zhU vs lsN) (zeR scope.names ls):=λ x p h=>by
 obtain⟨h1,h2⟩:=lkN_drop h;refine q12 (cv x p h1) λ s h3 h4=>?_;refine⟨s,h3,zwR ?_ h4⟩;cases hl:scope.names.lookup s with
 | none=>rfl
 | some k=>
 cases hi:zfC (some k) with
 | false=>rfl
 | true=>
 exfalso
 have:=List.all_eq_true.mp ho _ (mem_of_lookup hl);rw[show zfC (some (s,k).2)=true from hi,Bool.not_true,Bool.false_or]at this;rcases Bool.or_eq_true_iff.mp this with this|this
 ·obtain⟨e1,e2⟩:=Bool.and_eq_true_iff.mp this
  have hs:names.any (·==(".0" : Str))=true:=List.any_eq_true.mpr ⟨s,List.mem_of_getElem? h3,e1⟩;rw[hs]at e2;cases e2
 refine q12 (List.any_eq_true.mp this) λ v hv ev=>?_;rw[beq_iff_eq]at ev;exact h2 (zrI nd h3 ev▸hv)
theorem STr.to {p:PV}{Q:Bool->zaA->Prop}(h:STr T p H Q):ATr T Fs H p Q NoE:=by unfold STr at h;exact h Fs
theorem wTr_ok {p:PV}{Q:Bool->zaA->Prop}(h:wTr T p H Q):ATr T Fs H p Q NoE:=by
 cases p with
 | bool b=>exact ATr.bool h
 | int i=>exact ATr.int h
 | none=>exact STr.to h
 | str s=>exact STr.to h
 | tup l=>exact STr.to h
 | ref a=>exact STr.to h
 | ty n=>exact STr.to h
 | bi n=>exact STr.to h
theorem ATr.noE {p:PV}{Q:Bool->zaA->Prop}(h:ATr T Fs H p Q NoE):ATr T Fs H p Q E:=λ A s v ok R pv=>wpAny_mono (h A s v ok R pv) (λ _ _ x=>x) λ _ _ x=>x.elim
theorem ACmp.noE {op:CmpOp}{p q:PV}{Q:Bool->zaA->Prop}(h:ACmp T Fs H op p q Q NoE):ACmp T Fs H op p q Q E:=λ A s v w ok R pv pw=>wpAny_mono (h A s v w ok R pv pw) (λ _ _ x=>x) λ _ _ x=>x.elim
theorem ABin.noE {op:Value->Value->Sem Value}{p q:PV}{Q:PV->zaA->Prop}(h:ABin T Fs H op p q Q NoE):ABin T Fs H op p q Q E:=λ A s v w ok R pv pw=>wpAny_mono (h A s v w ok R pv pw) (λ _ _ x=>x) λ _ _ x=>x.elim
theorem AUn.noE {op:Value->Sem Value}{p:PV}{Q:PV->zaA->Prop}(h:AUn T Fs H op p Q NoE):AUn T Fs H op p Q E:=λ A s v ok R pv=>wpAny_mono (h A s v ok R pv) (λ _ _ x=>x) λ _ _ x=>x.elim
theorem AGet.noE {x:Str}{p:PV}{Q:PV->zaA->Prop}(h:AGet T Fs H x p Q NoE):AGet T Fs H x p Q E:=λ A s v ok R pv=>wpAny_mono (h A s v ok R pv) (λ _ _ x=>x) λ _ _ x=>x.elim
theorem ASub.noE {value slice:Expr}{p q:PV}{Q:PV->zaA->Prop}(h:ASub T Fs H value slice p q Q NoE):ASub T Fs H value slice p q Q E:=λ A s v w ok R pv pw=>wpAny_mono (h A s v w ok R pv pw) (λ _ _ x=>x) λ _ _ x=>x.elim
theorem zbR {p q:PV}{A:Int->Int->Prop}{B P:Prop}(h:zfI p q A B)(h1:∀ a b,p=.int a->q=.int b->A a b->P)(h2:B->P):P:=by
 cases p with
 | int a=>cases q with
  | int b=>exact h1 a b rfl rfl h
  | _=>exact h2 h
 | _=>exact h2 h
theorem zrN {p q:PV}{A:Str->Str->Prop}{B P:Prop}(h:onStrs p q A B)(h1:∀ a b,p=.str a->q=.str b->A a b->P)(h2:B->P):P:=by
 cases p with
 | str a=>cases q with
  | str b=>exact h1 a b rfl rfl h
  | _=>exact h2 h
 | _=>exact h2 h
theorem zsR {q:PV}{A B P:Prop}(h:onNone q A B)(h1:q=.none->A->P)(h2:B->P):P:=by
 cases q with
 | none=>exact h1 rfl h
 | _=>exact h2 h
theorem SBin.to {op:Value->Value->Sem Value}{p q:PV}{Q:PV->zaA->Prop}(h:SBin T op p q H Q):ABin T Fs H op p q Q NoE:=by unfold SBin at h;exact h Fs
theorem SCmp.to {op:CmpOp}{p q:PV}{Q:Bool->zaA->Prop}(h:SCmp T op p q H Q):ACmp T Fs H op p q Q NoE:=by unfold SCmp at h;exact h Fs
theorem wBin_ok {o:Operator}{p q:PV}{Q:PV->zaA->Prop}(h:wBin T o p q H Q):ABin T Fs H (binaryOp o) p q Q NoE:=by
 cases o with
 | Add=>exact zbR h (λ a b e1 e2 h=>by subst e1;subst e2;exact ABin.add h) SBin.to
 | Sub=>exact zbR h (λ a b e1 e2 h=>by subst e1;subst e2;exact ABin.sub h) SBin.to
 | Mult=>exact zbR h (λ a b e1 e2 h=>by subst e1;subst e2;exact ABin.mul h.1 h.2) SBin.to
 | Mod=>exact zbR h (λ a b e1 e2 h=>by subst e1;subst e2;exact ABin.mod h.1 h.2) SBin.to
 | FloorDiv=>exact zbR h (λ a b e1 e2 h=>by subst e1;subst e2;exact ABin.div h.1.1 h.1.2 h.2) SBin.to
 | Pow=>exact zbR h (λ a b e1 e2 h=>by subst e1;subst e2;exact ABin.pow h.1.1 h.1.2 h.2) SBin.to
 | _=>exact h.elim
theorem zqF {o:CmpOp}{p q:PV}{Q:Bool->zaA->Prop}(h:wCmp T o p q H Q):ACmp T Fs H o p q Q NoE:=by
 cases o with
 | Lt=>exact zbR h (λ a b e1 e2 h=>by subst e1;subst e2;exact ACmp.lt h) SCmp.to
 | LtE=>exact zbR h (λ a b e1 e2 h=>by subst e1;subst e2;exact ACmp.le h) SCmp.to
 | Gt=>exact zbR h (λ a b e1 e2 h=>by subst e1;subst e2;exact ACmp.gt h) SCmp.to
 | GtE=>exact zbR h (λ a b e1 e2 h=>by subst e1;subst e2;exact ACmp.ge h) SCmp.to
 | Eq=>exact zbR h (λ a b e1 e2 h=>by subst e1;subst e2;exact ACmp.eqInt h) λ h=>zrN h (λ a b e1 e2 h=>by subst e1;subst e2;exact ACmp.eqStr h) SCmp.to
 | NotEq=>exact zbR h (λ a b e1 e2 h=>by subst e1;subst e2;exact ACmp.neInt h) λ h=>zrN h (λ a b e1 e2 h=>by subst e1;subst e2;exact ACmp.neStr h) SCmp.to
 | Is=>exact zsR h (λ e h=>by subst e;exact ACmp.isNone h) SCmp.to
 | IsNot=>exact zsR h (λ e h=>by subst e;exact ACmp.isNotNone h) SCmp.to
 | NotIn=>exact ACmp.notIn (SCmp.to h)
 | In=>exact SCmp.to h
theorem wUn_ok {o:UnaryOp}{p:PV}{Q:PV->zaA->Prop}(h:wUn T o p H Q):AUn T Fs H (unaryOp o) p Q NoE:=by
 cases o with
 | USub=>cases p with
  | int a=>exact AUn.neg h
  | _=>exact h.elim
 | Not=>exact AUn.not (wTr_ok h)
 | _=>exact h.elim
theorem AT.mono {e:Expr}{Q Q':Bool->zaA->Prop}(h:AT T f Fs H e Q E)(hq:∀ p H,Q p H->Q' p H):AT T f Fs H e Q' E:=
 λ A s ok R=>wpAny_mono (h A s ok R) (λ v s' hh=>hh.elim λ H' b c d=>⟨H',b,c,hq _ _ d⟩) λ _ _ x=>x
theorem ACmp.mono {op:CmpOp}{p q:PV}{Q Q':Bool->zaA->Prop}(h:ACmp T Fs H op p q Q E)(hq:∀ b H,Q b H->Q' b H):ACmp T Fs H op p q Q' E:=
 λ A s v w ok R pv pw=>wpAny_mono (h A s v w ok R pv pw) (λ c s' ⟨b,e,⟨H',R',k,q⟩⟩=>⟨b,e,⟨H',R',k,hq _ _ q⟩⟩) λ _ _ x=>x
theorem AL.mono {es:List Expr}{Q Q':List PV->zaA->Prop}(h:AL T f Fs H es Q E)(hq:∀ p H,Q p H->Q' p H):AL T f Fs H es Q' E:=
 λ A s pos ok R=>wpAny_mono (h A s pos ok R) (λ v s' hh=>hh.elim λ p H' a b c d=>⟨p,H',a,b,c,hq _ _ d⟩) λ _ _ x=>x
theorem zdM.fin {e:Expr}{m:Md}{Q:PV->zaA->Prop}(h:AE T f Fs H e (wFin T m Q) E)(hp:zsT e=true):zdM T f Fs H m false [e] Q E:=by
 cases m with
 | v=>exact h
 | t=>exact AT.value (AE.mono h λ p H' h=>(wTr_ok h).noE) (zvU hp _ _)
 | a=>trivial
 | o=>trivial
 | b=>trivial
end
noncomputable def zaH (T:Tr)(X:String)(G:GT)(names:List Str)(ie:IE):Prop:=∀ (m:Md) {c:FK} {env:Env} {ls:Ls} {nm:List (Str×NameKind)} {Fs:List AF} {H:zaA} {R:zaA->Prop} {Q:PV->zaA->Prop} {E:Value->Shared->Prop} {es:List Expr} {l:LN},
 env.scope.names=nm->mE G names T.hd ie nm es=true->Cov names l ls->(∀ e s,Thr T.C ⟨c,env,ls⟩ Fs X R e s->E e s)->w T X ie m l H R Q->zdM T ⟨c,env,ls⟩ Fs H m ie.isL es Q E
section
variable {T:Tr}{X:String}{G:GT}{names:List Str}
theorem zaH.ae {ie:IE}(S:zaH T X G names ie){c:FK}{env:Env}{ls:Ls}{nm:List (Str×NameKind)}{Fs:List AF}{H:zaA}{R:zaA->Prop}{Q:PV->zaA->Prop}{E:Value->Shared->Prop}{e:Expr}{l:LN}
  (hL:ie.isL=false) (hn:env.scope.names=nm) (hm:mE G names T.hd ie nm [e]=true) (cv:Cov names l ls) (hE:∀ e s,Thr T.C ⟨c,env,ls⟩ Fs X R e s->E e s) (h:w T X ie .v l H R Q):AE T ⟨c,env,ls⟩ Fs H e Q E:=by
 have:=S .v hn hm cv hE h;rw[hL]at this;exact this
theorem zaH.at_ {ie:IE}(S:zaH T X G names ie){c:FK}{env:Env}{ls:Ls}{nm:List (Str×NameKind)}{Fs:List AF}{H:zaA}{R:zaA->Prop}{Q:PV->zaA->Prop}{E:Value->Shared->Prop}{e:Expr}{l:LN}
  (hL:ie.isL=false) (hn:env.scope.names=nm) (hm:mE G names T.hd ie nm [e]=true) (cv:Cov names l ls) (hE:∀ e s,Thr T.C ⟨c,env,ls⟩ Fs X R e s->E e s) (h:w T X ie .t l H R Q):AT T ⟨c,env,ls⟩ Fs H e (λ b H=>Q (.bool b) H) E:=by
 have:=S .t hn hm cv hE h;rw[hL]at this;exact this
theorem zaH.al {ie:IE}(S:zaH T X G names ie){c:FK}{env:Env}{ls:Ls}{nm:List (Str×NameKind)}{Fs:List AF}{H:zaA}{R:zaA->Prop}{Q:PV->zaA->Prop}{E:Value->Shared->Prop}{es:List Expr}{l:LN}
  (hL:ie.isL=true) (hn:env.scope.names=nm) (hm:mE G names T.hd ie nm es=true) (cv:Cov names l ls) (hE:∀ e s,Thr T.C ⟨c,env,ls⟩ Fs X R e s->E e s) (h:w T X ie .v l H R Q):AL T ⟨c,env,ls⟩ Fs H es (λ ps H=>Q (.tup ps) H) E:=by
 have:=S .v hn hm cv hE h;rw[hL]at this;exact this
theorem noFly {C:Cx}{Fs:List AF}{e:Value}{s:Shared}{E:Value->Shared->Prop}(h:Fly C Fs X noR e s):E e s:=by
 refine q51 h λ a H s₁ B a0 u8=>q06 u8 λ x1 x2 x3 x4 x5 x6=>?_;exact x5.elim
theorem zxM {C:Cx}{f:FR}{Fs:List AF}{e:Value}{s:Shared}{E:Value->Shared->Prop}(h:Thr C f Fs X noR e s):E e s:=by
 rcases h with ⟨a,H,s₁,x1,x2,x3,x4,x5,x6⟩|h
 ·exact x5.elim
 ·exact noFly h
theorem nL {b:Bool}(h:(!b)=true):b=false:=by cases b <;> first|rfl|cases h
theorem and1 {a b:Bool}(h:(a&&b)=true):a=true/\b=true:=Bool.and_eq_true_iff.mp h
theorem and2 {a b:Bool}{P:Prop}(h:(a&&b)=true)(k:a=true->b=true->P):P:=k (and1 h).1 (and1 h).2
theorem zaN {α:Type}{o:Option α}{f:α->Bool}{P:Prop}(h:o.any f=true)(k:∀ x,o=some x->f x=true->P):P:=by
 refine q12 (any_some h) λ x e h=>?_;exact k x e h
theorem oneE {α β:Type}{as:Expr->Option α}{mk:α->β->Expr}(ok:∀ {e x},as e=some x->∃ p,e=mk x p){f:Expr->α->Bool}{c:FR}{Fs:List AF}{H:zaA}{m:Md}{b:Bool}{es:List Expr}{Q:PV->zaA->Prop}{E:Value->Shared->Prop}(h:((one es).any λ e=>(as e).any (f e))=true)(k:∀ x p,f (mk x p) x=true->zdM T c Fs H m b [mk x p] Q E):zdM T c Fs H m b es Q E:=by
 refine q12 (any_some h) λ e he h=>?_;refine q12 (any_some h) λ x hx h=>?_;obtain⟨p,rfl⟩:=ok hx;rw[zgU he];exact k x p h
theorem oneE2 {α β γ:Type}{as:Expr->Option α}{mk:α->β->γ->Expr}(ok:∀ {e x},as e=some x->∃ k p,e=mk x k p){f:Expr->α->Bool}{c:FR}{Fs:List AF}{H:zaA}{m:Md}{b:Bool}{es:List Expr}{Q:PV->zaA->Prop}{E:Value->Shared->Prop}(h:((one es).any λ e=>(as e).any (f e))=true)(k:∀ x u p,f (mk x u p) x=true->zdM T c Fs H m b [mk x u p] Q E):zdM T c Fs H m b es Q E:=
 oneE (mk:=λ x (q:β×γ)=>mk x q.1 q.2) (λ h=>(ok h).elim λ u h=>h.elim λ p h=>⟨(u,p),h⟩) h λ x q h=>k x q.1 q.2 h
theorem oneE0 {α:Type}{as:Expr->Option α}{mk:α->Expr}(ok:∀ {e x},as e=some x->e=mk x){f:Expr->α->Bool}{c:FR}{Fs:List AF}{H:zaA}{m:Md}{b:Bool}{es:List Expr}{Q:PV->zaA->Prop}{E:Value->Shared->Prop}(h:((one es).any λ e=>(as e).any (f e))=true)(k:∀ x,f (mk x) x=true->zdM T c Fs H m b [mk x] Q E):zdM T c Fs H m b es Q E:=
 oneE (β:=Unit) (mk:=λ x _=>mk x) (λ h=>⟨(),ok h⟩) h λ x _ h=>k x h
theorem and3 {b0 b1 b2:Bool}{P:Prop}(h:(b0&&(b1&&b2))=true)(k:b0=true->b1=true->b2=true->P):P:=k (and1 h).1 (and1 (and1 h).2).1 (and1 (and1 h).2).2
theorem and4 {b0 b1 b2 b3:Bool}{P:Prop}(h:(b0&&(b1&&(b2&&b3)))=true)(k:b0=true->b1=true->b2=true->b3=true->P):P:=k (and1 h).1 (and1 (and1 h).2).1 (and1 (and1 (and1 h).2).2).1 (and1 (and1 (and1 h).2).2).2
theorem and5 {b0 b1 b2 b3 b4:Bool}{P:Prop}(h:(b0&&(b1&&(b2&&(b3&&b4))))=true)(k:b0=true->b1=true->b2=true->b3=true->b4=true->P):P:=k (and1 h).1 (and1 (and1 h).2).1 (and1 (and1 (and1 h).2).2).1 (and1 (and1 (and1 (and1 h).2).2).2).1 (and1 (and1 (and1 (and1 h).2).2).2).2
theorem and6 {b0 b1 b2 b3 b4 b5:Bool}{P:Prop}(h:(b0&&(b1&&(b2&&(b3&&(b4&&b5)))))=true)(k:b0=true->b1=true->b2=true->b3=true->b4=true->b5=true->P):P:=k (and1 h).1 (and1 (and1 h).2).1 (and1 (and1 (and1 h).2).2).1 (and1 (and1 (and1 (and1 h).2).2).2).1 (and1 (and1 (and1 (and1 (and1 h).2).2).2).2).1 (and1 (and1 (and1 (and1 (and1 h).2).2).2).2).2
theorem and8 {b0 b1 b2 b3 b4 b5 b6 b7:Bool}{P:Prop}(h:(b0&&(b1&&(b2&&(b3&&(b4&&(b5&&(b6&&b7)))))))=true)(k:b0=true->b1=true->b2=true->b3=true->b4=true->b5=true->b6=true->b7=true->P):P:=k (and1 h).1 (and1 (and1 h).2).1 (and1 (and1 (and1 h).2).2).1 (and1 (and1 (and1 (and1 h).2).2).2).1 (and1 (and1 (and1 (and1 (and1 h).2).2).2).2).1 (and1 (and1 (and1 (and1 (and1 (and1 h).2).2).2).2).2).1 (and1 (and1 (and1 (and1 (and1 (and1 (and1 h).2).2).2).2).2).2).1 (and1 (and1 (and1 (and1 (and1 (and1 (and1 h).2).2).2).2).2).2).2
theorem and9 {b0 b1 b2 b3 b4 b5 b6 b7 b8:Bool}{P:Prop}(h:(b0&&(b1&&(b2&&(b3&&(b4&&(b5&&(b6&&(b7&&b8))))))))=true)(k:b0=true->b1=true->b2=true->b3=true->b4=true->b5=true->b6=true->b7=true->b8=true->P):P:=k (and1 h).1 (and1 (and1 h).2).1 (and1 (and1 (and1 h).2).2).1 (and1 (and1 (and1 (and1 h).2).2).2).1 (and1 (and1 (and1 (and1 (and1 h).2).2).2).2).1 (and1 (and1 (and1 (and1 (and1 (and1 h).2).2).2).2).2).1 (and1 (and1 (and1 (and1 (and1 (and1 (and1 h).2).2).2).2).2).2).1 (and1 (and1 (and1 (and1 (and1 (and1 (and1 (and1 h).2).2).2).2).2).2).2).1 (and1 (and1 (and1 (and1 (and1 (and1 (and1 (and1 h).2).2).2).2).2).2).2).2
theorem and15 {b0 b1 b2 b3 b4 b5 b6 b7 b8 b9 b10 b11 b12 b13 b14:Bool}{P:Prop}(h:(b0&&(b1&&(b2&&(b3&&(b4&&(b5&&(b6&&(b7&&(b8&&(b9&&(b10&&(b11&&(b12&&(b13&&b14))))))))))))))=true)(k:b0=true->b1=true->b2=true->b3=true->b4=true->b5=true->b6=true->b7=true->b8=true->b9=true->b10=true->b11=true->b12=true->b13=true->b14=true->P):P:=k (and1 h).1 (and1 (and1 h).2).1 (and1 (and1 (and1 h).2).2).1 (and1 (and1 (and1 (and1 h).2).2).2).1 (and1 (and1 (and1 (and1 (and1 h).2).2).2).2).1 (and1 (and1 (and1 (and1 (and1 (and1 h).2).2).2).2).2).1 (and1 (and1 (and1 (and1 (and1 (and1 (and1 h).2).2).2).2).2).2).1 (and1 (and1 (and1 (and1 (and1 (and1 (and1 (and1 h).2).2).2).2).2).2).2).1 (and1 (and1 (and1 (and1 (and1 (and1 (and1 (and1 (and1 h).2).2).2).2).2).2).2).2).1 (and1 (and1 (and1 (and1 (and1 (and1 (and1 (and1 (and1 (and1 h).2).2).2).2).2).2).2).2).2).1 (and1 (and1 (and1 (and1 (and1 (and1 (and1 (and1 (and1 (and1 (and1 h).2).2).2).2).2).2).2).2).2).2).1 (and1 (and1 (and1 (and1 (and1 (and1 (and1 (and1 (and1 (and1 (and1 (and1 h).2).2).2).2).2).2).2).2).2).2).2).1 (and1 (and1 (and1 (and1 (and1 (and1 (and1 (and1 (and1 (and1 (and1 (and1 (and1 h).2).2).2).2).2).2).2).2).2).2).2).2).1 (and1 (and1 (and1 (and1 (and1 (and1 (and1 (and1 (and1 (and1 (and1 (and1 (and1 (and1 h).2).2).2).2).2).2).2).2).2).2).2).2).2).1 (and1 (and1 (and1 (and1 (and1 (and1 (and1 (and1 (and1 (and1 (and1 (and1 (and1 (and1 h).2).2).2).2).2).2).2).2).2).2).2).2).2).2
theorem s_int (i:Int):zaH T X G names (.int i):=λ m c env ls nm Fs H R Q E es l hn hm cv hE h=>by
 refine oneE2 zeC hm λ k _ _ hm=>?_;cases cInt_ok hm;exact zdM.fin (AE.int h) rfl
theorem s_str (i:Str):zaH T X G names (.str i):=λ m c env ls nm Fs H R Q E es l hn hm cv hE h=>by
 refine oneE2 zeC hm λ k _ _ hm=>?_;cases cStr_ok hm;exact zdM.fin (AE.str h) rfl
theorem s_bool (i:Bool):zaH T X G names (.bool i):=λ m c env ls nm Fs H R Q E es l hn hm cv hE h=>by
 refine oneE2 zeC hm λ k _ _ hm=>?_;cases cBool_ok hm;exact zdM.fin (AE.bool h) rfl
theorem s_none:zaH T X G names .none:=λ m c env ls nm Fs H R Q E es l hn hm cv hE h=>by
 refine oneE2 zeC hm λ k _ _ hm=>?_;cases cNone_ok hm;exact zdM.fin (AE.none h) rfl
theorem s_var (x:Nat):zaH T X G names (.var x):=λ m c env ls nm Fs H R Q E es l hn hm cv hE h=>by
 refine oneE zaS hm λ s _ hm=>?_;refine q04 (vName_ok hm) λ h1 h2 h3 h4=>?_;have h:(match lkN x l with
  | some p=>wFin T m Q p H
  | Option.none=>False):=h
 cases e:lkN x l with
 | none=>rw[e]at h;exact h.elim
 | some p=>
  rw[e]at h;exact zdM.fin (AE.name hn h2 (cv.get e h1) h h3 h4) rfl
theorem s_glob (GO:GOk T.C G)(p:PV):zaH T X G names (.glob p):=λ m c env ls nm Fs H R Q E es l hn hm cv hE h=>by
 refine oneE zaS hm λ s _ hm=>?_;refine and2 hm λ h1 h2=>?_;exact zdM.fin (AE.gl (C:=T.C) (G:=G) hn h1 (zqY GO h2) h) rfl
theorem s_bin (o:Operator){a b:IE}(Sa:zaH T X G names a)(Sb:zaH T X G names b):zaH T X G names (.bin o a b):=λ m c env ls nm Fs H R Q E es l hn hm cv hE h=>by
 refine oneE asBin_ok hm λ x _ hm=>?_;refine and2 hm λ h1 h2=>?_;refine and3 h1 λ h1 h3 h4=>?_;refine and2 h2 λ h2 h5=>?_;rw[<- eq_of_beq h1];exact zdM.fin (AE.binop (AE.mono (Sa.ae (nL h3) hn h2 cv hE h) λ p H1 h=>AE.mono (Sb.ae (nL h4) hn h5 cv hE h) λ q H2' h=>(wBin_ok h).noE)) rfl
theorem s_un (o:UnaryOp){a:IE}(Sa:zaH T X G names a):zaH T X G names (.un o a):=λ m c env ls nm Fs H R Q E es l hn hm cv hE h=>by
 refine oneE asUn_ok hm λ x _ hm=>?_;refine and2 hm λ h1 h2=>?_;refine and2 h1 λ h1 h4=>?_;rw[<- eq_of_beq h1];cases m with
 | v=>
  have h:w T X a .v l H R λ p H1=>wUn T o p H1 Q:=by cases o <;> exact h
  exact AE.unop (AE.mono (Sa.ae (nL h4) hn h2 cv hE h) λ p H1 h=>(wUn_ok h).noE)
 | t=>
  cases o with
  | Not=>exact AT.not (AT.mono (Sa.at_ (nL h4) hn h2 cv hE h) λ b H1 h=>h)
  | _=>exact h.elim
 | a=>trivial
 | o=>trivial
 | b=>trivial
theorem s_cmp (o:CmpOp){a b:IE}(Sa:zaH T X G names a)(Sb:zaH T X G names b):zaH T X G names (.cmp o a b):=λ m c env ls nm Fs H R Q E es l hn hm cv hE h=>by
 refine oneE zuZ hm λ x _ hm=>?_;refine zaN hm λ op ho hm=>?_;refine zaN hm λ r hr hm=>?_;rw[zgU ho,zgU hr];refine and2 hm λ h1 h2=>?_;refine and4 h1 λ h1 h3 h4 h5=>?_;refine and2 h2 λ h2 h6=>?_;rw[<- eq_of_beq h1];cases m with
 | v=>exact AE.cmp (AE.mono (Sa.ae (nL h4) hn h2 cv hE h) λ p H1 h=>AE.mono (Sb.ae (nL h5) hn h6 cv hE h) λ q H2' h=>(zqF h).noE) (zpV h3)
 | t=>exact AT.cmp (AE.mono (Sa.ae (nL h4) hn h2 cv hE h) λ p H1 h=>AE.mono (Sb.ae (nL h5) hn h6 cv hE h) λ q H2' h=>(zqF h).noE) (zpV h3)
 | a=>trivial
 | o=>trivial
 | b=>trivial
theorem s_cmp2 (o o':CmpOp){a b d:IE}(Sa:zaH T X G names a)(Sb:zaH T X G names b)(Sd:zaH T X G names d):zaH T X G names (.cmp2 o o' a b d):=λ m c env ls nm Fs H R Q E es l hn hm cv hE h=>by
 refine oneE zuZ hm λ x _ hm=>?_;refine zaN hm λ op ho hm=>?_;refine zaN hm λ r hr hm=>?_;rw[zjQ ho,zjQ hr];refine and2 hm λ h1 h2=>?_;refine and6 h1 λ h1 k1 k2 k3 k4 k5=>?_;refine and3 h2 λ h2 m1 m2=>?_;rw[<- eq_of_beq h1,<- eq_of_beq k1];cases m with
 | t=>
  refine AT.cmp2 (AE.mono (Sa.ae (nL k3) hn h2 cv hE h) λ p H1 h=>AE.mono (Sb.ae (nL k4) hn m1 cv hE h) λ q H2' h=>(ACmp.mono (zqF h).noE λ b H3 h=>?_)) (zpV k2);cases b with
  | true=>exact AE.mono (Sd.ae (nL k5) hn m2 cv hE h) λ q' H4 h=>(zqF h).noE
  | false=>exact h
 | v=>exact h.elim
 | a=>trivial
 | o=>trivial
 | b=>trivial
theorem consNe {a:IE}{hd:Bool}{nm:List (Str×NameKind)}(hc:a.isCons=true)(h:mE G names hd a nm []=true):False:=by
 cases a <;> first|exact absurd hc Bool.false_ne_true|exact absurd h Bool.false_ne_true
theorem s_boolop (o:BoolOp){a:IE}(Sa:zaH T X G names a):zaH T X G names (.boolop o a):=λ m c env ls nm Fs H R Q E es l hn hm cv hE h=>by
 refine oneE asBool_ok hm λ x _ hm=>?_;refine and2 hm λ h1 h2=>?_;refine and2 h1 λ h1 h3=>?_;rw[<- eq_of_beq h1];cases m with
 | t=>
  cases o with
  | And=>
   have:=Sa .a hn h2 cv hE h;rw[h3]at this;exact AT.boolop this.1
  | Or=>
   have:=Sa .o hn h2 cv hE h;rw[h3]at this;exact AT.boolop this
 | v=>
  cases o with
  | And=>
   have h:cond a.isCons (w T X a .b l H R Q) False:=h;cases hc:a.isCons with
   | false=>rw[hc]at h;exact h.elim
   | true=>
    rw[hc]at h;have:=Sa .b hn h2 cv hE h;rw[h3]at this;exact AE.mono (AE.andv (Q:=λ b H=>Q (.bool b) H) (λ q=>consNe hc (q▸h2)) this) λ p H' u9=>q12 u9 λ b e q=>e▸q
  | Or=>exact h.elim
 | a=>trivial
 | o=>trivial
 | b=>trivial
theorem s_ife {a b d:IE}(Sa:zaH T X G names a)(Sb:zaH T X G names b)(Sd:zaH T X G names d):zaH T X G names (.ife a b d):=λ m c env ls nm Fs H R Q E es l hn hm cv hE h=>by
 refine oneE asIf_ok hm λ x _ hm=>?_;refine and2 hm λ h1 h2=>?_;refine and3 h1 λ h1 k1 k2=>?_;refine and3 h2 λ h2 m1 m2=>?_;cases m with
 | v=>
  refine AE.ifexp (AT.mono (Sa.at_ (nL h1) hn h2 cv hE h) λ b' H1 h=>?_);cases b' with
  | true=>exact Sb.ae (nL k1) hn m1 cv hE h
  | false=>exact Sd.ae (nL k2) hn m2 cv hE h
 | t=>exact h.elim
 | a=>trivial
 | o=>trivial
 | b=>trivial
theorem s_nil:zaH T X G names .nil:=λ m c env ls nm Fs H R Q E es l hn hm cv hE h=>by
 cases zhK hm;cases m with
 | v=>exact AL.nil h
 | a=>exact⟨AAll.and_nil h,λ _=>h⟩
 | o=>exact AAll.or_nil h
 | b=>exact zqI.nil (Q:=λ b H=>Q (.bool b) H) h
 | t=>trivial
theorem s_cons {a b:IE}(Sa:zaH T X G names a)(Sb:zaH T X G names b):zaH T X G names (.cons a b):=λ m c env ls nm Fs H R Q E es l hn hm cv hE h=>by
 cases es with
 | nil=>cases hm
 | cons e r=>
  refine and2 hm λ h1 h2=>?_;refine and3 h1 λ h1 k2 k1=>?_;refine and2 h2 λ h2 m1=>?_;cases m with
  | v=>exact AL.cons (AE.mono (Sa.ae (nL k2) hn h2 cv hE h) λ p H1 h=>AL.mono (Sb.al k1 hn m1 cv hE h) λ ps H2' h=>h) (zaZ h1).1
  | a=>
   refine⟨AAll.and (AT.mono (Sa.at_ (nL k2) hn h2 cv hE h) λ b' H1 h=>?_),λ e=>?_⟩
   ·cases b' with
    | true=>
     have:=Sb .a hn m1 cv hE h;rw[k1]at this;exact this.1
    | false=>exact h
   ·subst e
    refine AT.mono (Sa.at_ (nL k2) hn h2 cv hE h) λ b' H1 h=>?_;cases b' with
    | true=>
     have:=Sb .a hn m1 cv hE h;rw[k1]at this;exact this.2 rfl
    | false=>exact h
  | o=>
   refine AAll.or (AT.mono (Sa.at_ (nL k2) hn h2 cv hE h) λ b' H1 h=>?_);cases b' with
   | true=>exact h
   | false=>
    have:=Sb .o hn m1 cv hE h;rw[k1]at this;exact this
  | b=>
   refine zqI.cons (Q:=λ b H=>Q (.bool b) H) (AE.mono (Sa.ae (nL k2) hn h2 cv hE h) λ p H1 h=>?_);cases p with
   | bool c=>
    refine⟨c,rfl,?_⟩;cases c with
    | true=>
     have:=Sb .b hn m1 cv hE h;rw[k1]at this;exact this
    | false=>exact h
   | _=>exact h.elim
  | t=>trivial
theorem ble_ok {n:Nat}{A:Prop}(h:cond (Nat.ble n 1000) A False):n<=1000/\A:=by
 cases e:Nat.ble n 1000 with
 | true=>rw[e]at h;exact⟨Nat.le_of_ble_eq_true e,h⟩
 | false=>rw[e]at h;exact h.elim
theorem s_tup {a:IE}(Sa:zaH T X G names a):zaH T X G names (.tup a):=λ m c env ls nm Fs H R Q E es l hn hm cv hE h=>by
 refine oneE2 ziW hm λ x _ _ hm=>?_;refine and2 hm λ h1 h2=>?_;exact zdM.fin (AE.tuple (AL.mono (Sa.al h1 hn h2 cv hE h) λ ps H1 h=>ble_ok h)) rfl
theorem s_list {a:IE}(Sa:zaH T X G names a):zaH T X G names (.list a):=λ m c env ls nm Fs H R Q E es l hn hm cv hE h=>by
 refine oneE asList_ok hm λ x _ hm=>?_;refine and2 hm λ h1 h2=>?_;exact zdM.fin (AE.list (AL.mono (Sa.al h1 hn h2 cv hE h) λ ps H1 h=>ble_ok h)) rfl
theorem s_attr (y:Str){a:IE}(Sa:zaH T X G names a):zaH T X G names (.attr a y):=λ m c env ls nm Fs H R Q E es l hn hm cv hE h=>by
 refine oneE0 zmW hm λ x hm=>?_;refine and2 hm λ h1 h2=>?_;refine and3 h1 λ h1 k1 k2=>?_;rw[<- eq_of_beq h1];refine zdM.fin (AE.attr (base_ok k1) (AE.mono (Sa.ae (nL k2) hn h2 cv hE h) λ p H1 h=>?_)) rfl;have h:SGet T y p H1 (wFin T m Q):=h;unfold SGet at h;exact (h _).noE
theorem s_sub {a b:IE}(Sa:zaH T X G names a)(Sb:zaH T X G names b):zaH T X G names (.sub a b):=λ m c env ls nm Fs H R Q E es l hn hm cv hE h=>by
 refine oneE zkM hm λ x _ hm=>?_;refine and2 hm λ h1 h2=>?_;refine and3 h1 λ h1 k1 k2=>?_;refine and2 h2 λ h2 m1=>?_;refine zdM.fin (AE.sub (AE.mono (Sa.ae (nL k1) hn h2 cv hE h) λ p H1 h=>AE.mono (Sb.ae (nL k2) hn m1 cv hE h) λ q H2' h=>?_)) rfl;have h:SSub T p q H2' (wFin T m Q):=h;unfold SSub at h;exact (h _ _ _ (idx_ok h1)).noE
theorem csOk {k:Option Expr}{s:Str}(h:(k.any λ e=>(zeL e).any (cStr s))=true):∃ u p,k=some (.Constant (.str s) u p):=by
 refine q12 (any_some h) λ e he h=>?_;refine q12 (any_some h) λ c hc h=>?_;refine q21 (zeC hc) λ u p e1=>?_;exact⟨u,p,by rw[he,e1,cStr_ok h]⟩
theorem ciOk {e:Expr}{i:Int}(h:(zeL e).any (cInt i)=true):∃ u p,e=.Constant (.int i) u p:=by
 refine q12 (any_some h) λ c hc h=>?_;refine q21 (zeC hc) λ u p e1=>?_;exact⟨u,p,by rw[e1,cInt_ok h]⟩
theorem s_bw0 (i j:Int):zaH T X G names (.bw0 i j):=λ m c env ls nm Fs H R Q E es l hn hm cv hE h=>by
 refine oneE asDict_ok hm λ x _ hm=>?_;refine zaN hm λ k hk hm=>?_;refine zaN hm λ v hv hm=>?_;rw[zjQ hk,zjQ hv];refine and4 hm λ m1 m2 m3 m4=>?_;refine q21 (csOk m1) λ _ _ c1=>?_;refine q21 (csOk m2) λ _ _ c2=>?_;refine q21 (ciOk m3) λ _ _ c3=>?_;refine q21 (ciOk m4) λ _ _ c4=>?_;rw[c1,c2,c3,c4];exact zdM.fin (AE.bw0 h) rfl
theorem isNo_ok {a:IE}(h:a.isNo=true):a=.none:=by cases a <;> first|exact rfl|exact absurd h Bool.false_ne_true
theorem zxI {p:PV}{K:Option Int->Prop}(h:wPart false p K):∃ i,p=.int i/\K (some i):=by
 cases p <;> first|exact⟨_,rfl,h⟩|exact h.elim
theorem s_part {a:IE}(Sa:zaH T X G names a){c:FK}{env:Env}{ls:Ls}{nm:List (Str×NameKind)}{Fs:List AF}{H:zaA}{R:zaA->Prop}{Q:Option Int->zaA->Prop}{E:Value->Shared->Prop}{e:Option Expr}{l:LN}
  (hL:a.isL=false) (hn:env.scope.names=nm) (hm:(match e with|some e=>!a.isNo&&mE G names T.hd a nm [e] | none=>a.isNo)=true) (cv:Cov names l ls) (hE:∀ e s,Thr T.C ⟨c,env,ls⟩ Fs X R e s->E e s)
  (h:w T X a .v l H R λ p H'=>wPart a.isNo p λ i=>Q i H'):zkB T ⟨c,env,ls⟩ Fs H e Q E:=by
 cases e with
 | none=>
  cases isNo_ok hm;exact h
 | some e=>
  refine and2 hm λ h1 h2=>?_;rw[nL h1]at h;refine zkB.some (AE.mono (Sa.ae hL hn h2 cv hE h) λ p H' h=>?_);exact zxI h
theorem zkB.mono {f:FR}{Fs:List AF}{H:zaA}{E:Value->Shared->Prop}{e:Option Expr}{Q Q':Option Int->zaA->Prop}(h:zkB T f Fs H e Q E)(hq:∀ i H,Q i H->Q' i H):zkB T f Fs H e Q' E:=by
 cases e with
 | none=>exact hq _ _ h
 | some e=>exact AE.mono h λ p H' u9=>q12 u9 λ i e h=>⟨i,e,hq _ _ h⟩
theorem s_slice {a lo hi:IE}(Sa:zaH T X G names a)(Sl:zaH T X G names lo)(Sh:zaH T X G names hi):zaH T X G names (.slice a lo hi):=λ m c env ls nm Fs H R Q E es l hn hm cv hE h=>by
 refine oneE zkM hm λ x _ hm=>?_;refine zaN hm λ z hz hm=>?_;obtain⟨_,hz⟩:=zxR hz;rw[hz];refine and2 hm λ h1 h2=>?_;refine and4 h1 λ h1 k1 k2 k3=>?_;refine and3 h2 λ h2 m1 m2=>?_;rw[oN_ok h1];refine zdM.fin (AE.slice (AE.mono (Sa.ae (nL k1) hn h2 cv hE h) λ p H1 h=>zkB.mono (s_part Sl (nL k2) hn m1 cv hE h) λ i H2' h=>zkB.mono (s_part Sh (nL k3) hn m2 cv hE h) λ j H3 h=>?_)) rfl;have h:zdV T p i j H3 (wFin T m Q):=h;unfold zdV at h;exact h
theorem s_call (GO:GOk T.C G)(g:PV){a:IE}(Sa:zaH T X G names a):zaH T X G names (.call g a):=λ m c env ls nm Fs H R Q E es l hn hm cv hE h=>by
 refine oneE0 zrS hm λ x hm=>?_;refine zaN hm λ s hs hm=>?_;obtain⟨_,hs⟩:=zaS hs;refine and2 hm λ h1 h2=>?_;refine and5 h1 λ k1 h1 k2 k3 k4=>?_;rw[hs,zhK k1];have g1:=zqY GO k2;refine zdM.fin (AE.call (λ _=>rfl) k3 (AE.gl (C:=T.C) (G:=G) hn h1 g1 ⟨g1.1 rfl,AL.mono (Sa.al k4 hn h2 cv hE h) λ ps H1 h=>?_⟩)) rfl;have h:zaG T X g ps H1 (wFin T m Q) R:=h;unfold zaG at h;exact h _ _ λ e s x=>hE e s (.inr x)
theorem s_meth (y:Str){o a:IE}(So:zaH T X G names o)(Sa:zaH T X G names a):zaH T X G names (.meth o y a):=λ m c env ls nm Fs H R Q E es l hn hm cv hE h=>by
 refine oneE0 zrS hm λ x hm=>?_;refine zaN hm λ z hz hm=>?_;refine and2 hm λ h1 h2=>?_;refine and8 h1 λ k1 h1 k2 k3 k4 k5 k6 k7=>?_;refine and2 h2 λ h2 m1=>?_;rw[zmW hz,zhK k1,<- eq_of_beq h1];refine zdM.fin (AE.meth (base_ok k2) k3 (Nat.le_of_ble_eq_true k4) k5 (AE.mono (So.ae (nL k7) hn h2 cv hE h) λ p H1 h=>?_)) rfl;refine q12 h ?_;clear h;intro g hg h;unfold zbQ at hg;refine⟨g,hg.1,hg.2 _,AL.mono (Sa.al k6 hn m1 cv hE h) λ ps H2' h=>?_⟩;have h:zaG T X g (p::ps) H2' (wFin T m Q) R:=h;unfold zaG at h;exact h _ _ λ e s x=>hE e s (.inr x)
theorem zkQ {nm:List (Str×NameKind)}{x:Nat}{s:Str}(h:lName names nm x s=true):names[x]?=some s/\nm.lookup s=some .local:=by
 refine and2 h λ h1 h2=>?_;exact⟨eq_of_beq h1,eq_of_beq h2⟩
inductive CTok (names:List Str)(nm:List (Str×NameKind)):CT->Expr->Prop
 | one (x:Nat) (s:Str) (p:Pos) (h1:names[x]?=some s) (h2:zfC (nm.lookup s)=true):CTok names nm (.one x) (.Name s p)
 | two (x y:Nat) (s t:Str) (p q:Pos) (k:Nat) (r:Pos) (h1:names[x]?=some s/\nm.lookup s=some .local) (h2:names[y]?=some t/\nm.lookup t=some .local):CTok names nm (.many [x,y]) (.Tuple [.Name s p,.Name t q] k r)
theorem zsI {t:CT}{nm:List (Str×NameKind)}{e:Expr}(h:mCT names nm t e=true):CTok names nm t e:=by
 cases t with
 | one x=>
  refine zaN h λ s hs hm=>?_;obtain⟨p,e1⟩:=zaS hs;refine and2 hm λ h1 h2=>?_;exact e1▸.one x s p (eq_of_beq h1) h2
 | many vs=>
  refine zaN h λ v hv h=>?_;refine zaN h λ es he h=>?_;refine q21 (ziW he) λ k r e0=>?_;refine zaN h λ x hx h=>?_;refine and2 h λ h1 h2=>?_;refine zaN h1 λ s hs h1=>?_;refine zaN h2 λ t ht h2=>?_;obtain⟨p,e1⟩:=zaS hs;obtain⟨q,e2⟩:=zaS ht;rw[e0,zjQ hv,zjQ hx,e1,e2];exact .two _ _ _ _ _ _ _ _ (zkQ h1) (zkQ h2)
theorem mCT_vars {t:CT}{nm:List (Str×NameKind)}{e:Expr}(h:mCT names nm t e=true):∀ v∈t.vars,∃ s,names[v]?=some s/\zfC (nm.lookup s)=true:=by
 cases zsI h with
 | one x s p h1 h2=>
  intro v hv;rw[List.mem_singleton.mp hv];exact⟨_,h1,h2⟩
 | two x y s t p q k r h1 h2=>
  intro v hv;rcases List.mem_cons.mp hv with rfl|hv
  ·exact⟨_,h1.1,by rw[h1.2];rfl⟩
  ·rw[List.mem_singleton.mp hv];exact⟨_,h2.1,by rw[h2.2];rfl⟩
theorem zqB {α:Type}{x:α}{P:Prop}(h:(none:Option α)=some x):P:=nomatch h
theorem zvW {x y:Nat}{p:PV}{l l':LN}(hb:zrW (.many [x,y]) p l=some l'):∃ p1 p2,p=.tup [p1,p2]/\l'=(y,p2)::(x,p1)::l:=by
 cases p with
 | tup ps=>
  cases ps with
  | nil=>exact zqB hb
  | cons a r=>cases r with
   | nil=>exact zqB hb
   | cons b r=>cases r with
    | nil=>cases hb;exact⟨a,b,rfl,rfl⟩
    | cons _ _=>exact zqB hb
 | _=>exact zqB hb
theorem AA.nameO {own:List Addr}{x:Str}{pos:Pos}{p:PV}{env:Env}{ls:Ls}{ns nm:List (Str×NameKind)}{Fs:List AF}{H:zaA}{Q:Ls->zaA->Prop}{E:Value->Shared->Prop}(hn:env.scope.names=relN ns nm)(ho:zsK own ns env)(hk:zfC (ns.lookup x)=true)(h:Q ((x,p)::ls) H):AA T ⟨.cp own,env,ls⟩ Fs H (.Name x pos) p Q E:=
 λ A s v ok R hp=>wpAny_assign_Name (zdE R (by
  rw[show env.kindOf x=env.scope.names.lookup x from rfl,hn,zfS];have ho:=ho x;cases e:ns.lookup x with
  | none=>rw[e]at hk;cases hk
  | some k=>cases k with
   | «local»=>exact .inl rfl
   | cell=>exact .inr ⟨rfl,ho e⟩
   | _=>rw[e]at hk;cases hk) hp λ s' R' tk=>⟨_,H,R',tk,h⟩)
theorem bind_ok (hh:T.hd=false)(nd:names.Nodup){t:CT}{own:List Addr}{env:Env}{ns nm:List (Str×NameKind)}{e:Expr}{ls:Ls}{l l':LN}{p:PV}{Fs:List AF}{H:zaA}{Q:Ls->zaA->Prop}{E:Value->Shared->Prop}(hn:env.scope.names=relN ns nm)(ho:zsK own ns env)(h:mCT names ns t e=true)(cv:Cov names l ls)(hb:zrW t p l=some l')
  (hq:∀ ls',Cov names l' ls'->(∀ y q,(∀ v∈t.vars,names[v]?≠some y)->ls.lookup y=some q->ls'.lookup y=some q)->Q ls' H):AA T ⟨.cp own,env,ls⟩ Fs H e p Q E:=by
 cases zsI h with
 | one x s p' h1 h2=>
  cases hb;exact AA.nameO hn ho h2 (hq _ (cv.put nd h1) λ y q hy e=>zbM (beq_eq_false_iff_ne.mpr λ e'=>hy _ (.head _) (e'▸h1)) e)
 | two x y s t p' q k r h1 h2=>
  refine q22 (zvW hb) λ p1 p2 u0 u1=>?_;cases u0;cases u1;refine AA.tup rfl rfl (AAs.cons' rfl (AA.nameO hn ho (by rw[h1.2];rfl) (AAs.cons' rfl (AA.nameO hn ho (by rw[h2.2];rfl) (AAs.nil' (hq _ ((cv.put nd h1.1).put nd h2.1) λ y q hy e=>?_))))));exact zbM (beq_eq_false_iff_ne.mpr λ e'=>hy _ (.tail _ (.head _)) (e'▸h2.1)) (zbM (beq_eq_false_iff_ne.mpr λ e'=>hy _ (.head _) (e'▸h1.1)) e)
noncomputable def stepC (T:Tr)(X:String)(t:CT)(fs e:IE)(l:LN)(v:PV)(H':zaA)(K:Option PV->zaA->Prop):Prop:=match zrW t v (zhU t.vars l) with
  | some ls'=>w T X fs .a ls' H' noR λ b H2'=>match b with
   | .bool b=>cond b (w T X e .v ls' H2' noR λ r H3=>K (some r) H3) (K Option.none H2')
   | _=>False
  | Option.none=>False
theorem zrT (hh:T.hd=false)(nd:names.Nodup){t:CT}{fs e:IE}(Sf:zaH T X G names fs)(Se:zaH T X G names e){scope:Scope}{nm:List (Str×NameKind)}{target elt:Expr}{ifs:List Expr}{ls:Ls}{l:LN}(cv:Cov names l ls)
  (ho:ownOk names t.vars scope=true) (hmt:mCT names scope.names t target=true) (hlf:fs.isL=true) (hle:e.isL=false) (hmf:mE G names T.hd fs (relN scope.names nm) ifs=true) (hme:mE G names T.hd e (relN scope.names nm) [elt]=true)
  {own:List Addr} {cenv:Env} (hc:cenv.scope.names=relN scope.names nm) (hco:zsK own scope.names cenv) {D:Addr} {post:List AF} {Fs':List AF} {H':zaA} {out:List PV} (hz:out.length<=100000) {v:PV} {K:List PV->zaA->Prop} (h:stepC T X t fs e l v H' λ r H''=>K (out++r.toList) H''):
  AA T ⟨.cp own,cenv,zeR scope.names ls⟩ Fs' H' target v (λ ls' H2'=>Sub (zeR scope.names ls) ls'/\AIfs T ⟨.cp own,cenv,ls'⟩ Fs' H2' ifs (λ b H3=>if b then zfT T ⟨.cp own,cenv,ls'⟩ D post (zrE elt) H3 out (λ out' H4=>out'.length<=out.length+1/\K out' H4) else K out H3)) NoE:=by
 cases hb:zrW t v (zhU t.vars l) with
 | none=>unfold stepC at h;rw[hb]at h;exact h.elim
 | some l'=>
  unfold stepC at h;rw[hb]at h;refine bind_ok hh nd hc hco hmt (cv.drop nd ho) hb λ ls' cv' keep=>⟨λ y q hy=>keep y q (λ v hv ev=>?_) hy,?_⟩
  ·refine q12 (mCT_vars hmt v hv) λ s h1 h2=>?_
   have ey:s=y:=Option.some.inj (h1.symm.trans ev);subst ey;rw[(zdB hy).2]at h2;cases h2
  ·have hf:=Sf .a (E:=NoE) (c:=.cp own) (Fs:=Fs') (es:=ifs) hc hmf cv' (λ _ _=>zxM) h
   rw[hlf]at hf;refine AIfs.mono (hf.2 rfl) λ b H2' hb2=>?_;cases b with
   | true=>
    rw[if_pos rfl];exact zfT.elt hz λ Fs''=>AE.mono (Se.ae hle hc hme cv' (λ _ _=>zxM) hb2) λ r H3 h=>⟨by simp,h⟩
   | false=>
    rw[if_neg (by decide)];have hb2:K (out++(Option.none:Option PV).toList) H2':=hb2;rw[Option.toList_none,List.append_nil]at hb2;exact hb2
inductive zsJ (T:Tr)(c:FK)(env:Env)(ls:Ls)(nm:List (Str×NameKind))(Fs:List AF)(H:zaA)(v:Expr)(P:List PV->zaA->Prop)(E:Value->Shared->Prop):Prop
 | mk (elt target iter:Expr) (ifs:List Expr) (rest:List Comprehension) (scope:Scope) (pos:Pos) (emit:Value->Env->Sem Unit) (e:v=.ListComp elt (⟨target,iter,ifs,0⟩::rest) scope pos) (hh:T.hd=false) (sc:zgM scope nm) (hf:∀ env x,foldedSetIterable iter env x=pure x) (sh:zbP elt (⟨target,iter,ifs,0⟩::rest) scope pos 0 target ifs emit) (g:zfK T scope.names nm c env ls Fs H iter target ifs emit P E)
noncomputable def newList (Q:PV->zaA->Prop)(out:List PV)(H:zaA):Prop:=∀ a,H a=Option.none->Q (.ref a) (upd H a (.list out))
theorem zsJ.ae {c:FK}{env:Env}{ls:Ls}{nm:List (Str×NameKind)}{Fs:List AF}{H:zaA}{v:Expr}{Q:PV->zaA->Prop}{E:Value->Shared->Prop}(hn:env.scope.names=nm)(h:zsJ T c env ls nm Fs H v (newList Q) E):AE T ⟨c,env,ls⟩ Fs H v Q E:=by
 obtain⟨elt,target,iter,ifs,rest,scope,pos,emit,rfl,hh,sc,hf,sh,h⟩:=h;exact AE.compG hh hn sc (hf env) sh h
theorem zrQ {S:Ls->Prop}{own:List Addr}{cenv:Env}{D:Addr}{post Fs':List AF}{H':zaA}{target:Expr}{ifs:List Expr}{emit:Value->Env->Sem Unit}{v:PV}{out:List PV}{i:Nat}{K K2:List PV->zaA->Prop}{ls0:Ls}
  (h:AA T ⟨.cp own,cenv,ls0⟩ Fs' H' target v (λ ls' H2'=>S ls'/\AIfs T ⟨.cp own,cenv,ls'⟩ Fs' H2' ifs (λ b H3=>if b then zfT T ⟨.cp own,cenv,ls'⟩ D post emit H3 out (λ out' H4=>out'.length<=out.length+1/\K out' H4) else K out H3)) NoE)
  (hlo:out.length<=i) (next:∀ out' H4,out'.length<=i+1->K out' H4->K2 out' H4):
  AA T ⟨.cp own,cenv,ls0⟩ Fs' H' target v (λ ls' H2'=>S ls'/\AIfs T ⟨.cp own,cenv,ls'⟩ Fs' H2' ifs (λ b H3=>if b then zfT T ⟨.cp own,cenv,ls'⟩ D post emit H3 out K2 else K2 out H3)) NoE:=
 AA.mono h λ ls' H2' hx=>⟨hx.1,AIfs.mono hx.2 λ b H3 hb=>by
  cases b with
  | true=>exact zfT.mono hb λ out' H4 hx=>next out' H4 (Nat.le_trans hx.1 (Nat.succ_le_succ hlo)) hx.2
  | false=>exact next out H3 (Nat.le_succ_of_le hlo) hb⟩
noncomputable def LI (a:Addr)(li:List PV)(J:Nat->List PV->zaA->Prop)(n:Nat)(y:AIt)(out:List PV)(H':zaA):Prop:=∃ i,y=.list a i/\n=li.length-i/\i<=li.length/\out.length<=i/\J i out H'
noncomputable def DI (d:Addr)(ob:Obj)(li:List (Pt×PV))(J:Nat->List PV->zaA->Prop)(n:Nat)(y:AIt)(out:List PV)(H':zaA):Prop:=∃ i,y=.keys d ob i/\n=li.length-i/\i<=li.length/\out.length<=i/\J i out H'
noncomputable def RI (n:Nat)(J:Nat->List PV->zaA->Prop)(k:Nat)(y:AIt)(out:List PV)(H':zaA):Prop:=∃ i:Nat,y=zjG i n/\k=n-i/\i<=n/\out.length<=i/\J i out H'
theorem znG {g:Comprehension}{a:Expr}{f:List Expr}(h1:g.target=a)(h2:g.ifs=f)(h3:g.is_async=0):g=⟨a,g.iter,f,0⟩:=by
 obtain⟨t,i,f',n⟩:=g;cases h1;cases h2;cases h3;rfl
theorem g_comp (nd:names.Nodup)(t:CT){it fs e:IE}(Si:zaH T X G names it)(Sf:zaH T X G names fs)(Se:zaH T X G names e){c:FK}{env:Env}{ls:Ls}{nm:List (Str×NameKind)}{Fs:List AF}{H:zaA}{R:zaA->Prop}{Q:PV->zaA->Prop}{E:Value->Shared->Prop}{es:List Expr}{l:LN}
  (hn:env.scope.names=nm) (hm:mE G names T.hd (.comp t it fs e) nm es=true) (cv:Cov names l ls) (hE:∀ e s,Thr T.C ⟨c,env,ls⟩ Fs X R e s->E e s) (h:w T X (.comp t it fs e) .v l H R Q):∃ v,es=[v]/\zsJ T c env ls nm Fs H v (newList Q) E:=by
 refine zaN hm λ ex he hm=>?_;refine zaN hm λ z hz hm=>?_;refine zaN hm λ g hg hm=>?_;refine and2 hm λ h1 h2=>?_;refine and9 h1 λ h1 k8 k7 k6 k5 k0 k3 k2 k1=>?_;refine and3 h2 λ h2 m2 m1=>?_;have hh:=nL h1;obtain⟨q,hz⟩:=ziF hz;have hes:es=[.ListComp z.1 [⟨g.target,g.iter,g.ifs,0⟩] z.2.2 q]:=by
  rw[zgU he,hz,zgU hg,<- znG rfl rfl (eq_of_beq k0)]
 refine⟨_,hes,.mk _ _ _ _ _ _ _ _ rfl hh (sc_ok k8) (λ env x=>zqN k6 env x) shape1 (AE.pins (AE.mono (Si.ae (nL k3) hn h2 cv hE h) λ p H1 h=>?_))⟩;have h:zfD T p H1 (stepC T X t fs e l) Q:=h;cases h with
 | list a li e1 hl hz J h0 hk turn fin=>
  subst e1;refine .inl ⟨.list a 0,zcV.list hl,LI a li J,li.length,⟨0,rfl,rfl,Nat.zero_le _,Nat.zero_le _,h0⟩,?_⟩;intro own cenv D post hc hco n y out H' uu;refine q15 uu ?_;clear uu;intro i u0;cases u0;intro u1;cases u1;intro hle hlo hJ;refine⟨li,hk i out H' hJ,λ v ev Fs'=>?_,λ ev=>?_⟩
  ·have hlt:=(List.getElem?_eq_some_iff.mp ev).1
   exact zrQ (zrT hh nd Sf Se cv k7 k5 k2 (nL k1) m2 m1 hc hco (D:=D) (post:=post) (Fs':=Fs') (Nat.le_trans hlo (Nat.le_trans hle hz)) (K:=J (i+1)) (turn i v out H' ev hJ)) hlo λ out' H4 hl' hJ'=>⟨_,zdX hlt,i+1,rfl,rfl,hlt,hl',hJ'⟩
  ·have hi:i=li.length:=Nat.le_antisymm hle (List.getElem?_eq_none_iff.mp ev)
   subst hi;refine q12 (fin out H' hJ) λ H2' ex hq=>?_;exact⟨H2',ex.wk,hq⟩
 | rangeF a lo n e1 hle0 hl hz J h0 turn fin=>
  subst e1;refine .inl ⟨_,zcV.rngK hl hle0 (Nat.lt_of_le_of_lt hz (by decide)),RI n λ i o H'=>lo<=i/\J i o H',n-lo,⟨lo,rfl,rfl,hle0,Nat.zero_le _,Nat.le_refl lo,h0⟩,?_⟩;intro own cenv D post hc hco k y out H' uu;refine q11 uu ?_;clear uu;intro i u8;refine q06 u8 ?_;clear u8;intro u0;cases u0;intro u1;cases u1;intro hle hlo hge hJ;refine zjG.turn hle (λ hlt Fs'=>?_) (λ e=>by subst e;refine q12 (fin out H' hJ) λ H2' ex hq=>?_;exact⟨H2',ex.wk,hq⟩);exact zrQ (zrT hh nd Sf Se cv k7 k5 k2 (nL k1) m2 m1 hc hco (D:=D) (post:=post) (Fs':=Fs') (Nat.le_trans hlo (Nat.le_trans hle hz)) (K:=J (i+1)) (turn i out H' hge hlt hJ)) hlo λ out' H4 hl' hJ'=>⟨_,zdX hlt,i+1,rfl,rfl,hlt,hl',Nat.le_succ_of_le hge,hJ'⟩
theorem s_comp (nd:names.Nodup)(t:CT){it fs e:IE}(Si:zaH T X G names it)(Sf:zaH T X G names fs)(Se:zaH T X G names e):zaH T X G names (.comp t it fs e):=λ m c env ls nm Fs H R Q E es l hn hm cv hE h=>by
 refine q12 (g_comp nd t Si Sf Se (Q:=wFin T m Q) hn hm cv hE h) ?_;intro v u0;cases u0;intro hc;exact zdM.fin (hc.ae hn) (hc.casesOn λ _ _ _ _ _ _ _ _ e _ _ _ _ _=>by rw[e];rfl)
end
section
variable {T:Tr}{X:String}{G:GT}{names:List Str}
theorem zvP (nd:names.Nodup)(x y:Nat){i1 i2 fs e:IE}(S1:zaH T X G names i1)(S2:zaH T X G names i2)(Sf:zaH T X G names fs)(Se:zaH T X G names e){c:FK}{env:Env}{ls:Ls}{nm:List (Str×NameKind)}{Fs:List AF}{H:zaA}{R:zaA->Prop}{Q:PV->zaA->Prop}{E:Value->Shared->Prop}{es:List Expr}{l:LN}
  (hn:env.scope.names=nm) (hm:mE G names T.hd (.compRR x y i1 i2 fs e) nm es=true) (cv:Cov names l ls) (hE:∀ e s,Thr T.C ⟨c,env,ls⟩ Fs X R e s->E e s) (h:w T X (.compRR x y i1 i2 fs e) .v l H R Q):∃ v,es=[v]/\zsJ T c env ls nm Fs H v (newList Q) E:=by
 refine zaN hm λ ex he hm=>?_;refine zaN hm λ z hz hm=>?_;refine zaN hm λ g hg hm=>?_;refine zaN hm λ s hs hm=>?_;refine zaN hm λ t ht hm=>?_;refine and2 hm λ h1 h2=>?_;refine and15 h1 λ h1 k1 k2 k3 k4 k5 k6 k7 k8 k9 ka kb kc kd ke=>?_;refine and4 h2 λ m1 m2 m3 m4=>?_;have hh:=nL h1;obtain⟨q,hz⟩:=ziF hz;obtain⟨p1,e3⟩:=zaS hs;obtain⟨p2,e4⟩:=zaS ht;have hes:es=[.ListComp z.1 [⟨.Name s p1,g.1.iter,[],0⟩,⟨.Name t p2,g.2.iter,g.2.ifs,0⟩] z.2.2 q]:=by
  rw[zgU he,hz,zjQ hg,<- znG e3 (zhK ka) (eq_of_beq k8),<- znG e4 rfl (eq_of_beq k9)]
 obtain⟨hx,hxl⟩:=zkQ k5;obtain⟨hy,hyl⟩:=zkQ k6;have hst:s≠t:=bne_iff_ne.mp k7;refine q31 h ?_;clear h;intro n k gg u8;refine q04 u8 ?_;clear u8;intro b1 b2 b3 h;have cv0:=cv.drop nd k2;refine⟨_,hes,.mk _ _ _ _ _ _ _ _ rfl hh (sc_ok k1) (λ env x=>zqN k3 env x) shape2a (zfK.range2 gg hh hxl hyl hst b1 b2 b3 (λ cenv v _=>zqN k4 _ v) (AE.mono (S1.ae (nL kb) hn m1 cv hE h) λ p H1 h=>?_))⟩;refine q15 h ?_;clear h;intro a u0;cases u0;intro hl hi hj hf;refine⟨a,rfl,hl,λ i own cenv Fs' H' hlt hc ex=>S2.ae (nL kc) hc m2 (cv0.put nd hx) (λ _ _=>zxM) (hi i H' hlt ex),λ i j h1 h2 own cenv Fs' H' hc ex=>?_,hf⟩;have cv2:=(cv0.put nd hx (p:=.int i)).put nd hy (p:=.int j);have hf:=Sf .a (E:=NoE) (c:=.cp own) (Fs:=Fs') (es:=g.2.ifs) hc m3 cv2 (λ _ _=>zxM) (hj i j H' h1 h2 ex);rw[kd]at hf;refine AIfs.mono (hf.2 rfl) λ b H2' hb=>⟨hb.1,?_⟩
 cases b with
 | true=>
  refine q02 hb ?_;clear hb;intro _ u8;refine q12 u8 ?_;clear u8;intro r hr hb;rw[if_pos rfl];exact⟨r,hr,λ Fs''=>Se.ae (nL ke) hc m4 cv2 (λ _ _=>zxM) hb⟩
 | false=>
  rw[if_neg (by decide)];exact hb.2
theorem s_compRR (nd:names.Nodup)(x y:Nat){i1 i2 fs e:IE}(S1:zaH T X G names i1)(S2:zaH T X G names i2)(Sf:zaH T X G names fs)(Se:zaH T X G names e):zaH T X G names (.compRR x y i1 i2 fs e):=λ m c env ls nm Fs H R Q E es l hn hm cv hE h=>by
 refine q12 (zvP nd x y S1 S2 Sf Se (Q:=wFin T m Q) hn hm cv hE h) ?_;intro v u0;cases u0;intro hc;exact zdM.fin (hc.ae hn) (hc.casesOn λ _ _ _ _ _ _ _ _ e _ _ _ _ _=>by rw[e];rfl)
theorem zbH (GO:GOk T.C G)(nd:names.Nodup)(ie:IE):zaH T X G names ie:=by
 induction ie with
 | int i=>exact s_int i
 | str i=>exact s_str i
 | none=>exact s_none
 | bool b=>exact s_bool b
 | var x=>exact s_var x
 | glob p=>exact s_glob GO p
 | bin o a b ha hb=>exact s_bin o ha hb
 | un o a ha=>exact s_un o ha
 | cmp o a b ha hb=>exact s_cmp o ha hb
 | cmp2 o o' a b c ha hb hc=>exact s_cmp2 o o' ha hb hc
 | boolop o l hl=>exact s_boolop o hl
 | ife t a b ht ha hb=>exact s_ife ht ha hb
 | nil=>exact s_nil
 | cons a b ha hb=>exact s_cons ha hb
 | tup l hl=>exact s_tup hl
 | list l hl=>exact s_list hl
 | attr a x ha=>exact s_attr x ha
 | sub a i ha hi=>exact s_sub ha hi
 | slice a lo hi h1 h2 h3=>exact s_slice h1 h2 h3
 | call g l hl=>exact s_call GO g hl
 | meth o x l ho hl=>exact s_meth x ho hl
 | comp t it fs e h1 h2 h3=>exact s_comp nd t h1 h2 h3
 | compRR x y i1 i2 fs e h1 h2 h3 h4=>exact s_compRR nd x y h1 h2 h3 h4
 | bw0 x y=>exact s_bw0 x y
theorem isComp_of {e:IE}{hd:Bool}{nm:List (Str×NameKind)}{z1:Expr}{z2:List Comprehension}{z3:Scope}{p:Pos}(hl:e.isL=false)(hm:mE G names hd e nm [.ListComp z1 z2 z3 p]=true):(∃ t it fs e',e=.comp t it fs e')\/∃ x y i1 i2 fs e',e=.compRR x y i1 i2 fs e':=by
 cases e with
 | comp t it fs e=>exact .inl ⟨t,it,fs,e,rfl⟩
 | compRR x y i1 i2 fs e=>exact .inr ⟨x,y,i1,i2,fs,e,rfl⟩
 | cons=>cases hl
 | _=>exact absurd hm Bool.false_ne_true
theorem g_any (GO:GOk T.C G)(nd:names.Nodup){e:IE}{c:FK}{env:Env}{ls:Ls}{nm:List (Str×NameKind)}{Fs:List AF}{H:zaA}{R:zaA->Prop}{Q:PV->zaA->Prop}{E:Value->Shared->Prop}{v:Expr}{l:LN}{x}
  (hc:zpK v=some x) (hl:e.isL=false) (hn:env.scope.names=nm) (hm:mE G names T.hd e nm [v]=true) (cv:Cov names l ls) (hE:∀ e s,Thr T.C ⟨c,env,ls⟩ Fs X R e s->E e s) (h:w T X e .v l H R Q):zsJ T c env ls nm Fs H v (newList Q) E:=by
 obtain⟨p,rfl⟩:=ziF hc;rcases isComp_of hl hm with ⟨t,it,fs,e,rfl⟩|⟨x,y,i1,i2,fs,e,rfl⟩
 ·refine q12 (g_comp nd t (zbH GO nd it) (zbH GO nd fs) (zbH GO nd e) hn hm cv hE h) λ v hv h=>?_
  cases hv;exact h
 ·refine q12 (zvP nd x y (zbH GO nd i1) (zbH GO nd i2) (zbH GO nd fs) (zbH GO nd e) hn hm cv hE h) λ v hv h=>?_
  cases hv;exact h
end
noncomputable def IT.isL:IT->Bool
 | .nil=>true
 | .cons _ _=>true
 | _=>false
noncomputable def mT (G:GT)(names:List Str)(hd:Bool)(nm:List (Str×NameKind)):IT->List Expr->Bool
 | .var x,es=>(one es).any λ e=>(zcZ e).any (zvZ names nm x)
 | .tup l,es=>(one es).any λ e=>(zqM e).any λ vs=>(l.isL&&Nat.beq vs.length l.len)&&mT G names hd nm l vs
 | .tupL l,es=>(one es).any λ e=>(zqM e).any λ vs=>(l.isL&&Nat.beq vs.length l.len)&&mT G names hd nm l vs
 | .tupS t,es=>(one es).any λ e=>(zqM e).any λ vs=>(one vs).any λ v=>(!hd&&(!t.isL&&zcS [v]))&&mT G names hd nm t [v]
 | .nil,es=>emp es
 | .cons a b,es=>match es with
  | e::r=>(zcS (e::r)&&(!a.isL&&b.isL))&&(mT G names hd nm a [e]&&mT G names hd nm b r)
  | []=>false
 | .attr a y,es=>(one es).any λ e=>(zsD e).any λ x=>(y==x.2.1&&!a.isL)&&mE G names hd a nm [x.1]
 | .sub a i,es=>(one es).any λ e=>(asSub e).any λ x=>(!a.isL&&!i.isL)&&(mE G names hd a nm [x.1]&&mE G names hd i nm [x.2])
noncomputable def TGoal (T:Tr)(env:Env)(ls:Ls)(Fs:List AF)(H:zaA)(L:Bool)(es:List Expr)(p:PV)(Q:Ls->zaA->Prop)(E:Value->Shared->Prop):Prop:=match L,es with
 | true,es=>zcS es=true/\∀ ps,p=.tup ps->AAs T ⟨.fn,env,ls⟩ Fs H es ps Q E
 | false,[e]=>AA T ⟨.fn,env,ls⟩ Fs H e p Q E
 | _,_=>True
section
variable {T:Tr}{X:String}{G:GT}{names:List Str}
theorem zcJ {e:Expr}{es:List Expr}{env:Env}(h:zcS (e::es)=true):assignEach (e::es) env=(false,assign e env)::assignEach es env:=by
 cases e <;> first|rfl|cases h
theorem ztO {e:Expr}{es:List Expr}(h:zcS (e::es)=true):zcS es=true:=(zaZ (env:=default) h).2
theorem zhI {env:Env}{es:List Expr}(h:zcS es=true):(assignEach es env).length=es.length/\(assignEach es env).findIdx? (·.1)=none:=by
 induction es with
 | nil=>exact⟨rfl,rfl⟩
 | cons e es ih=>
  obtain⟨h1,h2⟩:=ih (ztO h);rw[zcJ h];exact⟨by rw[List.length_cons,List.length_cons,h1],by rw[List.findIdx?_cons,h2];rfl⟩
theorem Cov.storeH (nd:names.Nodup){l:LN}{ls:Ls}(cv:Cov names l ls){x:Nat}{nm:List (Str×NameKind)}{s:Str}{p:PV}(h:zvZ names nm x s=true):zfC (nm.lookup s)=true/\Cov names ((x,p)::l) ((s,p)::ls):=by
 obtain⟨h1,h2⟩:=and1 h;exact⟨h2,cv.put nd (eq_of_beq h1)⟩
noncomputable def QL (names:List Str)(Q:LN->zaA->Prop)(ls:Ls)(H:zaA):Prop:=∃ l,Cov names l ls/\Q l H
theorem oneT {α β:Type}{as:Expr->Option α}{mk:α->β->Expr}(ok:∀ {e x},as e=some x->∃ p,e=mk x p){f:Expr->α->Bool}{env:Env}{ls:Ls}{Fs:List AF}{H:zaA}{b:Bool}{es:List Expr}{p:PV}{Q:Ls->zaA->Prop}{E:Value->Shared->Prop}(h:((one es).any λ e=>(as e).any (f e))=true)(k:∀ x q,f (mk x q) x=true->TGoal T env ls Fs H b [mk x q] p Q E):TGoal T env ls Fs H b es p Q E:=by
 refine q12 (any_some h) λ e he h=>?_;refine q12 (any_some h) λ x hx h=>?_;obtain⟨q,rfl⟩:=ok hx;rw[zgU he];exact k x q h
theorem zkT {e:Expr}{x}(h:zqM e=some x):∃ q:Nat×Pos,e=.Tuple x q.1 q.2:=(ziW h).elim λ k h=>h.elim λ p h=>⟨(k,p),h⟩
theorem zwQ {e:Expr}{x}(h:zsD e=some x):∃ _:Unit,e=.Attribute x.1 x.2.1 x.2.2:=⟨(),zmW h⟩
theorem zuX (GO:GOk T.C G)(nd:names.Nodup)(it:IT):∀ {env:Env} {ls:Ls} {nm:List (Str×NameKind)} {Fs:List AF} {H:zaA} {R:LN->zaA->Prop} {Q:LN->zaA->Prop} {E:Value->Shared->Prop} {es:List Expr} {l:LN} {p:PV},
  env.scope.names=nm->mT G names T.hd nm it es=true->Cov names l ls->(∀ l ls e s,Cov names l ls->Thr T.C ⟨.fn,env,ls⟩ Fs X (R l) e s->E e s)->wT T X it p l H R Q->TGoal T env ls Fs H it.isL es p (QL names Q) E:=by
 induction it with
 | var x=>
  intro env ls nm Fs H R Q E es l p hn hm cv hE h;refine oneT zaS hm λ s _ hm=>?_;obtain⟨h1,h2⟩:=cv.storeH nd (p:=p) hm;exact AA.name hn h1 ⟨_,h2,h⟩
 | tup t ih=>
  intro env ls nm Fs H R Q E es l p hn hm cv hE h;refine oneT zkT hm λ vs _ hm=>?_;refine and2 hm λ h1 h2=>?_;refine and2 h1 λ h3 h4=>?_;have h:cond (lenOk p t.len) (wT T X t p l H R Q) False:=h;cases hk:lenOk p t.len with
  | false=>rw[hk]at h;exact h.elim
  | true=>
   rw[hk]at h;have:=ih hn h2 cv hE h;rw[h3]at this;cases p with
   | tup ps=>
    obtain⟨q1,q2⟩:=zhI (env:=env) this.1;exact AA.tup (q1.trans ((Nat.eq_of_beq_eq_true h4).trans (Nat.eq_of_beq_eq_true hk).symm)) q2 (this.2 ps rfl)
   | _=>exact absurd hk Bool.false_ne_true
 | tupL t ih=>
  intro env ls nm Fs H R Q E es l p hn hm cv hE h;refine oneT zkT hm λ vs _ hm=>?_;refine and2 hm λ h1 h2=>?_;refine and2 h1 λ h3 h4=>?_;refine q24 h ?_;clear h;intro a ps u0;cases u0;intro hl hk h;have:=ih hn h2 cv hE h;rw[h3]at this;obtain⟨q1,q2⟩:=zhI (env:=env) this.1;exact AA.tupList hl (q1.trans ((Nat.eq_of_beq_eq_true h4).trans (Nat.eq_of_beq_eq_true hk).symm)) q2 (this.2 ps rfl)
 | tupS t ih=>
  intro env ls nm Fs H R Q E es l p hn hm cv hE h;refine oneT zkT hm λ vs _ hm=>?_;refine zaN hm λ v hv hm=>?_;rw[zgU hv];refine and2 hm λ h1 h2=>?_;refine and3 h1 λ h1 h3 h4=>?_;refine q23 h ?_;clear h;intro a q u0;cases u0;intro hH h;have:=ih hn h2 cv hE h;rw[nL h3]at this;exact AA.tupSet (nL h1) hH (zcJ h4) this
 | nil=>
  intro env ls nm Fs H R Q E es l p hn hm cv hE h;cases zhK hm;cases p with
  | tup ps=>cases ps with
   | nil=>exact⟨rfl,λ ps e=>by cases e;exact AAs.nil ⟨l,cv,h⟩⟩
   | cons _ _=>exact h.elim
  | _=>exact h.elim
 | cons a b iha ihb=>
  intro env ls nm Fs H R Q E es l p hn hm cv hE h;cases es with
  | nil=>cases hm
  | cons e r=>
   refine and2 hm λ h1 h2=>?_;refine and3 h1 λ h1 h3 h4=>?_;refine and2 h2 λ h2 h5=>?_;cases p with
   | tup ps=>cases ps with
    | nil=>exact h.elim
    | cons q ps=>
     have h:wT T X a q l H R λ l' H'=>wT T X b (.tup ps) l' H' R Q:=h;refine⟨h1,λ ps' e=>?_⟩;cases e;have:=iha hn h2 cv hE h;rw[nL h3]at this;refine AAs.cons' (zcJ h1) (AA.mono this λ ls' H' u9=>q12 u9 λ l' cv' h'=>?_);have:=ihb hn h5 cv' hE h';rw[h4]at this;exact this.2 ps rfl
   | _=>exact h.elim
 | attr a y=>
  intro env ls nm Fs H R Q E es l p hn hm cv hE h;refine oneT zwQ hm λ x _ hm=>?_;refine and2 hm λ h1 h2=>?_;refine and2 h1 λ h1 h3=>?_;rw[<- eq_of_beq h1];refine AA.attr (AE.mono ((zbH GO nd a).ae (nL h3) hn h2 cv (λ e s=>hE l ls e s cv) h) λ q H1 h=>?_);have h:zaP T y q p H1 (λ H2'=>Q l H2'):=h;unfold zaP at h;exact λ A s v u ok R pv pu=>wpAny_mono (h _ A s v u ok R pv pu) (λ _ s' hh=>hh.elim λ H' R' k hq=>⟨H',R',k,l,cv,hq⟩) λ _ _ x=>x.elim
 | sub a i=>
  intro env ls nm Fs H R Q E es l p hn hm cv hE h;refine oneT zkM hm λ x _ hm=>?_;refine and2 hm λ h1 h2=>?_;refine and2 h1 λ h1 h3=>?_;refine and2 h2 λ h2 h4=>?_;refine AA.sub (AE.mono ((zbH GO nd a).ae (nL h1) hn h2 cv (λ e s=>hE l ls e s cv) h) λ q H1 h=>AE.mono ((zbH GO nd i).ae (nL h3) hn h4 cv (λ e s=>hE l ls e s cv) h) λ j H2' h=>?_);have h:zaQ T q j p H2' (λ H3=>Q l H3):=h;unfold zaQ at h;exact λ A s v w u ok R pv pw pu=>wpAny_mono (h _ A s v w u ok R pv pw pu) (λ _ s' hh=>hh.elim λ H' R' k hq=>⟨H',R',k,l,cv,hq⟩) λ _ _ x=>x.elim
end
structure InfS where
 tag:Nat
 ts:List Expr:=[]
 v:Option Expr:=none
 v2:Option Expr:=none
 o:Operator:=.Add
 a:List Stmt:=[]
 b:List Stmt:=[]
 c:List Stmt:=[]
 h:List ExceptHandler:=[]
 p:Pos:=⟨0,0,0,0⟩
noncomputable def infS:Stmt->InfS
 | .Return v p=>{ tag:=0,v:=v,p:=p }
 | .Assign ts v p=>{ tag:=1,ts:=ts,v:=some v,p:=p }
 | .AugAssign t o v p=>{ tag:=2,ts:=[t],o:=o,v:=some v,p:=p }
 | .For t i b e p=>{ tag:=3,ts:=[t],v:=some i,a:=b,b:=e,p:=p }
 | .While t b e p=>{ tag:=4,v:=some t,a:=b,b:=e,p:=p }
 | .If t b e p=>{ tag:=5,v:=some t,a:=b,b:=e,p:=p }
 | .Raise e c p=>{ tag:=6,v:=e,v2:=c,p:=p }
 | .Try a h b c p=>{ tag:=7,a:=a,b:=b,c:=c,h:=h,p:=p }
 | .Expr v p=>{ tag:=8,v:=some v,p:=p }
 | .Pass p=>{ tag:=9,p:=p }
 | .Break p=>{ tag:=10,p:=p }
 | .Continue p=>{ tag:=11,p:=p }
 | .FunctionDef ..=>{ tag:=12 }
 | .AsyncFunctionDef ..=>{ tag:=12 }
 | .ClassDef ..=>{ tag:=12 }
 | .Delete ..=>{ tag:=12 }
 | .TypeAlias ..=>{ tag:=12 }
 | .AnnAssign ..=>{ tag:=12 }
 | .AsyncFor ..=>{ tag:=12 }
 | .With ..=>{ tag:=12 }
 | .AsyncWith ..=>{ tag:=12 }
 | .Match ..=>{ tag:=12 }
 | .TryStar ..=>{ tag:=12 }
 | .Assert ..=>{ tag:=12 }
 | .Import ..=>{ tag:=12 }
 | .ImportFrom ..=>{ tag:=12 }
 | .Global ..=>{ tag:=12 }
 | .Nonlocal ..=>{ tag:=12 }
noncomputable def InfSOk (s:Stmt)(i:InfS):Prop:=match i.tag with
 | 0=>s=.Return i.v i.p
 | 1=>∃ v,i.v=some v/\s=.Assign i.ts v i.p
 | 2=>∃ t v,i.v=some v/\i.ts=[t]/\s=.AugAssign t i.o v i.p
 | 3=>∃ t v,i.v=some v/\i.ts=[t]/\s=.For t v i.a i.b i.p
 | 4=>∃ v,i.v=some v/\s=.While v i.a i.b i.p
 | 5=>∃ v,i.v=some v/\s=.If v i.a i.b i.p
 | 6=>s=.Raise i.v i.v2 i.p
 | 7=>s=.Try i.a i.h i.b i.c i.p
 | 8=>∃ v,i.v=some v/\s=.Expr v i.p
 | 9=>s=.Pass i.p
 | 10=>s=.Break i.p
 | 11=>s=.Continue i.p
 | _=>True
theorem infS_ok (s:Stmt):InfSOk s (infS s):=by
 cases s with
 | Return=>exact rfl
 | Assign=>exact⟨_,rfl,rfl⟩
 | AugAssign=>exact⟨_,_,rfl,rfl,rfl⟩
 | For=>exact⟨_,_,rfl,rfl,rfl⟩
 | While=>exact⟨_,rfl,rfl⟩
 | If=>exact⟨_,rfl,rfl⟩
 | Raise=>exact rfl
 | Try=>exact rfl
 | Expr=>exact⟨_,rfl,rfl⟩
 | Pass=>exact rfl
 | Break=>exact rfl
 | Continue=>exact rfl
 | _=>exact trivial
theorem zdP {s:Stmt}{n:Nat}(h:Nat.beq (infS s).tag n=true):InfSOk s { infS s with tag:=n }:=by
 have:=infS_ok s;rw[<- Nat.eq_of_beq_eq_true h];exact this
noncomputable def noComp (e:Expr):Bool:=Nat.blt (inf e).tag 14
theorem znT {v:Expr}(h:noComp v=true)(t:Option Expr)(line:Nat)(env:Env):swapsWith v t line env=pure false:=by
 cases v <;> first|rfl|cases h
noncomputable def noSwap (t v:Expr):Bool:=!(Nat.beq (inf v).tag 7&&(Nat.beq (inf t).tag 7||Nat.beq (inf t).tag 8))
theorem noSwap_ok {t v:Expr}(h:noSwap t v=true)(env:Env):swappedStores [t] v env=pure none:=by
 cases t with
 | Tuple=>cases v <;> first|exact rfl|cases h
 | List=>cases v <;> first|exact rfl|cases h
 | _=>exact rfl
noncomputable def isStar:Expr->Bool
 | .Starred ..=>true
 | _=>false
noncomputable def swB (scope:Scope)(s:Str)(nm:List (Str×NameKind))(l1 l2:Nat):Bool:=nm.lookup s==some .local&&(l1==l2&&!(scope.names.any λ x=>x.1==s&&(x.2==.local||x.2==.cell)))
noncomputable def endPos (e:Expr):Pos:=e.pos
noncomputable def zpY (e:Expr):Pos:=e.pos
noncomputable def swF (nm:List (Str×NameKind))(tg v:Expr):Bool:=(zpK v).any λ c=>!((zcZ tg).any λ n=>swB c.2.2 n nm (zpY tg).line (endPos v).line)
noncomputable def swB2 (nm:List (Str×NameKind))(x y:Str)(l1 l2:Nat)(vs:List Expr):Bool:=(nm.lookup x==some .local&&(nm.lookup y==some .local&&(l2==l1&&Nat.beq [x,y].eraseDups.length 2)))&&(Nat.beq vs.length 2&&(!(vs.any isStar)&&(!(vs.all (foldedForSure 8))&&!(vs.all (constantsAlone 8)))))
noncomputable def IS.isSt:IS->Bool
 | .skip=>false
 | .seq _ _=>false
 | _=>true
noncomputable def asH:ExceptHandler->Option (Expr×List Stmt)
 | .ExceptHandler (some e) none b _=>some (e,b)
 | _=>none
theorem asH_ok {h:ExceptHandler}{x}(e:asH h=some x):∃ p,h=.ExceptHandler (some x.1) none x.2 p:=by
 obtain⟨t,n,b,p⟩:=h;cases t with
 | none=>cases e
 | some t=>cases n with
  | none=>cases e;exact⟨p,rfl⟩
  | some _=>cases e
noncomputable def mS (G:GT)(names:List Str)(nm:List (Str×NameKind)):IS->(hd rz:Bool)->List Stmt->Bool
 | .skip,hd,rz,ss=>emp ss
 | .seq a b,hd,rz,ss=>match ss with
  | s::r=>a.isSt&&(!b.isSt&&(mS G names nm a hd rz [s]&&mS G names nm b hd rz r))
  | []=>false
 | .cut a,hd,rz,ss=>a.isSt&&mS G names nm a hd rz ss
 | .expr e,hd,rz,ss=>(one ss).any λ s=>Nat.beq (infS s).tag 8&&(infS s).v.any λ v=>(noComp v&&!e.isL)&&mE G names hd e nm [v]
 | .assign t e,hd,rz,ss=>(one ss).any λ s=>Nat.beq (infS s).tag 1&&(one (infS s).ts).any λ tg=>(infS s).v.any λ v=>(zcS [tg]&&(!t.isL&&(!e.isL&&((noComp v||swF nm tg v)&&noSwap tg v))))&&(mE G names hd e nm [v]&&mT G names hd nm t [tg])
 | .assignC x e,hd,rz,ss=>(one ss).any λ s=>Nat.beq (infS s).tag 1&&(one (infS s).ts).any λ tg=>(infS s).v.any λ v=>(zcZ tg).any λ n=>(zpK v).any λ c=>
   (zvZ names nm x n&&!e.isL)&&(swB c.2.2 n nm (zpY tg).line (endPos v).line&&mE G names hd e nm [v])
 | .swap x y e,hd,rz,ss=>(one ss).any λ s=>Nat.beq (infS s).tag 1&&(one (infS s).ts).any λ tg=>(infS s).v.any λ v=>(zqM tg).any λ ts=>(two ts).any λ z=>(zcZ z.1).any λ n=>(zcZ z.2).any λ k=>(zqM v).any λ vs=>
   (!hd&&(!e.isL&&(zvZ names nm x n&&zvZ names nm y k)))&&(swB2 nm n k (zpY z.1).line (zpY z.2).line vs&&mE G names hd e nm [v])
 | .ite t a b,hd,rz,ss=>(one ss).any λ s=>Nat.beq (infS s).tag 5&&(infS s).v.any λ v=>(!t.isL&&(!a.isSt&&!b.isSt))&&(mE G names hd t nm [v]&&(mS G names nm a hd rz (infS s).a&&mS G names nm b hd rz (infS s).b))
 | .ret e,hd,rz,ss=>(one ss).any λ s=>Nat.beq (infS s).tag 0&&(infS s).v.any λ v=>!e.isL&&mE G names hd e nm [v]
 | .dead,hd,rz,ss=>true
 | .cont,hd,rz,ss=>(one ss).any λ s=>Nat.beq (infS s).tag 11
 | .for_ t it b,hd,rz,ss=>(one ss).any λ s=>Nat.beq (infS s).tag 3&&(one (infS s).ts).any λ tg=>(infS s).v.any λ v=>(emp (infS s).b&&(zjL v&&(!t.isL&&(!it.isL&&!b.isSt))))&&(mE G names hd it nm [v]&&(mT G names hd nm t [tg]&&mS G names nm b hd false (infS s).a))
 | .while_ t b,hd,rz,ss=>(one ss).any λ s=>Nat.beq (infS s).tag 4&&(infS s).v.any λ v=>(emp (infS s).b&&(!t.isL&&!b.isSt))&&(mE G names hd t nm [v]&&mS G names nm b hd false (infS s).a)
 | .try_ b x Y h,hd,rz,ss=>(one ss).any λ s=>Nat.beq (infS s).tag 7&&(one (infS s).h).any λ hh=>(asH hh).any λ eb=>(zcZ eb.1).any λ n=>(x==n&&(ztV nm n&&(gHas G n (.ty Y) false&&(emp (infS s).b&&(emp (infS s).c&&(!emp eb.2&&(!b.isSt&&!h.isSt)))))))&&(mS G names nm b hd true (infS s).a&&mS G names nm h true false eb.2)
 | .augS d i o e,hd,rz,ss=>(one ss).any λ s=>Nat.beq (infS s).tag 2&&(one (infS s).ts).any λ tg=>(infS s).v.any λ v=>(asSub tg).any λ z=>(zcZ z.2).any λ n=>(o==(infS s).o&&(!d.isL&&(!i.isL&&!e.isL)))&&(mE G names hd d nm [z.1]&&(mE G names hd i nm [z.2]&&mE G names hd e nm [v]))
 | .raise_ x Y,hd,rz,ss=>(one ss).any λ s=>Nat.beq (infS s).tag 6&&(infS s).v.any λ v=>(zcZ v).any λ n=>rz&&(!hd&&(oN (infS s).v2&&(x==n&&(ztV nm n&&gHas G n (.ty Y) false))))
noncomputable def QS (names:List Str)(Q:AFl->LN->zaA->Prop)(a:AFl)(ls:Ls)(H:zaA):Prop:=∃ l,Cov names l ls/\Q a l H
noncomputable def FlyE (C:Cx)(env:Env)(Fs:List AF)(names:List Str)(X:String)(R:LN->zaA->Prop)(E:Value->Shared->Prop):Prop:=∀ l ls e s,Cov names l ls->Thr C ⟨.fn,env,ls⟩ Fs X (R l) e s->E e s
noncomputable def RzE (C:Cx)(env:Env)(Fs:List AF)(names:List Str)(X:String)(R:LN->zaA->Prop)(E:Value->Shared->Prop):Prop:=∀ e s,Err C env Fs X (λ ls H=>∃ l,Cov names l ls/\R l H) e s->E e s
noncomputable def zmS (T:Tr)(env:Env)(ls:Ls)(Fs:List AF)(H:zaA)(st:Bool)(ss:List Stmt)(Q:AFl->Ls->zaA->Prop)(E:Value->Shared->Prop):Prop:=match st,ss with
 | true,[s]=>AS T env Fs ls H s Q E
 | false,ss=>AX T env Fs ls H ss Q E
 | _,_=>True
noncomputable def zaV (G:GT)(names:List Str)(is:IS):Prop:=∀ {T:Tr} {X:String} {rz:Bool} {env:Env} {ls:Ls} {nm:List (Str×NameKind)} {Fs:List AF} {H:zaA} {R:LN->zaA->Prop} {Q:AFl->LN->zaA->Prop} {E:Value->Shared->Prop} {ss:List Stmt} {l:LN},
 GOk T.C G->env.scope.kind=.function->env.scope.names=nm->mS G names nm is T.hd rz ss=true->Cov names l ls->FlyE T.C env Fs names X R E->(rz=true->RzE T.C env Fs names X R E)->wS is X T l H R Q->zmS T env ls Fs H is.isSt ss (QS names Q) E
section
variable {T:Tr}{env:Env}{ls:Ls}{Fs:List AF}{H:zaA}{b:Bool}{ss:List Stmt}{Q:AFl->Ls->zaA->Prop}{E:Value->Shared->Prop}
theorem oneS {f:Stmt->Bool}(h:(one ss).any f=true)(k:∀ s,f s=true->zmS T env ls Fs H b [s] Q E):zmS T env ls Fs H b ss Q E:=by
 refine q12 (any_some h) λ s hs h=>?_;rw[zgU hs];exact k s h
theorem oneS0 {n:Nat}{mk:InfS->Stmt}(ok:∀ s,Nat.beq (infS s).tag n=true->s=mk (infS s))(h:((one ss).any λ s=>Nat.beq (infS s).tag n)=true)(k:∀ s,zmS T env ls Fs H b [mk (infS s)] Q E):zmS T env ls Fs H b ss Q E:=
 oneS h λ s hs=>ok s hs▸k s
theorem oneSv {n:Nat}{mk:InfS->Expr->Stmt}(ok:∀ s,Nat.beq (infS s).tag n=true->∃ v,(infS s).v=some v/\s=mk (infS s) v){f:Stmt->Expr->Bool}(h:((one ss).any λ s=>Nat.beq (infS s).tag n&&(infS s).v.any (f s))=true)(k:∀ s v,f s v=true->zmS T env ls Fs H b [mk (infS s) v] Q E):zmS T env ls Fs H b ss Q E:=by
 refine oneS h λ s hs=>?_;obtain⟨h1,h⟩:=and1 hs;refine q12 (ok s h1) λ v e es=>?_;rw[e]at h;have:=k s v h;rw[<- es]at this;exact this
theorem oneStv {n:Nat}{mk:InfS->Expr->Expr->Stmt}(ok:∀ s,Nat.beq (infS s).tag n=true->∃ t v,(infS s).v=some v/\(infS s).ts=[t]/\s=mk (infS s) t v){f:Stmt->Expr->Expr->Bool}(h:((one ss).any λ s=>Nat.beq (infS s).tag n&&(one (infS s).ts).any λ t=>(infS s).v.any (f s t))=true)(k:∀ s t v,f s t v=true->zmS T env ls Fs H b [mk (infS s) t v] Q E):zmS T env ls Fs H b ss Q E:=by
 refine oneS h λ s hs=>?_;obtain⟨h1,h⟩:=and1 hs;refine q23 (ok s h1) λ t v e e2 es=>?_;rw[e,e2]at h;have:=k s t v h;rw[<- es]at this;exact this
theorem oneSt {n:Nat}{mk:InfS->List Expr->Expr->Stmt}(ok:∀ s,Nat.beq (infS s).tag n=true->∃ v,(infS s).v=some v/\s=mk (infS s) (infS s).ts v){f:Stmt->Expr->Expr->Bool}(h:((one ss).any λ s=>Nat.beq (infS s).tag n&&(one (infS s).ts).any λ t=>(infS s).v.any (f s t))=true)(k:∀ s t v,f s t v=true->zmS T env ls Fs H b [mk (infS s) [t] v] Q E):zmS T env ls Fs H b ss Q E:=by
 refine oneS h λ s hs=>?_;obtain⟨h1,h⟩:=and1 hs;refine q12 (any_some h) λ t ht h=>?_;refine q12 (ok s h1) λ v e es=>?_;rw[e]at h;have:=k s t v h;rw[<- zgU ht,<- es]at this;exact this
end
theorem zsQ {C:Cx}{env:Env}{Fs:List AF}{names:List Str}{X:String}{E:Value->Shared->Prop}:FlyE C env Fs names X noRL E:=λ l ls e s _ h=>by
 rcases h with ⟨a,H,s₁,x1,x2,x3,x4,x5,x6⟩|⟨a,H,s₁,B,a0,x1,x2,x3,x4,x5,x6⟩
 ·exact x5.elim
 ·exact x5.elim
section
variable {G:GT}{names:List Str}
theorem zaV.ax {is:IS}(S:zaV G names is){T:Tr}{X:String}{rz:Bool}{env:Env}{ls:Ls}{nm:List (Str×NameKind)}{Fs:List AF}{H:zaA}{R:LN->zaA->Prop}{Q:AFl->LN->zaA->Prop}{E:Value->Shared->Prop}{ss:List Stmt}{l:LN}
  (hL:is.isSt=false) (GO:GOk T.C G) (hk:env.scope.kind=.function) (hn:env.scope.names=nm) (hm:mS G names nm is T.hd rz ss=true) (cv:Cov names l ls) (hE:FlyE T.C env Fs names X R E) (hR:rz=true->RzE T.C env Fs names X R E) (h:wS is X T l H R Q):AX T env Fs ls H ss (QS names Q) E:=by
 have:=S GO hk hn hm cv hE hR h;rw[hL]at this;exact this
theorem zaV.as {is:IS}(S:zaV G names is){T:Tr}{X:String}{rz:Bool}{env:Env}{ls:Ls}{nm:List (Str×NameKind)}{Fs:List AF}{H:zaA}{R:LN->zaA->Prop}{Q:AFl->LN->zaA->Prop}{E:Value->Shared->Prop}{s:Stmt}{l:LN}
  (hL:is.isSt=true) (GO:GOk T.C G) (hk:env.scope.kind=.function) (hn:env.scope.names=nm) (hm:mS G names nm is T.hd rz [s]=true) (cv:Cov names l ls) (hE:FlyE T.C env Fs names X R E) (hR:rz=true->RzE T.C env Fs names X R E) (h:wS is X T l H R Q):AS T env Fs ls H s (QS names Q) E:=by
 have:=S GO hk hn hm cv hE hR h;rw[hL]at this;exact this
theorem t_skip:zaV G names .skip:=λ {T X rz env ls nm Fs H R Q E ss l} GO hk hn hm cv hE hR h=>by
 cases zhK hm;exact AX.nil ⟨l,cv,h⟩
theorem t_seq {a b:IS}(Sa:zaV G names a)(Sb:zaV G names b):zaV G names (.seq a b):=λ {T X rz env ls nm Fs H R Q E ss l} GO hk hn hm cv hE hR h=>by
 cases ss with
 | nil=>cases hm
 | cons s r=>
  refine and4 hm λ h1 h2 h3 h4=>?_;refine AX.cons (AS.mono (Sa.as h1 GO hk hn h3 cv hE hR h) ?_);intro fl ls' H' uu;refine q12 uu λ l' cv' h'=>?_
  cases fl with
  | next=>exact Sb.ax (nL h2) GO hk hn h4 cv' hE hR h'
  | _=>exact⟨l',cv',h'⟩
theorem subN_get {ls:LN}{x:Nat}{p:PV}:∀ {l:LN},SubN l ls->lkN x l=some p->lkN x ls=some p:=by
 intro l
 induction l with
 | nil=>exact λ _ h=>nomatch h
 | cons a l ih=>
  obtain⟨y,q⟩:=a;intro hs h;rw[ziR]at h;split at h
  ·cases h;rename_i e;subst e;exact hs.1
  ·exact ih hs.2 h
theorem Cov.sub {l l':LN}{ls:Ls}(cv:Cov names l ls)(h:SubN l' l):Cov names l' ls:=λ x p e=>cv x p (subN_get h e)
theorem t_cut {a:IS}(Sa:zaV G names a):zaV G names (.cut a):=λ {T X rz env ls nm Fs H R Q E ss l} GO hk hn hm cv hE hR h=>by
 refine and2 hm λ h1 hm=>?_;refine q11 h ?_;clear h;intro α u8;refine q22 u8 ?_;clear u8;intro L P h k;have:=Sa GO hk hn hm cv hE hR h;rw[h1]at this;cases ss with
 | nil=>trivial
 | cons s r=>cases r with
  | cons _ _=>trivial
  | nil=>
   refine AS.mono this ?_;intro fl ls' H' uu;refine q12 uu λ l' cv' h'=>?_
   cases fl with
   | next=>
    refine q12 h' λ b hs hp=>?_;exact⟨L b,cv'.sub hs,k b H' hp⟩
   | _=>exact⟨l',cv',h'⟩
theorem t_expr (nd:names.Nodup)(e:IE):zaV G names (.expr e):=λ {T X rz env ls nm Fs H R Q E ss l} GO hk hn hm cv hE hR h=>by
 refine oneSv (mk:=λ i v=>.Expr v i.p) (λ _=>zdP) hm λ s v hm=>?_;refine and2 hm λ h2 h3=>?_;refine and2 h2 λ h2 h4=>?_;exact AS.exp (znT h2 _ _ _) (AE.mono ((zbH GO nd e).ae (nL h4) hn h3 cv (λ e s=>hE l ls e s cv) h) λ p H' h=>⟨l,cv,h⟩)
theorem ztW {a:Expr}{b:List Comprehension}{c:Scope}{p:Pos}{tg:Expr}{line:Nat}{env:Env}(h:zcZ tg=none):swapsWith (.ListComp a b c p) (some tg) line env=pure false:=by
 cases tg <;> first|exact rfl|cases h
theorem swF_ok {env:Env}{nm:List (Str×NameKind)}{tg v:Expr}{line:Nat}(hn:env.scope.names=nm)(h:swF nm tg v=true):swapsWith v (some tg) line env=pure false:=by
 refine zaN h λ c hc h=>?_;obtain⟨p,rfl⟩:=ziF hc;have h:=nL h;cases hn':zcZ tg with
 | none=>exact ztW hn'
 | some s=>
  obtain⟨p',rfl⟩:=zaS hn';have h:swB c.2.2 s nm p'.line p.line=false:=h;unfold swapsWith;dsimp only;rw[show env.kindOf s=nm.lookup s by rw[<- hn];rfl];cases q:(env.blockKind==ScopeKind.function) with
  | false=>rfl
  | true=>
   unfold swB at h
   show (pure (nm.lookup s==some .local&&p'.line==p.line&&!(c.2.2.names.any λ x=>x.1==s&&(x.2==.local||x.2==.cell))):Sem Bool)=pure false
   rw[Bool.and_assoc];exact congrArg pure h
theorem t_assign (nd:names.Nodup)(t:IT)(e:IE):zaV G names (.assign t e):=λ {T X rz env ls nm Fs H R Q E ss l} GO hk hn hm cv hE hR h=>by
 refine oneSt (mk:=λ i ts v=>.Assign ts v i.p) (λ _=>zdP) hm λ s tg v hm=>?_;refine and2 hm λ h2 h3=>?_;refine and5 h2 λ k1 k2 k3 k4 k5=>?_;refine and2 h3 λ h3 h4=>?_;have hsw:swapsWith v (some tg) (infS s).p.line env=pure false:=by
  rcases Bool.or_eq_true_iff.mp k4 with k4|k4
  ·exact znT k4 _ _ _
  ·exact swF_ok hn k4
 refine AS.assign1 hsw (noSwap_ok k5 env) (zcJ k1) (AE.mono ((zbH GO nd e).ae (nL k3) hn h3 cv (λ e s=>hE l ls e s cv) h) λ p H' h=>?_);have:=zuX GO nd t hn h4 cv hE h;rw[nL k2]at this;exact AA.mono this λ ls' H'' h=>h
theorem t_assignC (nd:names.Nodup)(x:Nat)(e:IE):zaV G names (.assignC x e):=λ {T X rz env ls nm Fs H R Q E ss l} GO hk hn hm cv hE hR h=>by
 refine oneSt (mk:=λ i ts v=>.Assign ts v i.p) (λ _=>zdP) hm λ s tg v hm=>?_;refine zaN hm λ n hn' hm=>?_;refine zaN hm λ c hc hm=>?_;obtain⟨p',rfl⟩:=zaS hn';refine and2 hm λ h2 h3=>?_;refine and2 h2 λ h2 k1=>?_;refine and2 h3 λ h3 h4=>?_;refine and3 h3 λ j1 j2 j3=>?_;have g:=g_any GO nd (Q:=λ p H1=>Q .next ((x,p)::l) H1) hc (nL k1) hn h4 cv (λ e s=>hE l ls e s cv) h;obtain⟨elt,target,iter,ifs,rest,scope,pos,emit,rfl,hh,sc,hf,sh,g⟩:=g;cases hc;refine AS.assignCompG hh hn (cv.storeH nd (p:=.none) h2).1 sc (hf env) sh (zwH hk hn j1 j2 (nL j3)) (AE.mono g ?_);intro p H1 uu;refine q12 uu λ y hy u8=>q22 u8 λ I k hI ht=>?_
 refine⟨y,hy,I,k,hI,ht.mono λ out H' u9=>q12 u9 λ H2' ex hp=>⟨H2',ex,λ a ha=>?_⟩⟩;exact⟨_,(cv.storeH nd h2).2,hp a ha⟩
theorem nF {b:Bool}(h:(!b)=true):¬ b=true:=λ e=>by rw[e]at h;cases h
theorem zwV {env:Env}{nm:List (Str×NameKind)}{x y:Str}{p1 p2 p p':Pos}{k k':Nat}{vs:List Expr}(hk:env.scope.kind=.function)(hn:env.scope.names=nm)(h:swB2 nm x y p1.line p2.line vs=true):swappedStores [.Tuple [.Name x p1,.Name y p2] k p] (.Tuple vs k' p') env=pure (some [x,y]):=by
 refine and2 h λ h h'=>?_;refine and4 h λ h1 h2 h3 h4=>?_;refine and4 h' λ g1 g2 g3 g4=>?_;have e1:(env.kindOf x==some .local&&p1.line==p1.line)=true:=by rw[show env.kindOf x=nm.lookup x by rw[<- hn];rfl,h1,beq_self_eq_true];rfl
 have e2:(env.kindOf y==some .local&&p2.line==p1.line)=true:=by rw[show env.kindOf y=nm.lookup y by rw[<- hn];rfl,h2,h3];rfl
 unfold swappedStores;dsimp only;rw[if_neg (by rw[Nat.eq_of_beq_eq_true g1];unfold Env.blockKind;rw[hk];exact Bool.false_ne_true),if_neg (by intro h;exact nF g2 ((congrArg (List.any vs) (funext λ e=>by cases e <;> rfl)).trans h)),List.filterMap_cons_some (b:=x),List.filterMap_cons_some (b:=y),List.filterMap_nil,if_neg (by rw[Nat.eq_of_beq_eq_true h4];exact Bool.false_ne_true),if_neg (nF g3),if_neg (nF g4)]
 ·exact if_pos e2
 ·exact if_pos e1
theorem t_swap (nd:names.Nodup)(x y:Nat)(e:IE):zaV G names (.swap x y e):=λ {T X rz env ls nm Fs H R Q E ss l} GO hk hn hm cv hE hR h=>by
 refine oneSt (mk:=λ i ts v=>.Assign ts v i.p) (λ _=>zdP) hm λ s tg v hm=>?_;refine zaN hm λ ts ht hm=>?_;refine zaN hm λ z hz hm=>?_;refine zaN hm λ n hn' hm=>?_;refine zaN hm λ k hk' hm=>?_;refine zaN hm λ vs hv hm=>?_;refine q21 (ziW ht) λ _ _ u0=>?_;cases u0;refine q21 (ziW hv) λ _ _ u0=>?_;cases u0;rw[zjQ hz];obtain⟨a,b⟩:=z;obtain⟨p1,rfl⟩:=zaS hn';obtain⟨p2,rfl⟩:=zaS hk';refine and2 hm λ h2 h3=>?_;refine and4 h2 λ k1 k2 k3 k4=>?_;refine and2 h3 λ h3 h4=>?_;refine AS.swap2 (nL k1) hn (cv.storeH nd (p:=.none) k3).1 (cv.storeH nd (p:=.none) k4).1 rfl (zwV hk hn h3) (AE.mono ((zbH GO nd e).ae (nL k2) hn h4 cv (λ e s=>hE l ls e s cv) h) λ p H1 h=>?_);refine q22 h ?_;clear h;intro a b u0;cases u0;intro h;exact⟨a,b,rfl,_,((cv.storeH nd k4).2.storeH nd k3).2,h⟩
theorem t_ite (nd:names.Nodup)(t:IE){a b:IS}(Sa:zaV G names a)(Sb:zaV G names b):zaV G names (.ite t a b):=λ {T X rz env ls nm Fs H R Q E ss l} GO hk hn hm cv hE hR h=>by
 refine oneSv (mk:=λ i v=>.If v i.a i.b i.p) (λ _=>zdP) hm λ s v hm=>?_;refine and2 hm λ h2 h3=>?_;refine and3 h2 λ k1 k2 k3=>?_;refine and3 h3 λ h3 h4 h5=>?_;refine AS.ite (AT.mono ((zbH GO nd t).at_ (nL k1) hn h3 cv (λ e s=>hE l ls e s cv) h) λ c H1 h=>?_);cases c with
 | true=>exact Sa.ax (nL k2) GO hk hn h4 cv hE hR h
 | false=>exact Sb.ax (nL k3) GO hk hn h5 cv hE hR h
theorem t_ret (nd:names.Nodup)(e:IE):zaV G names (.ret e):=λ {T X rz env ls nm Fs H R Q E ss l} GO hk hn hm cv hE hR h=>by
 refine oneS hm λ s hm=>?_;refine and2 hm λ h1 hm=>?_;refine zaN hm λ v hv hm=>?_;have hs':s=.Return (infS s).v (infS s).p:=zdP h1;rw[hs',hv];refine and2 hm λ h2 h3=>?_;exact AS.ret (AE.mono ((zbH GO nd e).ae (nL h2) hn h3 cv (λ e s=>hE l ls e s cv) h) λ p H' h=>⟨l,cv,h⟩)
theorem t_dead:zaV G names .dead:=λ {T X rz env ls nm Fs H R Q E ss l} GO hk hn hm cv hE hR h=>h.elim
theorem t_cont:zaV G names .cont:=λ {T X rz env ls nm Fs H R Q E ss l} GO hk hn hm cv hE hR h=>by
 refine oneS0 (mk:=λ i=>.Continue i.p) (λ _=>zdP) hm λ s=>?_;exact AS.cont ⟨l,cv,h⟩
theorem loop_ok {J:LN->zaA->Prop}{J':Ls->zaA->Prop}{Q:AFl->LN->zaA->Prop}(hJ:∀ l ls H,Cov names l ls->J l H->J' ls H){a:AFl}{ls:Ls}{H:zaA}(h:QS names (zkF J Q) a ls H):zhZ J' (QS names Q) a ls H:=by
 refine q12 h ?_;clear h;intro l cv h;cases a with
 | next=>exact hJ l ls H cv h
 | cont=>exact hJ l ls H cv h
 | brk=>exact⟨l,cv,h⟩
 | ret p=>exact⟨l,cv,h⟩
noncomputable def CovJ (names:List Str){α:Type}(L:α->LN)(J:α->zaA->Prop)(ls:Ls)(H:zaA):Prop:=∃ b,Cov names (L b) ls/\J b H
theorem zvC {α:Type}{L:α->LN}{J:α->zaA->Prop}(l:LN)(ls:Ls)(H:zaA)(c:Cov names l ls)(h:ziO L J l H):CovJ names L J ls H:=by
 refine q12 h λ b hs hj=>?_;exact⟨b,c.sub hs,hj⟩
theorem t_for (nd:names.Nodup)(t:IT)(it:IE){b:IS}(Sb:zaV G names b):zaV G names (.for_ t it b):=λ {T X rz env ls nm Fs H R Q E ss l} GO hk hn hm cv hE hR h=>by
 refine oneStv (mk:=λ i tg v=>.For tg v i.a i.b i.p) (λ _=>zdP) hm λ s tg v hm=>?_;refine and2 hm λ h2 h3=>?_;refine and5 h2 λ k2 k3 k4 k5 k6=>?_;refine and3 h3 λ h3 h4 h5=>?_;rw[zhK k2];have A0:=(zbH GO nd it).ae (nL k5) hn h3 cv (λ e s=>hE l ls e s cv) h;have body:∀ {Fs':List AF} {v:PV} {l':LN} {ls':Ls} {H':zaA} {J:LN->zaA->Prop} {J':Ls->zaA->Prop} {Q:AFl->LN->zaA->Prop},Cov names l' ls'->(∀ l ls H,Cov names l ls->J l H->J' ls H) ->
   wT T X t v l' H' noRL (λ ls'' H''=>wS b X T ls'' H'' noRL (zkF J Q))->AA T ⟨.fn,env,ls'⟩ Fs' H' tg v (λ ls1 H1=>AX T env Fs' ls1 H1 (infS s).a (zhZ J' (QS names Q)) NoE) NoE:=by
  intro Fs' v l' ls' H' J J' Q cv' hJ hw;have:=zuX GO nd t (Fs:=Fs') (E:=NoE) hn h4 cv' zsQ hw;rw[nL k4]at this;exact AA.mono this λ ls1 H1 u9=>q12 u9 λ l1 cv1 hx=>AX.mono (Sb.ax (nL k6) GO hk hn h5 cv1 zsQ (λ e=>by cases e) hx) λ a ls2 H2' hq=>loop_ok hJ hq
 refine AS.forTail (λ x=>zqN k3 env x) (AE.pins (AE.mono A0 λ p H1 h=>?_));have h:WFor T p l H1 (λ v ls' H' K=>wT T X t v ls' H' noRL λ ls'' H''=>wS b X T ls'' H'' noRL K) Q:=h;cases h with
 | list a li e1 hl α L J b0 s0 h0 hkp turn fin=>
  refine .inl (zpX (it_list e1 hl (λ i=>CovJ names L (J i)) ⟨b0,cv.sub s0,h0⟩ ?_ ?_ ?_))
  ·intro i ls' H' uu;refine q12 uu λ l' _ hJ=>?_;exact hkp i l' H' hJ
  ·intro i v ls' H' Fs' ev uu;refine q12 uu λ l' cv' hJ=>?_
   exact body cv' zvC (turn i v l' H' ev hJ)
  ·intro ls' H' uu;refine q12 uu λ l' cv' hJ=>?_;exact⟨L l',cv',fin l' H' hJ⟩
 | grow a e1 hl α L J n b0 s0 h0 turn=>
  refine .inl (zpX (it_grow e1 hl (λ n i=>CovJ names L (J n i)) n ⟨b0,cv.sub s0,h0⟩ ?_));intro n i ls' H' uu;refine q12 uu λ l' cv' hJ=>?_
  refine q13 (turn n i l' H' hJ) λ li x1 x2 x3=>?_;exact⟨li,x1,λ v Fs' ev=>body (J:=ziO L λ b2 H2'=>∃ m,m<n/\J m (i+1) b2 H2') cv' (λ l ls H c ⟨b2,hs,m,hm,hj⟩=>⟨m,hm,b2,c.sub hs,hj⟩) (x2 v ev),λ hle=>⟨L l',cv',x3 hle⟩⟩
 | range a n e1 hl hz α L J b0 s0 h0 turn fin=>
  refine .inl (zpX (it_range e1 hl hz (λ i=>CovJ names L (J i)) ⟨b0,cv.sub s0,h0⟩ ?_ ?_))
  ·intro i ls' H' Fs' hi uu;refine q12 uu λ l' cv' hJ=>?_
   exact body cv' zvC (turn i l' H' hi hJ)
  ·intro ls' H' uu;refine q12 uu λ l' cv' hJ=>?_;exact⟨L l',cv',fin l' H' hJ⟩
 | tup li e1 α L J b0 s0 h0 turn fin=>
  refine .inl (tup_tail e1 (λ i=>CovJ names L (J i)) ⟨b0,cv.sub s0,h0⟩ ?_ ?_)
  ·intro i v ls' H' Fs' ev uu;refine q12 uu λ l' cv' hJ=>?_
   exact body cv' zvC (turn i v l' H' ev hJ)
  ·intro ls' H' uu;refine q12 uu λ l' cv' hJ=>?_;exact⟨L l',cv',fin l' H' hJ⟩
 | set hh a li e1 hl α L J b0 s0 h0 turn fin=>
  refine .inl (set_tail hh e1 hl (λ l' i=>CovJ names L (J l' i)) (λ l' hp=>⟨b0,cv.sub s0,h0 l' hp⟩) ?_ ?_)
  ·intro l' hp i q ls' H' Fs' ev uu;refine q12 uu λ l2 cv' hJ=>?_
   exact AA.mono (body cv' zvC (turn l' i q l2 H' hp ev hJ)) λ ls1 H1 hx=>AX.mono hx λ a ls2 H2' hq=>by
    cases a with
    | next=>exact hq
    | cont=>exact hq
    | brk=>refine q12 hq λ _ _ h=>?_;exact h.elim
    | ret p=>refine q12 hq λ _ _ h=>?_;exact h.elim
  ·intro l' hp ls' H' uu;refine q12 uu λ l2 cv' hJ=>?_;exact⟨L l2,cv',fin l' l2 H' hp hJ⟩
theorem t_while (nd:names.Nodup)(t:IE){b:IS}(Sb:zaV G names b):zaV G names (.while_ t b):=λ {T X rz env ls nm Fs H R Q E ss l} GO hk hn hm cv hE hR h=>by
 refine oneSv (mk:=λ i v=>.While v i.a i.b i.p) (λ _=>zdP) hm λ s v hm=>?_;refine and2 hm λ h2 h3=>?_;refine and3 h2 λ k1 k2 k3=>?_;refine and2 h3 λ h3 h4=>?_;rw[zhK k1];refine q11 h λ α u8=>q43 u8 λ L I n b0 s0 h0 turn=>?_;refine AS.while_ (λ n ls H=>∃ b,Cov names (L b) ls/\I n b H) n ⟨b0,cv.sub s0,h0⟩ ?_;intro n ls' H' uu;refine q12 uu λ l' cv' hI=>?_
 refine AT.mono ((zbH GO nd t).at_ (R:=noR) (nL k2) hn h3 cv' (λ e s=>zxM) (turn n l' H' hI)) λ c H1 h=>?_;cases c with
 | true=>
  rw[if_pos rfl];exact AX.mono (Sb.ax (nL k3) GO hk hn h4 cv' zsQ (λ e=>by cases e) h) λ a ls2 H2' hq=>loop_ok (J:=ziO L λ b2 H2'=>∃ m,m<n/\I m b2 H2') (λ l ls H c ⟨b2,hs,m,hm,hj⟩=>⟨m,hm,b2,c.sub hs,hj⟩) hq
 | false=>
  rw[if_neg (by decide)];exact⟨L l',cv',h⟩
theorem t_try (x:Str)(Y:String){b h':IS}(Sb:zaV G names b)(Sh:zaV G names h'):zaV G names (.try_ b x Y h'):=λ {T X rz env ls nm Fs H R Q E ss l} GO hk hn hm cv hE hR h=>by
 refine oneS hm λ s hm=>?_;refine and2 hm λ h1 hm=>?_;refine zaN hm λ hh hv hm=>?_;refine zaN hm λ eb he hm=>?_;refine zaN hm λ n hn' hm=>?_;have hs':s=.Try (infS s).a (infS s).h (infS s).b (infS s).c (infS s).p:=zdP h1;obtain⟨p',heb⟩:=zaS hn';obtain⟨p'',hhe⟩:=asH_ok he;refine and2 hm λ h2 h3=>?_;refine and8 h2 λ k1 k2 k3 k4 k5 k6 k7 k8=>?_;refine and2 h3 λ h3 h4=>?_;rw[hs',zgU hv,hhe,heb,zhK k4,zhK k5];refine q03 (zqL k2) λ q1 q2 q3=>?_;have g1:=(zqY GO k3).2;refine q23 h λ X' QE ct hb hsu=>?_;cases hc:eb.2 with
 | nil=>rw[hc]at k6;cases k6
 | cons b0 suite=>
  rw[hc]at h4;refine AS.try_ (X:=X') (QE:=λ ls' H'=>∃ l',Cov names l' ls'/\QE l' H') g1.1 hn q1 g1.2 ct.exc ct.tup ct.sub (λ g=>?_) ?_ q2 q3
  ·exact Sb.ax (nL k7) GO hk hn h3 cv (λ l' ls' e s cv' hf=>Err.of_thr hf λ H' hq=>⟨l',cv',hq⟩) (λ _ e s hx=>hx) hb
  ·intro Fs' ls' H' uu;refine q12 uu λ l' cv' hq=>?_
   exact Sh.ax (T:=T.inH) (nL k8) GO hk hn h4 cv' zsQ (λ e=>by cases e) (hsu l' H' hq)
theorem t_raise (x:Str)(Y:String):zaV G names (.raise_ x Y):=λ {T X rz env ls nm Fs H R Q E ss l} GO hk hn hm cv hE hR h=>by
 refine oneS hm λ s hm=>?_;refine and2 hm λ h1 hm=>?_;refine zaN hm λ v hv hm=>?_;refine zaN hm λ n hn' hm=>?_;have hs':s=.Raise (infS s).v (infS s).v2 (infS s).p:=zdP h1;obtain⟨p',rfl⟩:=zaS hn';refine and6 hm λ k1 k2 k3 k4 k5 k6=>?_;rw[hs',hv,oN_ok k3];refine q03 (zqL k5) λ q1 q2 q3=>?_;have g1:=(zqY GO k6).2;refine q03 h ?_;clear h;intro u0;cases u0;intro u1 h;obtain⟨⟨N,I,okc⟩,oks⟩:=u1;exact λ A s ok' R'=>wpAny_mono (AS.raiseName (QE:=λ ls H=>∃ l,Cov names l ls/\R l H) (nL k2) okc oks g1.1 hn q1 g1.2 ⟨l,cv,h⟩ q2 q3 A s ok' R') (λ _ _ x=>x) (hR k1)
theorem t_augS (nd:names.Nodup)(d i:IE)(o:Operator)(e:IE):zaV G names (.augS d i o e):=λ {T X rz env ls nm Fs H R Q E ss l} GO hk hn hm cv hE hR h=>by
 refine oneStv (mk:=λ i tg v=>.AugAssign tg i.o v i.p) (λ _=>zdP) hm λ s tg v hm=>?_;refine zaN hm λ z hz hm=>?_;refine zaN hm λ n hn' hm=>?_;obtain⟨p',rfl⟩:=zkM hz;obtain⟨z1,z2⟩:=z;obtain⟨p'',e2⟩:=zaS hn';have e2:z2=.Name n p'':=e2;subst e2;refine and2 hm λ h2 h3=>?_;refine and4 h2 λ k1 k2 k3 k4=>?_;refine and3 h3 λ m1 m2 m3=>?_;rw[<- eq_of_beq k1];have E':=λ e s=>hE l ls e s cv;refine AS.augI (AE.mono ((zbH GO nd d).ae (nL k2) hn m1 cv E' h) λ p H1 h=>AE.mono ((zbH GO nd i).ae (nL k3) hn m2 cv E' h) λ q H2' h=>?_);have h:zqO T p q H2' _:=h;unfold zqO at h;refine λ A s v w ok R pv pw=>wpAny_mono (h _ A s v w ok R pv pw) (λ u s' hh=>hh.elim λ old H3 po R' k h=>⟨old,H3,po,R',k,?_⟩) λ _ _ x=>x.elim;refine AE.mono ((zbH GO nd e).ae (nL k4) hn m3 cv E' h) λ p' H4 h=>?_;refine λ A s v w ok R pv pw=>wpAny_mono (SBin.to h A s v w ok R pv pw) (λ u s' hh=>hh.elim λ r H5 pr R' k h=>⟨r,H5,pr,R',k,?_⟩) λ _ _ x=>x.elim;have h:zaQ T p q r H5 _:=h;unfold zaQ at h;exact λ A s v w u ok R pv pw pu=>wpAny_mono (h _ A s v w u ok R pv pw pu) (λ _ s' hh=>by obtain⟨H6,R6,k6,h6⟩:=hh;exact⟨H6,R6,k6,l,cv,h6⟩) λ _ _ x=>x.elim
theorem zvD (nd:names.Nodup)(is:IS):zaV G names is:=by
 induction is with
 | skip=>exact t_skip
 | seq a b ha hb=>exact t_seq ha hb
 | cut a ha=>exact t_cut ha
 | expr e=>exact t_expr nd e
 | assign t e=>exact t_assign nd t e
 | assignC x e=>exact t_assignC nd x e
 | swap x y e=>exact t_swap nd x y e
 | ite t a b ha hb=>exact t_ite nd t ha hb
 | ret e=>exact t_ret nd e
 | dead=>exact t_dead
 | cont=>exact t_cont
 | for_ t it b hb=>exact t_for nd t it hb
 | while_ t b hb=>exact t_while nd t hb
 | try_ b x Y h hb hh=>exact t_try x Y hb hh
 | raise_ x Y=>exact t_raise x Y
 | augS d i o e=>exact t_augS nd d i o e
end
noncomputable def zipN:Nat->List PV->LN
 | _,[]=>[]
 | n,p::ps=>(n,p)::zipN (n+1) ps
noncomputable def retK (Q:PV->zaA->Prop)(a:AFl)(_:LN)(H:zaA):Prop:=match a with
 | .next=>Q .none H
 | .ret p=>Q p H
 | _=>False
section
variable {T:Tr}{X:String}{H:zaA}{R:zaA->Prop}
theorem zipN_get {names:List Str}{ps:List PV}:∀ {n x:Nat} {p:PV},lkN x (zipN n ps)=some p->∃ i,x=n+i/\ps[i]?=some p:=by
 induction ps with
 | nil=>exact λ h=>nomatch h
 | cons q ps ih=>
  intro n x p h;replace h:lkN x ((n,q)::zipN (n+1) ps)=some p:=h;rw[ziR]at h;split at h
  ·cases h;rename_i e;exact⟨0,e,rfl⟩
  ·refine q12 (ih h) λ i e h=>?_
   exact⟨i+1,e.trans (Nat.add_right_comm n 1 i),h⟩
theorem zxG {names nms:List Str}:∀ {ps:List PV} {i:Nat} {s:Str} {p:PV},nms.Nodup->nms[i]?=some s->ps[i]?=some p->(nms.zip ps).lookup s=some p:=by
 induction nms with
 | nil=>exact λ _ h=>nomatch h
 | cons n nms ih=>
  intro ps i s p nd h h';cases ps with
  | nil=>cases h'
  | cons q ps=>
   cases i with
   | zero=>cases h;cases h';exact zcX
   | succ i=>
    obtain⟨n1,n2⟩:=List.nodup_cons.mp nd;exact zbM (beq_eq_false_iff_ne.mpr λ e=>n1 (e▸List.mem_of_getElem? h)) (ih n2 h h')
theorem cov_zip {names nms:List Str}{ps:List PV}(nd:names.Nodup)(hp:names.take nms.length=nms)(hl:ps.length=nms.length):Cov names (zipN 0 ps) (nms.zip ps):=λ x p h=>by
 refine q12 (zipN_get (names:=names) h) ?_;intro i u0;cases u0;intro hi;have hlt:=(List.getElem?_eq_some_iff.mp hi).1;rw[hl]at hlt;refine⟨nms[i],?_,zxG (names:=names) (hp▸nd.sublist (List.take_sublist _ _)) (List.getElem?_eq_getElem hlt) hi⟩;have e:nms[i]?=names[0+i]?:=by
  rw[Nat.zero_add]
  conv=>lhs;rw[<- hp]
  rw[List.getElem?_take,if_pos hlt]
 rw[<- e];exact List.getElem?_eq_getElem hlt
@[irreducible] noncomputable def zaF (T:Tr) (X:String) (g:PV) (ps:List PV) (H:zaA) (Q:PV->zaA->Prop) (R:zaA->Prop):Prop:=
 ∀ Fs E,(∀ e s,Fly T.C Fs X R e s->E e s)->zgG T Fs H g ps Q E
theorem zaF.call {g:PV}{ps:List PV}{Q Q':PV->zaA->Prop}(h:zaF T X g ps H Q R)(hq:∀ p H,Q p H->Q' p H):zaG T X g ps H Q' R:=by
 unfold zaF at h;unfold zaG;exact λ Fs E hE=>(h Fs E hE).call.mono hq
theorem zaF.post {g:PV}{ps:List PV}{Q0:PV->zaA->Prop}(h:∀ Q:PV->zaA->Prop,(∀ p H',Q0 p H'->Q p H')->zaF T X g ps H Q R):zaF T X g ps H Q0 R:=h Q0 λ _ _ h=>h
theorem zaF.mono {g:PV}{ps:List PV}{Q Q':PV->zaA->Prop}(h:zaF T X g ps H Q R)(hq:∀ p H,Q p H->Q' p H):zaF T X g ps H Q' R:=by
 unfold zaF at h ⊢;exact λ Fs E hE=>(h Fs E hE).mono hq λ _ _ x=>x
theorem zaF.fn {G:GT}{names nms:List Str}{g:Addr}{fd:FuncData}{body:List Stmt}{ir:IS}{ps:List PV}{Q:PV->zaA->Prop}(GO:GOk T.C G)(nd:names.Nodup)(D:zdR T.C.K g fd nms body)(hp:names.take nms.length=nms)
  (hm:mS G names fd.scope.names ir T.hd true body=true) (hs:ir.isSt=false) (hn:1<=T.n) (hl:ps.length=nms.length) (h:wS ir X T.down (zipN 0 ps) H (λ _ H=>R H) (retK Q)):zaF T X (.ref g) ps H Q R:=by
 unfold zaF;intro Fs E hE;refine zgG.fnE (X:=X) (QE:=λ ls H=>∃ l,Cov names l ls/\R H) D hl hn (λ e s hf=>hE e s (hf.mono λ H' u9=>q22 u9 λ ls l cv hr=>hr)) λ env he=>?_;refine AX.mono (zaV.ax (zvD nd ir) (E:=Err T.C env Fs X λ ls H=>∃ l,Cov names l ls/\R H) hs GO (by rw[he];exact D.kind) (congrArg Scope.names he) hm (cov_zip nd hp hl) (λ l ls e s cv hf=>Err.of_thr hf λ H hr=>⟨l,cv,hr⟩) (λ _ e s hx=>hx) h) ?_;intro a ls H' uu;refine q12 uu λ l cv hq=>?_
 cases a <;> exact hq
theorem zaG.of {g:PV}{ps:List PV}{Q:PV->zaA->Prop}(h:∀ Fs,zaT T Fs H g ps Q NoE):zaG T X g ps H Q R:=by
 unfold zaG;exact λ Fs E _=>(h Fs).noE
theorem SCmp.of {op:CmpOp}{p q:PV}{Q:Bool->zaA->Prop}(h:∀ Fs,ACmp T Fs H op p q Q NoE):SCmp T op p q H Q:=by unfold SCmp;exact h
theorem STr.of {p:PV}{Q:Bool->zaA->Prop}(h:∀ Fs,ATr T Fs H p Q NoE):STr T p H Q:=by unfold STr;exact h
theorem SBin.of {op:Value->Value->Sem Value}{p q:PV}{Q:PV->zaA->Prop}(h:∀ Fs,ABin T Fs H op p q Q NoE):SBin T op p q H Q:=by unfold SBin;exact h
theorem zaQ.of {p i q:PV}{Q:zaA->Prop}(h:∀ Fs,zdL T Fs H p i q Q NoE):zaQ T p i q H Q:=by unfold zaQ;exact h
theorem zbQ.of {x:Str}{p g:PV}(hc:zgL T.C.K g=true)(h:∀ Fs,zdW T Fs H x p g):zbQ T x p H g:=by unfold zbQ;exact⟨hc,h⟩
theorem SSub.of {p q:PV}{Q:PV->zaA->Prop}(h:∀ Fs value slice,(∀ o i,subscripted slice false o i=operate [o,i] (getItem o i))->ASub T Fs H value slice p q Q NoE):SSub T p q H Q:=by unfold SSub;exact h
theorem SGet.inst {x c d:Addr}{l:Ls}{name:Str}{p:PV}{Q:PV->zaA->Prop}(hc:zrA T.C.K c)(hn:findIn T.C.K (.ref c) name=some none)(hx:H x=some (.inst c d))(hd:H d=some (.attrs l))(hl:l.lookup name=some p)(hp:p.handed=true)(h:Q p H):SGet T name (.ref x) H Q:=by
 unfold SGet;exact λ Fs=>AGet.inst hc hn hx hd hl hp h
theorem zbQ.own {x c d g:Addr}{l:Ls}{name:Str}(hg:zgL T.C.K (.ref g)=true)(hc:zrA T.C.K c)(hf:findIn T.C.K (.ref c) name=some (some (.ref g)))(ht:typeIn T.C.K (.ref g)=some (.type "function"))(hx:H x=some (.inst c d))(hd:H d=some (.attrs l))(hl:l.lookup name=none):zbQ T name (.ref x) H (.ref g):=
 zbQ.of hg λ Fs=>zdW.own hc hf ht hx hd hl
theorem zaP.inst {x c d:Addr}{l:Ls}{name:Str}{p:PV}{Q:zaA->Prop}(hc:zrA T.C.K c)(hn:findIn T.C.K (.ref c) name=some none)(hx:H x=some (.inst c d))(hd:H d=some (.attrs l))(hz:l.length<=10000)(h:Q (upd H d (.attrs ((name,p)::l)))):zaP T name (.ref x) p H Q:=by
 unfold zaP;exact λ Fs=>zhW.inst hc hn hx hd hz h
theorem SSub.list {a:Addr}{l:List PV}{k:Int}{p:PV}{Q:PV->zaA->Prop}(hH:H a=some (.list l))(h0:0<=k)(hk:k<2 ^ 63)(hx:l[k.toNat]?=some p)(h:Q p H):SSub T (.ref a) (.int k) H Q:=
 SSub.of λ Fs v s hs=>ASub.list hH h0 hk hx h λ u=>hs _ _
theorem zaQ.list {a:Addr}{l:List PV}{k:Int}{q:PV}{Q:zaA->Prop}(hH:H a=some (.list l))(h0:0<=k)(hk:k<l.length)(hz:l.length<=100000)(h:Q (upd H a (.list (l.set k.toNat q)))):zaQ T (.ref a) (.int k) q H Q:=zaQ.of λ Fs=>zdL.list hH h0 hk hz h
theorem zdV.mk {a:Addr}{l:List PV}{lo hi:Option Int}{Q:PV->zaA->Prop}(hl:LAt T.C H a l)(hz:l.length<=100000)(h:∀ c,H c=Option.none->Q (.ref c) (upd H c (.list (zgX l lo hi)))):zdV T (.ref a) lo hi H Q:=by
 unfold zdV;exact⟨a,l,rfl,hl,hz,h⟩
theorem zbQ.append {a:Addr}{l:List PV}(hH:H a=some (.list l)):zbQ T "append" (.ref a) H (.bi "list.append"):=zbQ.of rfl λ Fs=>zdW.listAppend hH
theorem zaG.append {a:Addr}{l:List PV}{p:PV}{Q:PV->zaA->Prop}(hH:H a=some (.list l))(hz:l.length<=100000)(h:Q .none (upd H a (.list (l++[p])))):zaG T X (.bi "list.append") [.ref a,p] H Q R:=zaG.of λ Fs=>zaT.listAppend hH hz h
theorem zbQ.add {a:Addr}{l:List Pt}(hH:H a=some (.pset l)):zbQ T "add" (.ref a) H (.bi "set.add"):=zbQ.of rfl λ Fs=>zdW.setAdd hH
theorem zaG.add {a:Addr}{l:List Pt}(p:Pt){Q:PV->zaA->Prop}(hH:H a=some (.pset l))(hb:zdN p)(h:∀ l',l'.Nodup->(∀ q,q∈l'↔q=p\/q∈l)->Q .none (upd H a (.pset l'))):zaG T X (.bi "set.add") [.ref a,pt p] H Q R:=zaG.of λ Fs=>zaT.setAdd hH hb h
theorem zbQ.popS {a:Addr}{l:List Pt}(hH:H a=some (.pset l)):zbQ T "pop" (.ref a) H (.bi "set.pop"):=zbQ.of rfl λ Fs=>zdW.setPop hH
theorem zaG.popS {a:Addr}{l:List Pt}{Q:PV->zaA->Prop}(hH:H a=some (.pset l))(hne:l≠[])(h:∀ p l',p∈l->l'.Nodup->(∀ q,q∈l'↔q∈l/\q≠p)->l'.length+1=l.length->Q (pt p) (upd H a (.pset l'))):zaG T X (.bi "set.pop") [.ref a] H Q R:=zaG.of λ Fs=>zaT.setPop hH hne h
theorem zbQ.update {a:Addr}{l:List Pt}(hH:H a=some (.pset l)):zbQ T "update" (.ref a) H (.bi "set.update"):=zbQ.of rfl λ Fs=>zdW.setUpdate hH
theorem zaG.update {a b:Addr}{l m:List Pt}{Q:PV->zaA->Prop}(hH:H a=some (.pset l))(hb:H b=some (.pset m))(hne:a≠b)(h:∀ l',l'.Nodup->(∀ q,q∈l'↔q∈l\/q∈m)->Q .none (upd H a (.pset l'))):zaG T X (.bi "set.update") [.ref a,.ref b] H Q R:=zaG.of λ Fs=>zaT.setUpdate hH hb hne h
theorem zaG.set0 {Q:PV->zaA->Prop}(h:∀ a,H a=Option.none->Q (.ref a) (upd H a (.pset []))):zaG T X (.ty "set") [] H Q R:=zaG.of λ Fs=>zaT.setNew h
theorem zaG.lenL {a:Addr}{l:List PV}{Q:PV->zaA->Prop}(hH:LAt T.C H a l)(hz:l.length<=100000)(h:Q (.int l.length) H):zaG T X (.bi "len") [.ref a] H Q R:=zaG.of λ Fs=>zaT.lenList hH hz h
theorem zaG.lenS {a:Addr}{l:List Pt}{Q:PV->zaA->Prop}(hH:H a=some (.pset l))(h:Q (.int l.length) H):zaG T X (.bi "len") [.ref a] H Q R:=zaG.of λ Fs=>zaT.lenSet hH h
theorem zaG.range1 {n:Int}{Q:PV->zaA->Prop}(h:∀ c,H c=Option.none->Q (.ref c) (upd H c (.range 0 n))):zaG T X (.ty "range") [.int n] H Q R:=zaG.of λ Fs=>zaT.range1 h
theorem zaG.cls0 {c:Addr}{Q:PV->zaA->Prop}(hm:makesIn T.C.K c=true)(hi:findIn T.C.K (.ref c) "__init__" = some (some (.builtin "object.__init__")))(h:∀ x d,x≠d->H x=none->H d=none->Q (.ref x) (upd (upd H d (.attrs [])) x (.inst c d))):zaG T X (.ref c) [] H Q R:=
 zaG.of λ Fs=>zgG.call (zgG.cls0 hm hi h)
theorem zaG.cls {c fI:Addr}{ps:List PV}{Q:PV->zaA->Prop}(hm:makesIn T.C.K c=true)(hi:findIn T.C.K (.ref c) "__init__" = some (some (.ref fI)))(ht:typeIn T.C.K (.ref fI)=some (.type "function"))(hn:1<=T.n)
  (h:∀ x d,x≠d->H x=none->H d=none->zaF T.down X (.ref fI) (.ref x::ps) (upd (upd H d (.attrs [])) x (.inst c d)) (λ p H'=>p=.none/\Q (.ref x) H') noR):zaG T X (.ref c) ps H Q R:=by
 refine zaG.of λ Fs=>zgG.call (zgG.cls hm hi ht hn λ x d hxd hx hd=>?_);have:=h x d hxd hx hd;unfold zaF at this;exact this Fs NoE λ e s=>noFly
theorem SCmp.inS {a:Addr}{l:List Pt}(p:Pt){Q:Bool->zaA->Prop}(hH:H a=some (.pset l))(hb:zdN p)(h:Q (decide (p∈l)) H):SCmp T .In (pt p) (.ref a) H Q:=SCmp.of λ Fs=>ACmp.inSet hH hb h
theorem SCmp.inL {a:Addr}{l:List PV}{p:PV}{ds:List Dat}{d:Dat}{Q:Bool->zaA->Prop}(hl:LAt T.C H a l)(hds:All2 (HD T.C H 8) l ds)(hp:HD T.C H 8 p d)(h:∀ b,(b=true↔d∈ds)->Q b H):SCmp T .In p (.ref a) H Q:=SCmp.of λ Fs=>ACmp.inList hl hds hp h
theorem SCmp.eqD {p q:PV}{d e:Dat}{Q:Bool->zaA->Prop}(hp:HD T.C H 9 p d)(hq:HD T.C H 9 q e)(h:∀ b,(b=true↔d=e)->Q b H):SCmp T .Eq p q H Q:=SCmp.of λ Fs=>ACmp.eqData hp hq h
theorem SCmp.neD {p q:PV}{d e:Dat}{Q:Bool->zaA->Prop}(hp:HD T.C H 9 p d)(hq:HD T.C H 9 q e)(h:∀ b,(b=true↔d≠e)->Q b H):SCmp T .NotEq p q H Q:=SCmp.of λ Fs=>ACmp.neData hp hq h
theorem SCmp.neB {a b:Bool}{Q:Bool->zaA->Prop}(h:Q (a != b) H):SCmp T .NotEq (.bool a) (.bool b) H Q:=SCmp.of λ Fs=>ACmp.neBool h
theorem STr.list {a:Addr}{l:List PV}{Q:Bool->zaA->Prop}(hH:LAt T.C H a l)(hz:l.length<=100000)(h:Q (!l.isEmpty) H):STr T (.ref a) H Q:=STr.of λ Fs=>ATr.list hH hz h
theorem STr.set {a:Addr}{l:List Pt}{Q:Bool->zaA->Prop}(hH:H a=some (.pset l))(h:Q (!l.isEmpty) H):STr T (.ref a) H Q:=STr.of λ Fs=>ATr.set hH h
theorem SBin.addL {a b:Addr}{l m:List PV}{Q:PV->zaA->Prop}(hl:LAt T.C H a l)(hm:LAt T.C H b m)(hz:l.length+m.length<=100000)(h:∀ c,H c=Option.none->Q (.ref c) (upd H c (.list (l++m)))):SBin T (binaryOp .Add) (.ref a) (.ref b) H Q:=SBin.of λ Fs=>ABin.addList hl hm hz h
theorem SBin.mulL {a:Addr}{p:PV}{n:Int}{Q:PV->zaA->Prop}(hH:H a=some (.list [p]))(h0:0<=n)(hn:n<=100000)(h:∀ c,H c=Option.none->Q (.ref c) (upd H c (.list (List.replicate n.toNat p)))):SBin T (binaryOp .Mult) (.ref a) (.int n) H Q:=SBin.of λ Fs=>ABin.mulList hH h0 hn h
theorem zaW {φ A B:Prop}[Decidable φ](h:φ->A)(h':¬ φ->B):cond (decide φ) A B:=by
 by_cases hp:φ
 ·rw[decide_eq_true hp];exact h hp
 ·rw[decide_eq_false hp];exact h' hp
theorem br_ndec {φ A B:Prop}[Decidable φ](h:¬ φ->A)(h':φ->B):cond (!decide φ) A B:=by
 by_cases hp:φ
 ·rw[decide_eq_true hp];exact h' hp
 ·rw[decide_eq_false hp];exact h hp
theorem br {b:Bool}{A B:Prop}(h:b=true->A)(h':b=false->B):cond b A B:=by
 cases b with
 | true=>exact h rfl
 | false=>exact h' rfl
theorem br_beq {α:Type}[BEq α][LawfulBEq α]{a b:α}{A B:Prop}(h:a=b->A)(h':a≠b->B):cond (a==b) A B:=br (λ e=>h (eq_of_beq e)) λ e=>h' (beq_eq_false_iff_ne.mp e)
theorem br_bne {α:Type}[BEq α][LawfulBEq α]{a b:α}{A B:Prop}(h:a≠b->A)(h':a=b->B):cond (a != b) A B:=br (λ e=>h (bne_iff_ne.mp e)) λ e=>h' (by
 by_cases q:a=b
 ·exact q
 ·rw[bne_iff_ne.mpr q]at e;cases e)
theorem M.append {a:Addr}{l:List PV}{p:PV}{Q:PV->zaA->Prop}(hH:H a=some (.list l))(hz:l.length<=100000)(h:Q .none (upd H a (.list (l++[p])))):∃ g,zbQ T "append" (.ref a) H g/\zaG T X g [.ref a,p] H Q R:=⟨_,zbQ.append hH,zaG.append hH hz h⟩
theorem M.add {a:Addr}{l:List Pt}(p:Pt){Q:PV->zaA->Prop}(hH:H a=some (.pset l))(hb:zdN p)(h:∀ l',l'.Nodup->(∀ q,q∈l'↔q=p\/q∈l)->Q .none (upd H a (.pset l'))):∃ g,zbQ T "add" (.ref a) H g/\zaG T X g [.ref a,pt p] H Q R:=⟨_,zbQ.add hH,zaG.add p hH hb h⟩
theorem M.popS {a:Addr}{l:List Pt}{Q:PV->zaA->Prop}(hH:H a=some (.pset l))(hne:l≠[])(h:∀ p l',p∈l->l'.Nodup->(∀ q,q∈l'↔q∈l/\q≠p)->l'.length+1=l.length->Q (pt p) (upd H a (.pset l'))):∃ g,zbQ T "pop" (.ref a) H g/\zaG T X g [.ref a] H Q R:=⟨_,zbQ.popS hH,zaG.popS hH hne h⟩
theorem M.own {x:PV}{m:Str}{g:PV}{ps:List PV}{Q:PV->zaA->Prop}(h:zbQ T m x H g)(hc:zaG T X g (x::ps) H Q R):∃ g,zbQ T m x H g/\zaG T X g (x::ps) H Q R:=⟨_,h,hc⟩
end
theorem fresh {H:zaA}{o:AO}{Q:PV->zaA->Prop}(h:∀ c H',H c=none->Ext H H'->H' c=some o->Q (.ref c) H'):∀ c,H c=none->Q (.ref c) (upd H c o):=λ c hc=>h c _ hc (Ext.upd (Ext.refl _) hc) zaC
theorem br_in {b:Bool}{φ A B:Prop}(hb:b=true↔φ)(h:φ->A)(h':¬ φ->B):cond b A B:=by
 cases b with
 | true=>exact h (hb.mp rfl)
 | false=>exact h' λ q=>by have:=hb.mpr q;cases this
theorem br_nin {b:Bool}{φ A B:Prop}(hb:b=true↔φ)(h:¬ φ->A)(h':φ->B):cond (!b) A B:=by
 cases b with
 | true=>exact h' (hb.mp rfl)
 | false=>exact h λ q=>by have:=hb.mpr q;cases this
section
variable {T:Tr}{X:String}{H:zaA}{R:zaA->Prop}
theorem w_var {x:Nat}{ls:LN}{p:PV}{Q:PV->zaA->Prop}(h:lkN x ls=some p)(hq:Q p H):w T X (.var x) .v ls H R Q:=by
 show (match lkN x ls with
  | some p=>wFin T .v Q p H
  | Option.none=>False)
 rw[h];exact hq
theorem br_var {b:Bool}{x y:Nat}{p1 p2:PV}{ls:LN}{Q:PV->zaA->Prop}(h1:lkN x ls=some p1)(h2:lkN y ls=some p2)(h:∀ p,p=cond b p1 p2->Q p H):cond b (w T X (.var x) .v ls H R Q) (w T X (.var y) .v ls H R Q):=by
 cases b with
 | true=>exact w_var (X:=X) (R:=R) h1 (h p1 rfl)
 | false=>exact w_var (X:=X) (R:=R) h2 (h p2 rfl)
theorem wS_seq {a b:IS}{ls:LN}{R:LN->zaA->Prop}{Q:AFl->LN->zaA->Prop} (h:wS a X T ls H R λ fl ls' H'=>match fl with
  | .next=>wS b X T ls' H' R Q
  | fl=>Q fl ls' H'):wS (.seq a b) X T ls H R Q:=h
theorem wS_ite {t:IE}{a b:IS}{ls:LN}{R:LN->zaA->Prop}{Q:AFl->LN->zaA->Prop} (h:w T X t .t ls H (R ls) λ p H1=>match p with
  | .bool c=>cond c (wS a X T ls H1 R Q) (wS b X T ls H1 R Q)
  | _=>False):wS (.ite t a b) X T ls H R Q:=h
theorem fm {a b:Int}{m:Nat}(hb:b=m)(h:0<m):∃ k:Nat,a.fmod b=k/\k<m:=by
 subst hb;obtain⟨k,hk⟩:=Int.eq_ofNat_of_zero_le (Int.fmod_nonneg_of_pos a (b:=(m:Int)) (Int.ofNat_lt.mpr h));exact⟨k,hk,Int.ofNat_lt.mp (hk▸Int.fmod_lt_of_pos a (b:=(m:Int)) (Int.ofNat_lt.mpr h))⟩
theorem divOk {a:Int}{n:Nat}(h0:0<n)(h5:n<=1000):((n:Int)≠0/\Builtin.divisionGoesByPylong a (n:Int)=false):=⟨by lia,zbI (by exact Int.natCast_nonneg _) (by exact lq16 h5 rfl)⟩
theorem law_ax {C:Cx}{G:GT}{names:List Str}{g:Addr}{fd:FuncData}{body:List Stmt}{ir:IS}{X:String}(GO:GOk C G)(nd:names.Nodup)(D:zdR C.K g fd ["script"] body)(hp:names.take 1=[("script" : Str)])
  (hm:mS G names fd.scope.names ir false true body=true) (hs:ir.isSt=false) (h:wS ir X ⟨C,30,false⟩ [(0,.ref C.scA)] (λ _=>Option.none) noRL (λ a _ _=>a=.ret (.bool true))):
  ∀ env,env.scope=fd.scope->AX ⟨C,30,false⟩ env [] [("script",.ref C.scA)] (λ _=>Option.none) body (λ a _ _=>a=.ret (.bool true)) NoE:=λ env he=>by
 refine AX.mono (zaV.ax (zvD nd ir) (T:=⟨C,30,false⟩) (E:=NoE) hs GO (by rw[he];exact D.kind) (congrArg Scope.names he) hm (cov_zip (nms:=[("script" : Str)]) (ps:=[.ref C.scA]) nd hp rfl) zsQ (λ _ e s hx=>by
  rcases hx with ⟨a,ls,H,s₁,_,_,_,_,⟨l,cv,hx⟩,_⟩|⟨ls,a,H,s₁,B,a0,x1,x2,x3,x4,⟨l,cv,hx⟩,x6⟩|⟨ls,a,H,s₁,B,a0,x1,x2,x3,x4,⟨l,cv,hx⟩,x6⟩
  ·exact hx.elim
  ·exact hx.elim
  ·exact hx.elim) h) ?_
 intro a ls H' uu;refine q12 uu λ l cv hq=>?_
 exact hq
end
section
variable {T:Tr}{X:String}{Fs:List AF}{H:zaA}{E:Value->Shared->Prop}{R:zaA->Prop}
theorem ASub.str {value slice:Expr}{x:Str}{k:Int}{c:Nat}{Q:PV->zaA->Prop}(h0:0<=k)(hk:k<2 ^ 63)(hx:(seqIndex? k x.length).bind (x.cps[·]?)=some c)(h:Q (.str ⟨#[c]⟩) H)
  (hs:∀ a u,subscripted slice false (.str x a) (.int k u)=operate [.str x a,.int k u] (getItem (.str x a) (.int k u)):=by intro _ _;rfl):ASub T Fs H value slice (.str x) (.int k) Q E:=λ A s v w ok R pv pw=>by
 obtain⟨a,rfl⟩:=pv.str_inv;obtain⟨t,rfl⟩:=pw.int_inv;refine tail_any (typeIs_str s x a) slot_str_getitem.lookup (getItem_str ?_ hx (zaI (s':={ s with toks:=s.toks+1 }) R PR.str h)) (hs a t);have h1:¬ k < -(2 ^ 63:Int):=by exact lq19 h0 rfl
 have h2:¬ k>=2 ^ 63:=by exact lqc hk
 rw[decide_eq_false h1,decide_eq_false h2];rfl
theorem SSub.bw {k:Int}{Q:PV->zaA->Prop}(h0:0<=k)(hk:k<2)(h:∀ s:Str,s = "b" \/ s = "w" -> (s = "b" ↔ k=0)->Q (.str s) H):SSub T (.str "bw") (.int k) H Q:=by
 have:k=0\/k=1:=by lia
 rcases this with rfl|rfl
 ·exact SSub.of λ Fs v s hs=>ASub.str (c:=98) (by decide) (by decide) (by rfl) (h "b" (.inl rfl) (by simp)) λ a u=>hs _ _
 ·exact SSub.of λ Fs v s hs=>ASub.str (c:=119) (by decide) (by decide) (by rfl) (h "w" (.inr rfl) (by decide +kernel)) λ a u=>hs _ _
end
section
variable {T:Tr}{X:String}{H:zaA}{R:zaA->Prop}
theorem SSub.sc {d:Addr}{x y:Int}{c:Str}{Q:PV->zaA->Prop}(hH:H d=some (.bw x y))(hc:c = "b" \/ c = "w")(h:Q (.int (bwAt x y c)) H):SSub T (.ref d) (.str c) H Q:=SSub.of λ Fs v s hs=>ASub.bw hH hc h λ w=>hs _ _
theorem zqO.sc {d:Addr}{x y:Int}{c:Str}{Q:PV->zaA->Prop}(hH:H d=some (.bw x y))(hc:c = "b" \/ c = "w")(h:Q (.int (bwAt x y c)) H):zqO T (.ref d) (.str c) H Q:=by
 unfold zqO;exact λ Fs=>zxU.bw hH hc h
theorem zaQ.sc {d:Addr}{x y z:Int}{c:Str}{Q:zaA->Prop}(hH:H d=some (.bw x y))(hc:c = "b" \/ c = "w")(h:Q (upd H d (znM x y c z))):zaQ T (.ref d) (.str c) (.int z) H Q:=by
 unfold zaQ;exact λ Fs=>zdL.bw hH hc h
theorem zaG.cs0 {Q:PV->zaA->Prop}(h:∀ a,H a=Option.none->Q (.ref a) (upd H a (.cset false false))):zaG T X (.ty "set") [] H Q R:=zaG.of λ Fs=>zaT.csNew h
theorem M.addC {a:Addr}{x y:Bool}{c:Str}{Q:PV->zaA->Prop}(hH:H a=some (.cset x y))(hc:c = "b" \/ c = "w")(h:Q .none (upd H a (csPut x y c))):∃ g,zbQ T "add" (.ref a) H g/\zaG T X g [.ref a,.str c] H Q R:=
 ⟨_,zbQ.of rfl λ Fs=>zdW.csAdd hH,zaG.of λ Fs=>zaT.csAdd hH hc h⟩
theorem SCmp.inC {a:Addr}{x y:Bool}{c:Str}{Q:Bool->zaA->Prop}(hH:H a=some (.cset x y))(hc:c = "b" \/ c = "w")(h:Q (csAt x y c) H):SCmp T .In (.str c) (.ref a) H Q:=SCmp.of λ Fs=>ACmp.inCs hH hc h
theorem SBin.iaddI {a b:Int}{Q:PV->zaA->Prop}(h:Q (.int (a+b)) H):SBin T (inplaceOp .Add) (.int a) (.int b) H Q:=SBin.of λ Fs=>.ofInt h λ _ _ _ _ _ h=>AutoIntOps.iadd_0 h
end
/-! rules behind which what comes next is a letter: small goals,small proofs -/
section
variable {T:Tr}{X:String}{H:zaA}{R:zaA->Prop}
theorem zaF.callK {g:PV}{ps:List PV}{Q0 Q:PV->zaA->Prop}(h:zaF T X g ps H Q0 R)(hq:∀ K:PV->zaA->Prop,(∀ p H,Q p H->K p H)->∀ p H,Q0 p H->K p H):zaG T X g ps H Q R:=h.call (hq Q λ _ _ h=>h)
end
noncomputable def AFl.goes:AFl->Bool
 | .next=>true
 | .cont=>true
 | _=>false
noncomputable def AFl.nexts:AFl->Bool
 | .next=>true
 | _=>false
theorem SubN.of {K ls:LN}(h:(K.map λ e=>lkN e.1 ls)=K.map λ e=>some e.2):SubN K ls:=by
 induction K with
 | nil=>trivial
 | cons e K ih=>
  obtain⟨h1,h2⟩:=List.cons.inj h;exact⟨h1,ih h2⟩
section
variable {T:Tr}{X:String}{H:zaA}{α:Type}{L:α->LN}{J:α->zaA->Prop}{Q:AFl->LN->zaA->Prop}
theorem zsH (a:AFl)(h:a.goes=true)(b:α)(ls:LN)(H:zaA)(s:SubN (L b) ls)(n:J b H):zkF (ziO L J) Q a ls H:=by
 cases a with
 | next=>exact⟨b,s,n⟩
 | cont=>exact⟨b,s,n⟩
 | brk=>cases h
 | ret p=>cases h
theorem zgV {t:IT}{v:PV}{ls:LN}{b:IS}{R R':LN->zaA->Prop}(h:∀ K:AFl->LN->zaA->Prop,(∀ a,a.goes=true->∀ b ls H,SubN (L b) ls->J b H->K a ls H)->wT T X t v ls H R λ ls'' H''=>wS b X T ls'' H'' R' K):wT T X t v ls H R λ ls'' H''=>wS b X T ls'' H'' R' (zkF (ziO L J) Q):=h _ zsH
theorem wS_goK {ls:LN}{b:IS}{R:LN->zaA->Prop}(h:∀ K:AFl->LN->zaA->Prop,(∀ a,a.goes=true->∀ b ls H,SubN (L b) ls->J b H->K a ls H)->wS b X T ls H R K):wS b X T ls H R (zkF (ziO L J) Q):=h _ zsH
theorem wS_cutK {P:α->zaA->Prop}{ls:LN}{b:IS}{R:LN->zaA->Prop}(h:∀ K:AFl->LN->zaA->Prop,(∀ a,a.nexts=true->∀ b ls H,SubN (L b) ls->P b H->K a ls H)->wS b X T ls H R K):wS b X T ls H R (cutK L P Q):=h _ λ a ha b ls H s n=>by
 cases a with
 | next=>exact⟨b,s,n⟩
 | cont=>cases ha
 | brk=>cases ha
 | ret p=>cases ha
end
theorem whileI {ls:LN}{H:zaA}{B:(α:Type)->(α->LN)->(Nat->α->zaA->Prop)->Nat->α->zaA->Prop}(α:Type)(L:α->LN)(I:Nat->α->zaA->Prop)(n:Nat)(b0:α)(s:SubN (L b0) ls)(i:I n b0 H)(k:∀ n b H',I n b H'->B α L I n b H'):
  ∃ (α:Type) (L:α->LN) (I:Nat->α->zaA->Prop) (n:Nat) (b0:α),SubN (L b0) ls/\I n b0 H/\∀ n b H',I n b H'->B α L I n b H':=⟨α,L,I,n,b0,s,i,k⟩
theorem cutI {A B:(α:Type)->(α->LN)->(α->zaA->Prop)->Prop}(α:Type)(L:α->LN)(P:α->zaA->Prop)(h:A α L P)(k:B α L P):∃ (α:Type) (L:α->LN) (P:α->zaA->Prop),A α L P/\B α L P:=⟨α,L,P,h,k⟩
/-! the place of a colour in 'bw' -/
noncomputable def bwI (c:Str):Int:=cond (c == "b") 0 1
section
variable {T:Tr}{X:String}{Fs:List AF}{H:zaA}{E:Value->Shared->Prop}{R:zaA->Prop}
theorem zdW.strIndex {x:Str}:zdW T Fs H "index" (.str x) (.bi "str.index"):=λ A s v pl Q E ok R pv h=>by
 obtain⟨t,rfl⟩:=pv.str_inv;exact GM.index (h _ PR.bi)
theorem zaT.bwIndex {c:Str}(hc:c = "b" \/ c = "w"){Q:PV->zaA->Prop}(h:Q (.int (bwI c)) H):zaT T Fs H (.bi "str.index") [.str "bw",.str c] Q E:=λ A s v ws ok R pv prs=>by
 rw[pv.bi_inv];refine q23 prs.cons_inv ?_;intro w r1 u0;cases u0;intro pw prs;refine q23 prs.cons_inv ?_;intro i r2 u0;cases u0;intro pi prs;rw[prs.nil_inv];obtain⟨t,rfl⟩:=pw.str_inv;obtain⟨u,rfl⟩:=pi.str_inv;rcases hc with rfl|rfl
 ·exact SC.index (i:=0) (rest:=[]) (by decide +kernel) (zaI (s':={ s with toks:=s.toks+1 }) R PR.int h)
 ·exact SC.index (i:=1) (rest:=[]) (by decide +kernel) (zaI (s':={ s with toks:=s.toks+1 }) R PR.int h)
theorem M.bwIndex {c:Str}{Q:PV->zaA->Prop}(hc:c = "b" \/ c = "w")(h:Q (.int (bwI c)) H):∃ g,zbQ T "index" (.str "bw") H g/\zaG T X g [.str "bw",.str c] H Q R:=
 ⟨_,zbQ.of rfl λ Fs=>zdW.strIndex,zaG.of λ Fs=>zaT.bwIndex hc h⟩
end
/-! the library's tree of questions of a sort,answered by distinct ranks -/
noncomputable def Ka (r:Nat->Nat)(p:Array Nat)(i:Nat):Nat:=r (p.getD i 0)
noncomputable def Asc (r:Nat->Nat)(p:Array Nat)(m:Nat):Prop:=∀ i j,i<j->j<m->Ka r p i<Ka r p j
noncomputable def Dsc (r:Nat->Nat)(p:Array Nat)(m:Nat):Prop:=∀ i j,i<j->j<m->Ka r p j<Ka r p i
section
variable {n:Nat}{r:Nat->Nat}{cmp:Nat->Nat->(Bool->Shared->Prop)->Shared->Prop}{s:Shared}{p:Array Nat}
structure Orc (n:Nat)(r:Nat->Nat)(cmp:Nat->Nat->(Bool->Shared->Prop)->Shared->Prop)(s:Shared):Prop where
 ans:∀ i j (C:Bool->Shared->Prop),i<n->j<n->C (decide (r i<r j)) s->cmp i j C s
 inj:∀ i j,i<n->j<n->r i=r j->i=j
noncomputable def Pm (n:Nat)(p:Array Nat):Prop:=p.toList.Perm (List.range n)
theorem Pm.size (h:Pm n p):p.size=n:=by
 have:=List.Perm.length_eq h
 simpa using this
theorem Pm.get (h:Pm n p){i:Nat}(hi:i<n):∃ k,p[i]?=some k/\p.getD i 0=k/\k<n:=by
 have hs:i<p.size:=by rw[h.size];exact hi
 refine⟨p[i],getElem?_pos p i hs,by simp[Array.getD,hs],?_⟩;have:p[i]∈p.toList:=by simp
 exact List.mem_range.mp (h.mem_iff.mp this)
theorem Pm.lt (h:Pm n p){i:Nat}(hi:i<n):p.getD i 0<n:=by
 refine q13 (h.get hi) λ k _ e hk=>?_;rw[e];exact hk
theorem Pm.ne (O:Orc n r cmp s)(h:Pm n p){i j:Nat}(hi:i<n)(hj:j<n)(hij:i≠j):Ka r p i≠Ka r p j:=λ e=>by
 have e2:=O.inj _ _ (h.lt hi) (h.lt hj) e;refine q13 (h.get hi) λ a a1 a2 _=>?_;refine q13 (h.get hj) λ b b1 b2 _=>?_;rw[a2,b2]at e2;subst e2;have nd:p.toList.Nodup:=h.nodup_iff.mpr List.nodup_range;have hi':i<p.toList.length:=by rw[Array.length_toList,h.size];exact hi
 exact hij ((List.getElem?_inj hi' nd).mp (by rw[Array.getElem?_toList,Array.getElem?_toList,a1,b1]))
theorem Pm.ask (O:Orc n r cmp s)(h:Pm n p){i j:Nat}(hi:i<n)(hj:j<n){C:Bool->Shared->Prop}(hC:C (decide (Ka r p i<Ka r p j)) s):cmp (p.getD i 0) (p.getD j 0) C s:=O.ans _ _ _ (h.lt hi) (h.lt hj) hC
theorem Pm.perm {q:Array Nat}(h:Pm n p)(hq:q.Perm p):Pm n q:=(Array.perm_iff_toList_perm.mp hq).trans h
theorem zkP {q:Array Nat}{i j:Nat}(h:p[i]?=q[j]?):Ka r p i=Ka r q j:=by
 unfold Ka;rw[Array.getD_eq_getD_getElem?,Array.getD_eq_getD_getElem?,h]
theorem Ka_rev {m k:Nat}(hm:m<=p.size)(hk:k<m):Ka r (kas_rev p 0 m) k=Ka r p (m-1-k):=by
 refine zkP ?_;unfold kas_rev;rw[getElem?_mirror_all (i:=0) hm,if_pos ⟨Nat.zero_le _,hk⟩,Nat.zero_add]
theorem ktrue {α:Type}{T1 T2:KasT α}{Q:α->Shared->Prop}(h:T1.kasWp cmp Q s):(if true=true then T1 else T2).kasWp cmp Q s:=by rw[if_pos rfl];exact h
theorem kfalse {α:Type}{T1 T2:KasT α}{Q:α->Shared->Prop}(h:T2.kasWp cmp Q s):(if false=true then T1 else T2).kasWp cmp Q s:=by rw[if_neg (by decide)];exact h
theorem asc_ok (O:Orc n r cmp s)(h:Pm n p):∀ (f m:Nat) {G:Nat->Shared->Prop},1<=m->m+f<=n->Asc r p m->(∀ k,m<=k->k<=m+f->Asc r p k->(k=m+f\/Ka r p k<Ka r p (k-1))->G k s)->(kas_asc p f m).kasWp cmp G s:=by
 intro f
 induction f with
 | zero=>exact λ m G h1 h2 ha hg=>hg m (Nat.le_refl _) (Nat.le_refl _) ha (.inl rfl)
 | succ f ih=>
  intro m G h1 h2 ha hg;refine h.ask O (by lia) (by lia) ?_
  by_cases c:Ka r p m<Ka r p (m-1)
  ·rw[decide_eq_true c];refine ktrue ?_
   exact hg m (Nat.le_refl _) (by lia) ha (.inr c)
  ·rw[decide_eq_false c];refine kfalse ?_
   have hne:=h.ne O (i:=m) (j:=m-1) (by lia) (by lia) (by lia);refine ih (m+1) (by exact lqg h1) (by lia) (λ i j hij hj=>?_) λ k k1 k2 k3 k4=>hg k (by lia) (by lia) k3 (k4.imp (λ e=>by lia) id)
   by_cases q:j<m
   ·exact ha i j hij q
   ·have:j=m:=by lia
    subst this
    by_cases e:i=j-1
    ·subst e;lia
    ·have:=ha i (j-1) (by lia) (by lia)
     lia
theorem dsc_ok (O:Orc n r cmp s)(h:Pm n p):∀ (f m:Nat) {G:Array Nat×Nat×Nat->Shared->Prop},1<=m->m+f<=n->Dsc r p m->(∀ k,m<=k->k<=m+f->Dsc r p k->G (p,k,0) s)->(kas_desc f p m 0).kasWp cmp G s:=by
 intro f
 induction f with
 | zero=>exact λ m G h1 h2 ha hg=>hg m (Nat.le_refl _) (Nat.le_refl _) ha
 | succ f ih=>
  intro m G h1 h2 ha hg;refine h.ask O (by lia) (by lia) ?_;have hne:=h.ne O (i:=m) (j:=m-1) (by lia) (by lia) (by lia)
  by_cases c:Ka r p m<Ka r p (m-1)
  ·rw[decide_eq_true c];refine ktrue ?_;rw[if_neg (by decide)]
   refine ih (m+1) (by exact lqg h1) (by lia) (λ i j hij hj=>?_) λ k k1 k2 k3=>hg k (by lia) (by lia) k3
   by_cases q:j<m
   ·exact ha i j hij q
   ·have:j=m:=by lia
    subst this
    by_cases e:i=j-1
    ·subst e;exact c
    ·have:=ha i (j-1) (by lia) (by lia)
     lia
  ·rw[decide_eq_false c];refine kfalse ?_
   refine h.ask O (by lia) (by lia) ?_;rw[decide_eq_true (by lia:Ka r p (m-1)<Ka r p m)];refine ktrue ?_;exact hg m (Nat.le_refl _) (by lia) ha
theorem tail_ok (O:Orc n r cmp s)(h:Pm n p){m:Nat}{G:Nat×Array Nat->Shared->Prop}(h1:1<=m)(h2:m<=n)(hd:Dsc r p m)(hg:∀ k q,Pm n q->1<=k->k<=n->Asc r q k->G (k,q) s):(kas_tail3 m n p).kasWp cmp G s:=by
 unfold kas_tail3;rw[KasT.kasWp_bind];have hs:=h.size;have hq:Pm n (kas_rev p 0 m):=h.perm (mirror_perm _ _ _ _);refine asc_ok O hq (n-m) m h1 (by lia) (λ i j hij hj=>?_) λ k k1 k2 k3 _=>hg k _ hq (by lia) (by lia) k3;rw[Ka_rev (by lia) (by lia),Ka_rev (by lia) (by exact hj)];exact hd _ _ (by lia) (by lia)
theorem count_ok (O:Orc n r cmp s)(h:Pm n p)(h1:1<=n){G:Nat×Array Nat->Shared->Prop}(hg:∀ k q,Pm n q->1<=k->k<=n->Asc r q k->G (k,q) s):(kas_count n p).kasWp cmp G s:=by
 unfold kas_count;rw[KasT.kasWp_bind];refine asc_ok O h (n-1) 1 (Nat.le_refl _) (by lia) (λ i j hij hj=>by lia) λ k k1 k2 k3 k4=>?_
 by_cases e:k=n
 ·rw[if_pos (by simpa using e)]
  exact hg k p h k1 (by lia) k3
 rw[if_neg (by simpa using e)]
 by_cases e1:k>1
 ·rw[if_pos e1]
  refine h.ask O (by exact lq1 h1 rfl) (by lia) ?_;rw[decide_eq_true (k3 0 (k-1) (by lia) (by lia))];refine ktrue ?_;exact hg k p h k1 (by lia) k3
 rw[if_neg e1];have:k=1:=by lia
 subst this;unfold kas_descPart;rw[KasT.kasWp_bind];refine dsc_ok O h (n-(1+1)) (1+1) (by exact lqg k1) (by lia) (λ i j hij hj=>?_) λ m m1 m2 m3=>?_
 ·have:i=0:=by lia
  have:j=1:=by lia
  subst i j;exact k4.resolve_left (by lia)
 ·show (if 0>0 then kas_tail3 m n (kas_rev p (m-(0+1)) m) else kas_tail3 m n p).kasWp cmp G s
  rw[if_neg (by decide)];exact tail_ok O h (by exact lq1 m1 rfl) (by lia) m3 hg
theorem place_ok (O:Orc n r cmp s)(h:Pm n p){k:Nat}(hk:k<n):∀ (f l u:Nat) {G:Nat->Shared->Prop},l<=u->u<=k->u-l<=f->(∀ i,i<l->Ka r p i<Ka r p k)->(∀ i,u<=i->i<k->Ka r p k<Ka r p i)->Asc r p k ->
  (∀ m,m<=k->(∀ i,i<m->Ka r p i<Ka r p k)->(∀ i,m<=i->i<k->Ka r p k<Ka r p i)->G m s)->(kas_place p k f l u).kasWp cmp G s:=by
 intro f
 induction f with
 | zero=>
  intro l u G h1 h2 h3 lo hi ha hg;have:l=u:=by lia
  subst this;exact hg l h2 lo hi
 | succ f ih=>
  intro l u G h1 h2 h3 lo hi ha hg;unfold kas_place
  by_cases c:l>=u
  ·rw[if_pos c]
   have:l=u:=by lia
   subst this;exact hg l h2 lo hi
  rw[if_neg c];refine h.ask O hk (by lia) ?_;have hne:=h.ne O (i:=k) (j:=(l+u) / 2) hk (by lia) (by lia)
  by_cases q:Ka r p k<Ka r p ((l+u) / 2)
  ·rw[decide_eq_true q];refine ktrue ?_
   refine ih l ((l+u) / 2) (by lia) (by lia) (by lia) lo (λ i i1 i2=>?_) ha hg
   by_cases e:i=(l+u) / 2
   ·subst e;exact q
   ·have:=ha ((l+u) / 2) i (by lia) i2
    lia
  ·rw[decide_eq_false q];refine kfalse ?_
   refine ih ((l+u) / 2+1) u (by lia) h2 (by lia) (λ i i1=>?_) hi ha hg
   by_cases e:i=(l+u) / 2
   ·subst e;lia
   ·have:=ha i ((l+u) / 2) (by lia) (by lia)
    lia
theorem bin_ok (O:Orc n r cmp s):∀ (f k:Nat) (p:Array Nat) {G:Array Nat->Shared->Prop},Pm n p->k+f=n->Asc r p k->(∀ q,Pm n q->Asc r q n->G q s)->(kas_bin f p k).kasWp cmp G s:=by
 intro f
 induction f with
 | zero=>
  intro k p G h e ha hg;have:k=n:=by lia
  subst this;exact hg p h ha
 | succ f ih=>
  intro k p G h e ha hg;have hs:=h.size;rw[show kas_bin (f+1) p k=(kas_place p k k 0 k).bind λ l=>kas_bin f (bubble p k (k-l)) (k+1) from rfl,KasT.kasWp_bind];refine place_ok O h (by lia) k 0 k (by lia) (Nat.le_refl _) (by lia) (λ i hi=>by lia) (λ i h1 h2=>by lia) ha λ m m1 m2 m3=>?_;refine ih (k+1) _ (h.perm (bubble_perm _ _ _)) (by lia) (λ i j hij hj=>?_) hg;have at_:∀ i,i<=k->Ka r (bubble p k (k-m)) i=if i=m then Ka r p k else if m<i then Ka r p (i-1) else Ka r p i:=λ i hi=>by
   have e:=getElem?_bubble (xs:=p) (src:=k) (by lia) (k-m) (by lia) i;rw[show k-(k-m)=m by lia]at e
   by_cases c:i=m
   ·rw[if_pos c]at e ⊢;exact zkP e
   ·rw[if_neg c]at e ⊢
    by_cases d:m<i
    ·rw[if_pos ⟨d,hi⟩]at e;rw[if_pos d];exact zkP e
    ·rw[if_neg λ w=>d w.1]at e;rw[if_neg d];exact zkP e
  rw[at_ i (by lia),at_ j (by lia)]
  by_cases c1:i=m
  ·rw[if_pos c1,if_neg (by lia),if_pos (by lia)]
   exact m3 _ (by lia) (by lia)
  rw[if_neg c1]
  by_cases c2:j=m
  ·rw[if_pos c2,if_neg (by lia)]
   exact m2 _ (by exact lq32 c2 hij)
  rw[if_neg c2]
  by_cases c3:m<i
  ·rw[if_pos c3,if_pos (by lia)]
   exact ha _ _ (by lia) (by lia)
  rw[if_neg c3]
  by_cases c4:m<j
  ·rw[if_pos c4]
   by_cases c5:i=j-1
   ·lia
   ·exact ha _ _ (by lia) (by lia)
  ·rw[if_neg c4]
   exact ha _ _ hij (by lia)
theorem sort_ok (O:Orc n r cmp s)(h1:1<=n){G:Array Nat->Shared->Prop}(hg:∀ q,Pm n q->Asc r q n->G q s):(kas_sort n).kasWp cmp G s:=by
 unfold kas_sort;rw[KasT.kasWp_bind];refine count_ok O (p:=List.toArray (List.range n)) (List.Perm.refl _) h1 λ k q hq k1 k2 k3=>?_
 by_cases c:k<n
 ·rw[if_pos (show (k,q).1<n from c)]
  have:max (k,q).1 1=k:=by show max k 1=k;lia
  rw[this];exact bin_ok O (n-k) k q hq (by lia) k3 hg
 ·rw[if_neg (show ¬ (k,q).1<n from c)]
  have:k=n:=by lia
  subst this;exact hg q hq k3
end
/-! sorted: pairs of a point and a colour,the points distinct -/
noncomputable def ptB (x y:Pt):Bool:=cond (x.1==y.1) (decide (x.2<y.2)) (decide (x.1<y.1))
section
variable {prog:Program}{w:World}{A:Around}{E:Value->Shared->Prop}{s:Shared}
theorem zwN {a b:Addr}{x y:Pt}{oa ob:Obj}{na nb:Nat}{t u t' u':Tok}(hb:s.TypeIs (.ref b) "tuple")(ha:s.heap.get? a=some oa)(da:oa.data=.seq #[.int x.1 t,.int x.2 u] na)(hob:s.heap.get? b=some ob)(db:ob.data=.seq #[.int y.1 t',.int y.2 u'] nb)
  {P:Fin->Shared->Prop} (h:P (.done (.ret (.bool (ptB x y)))) s):wpAny (model prog w) A (Builtin.«tuple.__lt__» ⟨[.ref a,.ref b],[]⟩) P E s:=by
 have int_lt:∀ {i j:Int} {t u:Tok} {Q:Value->Shared->Prop},Q (.bool (decide (i<j))) s->wpAny (model prog w) A (richCompare .Lt (.int i t) (.int j u)) Q E s:=λ h=>PyProof.Rows.lt_int h
 show wpAny _ _ (isInstance (.ref b) (.type "tuple") >>= _) _ _ s
 refine wpAny_bind (wpAny_isInstance hb isSubtype_tuple_tuple ?_);simp only[Bool.not_true,Bool.false_eq_true,if_false];refine wpAny_bind (wpAny_tupleItemsOf ha da ?_);refine wpAny_bind (wpAny_tupleItemsOf hob db ?_)
 show wpAny _ _ (forIn [(Value.int x.1 t,Value.int y.1 t'),(Value.int x.2 u,Value.int y.2 u')] _ _ >>= _) _ _ s
 rw[List.forIn_cons];refine wpAny_bind (wpAny_bind (wpAny_bind (wpAny_eqBool_int ?_)));unfold ptB at h;cases e1:x.1==y.1 with
 | false=>
  rw[e1]at h;exact wpAny_bind (wpAny_rule (wpAny_bind (int_lt (wpAny_bind (wpAny_pure (wpAny_pure (wpAny_pure (wpAny_pure h))))))))
 | true=>
  rw[e1]at h;refine wpAny_pure ?_
  show wpAny _ _ (forIn [(Value.int x.2 u,Value.int y.2 u')] _ _) _ _ s
  rw[List.forIn_cons];refine wpAny_bind (wpAny_bind (wpAny_eqBool_int ?_));cases e2:x.2==y.2 with
  | false=>exact wpAny_bind (wpAny_rule (wpAny_bind (int_lt (wpAny_bind (wpAny_pure (wpAny_pure (wpAny_pure (wpAny_pure h))))))))
  | true=>
   refine wpAny_pure ?_
   show wpAny _ _ (forIn [] _ _) _ _ s
   rw[List.forIn_nil];refine wpAny_pure (wpAny_pure ?_);have:decide (x.2<y.2)=false:=decide_eq_false (by rw[eq_of_beq e2];exact Int.lt_irrefl _);rw[show cond true (decide (x.2<y.2)) (decide (x.1<y.1))=false from this]at h;exact h
theorem lt_pt {x y:Pt}{a b:Value}{Q:Value->Shared->Prop}(hu:A.units<cLine)(pa:IsPt s.heap x a)(pb:IsPt s.heap y b)(h:Q (.bool (ptB x y)) s):wpAny (model prog w) A (compareOp .Lt a b) Q E s:=by
 refine q55 pa ?_;clear pa;intro a oa na t u u0;cases u0;intro ha ca _ da;refine q55 pb ?_;clear pb;intro b ob nb t' u' u0;cases u0;intro hb cb _ db;exact wpAny_richCompare_same_room (op:=.Lt) ⟨_,ha,ca⟩ ⟨_,hb,cb⟩ F.slot_tuple_lt
  (wpAny_call_entry F.slot_tuple_lt ⟨_,ha,ca⟩ F.entry_tuple_lt (zwN ⟨_,hb,cb⟩ ha da hb db ⟨_,rfl,(λ e=>nomatch e),h⟩) (F.args_tuple_lt_2 _ _)) hu
noncomputable def ePV (e:Pt×Str):PV:=.tup [pt e.1,.str e.2]
structure IsE (h:Heap)(e:Pt×Str)(v:Value):Prop where
 is:∃ a o n z t,v=.ref a/\h.get? a=some o/\o.cls=.type "tuple" /\ o.data=.seq #[z,.str e.2 t] n/\IsPt h e.1 z
theorem lt_e {x y:Pt×Str}{a b:Value}{Q:Bool->Shared->Prop}(hu:A.units<cLine)(pa:IsE s.heap x a)(pb:IsE s.heap y b)(hxy:x.1=y.1->x.2=y.2)(h:Q (ptB x.1 y.1) s):wpAny (model prog w) A (keyLt' (tuples' false) a b) Q E s:=by
 refine q55 pa.is ?_;intro a oa na z t u0;cases u0;intro ha ca da pz;refine q55 pb.is ?_;intro b ob nb z' t' u0;cases u0;intro hb cb db pz';refine kat_lt ha da hb db ?_;refine kat_cons (zjH hu pz pz' ?_)
 by_cases e:x.1=y.1
 ·rw[decide_eq_true e]
  refine kat_yes (kat_cons (wpAny_eqBool_str ?_));rw[decide_eq_true (hxy e)];refine kat_yes (kat_nil ?_);rw[e]at h;have:ptB y.1 y.1=false:=by
   unfold ptB;rw[show (y.1.1==y.1.1)=true from beq_self_eq_true _];exact decide_eq_false (Int.lt_irrefl _)
  rw[this]at h;exact h
 ·rw[decide_eq_false e]
  exact kat_no (kat_one _ _ (lt_pt hu pz pz' h))
theorem sort_any {a:Addr}{vs:List Value}{n:Nat}{Good:List Value->Prop}{P:Fin->Shared->Prop}(ho:s.heap.get? a=some (seqObj "list" vs.toArray n))(h64:vs.length<64)(hg:vs.length<2->Good vs)
  (ask:∀ h',(∀ b o,b≠a->s.heap.get? b=some o->h'.get? b=some o)->2<=vs.length->∀ G:Array Nat->Shared->Prop,(∀ p:Array Nat,p.size=vs.length->Good (p.toList.map λ i=>vs.getD i Value.none)->G p { s with heap:=h' }) ->
   wpAny (model prog w) A (keyKind' vs.toArray) (λ κ s'=>(kas_sort vs.length).kasWp (kas_ask prog w A κ vs) G s') (λ _ _=>False) { s with heap:=h' })
  (k:∀ out h' c,Good out->(∀ b o,b≠a->s.heap.get? b=some o->h'.get? b=some o)->h'.get? a=some (seqObj "list" out.toArray c)->P (.done (.ret .none)) { s with heap:=h' }):
  wpAny (model prog w) A (Builtin.«list.sort» ⟨[.ref a],[]⟩) P E s:=by
 have hl:vs.length<=sizeLine:=by rw[sizeLine_eq];exact Nat.le_trans (Nat.le_of_lt h64) (by decide)
 obtain⟨e1,ho1⟩:∃ e1,(s.heap.update a (Obj.mapSeq λ _=>(#[]:Array Value))).get? a=some (seqObj "list" #[] e1):=⟨_,get?_update_seq ho λ _=>#[]⟩;have keep:∀ b o,b≠a->s.heap.get? b=some o->(((s.heap.update a (Obj.mapSeq λ _=>(#[]:Array Value))).push (seqObj "tuple" vs.toArray 0)).push (seqObj "list" #[] 0)).get? b=some o:=λ b o hb e=>
  Heap.get?_push_of_some _ (Heap.get?_push_of_some _ ((Heap.get?_update_ne _ _ _ _ hb).trans e))
 have ho3:(((s.heap.update a (Obj.mapSeq λ _=>(#[]:Array Value))).push (seqObj "tuple" vs.toArray 0)).push (seqObj "list" #[] 0)).get? a=some (seqObj "list" #[] e1):=Heap.get?_push_of_some _ (Heap.get?_push_of_some _ ho1);rw[list_sort_plain];refine wpAny_bind (listItems_at ho rfl (wpAny_bind (listUpdate_at ho rfl (wpAny_bind (seqEpoch_at ho1 rfl (wpAny_bind (wpAny_newTuple (wpAny_bind (wpAny_newList (wpAny_holding ?_) (Nat.zero_le _))) hl)))) (by rw[List.size_toArray];exact hl) (Nat.zero_le _))))
 show wpAny (model prog w) A _ P E { s with heap:=((s.heap.update a (Obj.mapSeq λ _=>(#[]:Array Value))).push (seqObj "tuple" vs.toArray 0)).push (seqObj "list" #[] 0) }
 generalize ((s.heap.update a (Obj.mapSeq λ _=>(#[]:Array Value))).push (seqObj "tuple" vs.toArray 0)).push (seqObj "list" #[] 0)=h1 at keep ho3;have tail:∀ (st:SortSt) (out:List Value),(arrOf st).map (·.2)=out.toArray->failedOf st=none->Good out->out.length=vs.length ->
   wpAny (model prog w) A (do
    let sorted:=(arrOf st).map (·.2)
    let touched:=(<- seqEpoch a) != e1
    Builtin.List.listUpdate (.ref a) λ _=>sorted
    if let some e:=failedOf st then rule "list.sort.comparison-raised";throw e
    if touched then rule "list.sort.modified";raiseError "ValueError" "list modified during sort"
    ret .none) P E { s with heap:=h1 }:=λ st out e f g hz=>by
  dsimp only;rw[e,f];refine wpAny_bind (seqEpoch_at (s:={ s with heap:=h1 }) ho3 rfl (wpAny_bind (listUpdate_at (s:={ s with heap:=h1 }) ho3 rfl ?_ (Nat.zero_le _) (by rw[List.size_toArray,hz];exact Nat.le_succ_of_le hl))));simp only[bne_self_eq_false,Bool.false_eq_true,if_false];exact wpAny_pure (k out _ _ g (λ b o hb q=>(Heap.get?_update_ne _ _ _ _ hb).trans (keep b o hb q)) (get?_update_seq ho3 λ _=>out.toArray))
 by_cases h2:vs.toArray.size<2
 ·rw[if_pos h2,if_pos h2]
  refine wpAny_bind (wpAny_pure (wpAny_bind ?_))
  show wpAny _ _ (pure ((),SortSt.mk' general' (vs.toArray.zip vs.toArray) #[] 7 none)) _ _ _
  refine wpAny_pure (tail (SortSt.mk' general' (vs.toArray.zip vs.toArray) #[] 7 none) vs ?_ rfl (hg (by rwa [List.size_toArray]at h2)) rfl)
  show ((vs.toArray.zip vs.toArray).map (·.2))=_
  refine Array.toList_inj.mp ?_;rw[Array.toList_map,Array.toList_zip];exact List.map_snd_zip (Nat.le_refl _)
 ·rw[if_neg h2,if_neg h2]
  have h2:2<=vs.length:=by rw[List.size_toArray]at h2;lia
  refine wpAny_bind (wpAny_mono (ask h1 keep h2 (λ p s'=>p.size=vs.length/\Good (p.toList.map λ i=>vs.getD i Value.none)/\s'={ s with heap:=h1 }) λ p a b=>⟨a,b,rfl⟩) (λ κ s0 hk=>?_) λ _ _ x=>x.elim);refine wpAny_bind (wpAny_mono (kat_run (ks:=vs) (Q:=λ st' s'=>∃ out:List Value,(arrOf st').map (·.2)=out.toArray/\failedOf st'=none/\Good out/\out.length=vs.length/\s'={ s with heap:=h1 }) rfl h2 h64 (λ p st' s' a1 a2 a3 a4=>⟨_,kat_snds rfl a2,a3,a4.2.1,by rw[List.length_map,Array.length_toList];exact a1,a4.2.2⟩) hk) ?_ λ _ _ x=>x);rintro⟨⟨⟩,st'⟩ s' ⟨out,a1,a2,a3,a4,rfl⟩;exact tail st' out a1 a2 a3 a4
theorem zxQ {l:Addr}{vs:List Value}{Good:List Value->Prop}{Q:Value->Shared->Prop}(hl:s.heap.IsList l vs.toArray)(h64:vs.length<64)(hg:vs.length<2->Good vs)
  (ask:∀ h',(∀ b o,s.heap.get? b=some o->h'.get? b=some o)->2<=vs.length->∀ G:Array Nat->Shared->Prop,(∀ p:Array Nat,p.size=vs.length->Good (p.toList.map λ i=>vs.getD i Value.none)->G p { s with heap:=h' }) ->
   wpAny (model prog w) A.in1.in1 (keyKind' vs.toArray) (λ κ s'=>(kas_sort vs.length).kasWp (kas_ask prog w A.in1.in1 κ vs) G s') (λ _ _=>False) { s with heap:=h' })
  (k:∀ out h' D c,Good out->s.heap.objs.size<=D->(∀ b o,s.heap.get? b=some o->h'.get? b=some o)->h'.get? D=some (seqObj "list" out.toArray c)->Q (.ref D) { s with heap:=h' }):
  wpAny (model prog w) A (call (.builtin "sorted") [.ref l]) Q E s:=by
 have hs:vs.length<=sizeLine:=by rw[sizeLine_eq];exact Nat.le_trans (Nat.le_of_lt h64) (by decide)
 refine Calls.call_function_entry kind_sorted plain_sorted entry_sorted (args_sorted1 _) ?_;unfold Builtin.«sorted»;refine wpAny_bind (m:=checkCount "sorted" 1 1 _) (wpAny_pure (wpAny_bind (collect_list hl (wpAny_bind (wpAny_newList ?_ hs)) hs)));generalize eh:(s.heap.push (seqObj "list" #[] 0)).update s.heap.objs.size (Obj.mapSeq (·++vs.toArray))=h1;have hsz:h1.objs.size=s.heap.objs.size+1:=by rw[<- eh,Heap.size_update,size_push']
 have keep:∀ b o,s.heap.get? b=some o->(h1.push (seqObj "list" vs.toArray 0)).get? b=some o:=λ b o q=>by
  have hlt:b<s.heap.objs.size:=Heap.lt_size q;rw[Heap.get?_push_ne _ _ _ (by rw[hsz];exact Nat.ne_of_lt (Nat.lt_succ_of_lt hlt)),<- eh,Heap.get?_update_ne _ _ _ _ (Nat.ne_of_lt hlt),Heap.get?_push_ne _ _ _ (Nat.ne_of_lt hlt)];exact q
 have hoL:(h1.push (seqObj "list" vs.toArray 0)).get? h1.objs.size=some (seqObj "list" vs.toArray 0):=Heap.get?_push_size _ rfl;have hlo:s.heap.objs.size<=h1.objs.size:=by rw[hsz];exact Nat.le_succ _
 generalize hD:h1.objs.size=D at hoL hlo;have nD:∀ b o,s.heap.get? b=some o->b≠D:=λ b o q=>Nat.ne_of_lt (Nat.lt_of_lt_of_le (Heap.lt_size q) hlo)
 show wpAny _ _ _ _ _ { s with heap:=h1.push (seqObj "list" vs.toArray 0) }
 refine wpAny_bind (wpAny_holding (wpAny_call_entry slot_list_sort ⟨_,hoL,rfl⟩ entry_list_sort ?_ (args_list_sort _)));exact sort_any (s:={ s with heap:=h1.push (seqObj "list" vs.toArray 0) }) hoL h64 hg (λ h' kp h2 G hG=>ask h' (λ b o q=>kp b o (nD b o q) (keep b o q)) h2 G hG)
  λ out h' c g kp q=>⟨_,rfl,wpAny_pure ⟨_,rfl,k out h' D c g hlo (λ b o q=>kp b o (nD b o q) (keep b o q)) q⟩⟩
theorem prs_map {h:Heap}{f:Nat->PV}{g:Nat->Value}:∀ l:List Nat,(∀ i∈l,PR h (f i) (g i))->PRs h (l.map f) (l.map g)
 | [],_=>PRs.nil
 | i::l,k=>PRs.cons (k i (.head _)) (prs_map l λ j hj=>k j (.tail _ hj))
theorem IsE.of {h:Heap}{e:Pt×Str}{v:Value}(x:PR h (ePV e) v):IsE h e v:=by
 refine q46 x.tup_inv ?_;intro a o vs n u0;cases u0;intro ho hc _ hd r;refine q23 r.cons_inv λ z r1 e1 pz r=>?_;refine q23 r.cons_inv λ c r2 e2 pc r=>?_;obtain⟨t,rfl⟩:=pc.str_inv;have:vs=#[z,.str e.2 t]:=Array.toList_inj.mp (by rw[e1,e2,r.nil_inv]);exact⟨a,o,n,z,t,rfl,ho,hc,this▸hd,zjD pz⟩
theorem kat_tups {h:Heap}:∀ {es:List (Pt×Str)} {vs:List Value},PRs h (es.map ePV) vs->∃ fs,KatTups h vs fs/\fs.length=es.length/\∀ v∈fs,∃ p,IsPt h p v:=by
 intro es
 induction es with
 | nil=>intro vs r;rw[r.nil_inv];exact⟨[],KatTups.nil,rfl,λ _ h=>(nomatch h)⟩
 | cons e es ih=>
  intro vs r;refine q23 r.cons_inv ?_;intro v r1 u0;cases u0;intro pv r;refine q13 (ih r) λ fs k1 k2 k3=>?_;refine q55 ((IsE.of pv).is) ?_;intro a o n z t u0;cases u0;intro ho hc hd pz;refine⟨z::fs,KatTups.cons ho hc hd rfl k1,congrArg (·+1) k2,λ v hv=>?_⟩;rcases List.mem_cons.mp hv with rfl|hv
  ·exact⟨_,pz⟩
  ·exact k3 v hv
theorem ask_e {es:List (Pt×Str)}{vs:List Value}{rk:Pt->Nat}(hr:∀ e∈es,∀ f∈es,ptB e.1 f.1=decide (rk e.1<rk f.1))(nd:(es.map λ e=>rk e.1).Nodup)(hu:A.units<cLine)(r:PRs s.heap (es.map ePV) vs)(h2:2<=vs.length)
  {G:Array Nat->Shared->Prop} (hG:∀ p,Pm vs.length p->Asc (λ i=>(es[i]?.map λ e=>rk e.1).getD 0) p vs.length->G p s):
  wpAny (model prog w) A (keyKind' vs.toArray) (λ κ s'=>(kas_sort vs.length).kasWp (kas_ask prog w A κ vs) G s') E s:=by
 have hl:es.length=vs.length:=by have:=r.length;rwa [List.length_map]at this
 refine q13 (kat_tups r) λ fs k1 k2 k3=>?_;refine kat_kind k1 (by rw[k2,hl];exact Nat.lt_of_lt_of_le (by decide) h2) (T:=.type "tuple") (λ v hv=>?_) rfl ?_
 ·refine q61 (k3 v hv) ?_;intro p a o n t u u8;refine q04 u8 ?_;clear u8;intro u0;cases u0;intro ho hc _
  exact hc▸(Looks.ld ho).andThen .now
 have at_:∀ i,i<vs.length->∃ e v,es[i]?=some e/\vs.getD i Value.none=v/\e∈es/\IsE s.heap e v:=λ i hi=>by
  have he:es[i]?=some es[i]:=List.getElem?_eq_getElem (by rw[hl];exact hi);refine q12 (PRs.get i r (p:=ePV es[i]) (by rw[List.getElem?_map,he];rfl)) λ v hv pv=>?_;exact⟨_,v,he,by rw[List.getD_eq_getElem?_getD,hv];rfl,List.mem_of_getElem? he,IsE.of pv⟩
 have eq_of:∀ i j,i<vs.length->j<vs.length->(es[i]?.map λ e=>rk e.1).getD 0=(es[j]?.map λ e=>rk e.1).getD 0->i=j:=λ i j hi hj h=>by
  refine q22 (at_ i hi) λ e v e1 _=>?_;refine q22 (at_ j hj) λ f u f1 _=>?_;rw[e1,f1]at h;refine (List.getElem?_inj (by rw[List.length_map,hl];exact hi) nd).mp ?_;rw[List.getElem?_map,List.getElem?_map,e1,f1];exact congrArg some h
 refine sort_ok (r:=λ i=>(es[i]?.map λ e=>rk e.1).getD 0) ⟨λ i j C hi hj hC=>?_,eq_of⟩ (Nat.le_of_lt h2) hG;refine q24 (at_ i hi) λ e v e1 e2 e3 e4=>?_;refine q24 (at_ j hj) λ f u f1 f2 f3 f4=>?_
 show wpAny _ _ (keyLt' _ (vs.getD i Value.none) (vs.getD j Value.none)) C _ s
 rw[e2,f2];refine lt_e hu e4 f4 (λ q=>?_) ?_
 ·have hij:=eq_of i j hi hj (by rw[e1,f1];show rk e.1=rk f.1;rw[q])
  subst hij;rw[e1]at f1;cases f1;rfl
 ·rw[e1,f1]at hC
  rw[hr e e3 f f3];exact hC
end
theorem good_of {h:Heap}{es:List (Pt×Str)}{vs:List Value}{rk:Pt->Nat}{p:Array Nat}(r:PRs h (es.map ePV) vs)(hp:Pm vs.length p)(ha:Asc (λ i=>(es[i]?.map λ e=>rk e.1).getD 0) p vs.length):
  ∃ es':List (Pt×Str),es'.Perm es/\es'.Pairwise (λ e f=>rk e.1<rk f.1)/\PRs h (es'.map ePV) (p.toList.map λ i=>vs.getD i Value.none):=by
 have hl:es.length=vs.length:=by have:=r.length;rwa [List.length_map]at this
 refine⟨p.toList.map λ i=>es.getD i ((0,0), ""),?_,?_,?_⟩
 ·refine (hp.map _).trans (List.Perm.of_eq (List.ext_getElem? λ i=>?_))
  rw[List.getElem?_map]
  by_cases hi:i<vs.length
  ·rw[List.getElem?_range hi,List.getElem?_eq_getElem (by rw[hl];exact hi)]
   exact congrArg some (by show es.getD i _=_;rw[List.getD_eq_getElem?_getD,List.getElem?_eq_getElem (by rw[hl];exact hi)];rfl)
  ·rw[List.getElem?_eq_none (by simpa using hi),List.getElem?_eq_none (by rw[hl];exact Nat.not_lt.mp hi)];rfl
 ·refine List.pairwise_map.mpr (List.pairwise_iff_getElem.mpr λ i j hi hj hij=>?_)
  have hs:p.toList.length=vs.length:=by rw[Array.length_toList];exact hp.size
  have rank:∀ i (hi:i<p.toList.length),rk (es.getD p.toList[i] ((0,0), "")).1=Ka (λ i=>(es[i]?.map λ e=>rk e.1).getD 0) p i:=λ i hi=>by
   refine q13 (hp.get (i:=i) (by rw[<- hs];exact hi)) λ k k1 k2 k3=>?_;have k4:p.toList[i]=k:=Option.some.inj (by rw[<- List.getElem?_eq_getElem hi,Array.getElem?_toList];exact k1);unfold Ka;rw[k2,k4,List.getD_eq_getElem?_getD]
   show _=(Option.map _ es[k]?).getD 0
   rw[List.getElem?_eq_getElem (by rw[hl];exact k3)];rfl
  rw[rank i hi,rank j hj];exact ha i j hij (by rw[<- hs];exact hj)
 ·rw[List.map_map]
  refine prs_map _ λ i hi=>?_;have hi:i<vs.length:=List.mem_range.mp ((hp.mem_iff).mp hi);refine q12 (PRs.get i r (p:=ePV es[i]) (by rw[List.getElem?_map,List.getElem?_eq_getElem (by rw[hl];exact hi)];rfl)) λ v hv pv=>?_
  show PR h (ePV (es.getD i ((0,0), ""))) (vs.getD i Value.none)
  rw[List.getD_eq_getElem?_getD,List.getElem?_eq_getElem (by rw[hl];exact hi),List.getD_eq_getElem?_getD,hv];exact pv
section
variable {T:Tr}{X:String}{Fs:List AF}{H:zaA}{E:Value->Shared->Prop}{R:zaA->Prop}
theorem zaT.sortedE (hn:1<=T.n){a:Addr}{es:List (Pt×Str)}{rk:Pt->Nat}(hr:∀ e∈es,∀ f∈es,ptB e.1 f.1=decide (rk e.1<rk f.1))(nd:(es.map λ e=>rk e.1).Nodup)(hz:es.length<64)(hH:H a=some (.list (es.map ePV))){Q:PV->zaA->Prop}
  (h:∀ (es':List (Pt×Str)) c,es'.Perm es->es'.Pairwise (λ e f=>rk e.1<rk f.1)->H c=Option.none->Q (.ref c) (upd H c (.list (es'.map ePV)))):zaT T Fs H (.bi "sorted") [.ref a] Q E:=λ A s v ws ok R pv prs=>by
 rw[pv.bi_inv];refine q23 prs.cons_inv ?_;intro w r1 u0;cases u0;intro pw prs;rw[prs.nil_inv,pw.ref_inv];refine q12 (zgP (R.objs a _ hH).1) λ vs il r=>?_;have il:s.heap.IsList a vs.toList.toArray:=by rw[Array.toArray_toList];exact il
 have hl:es.length=vs.toList.length:=by have:=r.length;rwa [List.length_map]at this
 have hu:A.in1.in1.units<cLine:=by have:=ok.units;show A.units+1+1<9900;lia
 refine zxQ (prog:=T.C.prog) (w:=T.C.w) (vs:=vs.toList) (Good:=λ out=>∃ es':List (Pt×Str),es'.Perm es/\es'.Pairwise (λ e f=>rk e.1<rk f.1)/\PRs s.heap (es'.map ePV) out) il (hl▸hz) (λ h2=>⟨es,.refl _,?_,r⟩) (λ h' kp h2 G hG=>?_) λ out h' D c g hD kp hq=>?_
 ·rw[<- hl]at h2
  cases es with
  | nil=>exact .nil
  | cons e l=>cases l with
   | nil=>exact List.pairwise_singleton _ _
   | cons f l=>exact absurd h2 (Nat.not_lt.mpr (Nat.le_add_left 2 l.length))
 ·have tk:=zaB.of_keep kp
  exact ask_e (s:={ s with heap:=h' }) hr nd hu (PRs.keep tk _ r) h2 λ p hp ha=>hG p hp.size (good_of r hp ha)
 ·refine q13 g λ es' p1 p2 p3=>?_
  have tk:=zaB.of_keep kp;exact⟨_,_,PR.ref,R.new (o:=.list _) (s':={ s with heap:=h' }) kp hD ⟨_,_,hq,by rw[List.toList_toArray];exact PRs.keep tk _ p3⟩,tk,h es' D p1 p2 (R.fresh_ge hD).1⟩
theorem zaG.sortedE (hn:1<=T.n){a:Addr}{es:List (Pt×Str)}{rk:Pt->Nat}(hr:∀ e∈es,∀ f∈es,ptB e.1 f.1=decide (rk e.1<rk f.1))(nd:(es.map λ e=>rk e.1).Nodup)(hz:es.length<64)(hH:H a=some (.list (es.map ePV))){Q:PV->zaA->Prop}
  (h:∀ (es':List (Pt×Str)) c,es'.Perm es->es'.Pairwise (λ e f=>rk e.1<rk f.1)->H c=Option.none->Q (.ref c) (upd H c (.list (es'.map ePV)))):zaG T X (.bi "sorted") [.ref a] H Q R:=zaG.of λ Fs=>zaT.sortedE hn hr nd hz hH h
end
noncomputable def inG (n:Nat)(p:Pt):Prop:=(0<=p.1/\p.1<n)/\0<=p.2/\p.2<n
noncomputable def nb (p:Pt):List Pt:=[(p.1-1,p.2),(p.1+1,p.2),(p.1,p.2-1),(p.1,p.2+1)]
theorem zhP {p q:Pt}(h:q∈nb p):p∈nb q:=by
 obtain⟨a,b⟩:=p;have s (x:Int):x-1+1=x:=Int.sub_add_cancel x 1;have t (x:Int):x+1-1=x:=Int.add_sub_cancel x 1;have one:∀ {z:Pt} {l:List Pt},z∈l->∀ y:Pt,y=z->y∈l:=λ h _ e=>e▸h;rcases List.mem_cons.mp h with rfl|h
 ·exact one (.tail _ (.head _)) _ (by show (a,b)=(a-1+1,b);rw[s])
 rcases List.mem_cons.mp h with rfl|h
 ·exact one (.head _) _ (by show (a,b)=(a+1-1,b);rw[t])
 rcases List.mem_cons.mp h with rfl|h
 ·exact one (.tail _ (.tail _ (.tail _ (.head _)))) _ (by show (a,b)=(a,b-1+1);rw[s])
 ·rw[List.mem_singleton.mp h]
  exact one (.tail _ (.tail _ (.head _))) _ (by show (a,b)=(a,b+1-1);rw[t])
noncomputable def grid (n:Nat):List Pt:=(List.range n).flatMap λ i:Nat=>(List.range n).map λ j:Nat=>(((i:Int),(j:Int)):Pt)
theorem zbC {n:Nat}{p:Pt}:p∈grid n↔inG n p:=by
 obtain⟨a,b⟩:=p;simp only[grid,inG,List.mem_flatMap,List.mem_map,List.mem_range,Prod.mk.injEq];constructor
 ·intro uu;refine q12 uu ?_;clear uu;intro i hi u8;refine q13 u8 ?_;clear u8;intro j hj u0;cases u0;intro u1;cases u1;lia
 ·rintro⟨⟨h1,h2⟩,h3,h4⟩;exact⟨a.toNat,by exact lq14 h1 h2,b.toNat,by exact lq14 h3 h4,by lia,by lia⟩
theorem zeO {n:Nat}:(grid n).length=n*n:=by
 simp only[grid,List.length_flatMap,List.length_map,List.length_range];rw[List.map_const',List.length_range,List.sum_replicate_nat]
theorem filter_lt {l:List Pt}{f g:Pt->Bool}(h:∀ x,g x=true->f x=true){q:Pt}(hq:q∈l)(h1:f q=true)(h2:g q=false):(l.filter g).length<(l.filter f).length:=by
 induction l with
 | nil=>cases hq
 | cons y l ih=>
  have le:∀ l:List Pt,(l.filter g).length<=(l.filter f).length:=λ l=>by
   induction l with
   | nil=>simp
   | cons z l ih2=>
    rw[List.filter_cons,List.filter_cons];cases hg:g z
    ·rw[if_neg (by decide)];split
     ·rw[List.length_cons];exact lqg ih2
     ·exact ih2
    ·rw[if_pos rfl,if_pos (h z hg),List.length_cons,List.length_cons];lia
  rw[List.filter_cons,List.filter_cons];rcases List.mem_cons.mp hq with rfl|hq
  ·rw[h1,h2];have:=le l;simp;lia
  ·have:=ih hq
   cases hg:g y
   ·rw[if_neg (by decide)];split
    ·rw[List.length_cons];lia
    ·exact this
   ·rw[if_pos rfl,if_pos (h y hg),List.length_cons,List.length_cons];lia
theorem nodup_le {l m:List Pt}(hn:l.Nodup)(h:∀ x∈l,x∈m):l.length<=m.length:=by
 induction l generalizing m with
 | nil=>simp
 | cons y l ih=>
  obtain⟨h1,h2⟩:=List.nodup_cons.mp hn;have hy:=h y (.head _);have:=ih (m:=m.erase y) h2 λ x hx=>(List.mem_erase_of_ne (λ e:x=y=>h1 (e▸hx))).mpr (h x (.tail _ hx));rw[List.length_erase_of_mem hy]at this;have:0<m.length:=List.length_pos_of_mem hy
  simp;lia
noncomputable def left (n:Nat)(P:List Pt):Nat:=((grid n).filter λ z=>!decide (z∈P)).length
theorem left_lt {n:Nat}{P P1:List Pt}{q:Pt}(hq:inG n q)(h1:q∉P)(h2:q∈P1)(h3:∀ z∈P,z∈P1):left n P1<left n P:=by
 refine filter_lt (q:=q) (λ x hx=>?_) (zbC.mpr hq) (by simp[h1]) (by simp[h2]);simp only[Bool.not_eq_true',decide_eq_false_iff_not]at hx ⊢;exact λ hp=>hx (h3 x hp)
inductive zaJ (n:Nat)(G:Pt->Option Str)(c:Str)(p:Pt):Pt->Prop
 | refl:inG n p->G p=some c->zaJ n G c p p
 | step {q z:Pt}:zaJ n G c p q->z∈nb q->inG n z->G z=some c->zaJ n G c p z
section
variable {n:Nat}{G:Pt->Option Str}{c:Str}{p q z:Pt}
theorem zaJ.inG (h:zaJ n G c p q):inG n q:=by cases h <;> assumption
theorem zaJ.col (h:zaJ n G c p q):G q=some c:=by cases h <;> assumption
theorem zaJ.start (h:zaJ n G c p q):AM.Internal.inG n p/\G p=some c:=by
 induction h with
 | refl a b=>exact⟨a,b⟩
 | step _ _ _ _ ih=>exact ih
theorem zaJ.trans (h:zaJ n G c p q)(h':zaJ n G c q z):zaJ n G c p z:=by
 induction h' with
 | refl a b=>exact h
 | step _ a b e ih=>exact ih.step a b e
theorem zaJ.symm (h:zaJ n G c p q):zaJ n G c q p:=by
 induction h with
 | refl a b=>exact .refl a b
 | step h1 a b e ih=>exact zaJ.trans (.step (.refl b e) (zhP a) h1.inG h1.col) ih
noncomputable def Free (n:Nat)(G:Pt->Option Str)(q:Pt):Prop:=∃ z∈nb q,inG n z/\G z=none
noncomputable def Surr (n:Nat)(G:Pt->Option Str)(c:Str)(p:Pt):Prop:=∀ q,zaJ n G c p q->¬ Free n G q
structure MG (n:Nat)(G:Pt->Option Str)(c:Str)(p:Pt)(P W:List Pt)(sur:Bool):Prop where
 start:p∈P\/p∈W
 reach:∀ q,q∈P\/q∈W->zaJ n G c p q
 closed:∀ q∈P,∀ z∈nb q,AM.Internal.inG n z->G z=some c->z∈P\/z∈W
 sur:sur=true↔∀ q∈P,¬ Free n G q
 apart:∀ q∈P,q∉W
structure MI (n:Nat)(G:Pt->Option Str)(c:Str)(q:Pt)(P1 W1:List Pt)(sur:Bool)(done:List Pt)(W':List Pt)(sur':Bool):Prop where
 sub:∀ z∈W1,z∈W'
 new:∀ z∈W',z∈W1\/(z∈nb q/\AM.Internal.inG n z/\G z=some c/\z∉P1)
 all:∀ z∈done,AM.Internal.inG n z->G z=some c->z∈P1\/z∈W'
 sur:sur'=true↔sur=true/\∀ z∈done,¬ (AM.Internal.inG n z/\G z=none)
variable {P P1 W W1 W' W'':List Pt}{sur sur':Bool}{dn:List Pt}
theorem MI.nil:MI n G c q P1 W1 sur [] W1 sur:=⟨λ _ h=>h,λ _ h=>.inl h,λ _ h=>by simp at h,by simp⟩
theorem MI.skip (h:MI n G c q P1 W1 sur dn W' sur')(hz:AM.Internal.inG n z->G z≠none/\(G z=some c->z∈P1)):MI n G c q P1 W1 sur (dn++[z]) W' sur':=by
 refine⟨h.sub,h.new,λ y hy hg hc=>?_,?_⟩
 ·rcases List.mem_append.mp hy with hy|hy
  ·exact h.all y hy hg hc
  ·rw[List.mem_singleton.mp hy]at hg hc ⊢;exact .inl ((hz hg).2 hc)
 ·rw[h.sur]
  constructor
  ·rintro⟨a,b⟩
   refine⟨a,λ y hy u9=>q02 u9 λ hg hn=>?_⟩;rcases List.mem_append.mp hy with hy|hy
   ·exact b y hy ⟨hg,hn⟩
   ·rw[List.mem_singleton.mp hy]at hg hn;exact (hz hg).1 hn
  ·rintro⟨a,b⟩;exact⟨a,λ y hy=>b y (List.mem_append_left _ hy)⟩
theorem MI.free (h:MI n G c q P1 W1 sur dn W' sur')(hg:AM.Internal.inG n z)(hn:G z=none):MI n G c q P1 W1 sur (dn++[z]) W' false:=by
 refine⟨h.sub,h.new,λ y hy hg hc=>?_,?_⟩
 ·rcases List.mem_append.mp hy with hy|hy
  ·exact h.all y hy hg hc
  ·rw[List.mem_singleton.mp hy,hn]at hc;cases hc
 ·constructor
  ·intro q;cases q
  ·rintro⟨a,b⟩;exact absurd ⟨hg,hn⟩ (b z (by simp))
theorem MI.more (h:MI n G c q P1 W1 sur dn W' sur')(hb:z∈nb q)(hg:AM.Internal.inG n z)(hc:G z=some c)(hp:z∉P1)(hw:∀ y,y∈W''↔y=z\/y∈W'):MI n G c q P1 W1 sur (dn++[z]) W'' sur':=by
 refine⟨λ y hy=>(hw y).mpr (.inr (h.sub y hy)),λ y hy=>?_,λ y hy hg' hc'=>?_,?_⟩
 ·rcases (hw y).mp hy with rfl|hy
  ·exact .inr ⟨hb,hg,hc,hp⟩
  ·exact h.new y hy
 ·rcases List.mem_append.mp hy with hy|hy
  ·exact (h.all y hy hg' hc').imp id λ e=>(hw y).mpr (.inr e)
  ·exact .inr ((hw y).mpr (.inl (List.mem_singleton.mp hy)))
 ·rw[h.sur]
  constructor
  ·rintro⟨a,b⟩
   refine⟨a,λ y hy u9=>q02 u9 λ hg' hn=>?_⟩;rcases List.mem_append.mp hy with hy|hy
   ·exact b y hy ⟨hg',hn⟩
   ·rw[List.mem_singleton.mp hy,hc]at hn;cases hn
  ·rintro⟨a,b⟩;exact⟨a,λ y hy=>b y (List.mem_append_left _ hy)⟩
theorem MG.first (hg:AM.Internal.inG n p)(hc:G p=some c)(hw:∀ y,y∈W↔y=p\/y∈([]:List Pt)):MG n G c p [] W true:=by
 have hp:p∈W:=(hw p).mpr (.inl rfl);refine⟨.inr hp,λ q h=>?_,λ q h=>by simp at h,by simp,λ q h=>by simp at h⟩;rcases h with h|h
 ·simp at h
 ·have:=(hw q).mp h
  simp at this;subst this;exact .refl hg hc
theorem MG.turn (h:MG n G c p P W sur)(hq:q∈W)(hw:∀ y,y∈W1↔y∈W/\y≠q)(hp:∀ y,y∈P1↔y=q\/y∈P)(hi:MI n G c q P1 W1 sur (nb q) W' sur'):MG n G c p P1 W' sur':=by
 have hr:zaJ n G c p q:=h.reach q (.inr hq);have hp1:∀ y∈P,y∈P1:=λ y hy=>(hp y).mpr (.inr hy);have tr:∀ y,y∈P\/y∈W->y∈P1\/y∈W':=λ y hy=>by
  rcases hy with hy|hy
  ·exact .inl (hp1 y hy)
  ·by_cases e:y=q
   ·exact .inl ((hp y).mpr (.inl e))
   ·exact .inr (hi.sub y ((hw y).mpr ⟨hy,e⟩))
 refine⟨tr p h.start,λ y hy=>?_,λ y hy z hz hg hc=>?_,?_,λ y hy hy'=>?_⟩
 ·rcases hy with hy|hy
  ·rcases (hp y).mp hy with rfl|hy
   ·exact hr
   ·exact h.reach y (.inl hy)
  ·rcases hi.new y hy with hy|⟨a,b,e,_⟩
   ·exact h.reach y (.inr ((hw y).mp hy).1)
   ·exact hr.step a b e
 ·rcases (hp y).mp hy with rfl|hy
  ·exact hi.all z hz hg hc
  ·exact tr z (h.closed y hy z hz hg hc)
 ·rw[hi.sur,h.sur]
  constructor
  ·rintro⟨a,b⟩ y hy
   rcases (hp y).mp hy with rfl|hy
   ·intro uu;refine q12 uu λ z hz e=>?_;exact b z hz e
   ·exact a y hy
  ·intro a
   refine⟨λ y hy=>a y (hp1 y hy),λ z hz e=>a q ((hp q).mpr (.inl rfl)) ⟨z,hz,e⟩⟩
 ·rcases hi.new y hy' with hw' | ⟨_,_,_,e⟩
  ·obtain⟨hw',hne⟩:=(hw y).mp hw'
   rcases (hp y).mp hy with rfl|hy
   ·exact hne rfl
   ·exact h.apart y hy hw'
  ·exact e hy
theorem MG.done (h:MG n G c p P [] sur):(∀ q,q∈P↔zaJ n G c p q)/\(sur=true↔Surr n G c p):=by
 have h1:∀ q,q∈P↔zaJ n G c p q:=λ q=>by
  refine⟨λ hq=>h.reach q (.inl hq),λ hr=>?_⟩
  induction hr with
  | refl a b=>exact h.start.resolve_right (by simp)
  | step _ a b e ih=>exact (h.closed _ ih _ a b e).resolve_right (by simp)
 refine⟨h1,h.sur.trans ?_⟩;unfold Surr;exact⟨λ a q hq=>a q ((h1 q).mpr hq),λ a q hq=>a q ((h1 q).mp hq)⟩
theorem MG.left_lt (h:MG n G c p P W sur)(hq:q∈W)(hp:∀ y,y∈P1↔y=q\/y∈P):left n P1<left n P:=
 AM.Internal.left_lt (h.reach q (.inr hq)).inG (λ e=>h.apart q e hq) ((hp q).mpr (.inl rfl)) λ z hz=>(hp z).mpr (.inr hz)
end
section
variable {n:Nat}{G:Pt->Option Str}{c:Str}{p q z:Pt}
theorem Surr.of_reach (h:Surr n G c p)(r:zaJ n G c p q):Surr n G c q:=λ y hy=>h y (r.trans hy)
structure ztG (n:Nat)(G:Pt->Option Str)(z:Pt)(A:Str×List Pt):Prop where
 inG:AM.Internal.inG n z
 col:G z=some A.1
 mem:∀ q,q∈A.2↔zaJ n G A.1 z q
 nodup:A.2.Nodup
theorem ztG.self {A:Str×List Pt}(h:ztG n G z A):z∈A.2:=(h.mem z).mpr (.refl h.inG h.col)
structure FSI (n:Nat)(G:Pt->Option Str)(dn:List Pt)(L:List (Str×List Pt))(hdl:List Pt):Prop where
 grp:∀ A∈L,∃ z∈dn,ztG n G z A/\Surr n G A.1 z
 apart:L.Pairwise λ A B=>∀ q∈A.2,q∉B.2
 seen:∀ z∈dn,AM.Internal.inG n z->G z≠none->z∈hdl
 from_:∀ q∈hdl,∃ c z,z∈dn/\zaJ n G c z q
 closed:∀ q∈hdl,∀ c z,zaJ n G c q z->z∈hdl
 sub:∀ A∈L,∀ q∈A.2,q∈hdl
 all:∀ z∈dn,AM.Internal.inG n z->∀ c,G z=some c->Surr n G c z->∃ P,(c,P)∈L/\z∈P
variable {dn:List Pt}{L:List (Str×List Pt)}{hdl hdl':List Pt}
theorem FSI.nil:FSI n G [] [] []:=⟨by simp,by simp,by simp,by simp,by simp,by simp,by simp⟩
theorem FSI.skip (h:FSI n G dn L hdl)(hz:AM.Internal.inG n z->G z=none):FSI n G (dn++[z]) L hdl:=by
 refine⟨λ A hA=>?_,h.apart,λ y hy hg hn=>?_,λ q hq=>?_,h.closed,h.sub,λ y hy hg c hc hs=>?_⟩
 ·refine q12 (h.grp A hA) λ y hy e=>?_;exact⟨y,List.mem_append_left _ hy,e⟩
 ·rcases List.mem_append.mp hy with hy|hy
  ·exact h.seen y hy hg hn
  ·rw[List.mem_singleton.mp hy]at hg hn;exact absurd (hz hg) hn
 ·refine q22 (h.from_ q hq) λ c y hy e=>?_;exact⟨c,y,List.mem_append_left _ hy,e⟩
 ·rcases List.mem_append.mp hy with hy|hy
  ·exact h.all y hy hg c hc hs
  ·rw[List.mem_singleton.mp hy]at hg hc;rw[hz hg]at hc;cases hc
theorem FSI.again (h:FSI n G dn L hdl)(hz:z∈hdl):FSI n G (dn++[z]) L hdl:=by
 refine⟨λ A hA=>?_,h.apart,λ y hy hg hn=>?_,λ q hq=>?_,h.closed,h.sub,λ y hy hg c hc hs=>?_⟩
 ·refine q12 (h.grp A hA) λ y hy e=>?_;exact⟨y,List.mem_append_left _ hy,e⟩
 ·rcases List.mem_append.mp hy with hy|hy
  ·exact h.seen y hy hg hn
  ·rw[List.mem_singleton.mp hy];exact hz
 ·refine q22 (h.from_ q hq) λ c y hy e=>?_;exact⟨c,y,List.mem_append_left _ hy,e⟩
 ·rcases List.mem_append.mp hy with hy|hy
  ·exact h.all y hy hg c hc hs
  ·rw[List.mem_singleton.mp hy]at hg hc hs ⊢
   refine q22 (h.from_ z hz) λ c' y' hy' e=>?_;have:c=c':=Option.some.inj (hc.symm.trans e.col);subst this;refine q12 (h.all y' hy' e.start.1 c e.start.2 (hs.of_reach e.symm)) λ P hP hm=>?_;refine q13 (h.grp _ hP) λ w _ hw _=>?_;exact⟨P,hP,(hw.mem z).mpr (((hw.mem y').mp hm).trans e)⟩
theorem FSI.new {A:Str×List Pt}(h:FSI n G dn L hdl)(hz:z∉hdl)(hA:ztG n G z A)(sur:Bool)(hs:sur=true↔Surr n G A.1 z)(hh:∀ q,q∈hdl'↔q∈hdl\/q∈A.2):
  FSI n G (dn++[z]) (if sur then L++[A] else L) hdl':=by
 have hm:z∈dn++[z]:=by simp
 refine⟨λ B hB=>?_,?_,λ y hy hg hn=>?_,λ q hq=>?_,λ q hq c y hr=>?_,λ B hB q hq=>?_,λ y hy hg c hc hsy=>?_⟩
 ·have:B∈L\/(sur=true/\B=A):=by
   cases sur with
   | true=>simpa using hB
   | false=>exact .inl hB
  rcases this with hB|⟨hsu,rfl⟩
  ·refine q12 (h.grp B hB) λ y hy e=>?_;exact⟨y,List.mem_append_left _ hy,e⟩
  ·exact⟨z,hm,hA,hs.mp hsu⟩
 ·cases sur with
  | false=>exact h.apart
  | true=>
   refine List.pairwise_append.mpr ⟨h.apart,by simp,λ B hB B' hB' q hq hq'=>?_⟩;rw[List.mem_singleton.mp hB']at hq';exact hz (h.closed q (h.sub B hB q hq) _ z ((hA.mem q).mp hq').symm)
 ·rcases List.mem_append.mp hy with hy|hy
  ·exact (hh y).mpr (.inl (h.seen y hy hg hn))
  ·rw[List.mem_singleton.mp hy];exact (hh z).mpr (.inr hA.self)
 ·rcases (hh q).mp hq with hq|hq
  ·refine q22 (h.from_ q hq) λ c y hy e=>?_;exact⟨c,y,List.mem_append_left _ hy,e⟩
  ·exact⟨A.1,z,hm,(hA.mem q).mp hq⟩
 ·rcases (hh q).mp hq with hq|hq
  ·exact (hh y).mpr (.inl (h.closed q hq c y hr))
  ·have r:=(hA.mem q).mp hq
   have:c=A.1:=Option.some.inj (hr.start.2.symm.trans r.col);subst this;exact (hh y).mpr (.inr ((hA.mem y).mpr (r.trans hr)))
 ·have:B∈L\/B=A:=by
   cases sur with
   | true=>simpa using hB
   | false=>exact .inl hB
  rcases this with hB|rfl
  ·exact (hh q).mpr (.inl (h.sub B hB q hq))
  ·exact (hh q).mpr (.inr hq)
 ·rcases List.mem_append.mp hy with hy|hy
  ·refine q12 (h.all y hy hg c hc hsy) λ P hP e=>?_
   refine⟨P,?_,e⟩;cases sur with
   | true=>simp[hP]
   | false=>exact hP
  ·rw[List.mem_singleton.mp hy]at hg hc hsy ⊢
   have:c=A.1:=Option.some.inj (hc.symm.trans hA.col);subst this;rw[hs.mpr hsy];exact⟨A.2,by simp,hA.self⟩
end
noncomputable def put (G:Pt->Option Str)(p:Pt)(v:Option Str):Pt->Option Str:=λ q=>if q=p then v else G q
noncomputable def rm (G:Pt->Option Str)(l:List Pt):Pt->Option Str:=λ q=>if q∈l then none else G q
theorem zvJ {G:Pt->Option Str}:rm G []=G:=by funext q;simp[rm]
theorem rm_snoc {G:Pt->Option Str}{l:List Pt}{p:Pt}:put (rm G l) p none=rm G (l++[p]):=by
 funext q
 simp only[put,rm,List.mem_append,List.mem_singleton]
 by_cases h1:q=p <;> by_cases h2:q∈l <;> simp[h1,h2]
theorem rm_append {G:Pt->Option Str}{l m:List Pt}:rm (rm G l) m=rm G (l++m):=by
 funext q
 simp only[rm,List.mem_append]
 by_cases h1:q∈m <;> by_cases h2:q∈l <;> simp[h1,h2]
theorem zvE {G:Pt->Option Str}{l m:List Pt}(h:∀ q,q∈l↔q∈m):rm G l=rm G m:=by
 funext q
 simp only[rm,h q]
noncomputable def zfU (opp:Str)(L:List (Str×List Pt)):List (Str×List Pt):=if L.length=1 then L else L.filter λ A=>A.1==opp
noncomputable def ziP:List Pt->Option Pt
 | [q]=>some q
 | _=>none
noncomputable def zsE:List (Str×List Pt)->Option (List Pt)
 | [A]=>some A.2
 | _=>none
noncomputable def koOf (col opp:Str)(L:List (Str×List Pt)):Option Pt:=cond (Nat.ble L.length 1) none (((zsE (L.filter λ A=>A.1==opp)).bind ziP).bind λ q=>((L.filter λ A=>A.1==col).head?.bind λ A=>ziP A.2).map λ _=>q)
theorem zmE {l:List Pt}(h:l.length≠1):ziP l=none:=by
 cases l with
 | nil=>rfl
 | cons a l=>cases l with
  | nil=>exact absurd rfl h
  | cons b l=>rfl
theorem ztY {l:List (Str×List Pt)}(h:l.length≠1):zsE l=none:=by
 cases l with
 | nil=>rfl
 | cons a l=>cases l with
  | nil=>exact absurd rfl h
  | cons b l=>rfl
theorem ztD {col opp:Str}{L:List (Str×List Pt)}(h:(((zsE (L.filter λ A=>A.1==opp)).bind ziP).bind λ q=>((L.filter λ A=>A.1==col).head?.bind λ A=>ziP A.2).map λ _=>q)=none):koOf col opp L=none:=by
 unfold koOf;cases Nat.ble L.length 1 with
 | true=>rfl
 | false=>exact h
noncomputable def emOf (n:Nat)(L:List (Str×List Pt)):Bool:=match L with
 | [A]=>decide (A.2.length=n*n)
 | _=>false
theorem emOf_two {n:Nat}{L:List (Str×List Pt)}(h:2<=L.length):emOf n L=false:=by
 cases L with
 | nil=>rfl
 | cons a r=>
  cases r with
  | nil=>exact absurd h (Nat.lt_irrefl 1)
  | cons b r=>rfl
noncomputable def zdS (L:List (Str×List Pt)):List Pt:=L.flatMap (·.2)
noncomputable def pvPt:Option Pt->PV
 | none=>.none
 | some q=>pt q
theorem koOf_a {col opp:Str}{L:List (Str×List Pt)}(h:(L.filter λ A=>A.1==opp).length≠1):koOf col opp L=none:=ztD (by rw[ztY h];rfl)
theorem koOf_b {col opp:Str}{L:List (Str×List Pt)}{A:Str×List Pt}(h:(L.filter λ A=>A.1==opp)=[A])(h':A.2.length≠1):koOf col opp L=none:=ztD (by
 have e:(zsE [A]).bind ziP=none:=zmE h';rw[h,e];rfl)
theorem koOf_c {col opp:Str}{L:List (Str×List Pt)}{B:Str×List Pt}{r:List (Str×List Pt)}(hs:(L.filter λ A=>A.1==col)=B::r)(h':B.2.length≠1):koOf col opp L=none:=ztD (by
 have e:((B::r).head?.bind λ A=>ziP A.2)=none:=zmE h';rw[hs,e];cases (zsE (L.filter λ A=>A.1==opp)).bind ziP <;> rfl)
theorem koOf_d {col opp o s:Str}{L:List (Str×List Pt)}{q q':Pt}{r:List (Str×List Pt)}(h2:2<=L.length)(h:(L.filter λ A=>A.1==opp)=[(o,[q])])(hs:(L.filter λ A=>A.1==col)=(s,[q'])::r):koOf col opp L=some q:=by
 have e:Nat.ble L.length 1=false:=by
  cases hb:Nat.ble L.length 1 with
  | false=>rfl
  | true=>exact absurd (Nat.le_of_ble_eq_true hb) (by lia)
 unfold koOf;rw[e,h,hs];rfl
theorem zmU {l:List Pt}{q:Pt}(h:ziP l=some q):l=[q]:=by
 cases l with
 | nil=>cases h
 | cons a l=>cases l with
  | nil=>cases h;rfl
  | cons b l=>cases h
theorem koOf_some {col opp:Str}{L:List (Str×List Pt)}{q:Pt}(e:koOf col opp L=some q):∃ o s r t,(L.filter λ A=>A.1==opp)=[(o,[q])]/\(L.filter λ A=>A.1==col)=(s,[r])::t:=by
 unfold koOf at e;generalize (L.filter λ A=>A.1==opp)=F at e;generalize (L.filter λ A=>A.1==col)=F' at e;cases hb:Nat.ble L.length 1 with
 | true=>rw[hb]at e;cases e
 | false=>
  rw[hb]at e;refine q12 (Option.bind_eq_some_iff.mp e) λ y h1 e=>?_;refine q12 (Option.bind_eq_some_iff.mp h1) λ P h2 h1=>?_;refine q12 (Option.map_eq_some_iff.mp e) λ r h3 e=>?_;refine q12 (Option.bind_eq_some_iff.mp h3) λ B h4 h3=>?_;subst e;cases F with
  | nil=>cases h2
  | cons A l=>cases l with
   | cons _ _=>cases h2
   | nil=>
    obtain⟨o,P'⟩:=A;cases h2;cases F' with
    | nil=>cases h4
    | cons C t=>
     obtain⟨s,P''⟩:=C;cases h4;exact⟨o,s,r,t,by rw[show P'=[y] from zmU h1],by rw[show P''=[r] from zmU h3]⟩
theorem own_there {col opp:Str}{L:List (Str×List Pt)}(hc:∀ A∈L,A.1=col\/A.1=opp)(h2:2<=L.length)(h1:(L.filter λ A=>A.1==opp).length=1):∃ A r,(L.filter λ A=>A.1==col)=A::r:=by
 cases e:L.filter (λ A=>A.1==col) with
 | cons A r=>exact⟨A,r,rfl⟩
 | nil=>
  have:L.filter (λ A=>A.1==opp)=L:=List.filter_eq_self.mpr λ A hA=>by
   rcases hc A hA with q|q
   ·have hm:A∈L.filter (λ A=>A.1==col):=List.mem_filter.mpr ⟨hA,by simp[q]⟩
    rw[e]at hm;cases hm
   ·simp[q]
  rw[this]at h1;lia
theorem zrG {n:Nat}{S:Pt->Prop}(f:Nat->Pt)(hf:∀ k,f (k+1)∈nb (f k))(hS:∀ p z,S p->z∈nb p->inG n z->S z)(k m:Nat)(h:∀ i ≤ k+m,inG n (f i)):S (f k)↔S (f (k+m)):=by
 induction m with
 | zero=>exact Iff.rfl
 | succ m ih=>exact (ih λ i hi=>h i (Nat.le_succ_of_le hi)).trans ⟨λ s=>hS _ _ s (hf _) (h _ (Nat.le_refl _)),λ s=>hS _ _ s (zhP (hf _)) (h _ (Nat.le_succ _))⟩
theorem conn_le {n:Nat}{S:Pt->Prop}(f:Nat->Pt)(hf:∀ k,f (k+1)∈nb (f k))(hS:∀ p z,S p->z∈nb p->inG n z->S z)(hg:∀ i<n,inG n (f i)){i j:Nat}(hi:i<n)(hj:j<n):S (f i)↔S (f j):=by
 rcases Nat.le_total i j with h|h
 ·obtain⟨m,rfl⟩:=Nat.exists_eq_add_of_le h
  exact zrG f hf hS i m λ k hk=>hg k (Nat.lt_of_le_of_lt hk hj)
 ·obtain⟨m,rfl⟩:=Nat.exists_eq_add_of_le h
  exact (zrG f hf hS j m λ k hk=>hg k (Nat.lt_of_le_of_lt hk hi)).symm
theorem grid_conn {n:Nat}{S:Pt->Prop}(hS:∀ p z,S p->z∈nb p->inG n z->S z)(p q:Pt)(hp:inG n p)(hq:inG n q)(h:S p):S q:=by
 obtain⟨a,b⟩:=p;obtain⟨c,d⟩:=q;refine q03 hp λ u0 p3 p4=>?_;obtain⟨p1,p2⟩:=u0;refine q03 hq λ u0 q3 q4=>?_;obtain⟨q1,q2⟩:=u0;obtain⟨a,rfl⟩:=Int.eq_ofNat_of_zero_le p1;obtain⟨b,rfl⟩:=Int.eq_ofNat_of_zero_le p3;obtain⟨c,rfl⟩:=Int.eq_ofNat_of_zero_le q1;obtain⟨d,rfl⟩:=Int.eq_ofNat_of_zero_le q3;have p2:=Int.ofNat_lt.mp p2;have p4:=Int.ofNat_lt.mp p4;have q2:=Int.ofNat_lt.mp q2;have q4:=Int.ofNat_lt.mp q4;have g:∀ i j:Nat,i<n->j<n->inG n ((i:Int),(j:Int)):=λ i j hi hj=>⟨⟨Int.natCast_nonneg _,Int.ofNat_lt.mpr hi⟩,Int.natCast_nonneg _,Int.ofNat_lt.mpr hj⟩
 have h1:S ((c:Int),(b:Int)):=(conn_le (λ i=>((i:Int),(b:Int))) (λ k=>.tail _ (.head _)) hS (λ i hi=>g i b hi p4) p2 q2).mp h;exact (conn_le (λ i=>((c:Int),(i:Int))) (λ k=>.tail _ (.tail _ (.tail _ (.head _)))) hS (λ i hi=>g c i q2 hi) p4 q4).mp h1
theorem zfQ {n:Nat}:(grid n).Nodup:=by
 unfold grid;refine List.nodup_iff_pairwise_ne.mpr ?_;rw[List.pairwise_flatMap];constructor
 ·intro i _
  rw[List.pairwise_map];exact (List.nodup_iff_pairwise_ne.mp List.nodup_range).imp λ h e=>h (by have:=congrArg Prod.snd e;exact Int.ofNat.inj (by simpa using this))
 ·refine (List.nodup_iff_pairwise_ne.mp List.nodup_range).imp λ h x hx y hy e=>?_
  refine q12 (List.mem_map.mp hx) λ i _ u0=>?_;cases u0;refine q12 (List.mem_map.mp hy) λ j _ u0=>?_;cases u0;exact h (by have:=congrArg Prod.fst e;exact Int.ofNat.inj (by simpa using this))
theorem zwZ {n:Nat}{l:List Pt}(hn:l.Nodup)(hg:∀ z∈l,inG n z)(hl:l.length=n*n){z:Pt}(hz:inG n z):z∈l:=by
 by_cases h:z∈l
 ·exact h
 ·have:=nodup_le (l:=z::l) (m:=grid n) (List.nodup_cons.mpr ⟨h,hn⟩) λ x hx=>by
   rcases List.mem_cons.mp hx with rfl|hx
   ·exact zbC.mpr hz
   ·exact zbC.mpr (hg x hx)
  rw[List.length_cons,zeO]at this;lia
theorem ziK {l:List Pt}{q:Pt}(hn:l.Nodup)(h:∀ z,z∈l↔z=q):l=[q]:=by
 match l,hn,h with
 | [],_,h=>exact absurd ((h q).mpr rfl) (by simp)
 | [a],_,h=>rw[(h a).mp (.head _)]
 | a::b::r,hn,h=>
  have e1:=(h a).mp (.head _);have e2:=(h b).mp (.tail _ (.head _));rw[e1,e2]at hn;exact absurd (List.mem_cons_self) (List.nodup_cons.mp hn).1
section
variable {n:Nat}{G:Pt->Option Str}{col opp:Str}{p:Pt}{L:List (Str×List Pt)}{hdl:List Pt}
structure Set1 (n:Nat)(G:Pt->Option Str)(col opp:Str)(p:Pt):Prop where
 hp:inG n p
 hG:G p=some col
 hne:col≠opp
 hval:∀ q s,G q=some s->s=col\/s=opp
 hsup:∀ z,G z≠none->inG n z
noncomputable def Tk (n:Nat)(G:Pt->Option Str)(opp:Str)(p q:Pt):Prop:=∃ z∈nb p,inG n z/\G z=some opp/\Surr n G opp z/\zaJ n G opp z q
variable (S:Set1 n G col opp p)(F:FSI n G (p::nb p) L hdl)
theorem zeM {q:Pt}:q∈zdS L↔∃ A∈L,q∈A.2:=by simp[zdS]
include S F in
theorem col_or {A:Str×List Pt}(hA:A∈L):A.1=col\/A.1=opp:=by
 refine q13 (F.grp A hA) λ z _ hz _=>?_;exact S.hval z _ hz.col
include S F in
theorem zgY {A:Str×List Pt}(hA:A∈L)(hc:A.1=col):p∈A.2/\Surr n G col p/\∀ q,q∈A.2↔zaJ n G col p q:=by
 refine q13 (F.grp A hA) λ z hz g sr=>?_;have gc:=g.col;rw[hc]at gc sr;have r:zaJ n G col z p:=by
  rcases List.mem_cons.mp hz with rfl|hz
  ·exact .refl S.hp S.hG
  ·exact .step (.refl g.inG gc) (zhP hz) S.hp S.hG
 refine⟨(g.mem p).mpr (hc▸r),sr.of_reach r,λ q=>?_⟩;rw[g.mem q,hc];exact⟨λ h=>r.symm.trans h,λ h=>r.trans h⟩
include S F in
theorem ziY {q:Pt}:q∈zdS (L.filter λ A=>A.1==opp)↔Tk n G opp p q:=by
 rw[zeM];constructor
 ·intro uu;refine q12 uu λ A hA hq=>?_
  obtain⟨hA,hc⟩:=List.mem_filter.mp hA;have hc:A.1=opp:=by simpa using hc
  refine q13 (F.grp A hA) λ z hz g sr=>?_;have gc:=g.col;rw[hc]at gc sr;rcases List.mem_cons.mp hz with rfl|hz
  ·rw[S.hG]at gc;exact absurd (Option.some.inj gc) S.hne
  ·exact⟨z,hz,g.inG,gc,sr,hc▸(g.mem q).mp hq⟩
 ·intro uu;refine q15 uu λ z hz hg hc hs hr=>?_
  refine q12 (F.all z (.tail _ hz) hg opp hc hs) λ P hP hm=>?_;refine q13 (F.grp _ hP) λ w _ g _=>?_;exact⟨_,List.mem_filter.mpr ⟨hP,by simp⟩,(g.mem q).mpr (((g.mem z).mp hm).trans hr)⟩
include S F in
theorem mem_col {q:Pt}:q∈zdS (L.filter λ A=>A.1==col)↔Surr n G col p/\zaJ n G col p q:=by
 rw[zeM];constructor
 ·intro uu;refine q12 uu λ A hA hq=>?_
  obtain⟨hA,hc⟩:=List.mem_filter.mp hA;refine q03 (zgY S F hA (by simpa using hc)) λ _ h2 h3=>?_;exact⟨h2,(h3 q).mp hq⟩
 ·rintro⟨hs,hr⟩
  refine q12 (F.all p (.head _) S.hp col S.hG hs) λ P hP hm=>?_;exact⟨_,List.mem_filter.mpr ⟨hP,by simp⟩,((zgY S F hP rfl).2.2 q).mpr hr⟩
theorem pw_one {p:Pt}:∀ {M:List (Str×List Pt)},(M.Pairwise λ A B=>∀ q∈A.2,q∉B.2)->(∀ A∈M,p∈A.2)->M.length<=1
 | [],_,_=>by simp
 | [A],_,_=>by simp
 | A::B::r,hp,h=>absurd (h B (.tail _ (.head _))) ((List.pairwise_cons.mp hp).1 B (.head _) p (h A (.head _)))
include S F in
theorem own_le:(L.filter λ A=>A.1==col).length<=1:=
 pw_one (F.apart.filter (λ A=>A.1==col)) λ A hA=>by
  obtain⟨hA,cA⟩:=List.mem_filter.mp hA;exact (zgY S F hA (by simpa using cA)).1
theorem zmO {M:List (Str×List Pt)}{A:Str×List Pt}(h:M.length<=1)(hA:A∈M):M=[A]:=by
 match M,h,hA with
 | [B],_,hA=>rw[List.mem_singleton.mp hA]
 | B::C::r,h,_=>simp at h
include F in
theorem grp_ne {A:Str×List Pt}(hA:A∈L):∃ z,z∈A.2:=let ⟨z,_,g,_⟩:=F.grp A hA;⟨z,g.self⟩
include S F in
theorem all_col (h:∀ q,¬ Tk n G opp p q):(L.filter λ A=>A.1==col)=L:=List.filter_eq_self.mpr λ A hA=>by
 rcases col_or S F hA with q|q
 ·simp[q]
 ·obtain⟨z,hz⟩:=grp_ne F hA
  exact absurd ((ziY S F).mp (zeM.mpr ⟨A,List.mem_filter.mpr ⟨hA,by simp[q]⟩,hz⟩)) (h z)
include S F in
theorem cap_tk {q0 q:Pt}(h:Tk n G opp p q0):q∈zdS (zfU opp L)↔Tk n G opp p q:=by
 rw[<- ziY S F (q:=q)];have h0:=(ziY S F).mpr h;unfold zfU;split
 ·rename_i hl
  obtain⟨A,rfl⟩:=List.length_eq_one_iff.mp hl;refine q12 (zeM.mp h0) λ B hB _=>?_;obtain⟨hB,hc⟩:=List.mem_filter.mp hB;rw[List.mem_singleton.mp hB]at hc;rw[List.filter_cons,if_pos hc,List.filter_nil]
 ·exact Iff.rfl
include S F in
theorem zsV {q:Pt}(h:∀ q,¬ Tk n G opp p q):q∈zdS (zfU opp L)↔Surr n G col p/\zaJ n G col p q:=by
 rw[<- mem_col S F];have hc:=all_col S F h;have hl:=own_le S F;rw[hc]at hl ⊢;unfold zfU;split
 ·exact Iff.rfl
 ·have:L=[]:=List.length_eq_zero_iff.mp (by lia)
  subst this;exact Iff.rfl
noncomputable def zfN (tk ow:List Pt):List Pt:=if tk=[] then ow else tk
noncomputable def OwnIs (n:Nat)(G:Pt->Option Str)(col:Str)(p:Pt)(ow:List Pt):Prop:=(¬ Surr n G col p/\ow=[])\/(Surr n G col p/\ztG n G p (col,ow))
variable {tk ow:List Pt}
include S F in
theorem cap_eq (ht:∀ q,q∈tk↔Tk n G opp p q)(ho:OwnIs n G col p ow)(q:Pt):q∈zdS (zfU opp L)↔q∈zfN tk ow:=by
 unfold zfN;split
 ·rename_i e
  rw[zsV S F λ z hz=>by have:=(ht z).mpr hz;rw[e]at this;cases this];rcases ho with ⟨h,rfl⟩|⟨h,g⟩
  ·simp[h]
  ·rw[g.mem q];simp[h]
 ·rename_i e
  obtain⟨z,hz⟩:=List.exists_mem_of_ne_nil _ e;rw[cap_tk S F ((ht z).mp hz),ht q]
include S F in
theorem ko_eq (ht:∀ q,q∈tk↔Tk n G opp p q)(hn:tk.Nodup)(ho:OwnIs n G col p ow):koOf col opp L=if tk.length=1/\ow=[p] then tk.head? else none:=by
 have hnd:∀ A∈L,A.2.Nodup:=λ A hA=>let ⟨z,_,g,_⟩:=F.grp A hA;g.nodup
 split
 ·rename_i h
  obtain⟨h1,rfl⟩:=h;obtain⟨q,rfl⟩:=List.length_eq_one_iff.mp h1;have hs:Surr n G col p/\ztG n G p (col,[p]):=by
   rcases ho with ⟨_,e⟩|h
   ·cases e
   ·exact h
  refine q12 (F.all p (.head _) S.hp col S.hG hs.1) λ P hP hm=>?_;have hPp:P=[p]:=ziK (hnd _ hP) λ z=>by
   rw[(zgY S F hP rfl).2.2 z,<- hs.2.mem z];simp
  subst hPp;have hc:(L.filter λ A=>A.1==col)=[(col,[p])]:=by
   exact zmO (own_le S F) (List.mem_filter.mpr ⟨hP,by simp⟩)
  have hq:=(ziY S F).mpr ((ht q).mp (.head _));have hop:∀ A∈L.filter (λ A=>A.1==opp),A=(opp,[q]):=λ A hA=>by
   obtain⟨hA',hc'⟩:=List.mem_filter.mp hA;have sub:∀ z∈A.2,z=q:=λ z hz=>List.mem_singleton.mp ((ht z).mpr ((ziY S F).mp (zeM.mpr ⟨A,hA,hz⟩)));obtain⟨z,hz⟩:=grp_ne F hA';have:=ziK (hnd A hA') (q:=q) λ y=>⟨sub y,λ e=>by rw[e,<- sub z hz];exact hz⟩
   exact Prod.ext (by simpa using hc') this
  have ho1:(L.filter λ A=>A.1==opp)=[(opp,[q])]:=by
   refine zmO (pw_one (p:=q) (F.apart.filter _) λ A hA=>?_) ?_
   ·rw[hop A hA];exact .head _
   ·refine q12 (zeM.mp hq) λ A hA _=>?_
    exact hop A hA▸hA
  refine koOf_d (q':=p) (s:=col) (o:=opp) (r:=[]) ?_ ho1 hc
  match L,hc,ho1 with
  | [],hc,_=>cases hc
  | [A],hc,ho1=>
   rw[List.filter_cons,List.filter_nil]at hc ho1;split at hc
   ·split at ho1
    ·cases hc;simp at ho1;exact absurd ho1.1 S.hne
    ·cases ho1
   ·cases hc
  | A::B::r,_,_=>simp
 ·rename_i h
  cases e:koOf col opp L with
  | none=>rfl
  | some q=>
   exfalso
   apply h;refine q42 (koOf_some e) λ o' s' r' r'' ho1 hc1=>?_;have h1:tk=[q]:=ziK hn λ z=>by
    rw[ht z,<- ziY S F,ho1];simp[zdS]
   have hm:(s',[r'])∈L.filter λ A=>A.1==col:=by rw[hc1];exact .head _
   obtain⟨hm,hcc⟩:=List.mem_filter.mp hm;refine q03 (zgY S F hm (by simpa using hcc)) λ o1 o2 o3=>?_;have hr:r'=p:=(List.mem_singleton.mp o1).symm;subst hr;refine⟨by rw[h1];rfl,?_⟩;rcases ho with ⟨x,_⟩|⟨_,g⟩
   ·exact absurd o2 x
   ·exact ziK g.nodup λ z=>by rw[g.mem z,<- o3 z];simp
include S F in
theorem em_eq:emOf n L=true↔∀ z,rm G (zdS (zfU opp L)) z=none:=by
 constructor
 ·intro h z
  cases L with
  | nil=>cases h
  | cons A r=>
  cases r with
  | cons=>cases h
  | nil=>
   replace h:A.2.length=n*n:=of_decide_eq_true h;refine q13 (F.grp A (.head _)) λ y _ g _=>?_
   by_cases hz:inG n z
   ·have:=zwZ g.nodup (λ x hx=>((g.mem x).mp hx).inG) h hz
    unfold rm;rw[if_pos (zeM.mpr ⟨A,by simp[zfU],this⟩)]
   ·unfold rm
    split
    ·rfl
    ·cases q:G z with
     | none=>rfl
     | some c=>exact absurd (S.hsup z (by rw[q];simp)) hz
 ·intro h
  have hr:∀ z,G z≠none->z∈zdS (zfU opp L):=λ z hz=>by
   by_cases q:z∈zdS (zfU opp L)
   ·exact q
   ·have:=h z;unfold rm at this;rw[if_neg q]at this;exact absurd this hz
  have hpc:=hr p (by rw[S.hG];simp);have hnt:∀ q,¬ Tk n G opp p q:=λ q hq=>by
   refine q15 ((cap_tk S F hq).mp hpc) λ z _ _ _ _ hrz=>?_;have:=hrz.col;rw[S.hG]at this;exact S.hne (Option.some.inj this)
  have hs:=((zsV S F hnt).mp hpc).1;have hreach:∀ z,inG n z->zaJ n G col p z:=λ z hz=>by
   refine grid_conn (n:=n) (S:=λ z=>zaJ n G col p z) (λ y w hy hw hg=>?_) p z S.hp hz (.refl S.hp S.hG);have:G w≠none:=λ e=>hs y hy ⟨w,hw,hg,e⟩;exact ((zsV S F hnt).mp (hr w this)).2
  refine q12 (F.all p (.head _) S.hp col S.hG hs) λ P hP hm=>?_;have hc:=all_col S F hnt;have hl:=own_le S F;rw[hc]at hl;have hL:L=[(col,P)]:=zmO hl hP;subst hL;refine decide_eq_true (p:=P.length=n*n) ?_;refine q13 (F.grp _ hP) λ _ _ g _=>?_;have o3:=(zgY S F hP rfl).2.2;have l1:=nodup_le g.nodup (m:=grid n) λ x hx=>zbC.mpr (((o3 x).mp hx).inG);have l2:=nodup_le (zfQ (n:=n)) (m:=P) λ x hx=>(o3 x).mpr (hreach x (zbC.mp hx));rw[zeO]at l1 l2;exact Nat.le_antisymm l1 l2
end
section
variable {n:Nat}{G:Pt->Option Str}{opp:Str}{z:Pt}{dn tk gl:List Pt}
theorem zqJ (h:n<=5):n*n<=25:=Nat.mul_le_mul h h
end
noncomputable def pOf (n k:Nat):Pt:=(((k / n:Nat):Int),((k % n:Nat):Int))
noncomputable def near (n k:Nat):List Nat:=(if n<=k then [k-n] else [])++(if k+n<n*n then [k+n] else [])++(if 0<k % n then [k-1] else [])++(if k % n+1<n then [k+1] else [])
noncomputable def nearI (n k:Nat):List Int:=(if (n:Int)<=k then [(k:Int)-n] else [])++(if (k:Int)<n*n-n then [(k:Int)+n] else [])++(if 0<Int.fmod k n then [(k:Int)-1] else [])++(if Int.fmod k n<n-1 then [(k:Int)+1] else [])
theorem nearI_fin:∀ n<6,∀ k<25,k<n*n->nearI n k=(near n k).map λ j:Nat=>(j:Int):=by decide +kernel
theorem near_fin1:∀ n<6,∀ k<25,k<n*n->∀ j∈near n k,j<n*n:=by decide +kernel
theorem near_fin2:∀ n<6,∀ k<25,k<n*n->∀ j<25,j<n*n->(decide (j∈near n k)=decide (pOf n j∈nb (pOf n k))):=by decide +kernel
theorem lt25 {n k:Nat}(h:n<=5)(hk:k<n*n):k<25:=Nat.lt_of_lt_of_le hk (zqJ h)
theorem nearI_eq {n k:Nat}(h:n<=5)(hk:k<n*n):nearI n k=(near n k).map λ j:Nat=>(j:Int):=nearI_fin n (Nat.lt_succ_of_le h) k (lt25 h hk) hk
theorem zkS {n k j:Nat}(h:n<=5)(hk:k<n*n)(hj:j∈near n k):j<n*n:=near_fin1 n (Nat.lt_succ_of_le h) k (lt25 h hk) hk j hj
theorem zhE {n k j:Nat}(h:n<=5)(hk:k<n*n)(hj:j<n*n):j∈near n k↔pOf n j∈nb (pOf n k):=decide_eq_decide.mp (near_fin2 n (Nat.lt_succ_of_le h) k (lt25 h hk) hk j (lt25 h hj) hj)
theorem zdC {n k:Nat}(hk:k<n*n):inG n (pOf n k):=by
 have h0:0<n:=Nat.pos_of_ne_zero λ q=>by subst q;exact absurd hk (Nat.not_lt_zero _)
 exact⟨⟨Int.natCast_nonneg _,Int.ofNat_lt.mpr (Nat.div_lt_of_lt_mul hk)⟩,Int.natCast_nonneg _,Int.ofNat_lt.mpr (Nat.mod_lt _ h0)⟩
theorem zeT {n k j:Nat}(h:pOf n k=pOf n j):k=j:=by
 have h1:=Int.ofNat.inj (congrArg Prod.fst h);have h2:=Int.ofNat.inj (congrArg Prod.snd h);rw[<- Nat.div_add_mod k n,<- Nat.div_add_mod j n,h1,h2]
theorem zbN {n:Nat}{z:Pt}(h:inG n z):∃ k,k<n*n/\pOf n k=z:=by
 obtain⟨a,b⟩:=z;refine q03 h λ u0 h3 h4=>?_;obtain⟨h1,h2⟩:=u0;obtain⟨a,rfl⟩:=Int.eq_ofNat_of_zero_le h1;obtain⟨b,rfl⟩:=Int.eq_ofNat_of_zero_le h3;have h2:a<n:=Int.ofNat_lt.mp h2;have h4:b<n:=Int.ofNat_lt.mp h4;have h0:0<n:=Nat.lt_of_le_of_lt (Nat.zero_le _) h4;refine⟨n*a+b,Nat.lt_of_lt_of_le (Nat.add_lt_add_left h4 _) (by rw[<- Nat.mul_succ];exact Nat.mul_le_mul_left _ h2),?_⟩;unfold pOf;rw[Nat.mul_add_div h0,Nat.div_eq_of_lt h4,Nat.mul_add_mod,Nat.mod_eq_of_lt h4,Nat.add_zero]
noncomputable def zmM (n:Nat)(G:Pt->Option Str)(k:Nat):Prop:=∃ c,G (pOf n k)=some c/\¬ Surr n G c (pOf n k)
noncomputable def Dead (n:Nat)(G:Pt->Option Str)(k:Nat):Prop:=∃ c,G (pOf n k)=some c/\Surr n G c (pOf n k)
section
variable {n:Nat}{G:Pt->Option Str}{k j:Nat}
theorem zmM.step (h5:n<=5)(hk:k<n*n)(hj:j∈near n k)(h:zmM n G k)(e:G (pOf n j)=G (pOf n k)):zmM n G j:=by
 refine q12 h λ c hc hs=>?_;have hj':=zkS h5 hk hj;have r:zaJ n G c (pOf n k) (pOf n j):=.step (.refl (zdC hk) hc) ((zhE h5 hk hj').mp hj) (zdC hj') (e.trans hc);exact⟨c,e.trans hc,λ s=>hs (s.of_reach r.symm)⟩
theorem zmM.free {c:Str}(hk:k<n*n)(hc:G (pOf n k)=some c)(hf:Free n G (pOf n k)):zmM n G k:=⟨c,hc,λ s=>s _ (.refl (zdC hk) hc) hf⟩
theorem zsG (h5:n<=5)(hk:k<n*n):Free n G (pOf n k)↔∃ j∈near n k,G (pOf n j)=none:=by
 constructor
 ·intro uu;refine q13 uu λ z hz hg hn=>?_
  refine q12 (zbN hg) λ j hj u0=>?_;cases u0;exact⟨j,(zhE h5 hk hj).mpr hz,hn⟩
 ·intro uu;refine q12 uu λ j hj hn=>?_
  have hj':=zkS h5 hk hj;exact⟨_,(zhE h5 hk hj').mp hj,zdC hj',hn⟩
structure LV (n:Nat)(G:Pt->Option Str)(gl:List Nat)(i:Nat):Prop where
 seed:∀ k<n*n,G (pOf n k)≠none->Free n G (pOf n k)->k∈gl
 alive:∀ k∈gl,k<n*n/\zmM n G k
 closed:∀ a k,a<i->gl[a]?=some k->∀ j∈near n k,G (pOf n j)=G (pOf n k)->j∈gl
 nd:gl.Nodup
 le:i<=gl.length
theorem LV.more {gl:List Nat}{i:Nat}(h:LV n G gl i)(hj:j<n*n)(ha:zmM n G j)(hin:j∉gl):LV n G (gl++[j]) i:=by
 refine⟨λ k hk hc hf=>List.mem_append_left _ (h.seed k hk hc hf),λ k hk=>?_,λ a k hai hg j' hj' e=>?_,?_,?_⟩
 ·rcases List.mem_append.mp hk with hk|hk
  ·exact h.alive k hk
  ·rw[List.mem_singleton.mp hk];exact⟨hj,ha⟩
 ·rw[List.getElem?_append_left (Nat.lt_of_lt_of_le hai h.le)]at hg
  exact List.mem_append_left _ (h.closed a k hai hg j' hj' e)
 ·exact List.nodup_append.mpr ⟨h.nd,List.nodup_cons.mpr ⟨by simp,List.nodup_nil⟩,λ a ha b hb e=>hin (by rw[List.mem_singleton.mp hb]at e;rw[<- e];exact ha)⟩
 ·rw[List.length_append];exact Nat.le_trans h.le (Nat.le_add_right _ _)
theorem LV.turn {gl:List Nat}{i:Nat}(h:LV n G gl i)(hk:gl[i]?=some k)(hc:∀ j∈near n k,G (pOf n j)=G (pOf n k)->j∈gl):LV n G gl (i+1):=by
 refine⟨h.seed,h.alive,λ a k' hai hg=>?_,h.nd,(List.getElem?_eq_some_iff.mp hk).1⟩;rcases Nat.lt_or_eq_of_le (Nat.le_of_lt_succ hai) with q|rfl
 ·exact h.closed a k' q hg
 ·rw[hk]at hg;cases hg;exact hc
theorem LV.done {gl:List Nat}(h5:n<=5)(h:LV n G gl gl.length)(hk:k<n*n):k∈gl↔zmM n G k:=by
 refine⟨λ hm=>(h.alive k hm).2,λ u9=>q12 u9 λ c hc hs=>?_⟩;have h1:∃ q,zaJ n G c (pOf n k) q/\Free n G q:=by
  refine Classical.byContradiction λ hno=>hs λ q hq hf=>hno ⟨q,hq,hf⟩
 refine q12 h1 λ q hq hf=>?_;have key:∀ z,zaJ n G c q z->∀ j<n*n,pOf n j=z->j∈gl:=λ z hz=>by
  induction hz with
  | refl a b=>
   intro j hj e;exact h.seed j hj (by rw[e,b];simp) (by rw[e];exact hf)
  | step hr hnb hg hcz ih=>
   intro j hj e;refine q12 (zbN hr.inG) λ i hi ei=>?_;have hm:=ih i hi ei;obtain⟨a,ha⟩:=List.getElem?_of_mem hm;refine h.closed a i (List.getElem?_eq_some_iff.mp ha).1 ha j ((zhE h5 hi hj).mpr (by rw[e,ei];exact hnb)) ?_;rw[e,ei,hcz,hr.col]
 exact key _ hq.symm k hk rfl
theorem LV.len {gl:List Nat}{i:Nat}(h:LV n G gl i):gl.length<=n*n:=by
 have e:(gl.map (pOf n)).length<=(grid n).length:=nodup_le (List.Pairwise.map _ (λ a b hab e=>hab (zeT e)) h.nd) λ z hz=>by
  refine q12 (List.mem_map.mp hz) λ k hk u0=>?_;cases u0;exact zbC.mpr (zdC (h.alive k hk).1)
 rwa [List.length_map,zeO]at e
theorem dead_not {c:Str}(hc:G (pOf n k)=some c):¬ zmM n G k↔Dead n G k:=by
 constructor
 ·intro h
  exact⟨c,hc,Classical.byContradiction λ s=>h ⟨c,hc,s⟩⟩
 ·rintro⟨c',hc',s⟩ ⟨c'',hc'',s'⟩
  rw[hc']at hc'';cases hc'';exact s' s
end
noncomputable def zmP (n:Nat)(G:Pt->Option Str):Prop:=∀ q c,inG n q->G q=some c->¬ Surr n G c q
theorem ziJ {n:Nat}{G:Pt->Option Str}{c:Str}{q:Pt}(h:¬ Surr n G c q):∃ x,zaJ n G c q x/\Free n G x:=
 Classical.byContradiction λ hno=>h λ x hx hf=>hno ⟨x,hx,hf⟩
theorem zaJ.mono {n:Nat}{G G':Pt->Option Str}{c:Str}{p q:Pt}(h:zaJ n G c p q)(hg:∀ z,zaJ n G c p z->G' z=some c):zaJ n G' c p q:=by
 induction h with
 | refl a b=>exact .refl a (hg _ (.refl a b))
 | step hr a b e ih=>exact .step ih a b (hg _ (.step hr a b e))
section
variable {n:Nat}{G:Pt->Option Str}{col:Str}{p q:Pt}{c:Str}
theorem zuR {v:Option Str}(h:q≠p):put G p v q=G q:=if_neg h
theorem zeS {v:Option Str}:put G p v p=v:=if_pos rfl
theorem ztJ (leg:zmP n G)(hp:G p=none)(hpn:inG n p)(hq:put G p (some col) q=some c)(hqn:inG n q)(hs:Surr n (put G p (some col)) c q):
  (c=col/\zaJ n (put G p (some col)) col p q)\/(c≠col/\∃ z∈nb p,zaJ n (put G p (some col)) c z q):=by
 by_cases e:q=p
 ·subst e
  rw[zeS]at hq;cases hq;exact .inl ⟨rfl,.refl hqn zeS⟩
 have hG:G q=some c:=by rw[zuR e]at hq;exact hq
 refine q12 (ziJ (leg q c hqn hG)) λ x hx u8=>q13 u8 λ z hz hzn hz0=>?_;have up:∀ {y},zaJ n G c q y->zaJ n (put G p (some col)) c q y:=λ h=>h.mono λ w hw=>by
  rw[zuR λ q=>by subst q;have:=hw.col;rw[hp]at this;cases this];exact hw.col
 have hzp:z=p:=Classical.byContradiction λ hne=>hs x (up hx) ⟨z,hz,hzn,by rw[zuR hne];exact hz0⟩;subst hzp
 by_cases hc:c=col
 ·subst hc
  exact .inl ⟨rfl,(zaJ.step (up hx) hz hpn zeS).symm⟩
 ·exact .inr ⟨hc,x,zhP hz,(up hx).symm⟩
end
noncomputable def zcE (n:Nat)(f:Nat->Bool):List Nat:=(List.range (n*n)).filter f
noncomputable def zaY (n:Nat)(G:Pt->Option Str)(col:Str)(f:Nat->Bool):List Nat:=(zcE n f).filter λ j=>!(G (pOf n j)==some col)
noncomputable def zeU (n:Nat)(G:Pt->Option Str)(col:Str)(f:Nat->Bool):List Nat:=if zaY n G col f=[] then zcE n f else zaY n G col f
noncomputable def koL (n:Nat)(G:Pt->Option Str)(col:Str)(f:Nat->Bool):Option Nat:=if (zaY n G col f).length=1/\(zcE n f).length=2 then (zaY n G col f).head? else none
section
variable {n:Nat}{G G1:Pt->Option Str}{col opp:Str}{p:Pt}{f:Nat->Bool}{L:List (Str×List Pt)}{hdl:List Pt}
theorem zcI {j:Nat}:j∈zcE n f↔j<n*n/\f j=true:=by unfold zcE;rw[List.mem_filter,List.mem_range]
theorem zgK:(zcE n f).Nodup:=List.nodup_range.filter _
theorem zsA (S:Set1 n G1 col opp p)(leg:zmP n G)(hp:G p=none)(e:G1=put G p (some col))(hf:∀ k<n*n,f k=true↔Dead n G1 k)(q:Pt):q∈(zaY n G1 col f).map (pOf n)↔Tk n G1 opp p q:=by
 rw[List.mem_map];constructor
 ·intro uu;refine q12 uu ?_;clear uu;intro j hj0 u0;cases u0
  obtain⟨hj1,hc⟩:=List.mem_filter.mp hj0;obtain⟨hj,hfj⟩:=zcI.mp hj1;clear hj0 hj1;refine q12 ((hf j hj).mp hfj) λ c hcj hs=>?_;have hco:c≠col:=λ q=>by rw[hcj,q]at hc;simp at hc
  have hcp:c=opp:=(S.hval _ _ hcj).resolve_left hco;subst hcp;subst e;rcases ztJ leg hp S.hp hcj (zdC hj) hs with ⟨h,_⟩|⟨_,z,hz,hr⟩
  ·exact absurd h hco
  ·exact⟨z,hz,hr.start.1,hr.start.2,hs.of_reach hr.symm,hr⟩
 ·intro uu;refine q15 uu λ z hz hzn hzc hs hr=>?_
  refine q12 (zbN hr.inG) λ j hj u0=>?_;cases u0;refine⟨j,List.mem_filter.mpr ⟨zcI.mpr ⟨hj,(hf j hj).mpr ⟨opp,hr.col,hs.of_reach hr⟩⟩,?_⟩,rfl⟩;rw[hr.col]
  simpa using λ q=>S.hne q.symm
theorem taken_nd:((zaY n G1 col f).map (pOf n)).Nodup:=List.Pairwise.map _ (λ a b hab e=>hab (zeT e)) (zgK.filter _)
noncomputable def ownL (n:Nat)(G:Pt->Option Str)(col:Str)(f:Nat->Bool):List Nat:=(zcE n f).filter λ j=>G (pOf n j)==some col
theorem own_is (S:Set1 n G1 col opp p)(leg:zmP n G)(hp:G p=none)(e:G1=put G p (some col))(hf:∀ k<n*n,f k=true↔Dead n G1 k):OwnIs n G1 col p ((ownL n G1 col f).map (pOf n)):=by
 have mem:∀ q,q∈(ownL n G1 col f).map (pOf n)↔zaJ n G1 col p q/\Surr n G1 col p:=λ q=>by
  rw[List.mem_map];constructor
  ·intro uu;refine q12 uu ?_;clear uu;intro j hj0 u0;cases u0
   obtain⟨hj1,hc⟩:=List.mem_filter.mp hj0;obtain⟨hj,hfj⟩:=zcI.mp hj1;clear hj0 hj1;refine q12 ((hf j hj).mp hfj) λ c hcj hs=>?_;have hco:c=col:=by rw[hcj]at hc;simpa using hc
   subst hco;subst e;rcases ztJ leg hp S.hp hcj (zdC hj) hs with ⟨_,hr⟩|⟨h,_⟩
   ·exact⟨hr,hs.of_reach hr.symm⟩
   ·exact absurd rfl h
  ·rintro⟨hr,hs⟩
   refine q12 (zbN hr.inG) λ j hj u0=>?_;cases u0;refine⟨j,List.mem_filter.mpr ⟨zcI.mpr ⟨hj,(hf j hj).mpr ⟨col,hr.col,hs.of_reach hr⟩⟩,?_⟩,rfl⟩;rw[hr.col];simp
 by_cases hs:Surr n G1 col p
 ·exact .inr ⟨hs,S.hp,S.hG,λ q=>(mem q).trans ⟨λ h=>h.1,λ h=>⟨h,hs⟩⟩,List.Pairwise.map _ (λ a b hab e=>hab (zeT e)) (zgK.filter _)⟩
 ·refine .inl ⟨hs,?_⟩
  cases h:(ownL n G1 col f).map (pOf n) with
  | nil=>rfl
  | cons a l=>exact absurd ((mem a).mp (by rw[h];exact .head _)).2 hs
theorem part_len (l:List Nat)(g:Nat->Bool):l.length=(l.filter g).length+(l.filter λ j=>!g j).length:=by
 induction l with
 | nil=>rfl
 | cons a l ih=>
  rw[List.filter_cons,List.filter_cons,List.length_cons,ih];cases g a
  ·exact Nat.add_assoc ..
  ·exact Nat.add_right_comm ..
theorem gone_eq (S:Set1 n G1 col opp p)(leg:zmP n G)(hp:G p=none)(e:G1=put G p (some col))(hf:∀ k<n*n,f k=true↔Dead n G1 k):(zeU n G1 col f).map (pOf n)=zfN ((zaY n G1 col f).map (pOf n)) ((ownL n G1 col f).map (pOf n)):=by
 unfold zeU zfN
 by_cases h:zaY n G1 col f=[]
 ·rw[if_pos h,if_pos (by rw[h];rfl)]
  congr 1
  unfold ownL;refine (List.filter_eq_self.mpr λ j hj=>?_).symm;have:=List.filter_eq_nil_iff.mp h j hj
  simpa using this
 ·rw[if_neg h,if_neg (by simpa using h)]
theorem play_move (F:FSI n G1 (p::nb p) L hdl)(S:Set1 n G1 col opp p)(leg:zmP n G)(hp:G p=none)(e:G1=put G p (some col))(hf:∀ k<n*n,f k=true↔Dead n G1 k):
  rm G1 (zdS (zfU opp L))=rm G1 ((zeU n G1 col f).map (pOf n))/\koOf col opp L=(koL n G1 col f).map (pOf n):=by
 have ht:=zsA S leg hp e hf;have ho:=own_is S leg hp e hf;refine⟨zvE λ q=>by rw[gone_eq S leg hp e hf];exact cap_eq S F ht ho q,?_⟩;rw[ko_eq S F ht taken_nd ho];unfold koL;have hl:=part_len (zcE n f) λ j=>G1 (pOf n j)==some col;have hl:(zcE n f).length=(ownL n G1 col f).length+(zaY n G1 col f).length:=hl;have hown:(ownL n G1 col f).length=1↔(ownL n G1 col f).map (pOf n)=[p]:=by
  constructor
  ·intro h
   rcases ho with ⟨_,q⟩|⟨_,g⟩
   ·have:(ownL n G1 col f).length=0:=by simpa using congrArg List.length q
    lia
   ·obtain⟨a,ha⟩:=List.length_eq_one_iff.mp h
    have:=g.self;rw[show (col,(ownL n G1 col f).map (pOf n)).2=(ownL n G1 col f).map (pOf n) from rfl,ha]at this;rw[ha];exact congrArg (λ x=>[x]) (List.mem_singleton.mp this).symm
  ·intro h
   simpa using congrArg List.length h
 by_cases hc:((zaY n G1 col f).map (pOf n)).length=1/\(ownL n G1 col f).map (pOf n)=[p]
 ·have h1:(zaY n G1 col f).length=1:=by simpa using hc.1
  rw[if_pos hc,if_pos ⟨h1,by have:=hown.mpr hc.2;lia⟩,List.head?_map]
 ·rw[if_neg hc,if_neg λ q=>hc ⟨by simpa using q.1,hown.mp (by lia)⟩];rfl
theorem zmP.move (S:Set1 n G1 col opp p)(leg:zmP n G)(hp:G p=none)(e:G1=put G p (some col))(hf:∀ k<n*n,f k=true↔Dead n G1 k):zmP n (rm G1 ((zeU n G1 col f).map (pOf n))):=by
 have ht:=zsA S leg hp e hf;have ho:=own_is S leg hp e hf;rw[gone_eq S leg hp e hf];generalize (zaY n G1 col f).map (pOf n)=tk at ht;generalize (ownL n G1 col f).map (pOf n)=ow at ho;have cl:∀ c x y,zaJ n G1 c x y->y∈zfN tk ow->x∈zfN tk ow:=λ c x y hr hy=>by
  unfold zfN at hy ⊢;split
  ·rename_i h
   rw[if_pos h]at hy;rcases ho with ⟨_,q⟩|⟨hs,g⟩
   ·rw[q]at hy;cases hy
   ·have ry:=(g.mem y).mp hy
    have:c=col:=Option.some.inj (hr.col.symm.trans ry.col);subst this;exact (g.mem x).mpr (ry.trans hr.symm)
  ·rename_i h
   rw[if_neg h]at hy;refine q15 ((ht y).mp hy) λ z hz hzn hzc hs ry=>?_;have:c=opp:=Option.some.inj (hr.col.symm.trans ry.col);subst this;exact (ht x).mpr ⟨z,hz,hzn,hzc,hs,ry.trans hr.symm⟩
 intro q c hqn hq hs;have hqm:q∉zfN tk ow:=λ h=>by unfold rm at hq;rw[if_pos h]at hq;cases hq
 have hq1:G1 q=some c:=by unfold rm at hq;rw[if_neg hqm]at hq;exact hq
 have up:∀ {y},zaJ n G1 c q y->zaJ n (rm G1 (zfN tk ow)) c q y:=λ h=>h.mono λ w hw=>by
  unfold rm;rw[if_neg λ hm=>hqm (cl c q w hw hm)];exact hw.col
 by_cases hs1:Surr n G1 c q
 ·have hs1':=hs1
  subst e;rcases ztJ leg hp S.hp hq1 hqn hs1 with ⟨rfl,hr⟩|⟨hc,z,hz,hr⟩
  ·have sp:=hs1.of_reach hr.symm
   have hne:tk≠[]:=λ q0=>by
    apply hqm;unfold zfN;rw[if_pos q0];rcases ho with ⟨x,_⟩|⟨_,g⟩
    ·exact absurd sp x
    ·exact (g.mem q).mpr hr
   obtain⟨t,ht0⟩:=List.exists_mem_of_ne_nil _ hne;refine q15 ((ht t).mp ht0) λ z hz hzn hzc hsz rz=>?_;have hzm:z∈zfN tk ow:=by
    unfold zfN;rw[if_neg hne];exact (ht z).mpr ⟨z,hz,hzn,hzc,hsz,.refl hzn hzc⟩
   refine hs p (up hr.symm) ⟨z,hz,hzn,?_⟩;unfold rm;rw[if_pos hzm]
  ·apply hqm
   have hco:c=opp:=(S.hval q c hq1).resolve_left hc;subst hco;have hm:q∈tk:=(ht q).mpr ⟨z,hz,hr.start.1,hr.start.2,hs1.of_reach hr.symm,hr⟩;unfold zfN;rw[if_neg λ q0=>by rw[q0]at hm;cases hm];exact hm
 ·refine q12 (ziJ hs1) λ x hx u8=>q13 u8 λ z hz hzn hz0=>?_
  refine hs x (up hx) ⟨z,hz,hzn,?_⟩;unfold rm;split
  ·rfl
  ·exact hz0
end
open Classical in
section
variable {n:Nat}{lies:Bool}{line gap:Nat}{stone c:Str}{G:Pt->Option Str}{h:Bool}{p q x z:Pt}
end
noncomputable def zdY (n:Nat)(G:Pt->Option Str):Nat->Bool:=λ k=>@decide (Dead n G k) (Classical.propDecidable _)
theorem zcF {n:Nat}{G:Pt->Option Str}{k:Nat}:zdY n G k=true↔Dead n G k:=@decide_eq_true_iff _ (Classical.propDecidable _)
theorem zuB {n:Nat}{f g:Nat->Bool}(h:∀ k<n*n,f k=true↔g k=true):zcE n f=zcE n g:=List.filter_congr λ k hk=>Bool.eq_iff_iff.mpr (h k (List.mem_range.mp hk))
theorem zkZ {n:Nat}{G:Pt->Option Str}{col:Str}{f g:Nat->Bool}(h:zcE n f=zcE n g):zaY n G col f=zaY n G col g:=by unfold zaY;rw[h]
theorem zxD {n:Nat}{G:Pt->Option Str}{col:Str}{f g:Nat->Bool}(h:zcE n f=zcE n g):zeU n G col f=zeU n G col g:=by unfold zeU;rw[zkZ h,h]
theorem ko_congr {n:Nat}{G:Pt->Option Str}{col:Str}{f g:Nat->Bool}(h:zcE n f=zcE n g):koL n G col f=koL n G col g:=by unfold koL;rw[zkZ h,h]
noncomputable def mvG (n:Nat)(G:Pt->Option Str)(p:Pt)(col:Str):Pt->Option Str:=rm (put G p (some col)) ((zeU n (put G p (some col)) col (zdY n (put G p (some col)))).map (pOf n))
noncomputable def mvK (n:Nat)(G:Pt->Option Str)(p:Pt)(col:Str):Option Nat:=koL n (put G p (some col)) col (zdY n (put G p (some col)))
theorem mv_of {n:Nat}{G:Pt->Option Str}{p:Pt}{col:Str}{f:Nat->Bool}(hf:∀ k<n*n,f k=true↔Dead n (put G p (some col)) k):
  rm (put G p (some col)) ((zeU n (put G p (some col)) col f).map (pOf n))=mvG n G p col/\koL n (put G p (some col)) col f=mvK n G p col:=by
 have h:zcE n f=zcE n (zdY n (put G p (some col))):=zuB λ k hk=>(hf k hk).trans zcF.symm;exact⟨by unfold mvG;rw[zxD h],ko_congr h⟩
section
variable {n:Nat}{lies:Bool}{line gap:Nat}{stone col opp:Str}{G:Pt->Option Str}{h:Bool}{p:Pt}
noncomputable def actG (n:Nat)(G:Pt->Option Str)(p:Pt)(col:Str):Pt->Option Str:=match G p with
 | none=>mvG n G p col
 | some _=>G
noncomputable def actD (n:Nat)(G:Pt->Option Str)(p:Pt)(col:Str):Option (Option Nat):=match G p with
 | none=>some (mvK n G p col)
 | some _=>none
theorem zdK (e:G p=none):actG n G p col=mvG n G p col/\actD n G p col=some (mvK n G p col):=by unfold actG actD;rw[e];exact⟨rfl,rfl⟩
theorem ziE {c:Str}(e:G p=some c):actG n G p col=G/\actD n G p col=none:=by unfold actG actD;rw[e];exact⟨rfl,rfl⟩
end
section
variable {n:Nat}{lies:Bool}{line gap:Nat}{stone:Str}
end
section
variable {n:Nat}{lies:Bool}{line gap:Nat}{stone c:Str}{fl:List Nat}{s:Nat}
end
noncomputable def Cols (c o:Str):Prop:=(c = "b" /\ o = "w")\/(c = "w" /\ o = "b")
theorem Cols.ne {c o:Str}(h:Cols c o):c≠o:=by rcases h with ⟨rfl,rfl⟩|⟨rfl,rfl⟩ <;> decide +kernel
structure LPos (n:Nat)(G:Pt->Option Str):Prop where
 leg:zmP n G
 sup:∀ z,G z≠none->inG n z
 val:∀ q s,G q=some s->s = "b" \/ s = "w"
theorem LPos.strOk {n:Nat}{G:Pt->Option Str}(P:LPos n G):∀ z c,G z=some c->PyData.strOk c=true:=λ z c h=>by
 rcases P.val z c h with rfl|rfl <;> decide +kernel
theorem LPos.set1 {n:Nat}{G:Pt->Option Str}{p:Pt}{col opp:Str}(P:LPos n G)(hp:inG n p)(hco:Cols col opp):Set1 n (put G p (some col)) col opp p:=by
 refine⟨hp,zeS,hco.ne,λ q s e=>?_,λ z e=>?_⟩
 ·unfold put at e
  split at e
  ·exact .inl (Option.some.inj e).symm
  ·rcases P.val q s e with rfl|rfl <;> rcases hco with ⟨rfl,rfl⟩|⟨rfl,rfl⟩ <;> simp
 ·unfold put at e
  split at e
  ·rename_i q;rw[q];exact hp
  ·exact P.sup z e
theorem LPos.act {n:Nat}{G:Pt->Option Str}{p:Pt}{col opp:Str}(P:LPos n G)(hp:inG n p)(hco:Cols col opp):LPos n (actG n G p col):=by
 cases e:G p with
 | some s=>rw[(ziE (n:=n) (col:=col) e).1];exact P
 | none=>
  rw[(zdK (n:=n) (col:=col) e).1];have S:=P.set1 hp hco;refine⟨zmP.move S P.leg e rfl λ k hk=>zcF,λ z hz=>?_,λ q s e=>?_⟩
  ·unfold mvG rm at hz
   split at hz
   ·exact absurd rfl hz
   ·exact S.hsup z hz
  ·unfold mvG rm at e
   split at e
   ·cases e
   ·rcases S.hval q s e with rfl|rfl <;> rcases hco with ⟨rfl,rfl⟩|⟨rfl,rfl⟩ <;> simp
theorem play_act {n:Nat}{G:Pt->Option Str}{z:Pt}{col opp:Str}{L:List (Str×List Pt)}{hdl:List Pt}(P:LPos n G)(hp:inG n z)(hco:Cols col opp)(g0:G z=none)(fs:FSI n (AM.Internal.put G z (some col)) (z::nb z) L hdl):
  rm (AM.Internal.put G z (some col)) (zdS (zfU opp L))=actG n G z col/\(∃ o,actD n G z col=some o/\koOf col opp L=o.map (pOf n))/\(emOf n L=true↔∀ z',actG n G z col z'=none):=by
 have S:=P.set1 hp hco;obtain⟨h1,h2⟩:=play_move (f:=zdY n (AM.Internal.put G z (some col))) fs S P.leg g0 rfl λ k hk=>zcF
 have e1:rm (AM.Internal.put G z (some col)) (zdS (zfU opp L))=actG n G z col:=by rw[(zdK (n:=n) (col:=col) g0).1];exact h1
 refine⟨e1,⟨_,(zdK (n:=n) (col:=col) g0).2,h2⟩,?_⟩;rw[<- e1];exact em_eq S fs
/-! the turns and mirrorings of a board -/
structure Sym (n:Nat)(σ τ:Pt->Pt):Prop where
 st:∀ z,σ (τ z)=z
 ts:∀ z,τ (σ z)=z
 ig:∀ z,inG n (σ z)↔inG n z
 nb:∀ z y,σ y∈nb (σ z)↔y∈nb z
noncomputable def Img (σ:Pt->Pt)(δ:Str->Str)(G G':Pt->Option Str):Prop:=∀ z,G' (σ z)=(G z).map δ
noncomputable def Inj (δ:Str->Str)(G:Pt->Option Str)(c:Str):Prop:=∀ z s,G z=some s->δ s=δ c->s=c
noncomputable def BW (c:Str):Prop:=c = "b" \/ c = "w"
section
variable {n:Nat}{σ τ:Pt->Pt}{δ:Str->Str}{G G':Pt->Option Str}{c:Str}{p q:Pt}
theorem zhG (h:Img σ δ G G'){z:Pt}:G' (σ z)=none↔G z=none:=by
 rw[h z];cases G z <;> simp
theorem zkK (h:Img σ δ G G')(i:Inj δ G c){z:Pt}:G' (σ z)=some (δ c)↔G z=some c:=by
 rw[h z];cases e:G z with
 | none=>simp
 | some s=>
  constructor
  ·intro q;rw[i z s e (Option.some.inj q)]
  ·intro q;rw[Option.some.inj q];rfl
theorem reach_img (S:Sym n σ τ)(h:Img σ δ G G')(r:zaJ n G c p q):zaJ n G' (δ c) (σ p) (σ q):=by
 induction r with
 | refl a b=>exact .refl ((S.ig _).mpr a) (by rw[h,b];rfl)
 | step _ a b e ih=>exact ih.step ((S.nb _ _).mpr a) ((S.ig _).mpr b) (by rw[h,e];rfl)
theorem zwS (S:Sym n σ τ)(h:Img σ δ G G')(i:Inj δ G c){y x:Pt}(r:zaJ n G' (δ c) x y):zaJ n G c (τ x) (τ y):=by
 have at_:∀ {z},G' z=some (δ c)->G (τ z)=some c:=λ {z} e=>(zkK h i).mp (by rw[S.st];exact e);have ig:∀ {z},inG n z->inG n (τ z):=λ {z} e=>(S.ig _).mp (by rw[S.st];exact e)
 induction r with
 | refl a b=>exact .refl (ig a) (at_ b)
 | step _ a b e ih=>exact ih.step ((S.nb _ _).mp (by rw[S.st,S.st];exact a)) (ig b) (at_ e)
theorem zvG (S:Sym n σ τ)(h:Img σ δ G G'):Free n G' (σ q)↔Free n G q:=by
 constructor
 ·intro uu;refine q13 uu λ z hz hg h0=>?_
  refine⟨τ z,(S.nb _ _).mp (by rw[S.st];exact hz),(S.ig _).mp (by rw[S.st];exact hg),(zhG h).mp (by rw[S.st];exact h0)⟩
 ·intro uu;refine q13 uu λ z hz hg h0=>?_
  exact⟨σ z,(S.nb _ _).mpr hz,(S.ig _).mpr hg,(zhG h).mpr h0⟩
theorem zkN (S:Sym n σ τ)(h:Img σ δ G G')(i:Inj δ G c):Surr n G' (δ c) (σ p)↔Surr n G c p:=by
 constructor
 ·exact λ hs q r f=>hs _ (reach_img S h r) ((zvG S h).mpr f)
 ·intro hs y r f
  have:=zwS S h i r;rw[S.ts]at this;exact hs _ this ((zvG S h).mp (by rw[S.st];exact f))
theorem img_put (S:Sym n σ τ)(h:Img σ δ G G'){v:Option Str}:Img σ δ (put G p v) (put G' (σ p) (v.map δ)):=λ z=>by
 unfold put
 by_cases e:z=p
 ·rw[if_pos e,if_pos (by rw[e])]
 ·rw[if_neg e,if_neg λ w=>e (by rw[<- S.ts z,w,S.ts])];exact h z
structure Dye (δ:Str->Str):Prop where
 two:δ "b" = "b" /\ δ "w" = "w" \/ δ "b" = "w" /\ δ "w" = "b"
theorem Dye.val (d:Dye δ){s:Str}(h:s = "b" \/ s = "w"):δ s = "b" \/ δ s = "w" := by
 rcases d.two with ⟨a,b⟩|⟨a,b⟩ <;> rcases h with rfl|rfl <;> simp[a,b]
theorem Dye.cols (d:Dye δ){s t:Str}(h:Cols s t):Cols (δ s) (δ t):=by
 unfold Cols;rcases d.two with ⟨a,b⟩|⟨a,b⟩ <;> rcases h with ⟨rfl,rfl⟩|⟨rfl,rfl⟩ <;> simp[a,b]
theorem Dye.inj (d:Dye δ){s t:Str}(hs:s = "b" \/ s = "w")(ht:t = "b" \/ t = "w")(e:δ s=δ t):s=t:=by
 have ne:("b" : Str) ≠ "w" := by decide +kernel
 rcases d.two with ⟨a,b⟩|⟨a,b⟩ <;> rcases hs with rfl|rfl <;> rcases ht with rfl|rfl <;> first|rfl | (rw[a,b]at e;exact absurd e ne) | (rw[a,b]at e;exact absurd e.symm ne)
noncomputable def DeadP (n:Nat)(G:Pt->Option Str)(z:Pt):Prop:=inG n z/\∃ c,G z=some c/\Surr n G c z
theorem zqE (S:Sym n σ τ)(h:Img σ δ G G')(i:∀ c,BW c->Inj δ G c)(hv:∀ q s,G q=some s->BW s){z:Pt}:DeadP n G' (σ z)↔DeadP n G z:=by
 unfold DeadP;rw[S.ig];refine and_congr_right λ _=>?_;constructor
 ·intro uu;refine q12 uu λ c' h1 h2=>?_
  rw[h z]at h1;refine q12 (Option.map_eq_some_iff.mp h1) λ c hc u0=>?_;cases u0;exact⟨c,hc,(zkN S h (i c (hv _ _ hc))).mp h2⟩
 ·intro uu;refine q12 uu λ c h1 h2=>?_
  exact⟨δ c,(zkK h (i c (hv _ _ h1))).mpr h1,(zkN S h (i c (hv _ _ h1))).mpr h2⟩
theorem zgR {z:Pt}:z∈(zcE n (zdY n G)).map (pOf n)↔DeadP n G z:=by
 rw[List.mem_map];constructor
 ·intro uu;refine q12 uu ?_;clear uu;intro k hk u0;cases u0
  obtain⟨h1,h2⟩:=zcI.mp hk;exact⟨zdC h1,zcF.mp h2⟩
 ·rintro⟨hg,h⟩
  refine q12 (zbN hg) λ k hk u0=>?_;cases u0;exact⟨k,zcI.mpr ⟨hk,zcF.mpr h⟩,rfl⟩
theorem zpM {z:Pt}:z∈(zaY n G c (zdY n G)).map (pOf n)↔DeadP n G z/\G z≠some c:=by
 rw[<- zgR,List.mem_map,List.mem_map];unfold zaY;constructor
 ·intro uu;refine q12 uu ?_;clear uu;intro k hk u0;cases u0
  obtain⟨h1,h2⟩:=List.mem_filter.mp hk;exact⟨⟨k,h1,rfl⟩,by simpa using h2⟩
 ·rintro⟨⟨k,hk,rfl⟩,h⟩
  exact⟨k,List.mem_filter.mpr ⟨hk,by simpa using h⟩,rfl⟩
theorem znA (S:Sym n σ τ)(h:Img σ δ G G')(i:∀ c,BW c->Inj δ G c)(hv:∀ q s,G q=some s->BW s)(hc:BW c){z:Pt}:σ z∈(zaY n G' (δ c) (zdY n G')).map (pOf n)↔z∈(zaY n G c (zdY n G)).map (pOf n):=by
 rw[zpM,zpM,zqE S h i hv];exact and_congr_right λ _=>not_congr (zkK h (i c hc))
theorem zhN {l:List Nat}(h:l.Nodup):(l.map (pOf n)).Nodup:=List.Pairwise.map _ (λ a b hab e=>hab (zeT e)) h
theorem zrD {σ τ:Pt->Pt}(st:∀ z,σ (τ z)=z)(ts:∀ z,τ (σ z)=z){l m:List Pt}(hl:l.Nodup)(hm:m.Nodup)(h:∀ z,σ z∈m↔z∈l):m.length=l.length:=by
 have inj:∀ {f g:Pt->Pt},(∀ z,g (f z)=z)->∀ {l:List Pt},l.Nodup->(l.map f).Nodup:=λ {f g} e {l} hl=>List.Pairwise.map _ (λ a b hab q=>hab (by rw[<- e a,q,e])) hl;refine Nat.le_antisymm ?_ ?_
 ·have:=nodup_le (inj st hm) (m:=l) λ z hz=>by
   refine q12 (List.mem_map.mp hz) λ y hy u0=>?_;cases u0;exact (h _).mp (by rw[st];exact hy)
  rwa [List.length_map]at this
 ·have:=nodup_le (inj ts hl) (m:=m) λ z hz=>by
   refine q12 (List.mem_map.mp hz) λ y hy u0=>?_;cases u0;exact (h _).mpr hy
  rwa [List.length_map]at this
theorem gone_img (S:Sym n σ τ)(h:Img σ δ G G')(i:∀ c,BW c->Inj δ G c)(hv:∀ q s,G q=some s->BW s)(hc:BW c){z:Pt}:σ z∈(zeU n G' (δ c) (zdY n G')).map (pOf n)↔z∈(zeU n G c (zdY n G)).map (pOf n):=by
 have hl:=zrD S.st S.ts (zhN (n:=n) (zgK.filter λ j=>!(G (pOf n j)==some c))) (zhN (n:=n) (zgK.filter λ j=>!(G' (pOf n j)==some (δ c)))) (λ z=>znA (c:=c) S h i hv hc (z:=z));rw[List.length_map,List.length_map]at hl;have he:zaY n G' (δ c) (zdY n G')=[]↔zaY n G c (zdY n G)=[]:=by rw[<- List.length_eq_zero_iff,<- List.length_eq_zero_iff];exact (congrArg (·=0) hl).to_iff
 unfold zeU
 by_cases e:zaY n G c (zdY n G)=[]
 ·rw[if_pos e,if_pos (he.mpr e),zgR,zgR];exact zqE S h i hv
 ·rw[if_neg e,if_neg λ w=>e (he.mp w)];exact znA S h i hv hc
theorem mvG_img (S:Sym n σ τ)(h:Img σ δ G G')(i':∀ s,BW s->Inj δ (put G p (some c)) s)(hv:∀ q s,put G p (some c) q=some s->BW s)(hc:BW c):Img σ δ (mvG n G p c) (mvG n G' (σ p) (δ c)):=λ z=>by
 have h':Img σ δ (put G p (some c)) (put G' (σ p) (some (δ c))):=img_put S h (p:=p) (v:=some c);unfold mvG rm;have g:=gone_img (c:=c) S h' i' hv hc (z:=z)
 by_cases e:z∈(zeU n (put G p (some c)) c (zdY n (put G p (some c)))).map (pOf n)
 ·rw[if_pos e];rw[if_pos (g.mpr e)];rfl
 ·rw[if_neg e];rw[if_neg λ w=>e (g.mp w)];exact h' z
theorem mvK_img (S:Sym n σ τ)(h:Img σ δ G G')(i':∀ s,BW s->Inj δ (put G p (some c)) s)(hv:∀ q s,put G p (some c) q=some s->BW s)(hc:BW c):(mvK n G' (σ p) (δ c)).map (pOf n)=(mvK n G p c).map λ k=>σ (pOf n k):=by
 have h':=img_put S h (p:=p) (v:=some c);unfold mvK
 show (koL n (put G' (σ p) (some (δ c))) (δ c) (zdY n (put G' (σ p) (some (δ c))))).map (pOf n)=_
 replace h':Img σ δ (put G p (some c)) (put G' (σ p) (some (δ c))):=h';generalize put G p (some c)=A at h' i' hv;generalize put G' (σ p) (some (δ c))=B at h';have ht:=λ z=>znA (c:=c) S h' i' hv hc (z:=z);have hl:=zrD S.st S.ts (zhN (n:=n) (zgK.filter λ j=>!(A (pOf n j)==some c))) (zhN (n:=n) (zgK.filter λ j=>!(B (pOf n j)==some (δ c)))) ht;have hd:=zrD S.st S.ts (zhN (n:=n) zgK) (zhN (n:=n) zgK) (λ z=>(zgR (n:=n) (G:=B) (z:=σ z)).trans ((zqE S h' i' hv).trans zgR.symm));rw[List.length_map,List.length_map]at hl hd;unfold koL;have hl':(zaY n B (δ c) (zdY n B)).length=(zaY n A c (zdY n A)).length:=hl;rw[hl',hd]
 by_cases e:(zaY n A c (zdY n A)).length=1/\(zcE n (zdY n A)).length=2
 ·rw[if_pos e,if_pos e]
  obtain⟨a,ha⟩:=List.length_eq_one_iff.mp e.1;obtain⟨b,hb⟩:=List.length_eq_one_iff.mp (hl'.trans e.1);rw[ha,hb]at ht;rw[ha,hb];have:=(ht (pOf n a)).mpr (.head _)
  show some (pOf n b)=some (σ (pOf n a))
  rw[List.mem_singleton.mp this]
 ·rw[if_neg e,if_neg e];rfl
end
/-! a position and its image: moves,stones laid in any order -/
section
variable {n:Nat}{σ τ:Pt->Pt}{δ:Str->Str}{G G':Pt->Option Str}{c:Str}{p q:Pt}
theorem Dye.injG (d:Dye δ)(hv:∀ q s,G q=some s->BW s):∀ c,BW c->Inj δ G c:=λ c hc z s hs e=>d.inj (hv z s hs) hc e
theorem LPos.img (P:LPos n G)(S:Sym n σ τ)(d:Dye δ)(h:Img σ δ G G'):LPos n G':=by
 have at_:∀ z c',G' z=some c'->∃ c,G (τ z)=some c/\δ c=c':=λ z c' e=>by
  have:=h (τ z);rw[S.st,e]at this;exact Option.map_eq_some_iff.mp this.symm
 refine⟨λ q c' hq hc'=>?_,λ z hz=>?_,λ q s hs=>?_⟩
 ·refine q12 (at_ q c' hc') λ c hc u0=>?_;cases u0
  have hg:inG n (τ q):=(S.ig _).mp (by rw[S.st];exact hq);have:=zkN (p:=τ q) S h (d.injG P.val c (P.val _ _ hc));rw[S.st]at this;exact λ w=>P.leg _ c hg hc (this.mp w)
 ·obtain⟨c',hc'⟩:=Option.ne_none_iff_exists'.mp hz
  refine q12 (at_ z c' hc') λ c hc _=>?_;have:=(S.ig _).mpr (P.sup _ (by rw[hc];simp:G (τ z)≠none))
  rwa [S.st]at this
 ·refine q12 (at_ q s hs) λ c hc u0=>?_;cases u0
  exact d.val (P.val _ _ hc)
theorem put_val (hv:∀ q s,G q=some s->BW s)(hc:BW c):∀ q s,put G p (some c) q=some s->BW s:=λ q s e=>by
 unfold put at e;split at e
 ·exact Option.some.inj e▸hc
 ·exact hv q s e
theorem act_img (P:LPos n G)(S:Sym n σ τ)(d:Dye δ)(h:Img σ δ G G')(hc:BW c):
  Img σ δ (actG n G p c) (actG n G' (σ p) (δ c))/\(actD n G' (σ p) (δ c)).map (Option.map (pOf n))=(actD n G p c).map (Option.map λ k=>σ (pOf n k)):=by
 have hv:=put_val (p:=p) (λ q s e=>P.val q s e) hc;cases e:G p with
 | some s=>
  have e':G' (σ p)=some (δ s):=by rw[h,e];rfl
  obtain⟨a1,a2⟩:=ziE (n:=n) (col:=c) e;obtain⟨b1,b2⟩:=ziE (n:=n) (col:=δ c) e';rw[a1,a2,b1,b2];exact⟨h,rfl⟩
 | none=>
  have e':G' (σ p)=none:=(zhG h).mpr e;obtain⟨a1,a2⟩:=zdK (n:=n) (col:=c) e;obtain⟨b1,b2⟩:=zdK (n:=n) (col:=δ c) e';rw[a1,a2,b1,b2];refine⟨mvG_img S h (d.injG hv) hv hc,?_⟩
  show some ((mvK n G' (σ p) (δ c)).map (pOf n))=some ((mvK n G p c).map λ k=>σ (pOf n k))
  rw[mvK_img S h (d.injG hv) hv hc]
noncomputable def subG (G:Pt->Option Str)(l:List Pt):Pt->Option Str:=λ z=>if z∈l then G z else none
theorem sub_put {l:List Pt}(hz:G p=some c):put (subG G l) p (some c)=subG G (l++[p]):=by
 funext q
 unfold put subG
 by_cases e:q=p
 ·subst e
  rw[if_pos rfl,if_pos (by simp),hz]
 ·rw[if_neg e]
  by_cases m:q∈l
  ·rw[if_pos m,if_pos (by simp[m])]
  ·rw[if_neg m,if_neg (by simp[m,e])]
theorem zvS (P:LPos n G)(l:List Pt):LPos n (subG G l):=by
 have sm:∀ {q s},subG G l q=some s->q∈l/\G q=some s:=λ {q s} e=>by
  unfold subG at e;split at e
  ·rename_i m;exact⟨m,e⟩
  ·cases e
 refine⟨λ q c hqn hq hs=>?_,λ z hz=>?_,λ q s e=>P.val q s (sm e).2⟩
 ·obtain⟨hA,hq⟩:=sm hq
  refine q12 (ziJ (P.leg q c hqn hq)) λ x hx u8=>q13 u8 λ y hy hyn hy0=>?_;have go:zaJ n (subG G l) c q x\/∃ x',zaJ n (subG G l) c q x'/\Free n (subG G l) x':=by
   clear u8 hy
   induction hx with
   | refl a b=>exact .inl (.refl a ((if_pos hA).trans b))
   | step r a b e ih=>
    rename_i x1 z1
    rcases ih with ih|ih
    ·by_cases h:z1∈l
     ·exact .inl (ih.step a b ((if_pos h).trans e))
     ·exact .inr ⟨_,ih,z1,a,b,if_neg h⟩
    ·exact .inr ih
  rcases go with r|⟨x',r,f⟩
  ·exact hs x r ⟨y,hy,hyn,by show (if y∈l then G y else none)=none;rw[hy0,ite_self]⟩
  ·exact hs x' r f
 ·obtain⟨s,hs⟩:=Option.ne_none_iff_exists'.mp hz
  exact P.sup z (by rw[(sm hs).2];simp)
theorem lay_one (P:LPos n G){l:List Pt}(hz:G p=some c)(hp:p∉l):actG n (subG G l) p c=subG G (l++[p])/\actD n (subG G l) p c=some none:=by
 have e0:subG G l p=none:=if_neg hp;obtain⟨a1,a2⟩:=zdK (n:=n) (col:=c) e0;have hd:zcE n (zdY n (put (subG G l) p (some c)))=[]:=List.eq_nil_iff_forall_not_mem.mpr λ k hk=>by
  obtain⟨hkn,hd⟩:=zcI.mp hk;refine q12 (zcF.mp hd) λ s hs hq=>?_;rw[sub_put hz]at hs hq;exact (zvS P _).leg _ s (zdC hkn) hs hq
 have ht:zaY n (put (subG G l) p (some c)) c (zdY n (put (subG G l) p (some c)))=[]:=by unfold zaY;rw[hd];rfl
 rw[a1,a2];refine⟨?_,?_⟩
 ·unfold mvG zeU
  rw[if_pos ht,hd,<- sub_put hz];exact zvJ
 ·unfold mvK koL
  rw[ht,if_neg (by simp)]
theorem sub_nil:subG G []=λ _=>none:=by funext q;exact if_neg (by simp)
theorem sub_all {l:List Pt}(h:∀ z,G z≠none->z∈l):subG G l=G:=by
 funext q
 unfold subG
 by_cases m:q∈l
 ·rw[if_pos m]
 ·rw[if_neg m]
  cases e:G q with
  | none=>rfl
  | some s=>exact absurd (h q (by rw[e];simp)) m
theorem zuN {σ:Pt->Pt}(st:∀ z,σ (σ z)=z)(ig:∀ z,inG n z->inG n (σ z))(nb':∀ z y,y∈nb z->σ y∈nb (σ z)):Sym n σ σ:=
 ⟨st,st,λ z=>⟨λ h=>st z▸ig _ h,ig z⟩,λ z y=>⟨λ h=>by have:=nb' _ _ h;rwa [st,st]at this,nb' z y⟩⟩
theorem Sym.one:Sym n (λ z=>z) (λ z=>z):=⟨λ _=>rfl,λ _=>rfl,λ _=>Iff.rfl,λ _ _=>Iff.rfl⟩
theorem Sym.and {σ τ σ' τ':Pt->Pt}(S:Sym n σ τ)(S':Sym n σ' τ'):Sym n (λ z=>σ' (σ z)) (λ z=>τ (τ' z)):=
 ⟨λ z=>(congrArg σ' (S.st _)).trans (S'.st z),λ z=>(congrArg τ (S'.ts _)).trans (S.ts z),λ z=>(S'.ig _).trans (S.ig z),λ z y=>(S'.nb _ _).trans (S.nb z y)⟩
theorem Sym.when {σ τ:Pt->Pt}(S:Sym n σ τ)(b:Bool):Sym n (λ z=>cond b (σ z) z) (λ z=>cond b (τ z) z):=by
 cases b with
 | true=>exact S
 | false=>exact Sym.one
noncomputable def fR (n:Nat)(z:Pt):Pt:=(n-1-z.1,z.2)
noncomputable def fC (n:Nat)(z:Pt):Pt:=(z.1,n-1-z.2)
noncomputable def fT (z:Pt):Pt:=(z.2,z.1)
theorem flip2 {m x:Int}:m-(m-x)=x:=by lia
theorem flip_lo {m x:Int}:m-(x-1)=m-x+1:=by lia
theorem flip_hi {m x:Int}:m-(x+1)=m-x-1:=by lia
theorem flip_in {x:Int}(h:0<=x/\x<n):0<=(n:Int)-1-x/\(n:Int)-1-x<n:=by lia
theorem nb4 {z y:Pt}{P:Pt->Prop}(h:y∈nb z)(h1:P (z.1-1,z.2))(h2:P (z.1+1,z.2))(h3:P (z.1,z.2-1))(h4:P (z.1,z.2+1)):P y:=by
 unfold nb at h;rcases List.mem_cons.mp h with rfl|h
 ·exact h1
 rcases List.mem_cons.mp h with rfl|h
 ·exact h2
 rcases List.mem_cons.mp h with rfl|h
 ·exact h3
 rw[List.mem_singleton.mp h];exact h4
theorem sym_R:Sym n (fR n) (fR n):=zuN (λ z=>Prod.ext flip2 rfl) (λ z h=>⟨flip_in h.1,h.2⟩) λ z y h=>
 nb4 (P:=λ y=>fR n y∈nb (fR n z)) h (by show (_,_)∈nb _;rw[flip_lo];exact .tail _ (.head _)) (by show (_,_)∈nb _;rw[flip_hi];exact .head _) (.tail _ (.tail _ (.head _))) (.tail _ (.tail _ (.tail _ (.head _))))
theorem sym_C:Sym n (fC n) (fC n):=zuN (λ z=>Prod.ext rfl flip2) (λ z h=>⟨h.1,flip_in h.2⟩) λ z y h=>
 nb4 (P:=λ y=>fC n y∈nb (fC n z)) h (.head _) (.tail _ (.head _)) (by show (_,_)∈nb _;rw[flip_lo];exact .tail _ (.tail _ (.tail _ (.head _)))) (by show (_,_)∈nb _;rw[flip_hi];exact .tail _ (.tail _ (.head _)))
theorem sym_T:Sym n fT fT:=zuN (λ z=>rfl) (λ z h=>⟨h.2,h.1⟩) λ z y h=>
 nb4 (P:=λ y=>fT y∈nb (fT z)) h (.tail _ (.tail _ (.head _))) (.tail _ (.tail _ (.tail _ (.head _)))) (.head _) (.tail _ (.head _))
noncomputable def seenB (n:Nat)(a b t:Bool)(z:Pt):Pt:=(λ z=>cond t (fT z) z) ((λ z=>cond b (fC n z) z) (cond a (fR n z) z))
noncomputable def backB (n:Nat)(a b t:Bool)(z:Pt):Pt:=(λ z=>cond a (fR n z) z) ((λ z=>cond b (fC n z) z) (cond t (fT z) z))
theorem sym_seen (a b t:Bool):Sym n (seenB n a b t) (backB n a b t):=((sym_R.when a).and (sym_C.when b)).and (sym_T.when t)
end
noncomputable def flipC (s:Str):Str:=cond (s == "b") "w" "b"
noncomputable def dyeB (s:Bool)(c:Str):Str:=cond s (flipC c) c
theorem dye_dye (s:Bool):Dye (dyeB s):=by
 cases s
 ·exact⟨.inl ⟨rfl,rfl⟩⟩
 ·exact⟨.inr ⟨by decide +kernel,by decide +kernel⟩⟩
noncomputable def tops:List Stmt:=PySem.Challenge.rw_md0058_04.row.toRowW.prog.main.body
noncomputable def zbZ (i:Nat):Stmt:=(tops[i]?).getD (.Pass ⟨0,0,0,0⟩)
noncomputable def zcM (i j:Nat):Stmt:=match zbZ i with
 | .ClassDef _ _ _ b _ _ _ _ _ _ _=>(b[j]?).getD (.Pass ⟨0,0,0,0⟩)
 | _=>.Pass ⟨0,0,0,0⟩
noncomputable def zaK (st:Stmt):List Stmt:=match st with
 | .FunctionDef _ _ b _ _ _ _ _ _ _=>b
 | _=>[]
noncomputable def zcG (st:Stmt)(q m:String)(t c:Nat):FuncData:=match st with
 | .FunctionDef n ps b _ _ _ sc _ _ _=>{ name:=n,qualname:=Str.ofString q,params:=ps,body:=.stmts b,scope:=sc,globals:=3,closure:=[],defaults:=.none,kwdefaults:=.none,pyModule:=.str (Str.ofString m) t,code:=.ref c }
 | _=>default
noncomputable def zdQ (st:Stmt)(q m:String)(t c:Nat):Obj:={ cls:=.type "function",data:=.func (zcG st q m t c) }
noncomputable abbrev s (x:String):Str:=Str.ofString x
noncomputable abbrev kh (P:Params)(x:Str):Int:=PyData.keyHash P x
noncomputable def heapK:Params->Frag:=λ P=>[(2,{ cls:=.none,data:=Data.dict #[] }),
 (3,{ cls:=.type "dict",data:=Data.dict #[{ hash:=kh P (s "__name__"),key:=.str (s "__name__") 165,val:=.str (s "law_md0058_04") 420 },{ hash:=kh P (s "__doc__"),key:=.str (s "__doc__") 166,val:=.none },{ hash:=kh P (s "__package__"),key:=.str (s "__package__") 167,val:=.none },{ hash:=kh P (s "__loader__"),key:=.str (s "__loader__") 168,val:=Value.builtin "__main__.__loader__#opaque" },{ hash:=kh P (s "__spec__"),key:=.str (s "__spec__") 169,val:=.none },{ hash:=kh P (s "__annotations__"),key:=.str (s "__annotations__") 170,val:=.ref 6 },{ hash:=kh P (s "__builtins__"),key:=.str (s "__builtins__") 171,val:=.ref 4 },{ hash:=kh P (s "__file__"),key:=.str (s "__file__") 173,val:=.str (s "/claim/cut.py") 172 },{ hash:=kh P (s "__cached__"),key:=.str (s "__cached__") 174,val:=.none },{ hash:=kh P (s "_wall"),key:=.str (s "_wall") 193,val:=.ref 21 },{ hash:=kh P (s "_opponents"),key:=.str (s "_opponents") 202,val:=.ref 22 },{ hash:=kh P (s "opponent_of"),key:=.str (s "opponent_of") 209,val:=.ref 29 },{ hash:=kh P (s "_Group"),key:=.str (s "_Group") 231,val:=.ref 39 },{ hash:=kh P (s "_Region"),key:=.str (s "_Region") 260,val:=.ref 60 },{ hash:=kh P (s "Board"),key:=.str (s "Board") 419,val:=.ref 154 },{ hash:=kh P (s "_law_near"),key:=.str (s "_law_near") 430,val:=.ref 165 },{ hash:=kh P (s "_law_breathless"),key:=.str (s "_law_breathless") 436,val:=.ref 170 },{ hash:=kh P (s "_law_move"),key:=.str (s "_law_move") 442,val:=.ref 175 },{ hash:=kh P (s "_law_seen"),key:=.str (s "_law_seen") 453,val:=.ref 182 },{ hash:=kh P (s "_law_dyed"),key:=.str (s "_law_dyed") 461,val:=.ref 189 },{ hash:=kh P (s "_law_reach"),key:=.str (s "_law_reach") 467,val:=.ref 194 },{ hash:=kh P (s "_law_told"),key:=.str (s "_law_told") 480,val:=.ref 201 },{ hash:=kh P (s "_law_laid"),key:=.str (s "_law_laid") 486,val:=.ref 206 },{ hash:=kh P (s "_law_shows"),key:=.str (s "_law_shows") 492,val:=.ref 211 },{ hash:=kh P (s "law"),key:=.str (s "law") 498,val:=.ref 216 }] 25 }),
 (20,{ cls:=.type "code",data:=Data.fields #[.str (s "_wall") 187,.str (s "_wall") 188,.str (s "/claim/cut.py") 189,.int 1 0,.int 1 0,.int 0 0,.int 0 0,.int 3 0,.ref 15,.bool true,.int 181 0,.ref 16,.none,.ref 17,.ref 18,.ref 19,.int 191 0,.int 1 0,.str (s "/claim/cut.py") 192] }),
 (21,zdQ (zbZ 0) "_wall" "__main__" 164 20),
 (22,{ cls:=.type "dict",data:=Data.dict #[{ hash:=kh P (s "b"),key:=.str (s "b") 196,val:=.str (s "w") 197 },{ hash:=kh P (s "w"),key:=.str (s "w") 198,val:=.str (s "b") 199 }] 2 }),
 (28,{ cls:=.type "code",data:=Data.fields #[.str (s "opponent_of") 203,.str (s "opponent_of") 204,.str (s "/claim/cut.py") 205,.int 6 0,.int 1 0,.int 0 0,.int 0 0,.int 3 0,.ref 23,.bool true,.int 181 0,.ref 24,.none,.ref 25,.ref 26,.ref 27,.int 207 0,.int 6 0,.str (s "/claim/cut.py") 208] }),
 (29,zdQ (zbZ 3) "opponent_of" "sgfmill.common" 194 28),
 (38,{ cls:=.type "dict",data:=Data.dict #[{ hash:=kh P (s "__module__"),key:=.str (s "__module__") 219,val:=.str (s "sgfmill.boards") 210 },{ hash:=kh P (s "__firstlineno__"),key:=.str (s "__firstlineno__") 223,val:=.int 12 222 },{ hash:=kh P (s "__static_attributes__"),key:=.str (s "__static_attributes__") 224,val:=.ref 37 },{ hash:=kh P (s "__dict__"),key:=.str (s "__dict__") 226,val:=.ref 40 },{ hash:=kh P (s "__weakref__"),key:=.str (s "__weakref__") 228,val:=.ref 41 },{ hash:=kh P (s "__doc__"),key:=.str (s "__doc__") 229,val:=.none }] 4 }),
 (39,{ cls:=.type "type",data:=Data.cls { name:=s "_Group",bases:=[.type "object"],mro:=[.ref 39,.type "object"],ns:=38,qualname:=s "_Group" },slots:=#[none,none,some (.str (s "_Group") 212),some (.str (s "_Group") 220),some (Value.builtin "object.__new__"),some (.bool true)] }),
 (56,{ cls:=.type "code",data:=Data.fields #[.str (s "__init__") 244,.str (s "_Region.__init__") 245,.str (s "/claim/cut.py") 246,.int 16 0,.int 1 0,.int 0 0,.int 0 0,.int 3 0,.ref 51,.bool true,.int 181 0,.ref 52,.none,.ref 53,.ref 54,.ref 55,.int 248 0,.int 16 0,.str (s "/claim/cut.py") 249] }),
 (57,zdQ (zcM 6 0) "_Region.__init__" "sgfmill.boards" 210 56),
 (59,{ cls:=.type "dict",data:=Data.dict #[{ hash:=kh P (s "__module__"),key:=.str (s "__module__") 239,val:=.str (s "sgfmill.boards") 210 },{ hash:=kh P (s "__firstlineno__"),key:=.str (s "__firstlineno__") 243,val:=.int 14 242 },{ hash:=kh P (s "__init__"),key:=.str (s "__init__") 250,val:=.ref 57 },{ hash:=kh P (s "__static_attributes__"),key:=.str (s "__static_attributes__") 253,val:=.ref 58 },{ hash:=kh P (s "__dict__"),key:=.str (s "__dict__") 255,val:=.ref 61 },{ hash:=kh P (s "__weakref__"),key:=.str (s "__weakref__") 257,val:=.ref 62 },{ hash:=kh P (s "__doc__"),key:=.str (s "__doc__") 258,val:=.none }] 4 }),
 (60,{ cls:=.type "type",data:=Data.cls { name:=s "_Region",bases:=[.type "object"],mro:=[.ref 60,.type "object"],ns:=59,qualname:=s "_Region" },slots:=#[none,none,some (.str (s "_Region") 232),some (.str (s "_Region") 240),some (Value.builtin "object.__new__"),some (.bool true)] }),
 (75,{ cls:=.type "code",data:=Data.fields #[.str (s "__init__") 273,.str (s "Board.__init__") 274,.str (s "/claim/cut.py") 275,.int 21 0,.int 2 0,.int 0 0,.int 0 0,.int 3 0,.ref 72,.bool true,.int 181 0,.ref 73,.none,.none,.none,.ref 74,.int 276 0,.int 21 0,.str (s "/claim/cut.py") 277] }),
 (76,zdQ (zcM 7 0) "Board.__init__" "sgfmill.boards" 210 75),
 (82,{ cls:=.type "code",data:=Data.fields #[.str (s "copy") 279,.str (s "Board.copy") 280,.str (s "/claim/cut.py") 281,.int 31 0,.int 1 0,.int 0 0,.int 0 0,.int 3 0,.ref 77,.bool true,.int 181 0,.ref 78,.none,.ref 79,.ref 80,.ref 81,.int 283 0,.int 31 0,.str (s "/claim/cut.py") 284] }),
 (83,zdQ (zcM 7 1) "Board.copy" "sgfmill.boards" 210 82),
 (89,{ cls:=.type "code",data:=Data.fields #[.str (s "_make_group") 286,.str (s "Board._make_group") 287,.str (s "/claim/cut.py") 288,.int 34 0,.int 4 0,.int 0 0,.int 0 0,.int 3 0,.ref 84,.bool true,.int 181 0,.ref 85,.none,.ref 86,.ref 87,.ref 88,.int 304 0,.int 34 0,.str (s "/claim/cut.py") 305] }),
 (90,zdQ (zcM 7 2) "Board._make_group" "sgfmill.boards" 210 89),
 (96,{ cls:=.type "code",data:=Data.fields #[.str (s "_make_empty_region") 307,.str (s "Board._make_empty_region") 308,.str (s "/claim/cut.py") 309,.int 59 0,.int 3 0,.int 0 0,.int 0 0,.int 3 0,.ref 91,.bool true,.int 181 0,.ref 92,.none,.ref 93,.ref 94,.ref 95,.int 324 0,.int 59 0,.str (s "/claim/cut.py") 325] }),
 (97,zdQ (zcM 7 3) "Board._make_empty_region" "sgfmill.boards" 210 96),
 (103,{ cls:=.type "code",data:=Data.fields #[.str (s "_find_surrounded_groups") 327,.str (s "Board._find_surrounded_groups") 328,.str (s "/claim/cut.py") 329,.int 83 0,.int 3 0,.int 0 0,.int 0 0,.int 3 0,.ref 98,.bool true,.int 181 0,.ref 99,.none,.ref 100,.ref 101,.ref 102,.int 340 0,.int 83 0,.str (s "/claim/cut.py") 341] }),
 (104,zdQ (zcM 7 4) "Board._find_surrounded_groups" "sgfmill.boards" 210 103),
 (110,{ cls:=.type "code",data:=Data.fields #[.str (s "_find_all_surrounded_groups") 343,.str (s "Board._find_all_surrounded_groups") 344,.str (s "/claim/cut.py") 345,.int 101 0,.int 1 0,.int 0 0,.int 0 0,.int 3 0,.ref 105,.bool true,.int 181 0,.ref 106,.none,.ref 107,.ref 108,.ref 109,.int 347 0,.int 101 0,.str (s "/claim/cut.py") 348] }),
 (111,zdQ (zcM 7 5) "Board._find_all_surrounded_groups" "sgfmill.boards" 210 110),
 (117,{ cls:=.type "code",data:=Data.fields #[.str (s "is_empty") 350,.str (s "Board.is_empty") 351,.str (s "/claim/cut.py") 352,.int 104 0,.int 1 0,.int 0 0,.int 0 0,.int 3 0,.ref 112,.bool true,.int 181 0,.ref 113,.none,.ref 114,.ref 115,.ref 116,.int 354 0,.int 104 0,.str (s "/claim/cut.py") 355] }),
 (118,zdQ (zcM 7 6) "Board.is_empty" "sgfmill.boards" 210 117),
 (124,{ cls:=.type "code",data:=Data.fields #[.str (s "get") 357,.str (s "Board.get") 358,.str (s "/claim/cut.py") 359,.int 107 0,.int 3 0,.int 0 0,.int 0 0,.int 3 0,.ref 119,.bool true,.int 181 0,.ref 120,.none,.ref 121,.ref 122,.ref 123,.int 363 0,.int 107 0,.str (s "/claim/cut.py") 364] }),
 (125,zdQ (zcM 7 7) "Board.get" "sgfmill.boards" 210 124),
 (129,{ cls:=.type "code",data:=Data.fields #[.str (s "play") 366,.str (s "Board.play") 367,.str (s "/claim/cut.py") 368,.int 112 0,.int 4 0,.int 0 0,.int 0 0,.int 3 0,.ref 126,.bool true,.int 181 0,.ref 127,.none,.none,.none,.ref 128,.int 369 0,.int 112 0,.str (s "/claim/cut.py") 370] }),
 (130,zdQ (zcM 7 8) "Board.play" "sgfmill.boards" 210 129),
 (136,{ cls:=.type "code",data:=Data.fields #[.str (s "apply_setup") 372,.str (s "Board.apply_setup") 373,.str (s "/claim/cut.py") 374,.int 138 0,.int 4 0,.int 0 0,.int 0 0,.int 3 0,.ref 131,.bool true,.int 181 0,.ref 132,.none,.ref 133,.ref 134,.ref 135,.int 379 0,.int 138 0,.str (s "/claim/cut.py") 380] }),
 (137,zdQ (zcM 7 9) "Board.apply_setup" "sgfmill.boards" 210 136),
 (143,{ cls:=.type "code",data:=Data.fields #[.str (s "list_occupied_points") 382,.str (s "Board.list_occupied_points") 383,.str (s "/claim/cut.py") 384,.int 141 0,.int 1 0,.int 0 0,.int 0 0,.int 3 0,.ref 138,.bool true,.int 181 0,.ref 139,.none,.ref 140,.ref 141,.ref 142,.int 390 0,.int 141 0,.str (s "/claim/cut.py") 391] }),
 (144,zdQ (zcM 7 10) "Board.list_occupied_points" "sgfmill.boards" 210 143),
 (150,{ cls:=.type "code",data:=Data.fields #[.str (s "area_score") 393,.str (s "Board.area_score") 394,.str (s "/claim/cut.py") 395,.int 149 0,.int 1 0,.int 0 0,.int 0 0,.int 3 0,.ref 145,.bool true,.int 181 0,.ref 146,.none,.ref 147,.ref 148,.ref 149,.int 405 0,.int 149 0,.str (s "/claim/cut.py") 406] }),
 (151,zdQ (zcM 7 11) "Board.area_score" "sgfmill.boards" 210 150),
 (153,{ cls:=.type "dict",data:=Data.dict #[{ hash:=kh P (s "__module__"),key:=.str (s "__module__") 268,val:=.str (s "sgfmill.boards") 210 },{ hash:=kh P (s "__firstlineno__"),key:=.str (s "__firstlineno__") 272,val:=.int 19 271 },{ hash:=kh P (s "__init__"),key:=.str (s "__init__") 278,val:=.ref 76 },{ hash:=kh P (s "copy"),key:=.str (s "copy") 285,val:=.ref 83 },{ hash:=kh P (s "_make_group"),key:=.str (s "_make_group") 306,val:=.ref 90 },{ hash:=kh P (s "_make_empty_region"),key:=.str (s "_make_empty_region") 326,val:=.ref 97 },{ hash:=kh P (s "_find_surrounded_groups"),key:=.str (s "_find_surrounded_groups") 342,val:=.ref 104 },{ hash:=kh P (s "_find_all_surrounded_groups"),key:=.str (s "_find_all_surrounded_groups") 349,val:=.ref 111 },{ hash:=kh P (s "is_empty"),key:=.str (s "is_empty") 356,val:=.ref 118 },{ hash:=kh P (s "get"),key:=.str (s "get") 365,val:=.ref 125 },{ hash:=kh P (s "play"),key:=.str (s "play") 371,val:=.ref 130 },{ hash:=kh P (s "apply_setup"),key:=.str (s "apply_setup") 381,val:=.ref 137 },{ hash:=kh P (s "list_occupied_points"),key:=.str (s "list_occupied_points") 392,val:=.ref 144 },{ hash:=kh P (s "area_score"),key:=.str (s "area_score") 407,val:=.ref 151 },{ hash:=kh P (s "__static_attributes__"),key:=.str (s "__static_attributes__") 412,val:=.ref 152 },{ hash:=kh P (s "__dict__"),key:=.str (s "__dict__") 414,val:=.ref 155 },{ hash:=kh P (s "__weakref__"),key:=.str (s "__weakref__") 416,val:=.ref 156 },{ hash:=kh P (s "__doc__"),key:=.str (s "__doc__") 417,val:=.none }] 4 }),
 (154,{ cls:=.type "type",data:=Data.cls { name:=s "Board",bases:=[.type "object"],mro:=[.ref 154,.type "object"],ns:=153,qualname:=s "Board" },slots:=#[none,none,some (.str (s "Board") 261),some (.str (s "Board") 269),some (Value.builtin "object.__new__"),some (.bool true)] }),
 (164,{ cls:=.type "code",data:=Data.fields #[.str (s "_law_near") 422,.str (s "_law_near") 423,.str (s "/claim/cut.py") 424,.int 168 0,.int 2 0,.int 0 0,.int 0 0,.int 3 0,.ref 159,.bool true,.int 181 0,.ref 160,.none,.ref 161,.ref 162,.ref 163,.int 428 0,.int 168 0,.str (s "/claim/cut.py") 429] }),
 (165,zdQ (zbZ 9) "_law_near" "law_md0058_04" 420 164),
 (169,{ cls:=.type "code",data:=Data.fields #[.str (s "_law_breathless") 431,.str (s "_law_breathless") 432,.str (s "/claim/cut.py") 433,.int 179 0,.int 2 0,.int 0 0,.int 0 0,.int 3 0,.ref 166,.bool true,.int 181 0,.ref 167,.none,.none,.none,.ref 168,.int 434 0,.int 179 0,.str (s "/claim/cut.py") 435] }),
 (170,zdQ (zbZ 10) "_law_breathless" "law_md0058_04" 420 169),
 (174,{ cls:=.type "code",data:=Data.fields #[.str (s "_law_move") 437,.str (s "_law_move") 438,.str (s "/claim/cut.py") 439,.int 189 0,.int 4 0,.int 0 0,.int 0 0,.int 3 0,.ref 171,.bool true,.int 181 0,.ref 172,.none,.none,.none,.ref 173,.int 440 0,.int 189 0,.str (s "/claim/cut.py") 441] }),
 (175,zdQ (zbZ 11) "_law_move" "law_md0058_04" 420 174),
 (181,{ cls:=.type "code",data:=Data.fields #[.str (s "_law_seen") 443,.str (s "_law_seen") 444,.str (s "/claim/cut.py") 445,.int 197 0,.int 3 0,.int 0 0,.int 0 0,.int 3 0,.ref 176,.bool true,.int 181 0,.ref 177,.none,.ref 178,.ref 179,.ref 180,.int 451 0,.int 197 0,.str (s "/claim/cut.py") 452] }),
 (182,zdQ (zbZ 12) "_law_seen" "law_md0058_04" 420 181),
 (188,{ cls:=.type "code",data:=Data.fields #[.str (s "_law_dyed") 454,.str (s "_law_dyed") 455,.str (s "/claim/cut.py") 456,.int 204 0,.int 2 0,.int 0 0,.int 0 0,.int 3 0,.ref 183,.bool true,.int 181 0,.ref 184,.none,.ref 185,.ref 186,.ref 187,.int 459 0,.int 204 0,.str (s "/claim/cut.py") 460] }),
 (189,zdQ (zbZ 13) "_law_dyed" "law_md0058_04" 420 188),
 (193,{ cls:=.type "code",data:=Data.fields #[.str (s "_law_reach") 462,.str (s "_law_reach") 463,.str (s "/claim/cut.py") 464,.int 206 0,.int 3 0,.int 0 0,.int 0 0,.int 3 0,.ref 190,.bool true,.int 181 0,.ref 191,.none,.none,.none,.ref 192,.int 465 0,.int 206 0,.str (s "/claim/cut.py") 466] }),
 (194,zdQ (zbZ 14) "_law_reach" "law_md0058_04" 420 193),
 (200,{ cls:=.type "code",data:=Data.fields #[.str (s "_law_told") 468,.str (s "_law_told") 469,.str (s "/claim/cut.py") 470,.int 213 0,.int 5 0,.int 0 0,.int 0 0,.int 3 0,.ref 195,.bool true,.int 181 0,.ref 196,.none,.ref 197,.ref 198,.ref 199,.int 478 0,.int 213 0,.str (s "/claim/cut.py") 479] }),
 (201,zdQ (zbZ 15) "_law_told" "law_md0058_04" 420 200),
 (205,{ cls:=.type "code",data:=Data.fields #[.str (s "_law_laid") 481,.str (s "_law_laid") 482,.str (s "/claim/cut.py") 483,.int 219 0,.int 4 0,.int 0 0,.int 0 0,.int 3 0,.ref 202,.bool true,.int 181 0,.ref 203,.none,.none,.none,.ref 204,.int 484 0,.int 219 0,.str (s "/claim/cut.py") 485] }),
 (206,zdQ (zbZ 16) "_law_laid" "law_md0058_04" 420 205),
 (210,{ cls:=.type "code",data:=Data.fields #[.str (s "_law_shows") 487,.str (s "_law_shows") 488,.str (s "/claim/cut.py") 489,.int 229 0,.int 4 0,.int 0 0,.int 0 0,.int 3 0,.ref 207,.bool true,.int 181 0,.ref 208,.none,.none,.none,.ref 209,.int 490 0,.int 229 0,.str (s "/claim/cut.py") 491] }),
 (211,zdQ (zbZ 17) "_law_shows" "law_md0058_04" 420 210),
 (215,{ cls:=.type "code",data:=Data.fields #[.str (s "law") 493,.str (s "law") 494,.str (s "/claim/cut.py") 495,.int 234 0,.int 1 0,.int 0 0,.int 0 0,.int 3 0,.ref 212,.bool true,.int 181 0,.ref 213,.none,.none,.none,.ref 214,.int 496 0,.int 234 0,.str (s "/claim/cut.py") 497] }),
 (216,zdQ (zbZ 18) "law" "law_md0058_04" 420 215)]
noncomputable def viewQ:Program:={ PySem.Challenge.rw_md0058_04.row.toRowW.prog with main:={ PySem.Challenge.rw_md0058_04.row.toRowW.prog.main with body:=[0,2,3,5,6,7,9,10,11,12,13,14,15,16,17,18].map zbZ } }
noncomputable abbrev hookK:Hook:=kHook heapK [2,3,20,21,22,28,29,38,39,56,57,59,60,75,76,82,83,89,90,96,97,103,104,110,111,117,118,124,125,129,130,136,137,143,144,150,151,153,154,164,165,169,170,174,175,181,182,188,189,193,194,200,201,205,206,210,211,215,216] (λ _=>by kernel_rfl)
noncomputable abbrev looseK:List Str:=["_opponents"]
noncomputable abbrev stepsK:Nat:=2994
noncomputable abbrev zcY:Nat:=29
noncomputable abbrev ziA:Stmt:=(zbZ 3)
noncomputable def ziC:FuncData:=zcG (zbZ 3) "opponent_of" "sgfmill.common" 194 28
noncomputable abbrev ztF:Nat:=57
noncomputable abbrev s_rinit:Stmt:=(zcM 6 0)
noncomputable def d_rinit:FuncData:=zcG (zcM 6 0) "_Region.__init__" "sgfmill.boards" 210 56
noncomputable abbrev a_init:Nat:=76
noncomputable abbrev s_init:Stmt:=(zcM 7 0)
noncomputable def d_init:FuncData:=zcG (zcM 7 0) "Board.__init__" "sgfmill.boards" 210 75
noncomputable abbrev zeZ:Nat:=90
noncomputable abbrev zjW:Stmt:=(zcM 7 2)
noncomputable def zjV:FuncData:=zcG (zcM 7 2) "Board._make_group" "sgfmill.boards" 210 89
noncomputable abbrev zbK:Nat:=97
noncomputable abbrev zeI:Stmt:=(zcM 7 3)
noncomputable def zeN:FuncData:=zcG (zcM 7 3) "Board._make_empty_region" "sgfmill.boards" 210 96
noncomputable abbrev zaR:Nat:=104
noncomputable abbrev zcP:Stmt:=(zcM 7 4)
noncomputable def zcQ:FuncData:=zcG (zcM 7 4) "Board._find_surrounded_groups" "sgfmill.boards" 210 103
noncomputable abbrev zhF:Nat:=118
noncomputable abbrev zoT:Stmt:=(zcM 7 6)
noncomputable def zoW:FuncData:=zcG (zcM 7 6) "Board.is_empty" "sgfmill.boards" 210 117
noncomputable abbrev zpA:Nat:=130
noncomputable abbrev s_play:Stmt:=(zcM 7 8)
noncomputable def d_play:FuncData:=zcG (zcM 7 8) "Board.play" "sgfmill.boards" 210 129
noncomputable abbrev zbA:Nat:=144
noncomputable abbrev zbX:Stmt:=(zcM 7 10)
noncomputable def zbV:FuncData:=zcG (zcM 7 10) "Board.list_occupied_points" "sgfmill.boards" 210 143
noncomputable abbrev zfA:Nat:=151
noncomputable abbrev zjS:Stmt:=(zcM 7 11)
noncomputable def zjK:FuncData:=zcG (zcM 7 11) "Board.area_score" "sgfmill.boards" 210 150
noncomputable abbrev zdG:Nat:=165
noncomputable abbrev zoO:Stmt:=(zbZ 9)
noncomputable def zoJ:FuncData:=zcG (zbZ 9) "_law_near" "law_md0058_04" 420 164
noncomputable abbrev zbB:Nat:=170
noncomputable abbrev zgE:Stmt:=(zbZ 10)
noncomputable def zgC:FuncData:=zcG (zbZ 10) "_law_breathless" "law_md0058_04" 420 169
noncomputable abbrev zeD:Nat:=175
noncomputable abbrev zpQ:Stmt:=(zbZ 11)
noncomputable def zoX:FuncData:=zcG (zbZ 11) "_law_move" "law_md0058_04" 420 174
noncomputable abbrev zcO:Nat:=182
noncomputable abbrev zoV:Stmt:=(zbZ 12)
noncomputable def zoN:FuncData:=zcG (zbZ 12) "_law_seen" "law_md0058_04" 420 181
noncomputable abbrev zeA:Nat:=189
noncomputable abbrev zoP:Stmt:=(zbZ 13)
noncomputable def znV:FuncData:=zcG (zbZ 13) "_law_dyed" "law_md0058_04" 420 188
noncomputable abbrev zdF:Nat:=194
noncomputable abbrev zkV:Stmt:=(zbZ 14)
noncomputable def zmL:FuncData:=zcG (zbZ 14) "_law_reach" "law_md0058_04" 420 193
noncomputable abbrev zdI:Nat:=201
noncomputable abbrev zoM:Stmt:=(zbZ 15)
noncomputable def zoZ:FuncData:=zcG (zbZ 15) "_law_told" "law_md0058_04" 420 200
noncomputable abbrev zcR:Nat:=206
noncomputable abbrev zpE:Stmt:=(zbZ 16)
noncomputable def zpO:FuncData:=zcG (zbZ 16) "_law_laid" "law_md0058_04" 420 205
noncomputable abbrev zcL:Nat:=211
noncomputable abbrev znF:Stmt:=(zbZ 17)
noncomputable def zkW:FuncData:=zcG (zbZ 17) "_law_shows" "law_md0058_04" 420 210
noncomputable abbrev a_law:Nat:=216
noncomputable abbrev s_law:Stmt:=(zbZ 18)
noncomputable def d_law:FuncData:=zcG (zbZ 18) "law" "law_md0058_04" 420 215
noncomputable abbrev zfX:Nat:=22
noncomputable abbrev zqP:Nat:=39
noncomputable abbrev zdJ:Nat:=60
noncomputable abbrev zfF:Nat:=154
noncomputable abbrev t_w:Nat:=197
noncomputable abbrev t_b:Nat:=199
noncomputable def ziM:List Str := "colour" :: []
noncomputable def ziB:IS:=
 (.seq (.try_ (.seq (.ret (.sub (.glob (.ref zfX)) (.var 0)))
  .skip)
 "KeyError" "KeyError"
 (.seq .dead .skip))
 .skip)
noncomputable def n_rinit:List Str := "self" :: []
noncomputable def i_rinit:IS:=
 (.seq (.assign (.attr (.var 0) "points") (.call (.ty "set") .nil))
 (.seq (.assign (.attr (.var 0) "neighbouring_colours") (.call (.ty "set") .nil))
 .skip))
noncomputable def n_init:List Str := "self" :: "side" :: "row" :: "_row" :: "_col" :: []
noncomputable def i_init:IS:=
 (.seq (.assign (.attr (.var 0) "side") (.var 1))
 (.seq (.ite (.cmp .Lt (.var 1) (.int 2))
 (.seq (.raise_ "ValueError" "ValueError")
  .skip)
 .skip)
 (.seq (.assign (.attr (.var 0) "board_points") (.compRR 3 4 (.call (.ty "range") (.cons (.var 1) .nil)) (.call (.ty "range") (.cons (.var 1) .nil)) .nil (.tup (.cons (.var 3) (.cons (.var 4) .nil)))))
 (.seq (.assign (.attr (.var 0) "board") (.list .nil))
 (.seq (.for_ (.var 2) (.call (.ty "range") (.cons (.var 1) .nil))
 (.seq (.expr (.meth (.attr (.var 0) "board") "append" (.cons (.bin .Mult (.list (.cons .none .nil)) (.var 1)) .nil)))
  .skip))
 (.seq (.assign (.attr (.var 0) "_is_empty") (.bool true))
 .skip))))))
noncomputable def zjX:List Str := "self" :: "row" :: "col" :: "colour" :: "points" :: "is_surrounded" :: "to_handle" :: "group" :: "point" :: "neighbour" :: "r" :: "c" :: "neigh_colour" :: "r1" :: "c1" :: []
noncomputable def zjI:IS:=
 (.seq (.assign (.var 4) (.call (.ty "set") .nil))
 (.seq (.assign (.var 5) (.bool true))
 (.seq (.assign (.var 6) (.call (.ty "set") .nil))
 (.seq (.expr (.meth (.var 6) "add" (.cons (.tup (.cons (.var 1) (.cons (.var 2) .nil))) .nil)))
 (.seq (.while_ (.var 6)
 (.seq (.assign (.var 8) (.meth (.var 6) "pop" .nil))
  (.seq (.expr (.meth (.var 4) "add" (.cons (.var 8) .nil)))
  (.seq (.assign (.tup (.cons (.var 10) (.cons (.var 11) .nil))) (.var 8))
  (.seq (.for_ (.var 9) (.list (.cons (.tup (.cons (.bin .Sub (.var 10) (.int 1)) (.cons (.var 11) .nil))) (.cons (.tup (.cons (.bin .Add (.var 10) (.int 1)) (.cons (.var 11) .nil))) (.cons (.tup (.cons (.var 10) (.cons (.bin .Sub (.var 11) (.int 1)) .nil))) (.cons (.tup (.cons (.var 10) (.cons (.bin .Add (.var 11) (.int 1)) .nil))) .nil)))))
  (.seq (.assign (.tup (.cons (.var 13) (.cons (.var 14) .nil))) (.var 9))
   (.seq (.ite (.un .Not (.boolop .And (.cons (.cmp2 .LtE .Lt (.int 0) (.var 13) (.attr (.var 0) "side")) (.cons (.cmp2 .LtE .Lt (.int 0) (.var 14) (.attr (.var 0) "side")) .nil))))
   (.seq .cont
    .skip)
   .skip)
   (.seq (.assign (.var 12) (.sub (.sub (.attr (.var 0) "board") (.var 13)) (.var 14)))
   (.seq (.ite (.cmp .Is (.var 12) .none)
   (.seq (.assign (.var 5) (.bool false))
    .skip)
   (.seq (.ite (.cmp .Eq (.var 12) (.var 3))
    (.seq (.ite (.cmp .NotIn (.var 9) (.var 4))
     (.seq (.expr (.meth (.var 6) "add" (.cons (.var 9) .nil)))
      .skip)
     .skip)
     .skip)
    .skip)
    .skip))
   .skip)))))
  .skip)))))
 (.seq (.assign (.var 7) (.call (.ref zqP) .nil))
 (.seq (.assign (.attr (.var 7) "colour") (.var 3))
 (.seq (.assign (.attr (.var 7) "points") (.var 4))
 (.seq (.assign (.attr (.var 7) "is_surrounded") (.var 5))
 (.seq (.ret (.var 7))
 .skip))))))))))
noncomputable def zeJ:List Str := "self" :: "row" :: "col" :: "points" :: "neighbouring_colours" :: "to_handle" :: "region" :: "point" :: "neighbour" :: "r" :: "c" :: "neigh_colour" :: "r1" :: "c1" :: []
noncomputable def zeQ:IS:=
 (.seq (.assign (.var 3) (.call (.ty "set") .nil))
 (.seq (.assign (.var 4) (.call (.ty "set") .nil))
 (.seq (.assign (.var 5) (.call (.ty "set") .nil))
 (.seq (.expr (.meth (.var 5) "add" (.cons (.tup (.cons (.var 1) (.cons (.var 2) .nil))) .nil)))
 (.seq (.while_ (.var 5)
 (.seq (.assign (.var 7) (.meth (.var 5) "pop" .nil))
  (.seq (.expr (.meth (.var 3) "add" (.cons (.var 7) .nil)))
  (.seq (.assign (.tup (.cons (.var 9) (.cons (.var 10) .nil))) (.var 7))
  (.seq (.for_ (.var 8) (.list (.cons (.tup (.cons (.bin .Sub (.var 9) (.int 1)) (.cons (.var 10) .nil))) (.cons (.tup (.cons (.bin .Add (.var 9) (.int 1)) (.cons (.var 10) .nil))) (.cons (.tup (.cons (.var 9) (.cons (.bin .Sub (.var 10) (.int 1)) .nil))) (.cons (.tup (.cons (.var 9) (.cons (.bin .Add (.var 10) (.int 1)) .nil))) .nil)))))
  (.seq (.assign (.tup (.cons (.var 12) (.cons (.var 13) .nil))) (.var 8))
   (.seq (.ite (.un .Not (.boolop .And (.cons (.cmp2 .LtE .Lt (.int 0) (.var 12) (.attr (.var 0) "side")) (.cons (.cmp2 .LtE .Lt (.int 0) (.var 13) (.attr (.var 0) "side")) .nil))))
   (.seq .cont
    .skip)
   .skip)
   (.seq (.assign (.var 11) (.sub (.sub (.attr (.var 0) "board") (.var 12)) (.var 13)))
   (.seq (.ite (.cmp .Is (.var 11) .none)
   (.seq (.ite (.cmp .NotIn (.var 8) (.var 3))
    (.seq (.expr (.meth (.var 5) "add" (.cons (.var 8) .nil)))
     .skip)
    .skip)
    .skip)
   (.seq (.expr (.meth (.var 4) "add" (.cons (.var 11) .nil)))
    .skip))
   .skip)))))
  .skip)))))
 (.seq (.assign (.var 6) (.call (.ref zdJ) .nil))
 (.seq (.assign (.attr (.var 6) "points") (.var 3))
 (.seq (.assign (.attr (.var 6) "neighbouring_colours") (.var 4))
 (.seq (.ret (.var 6))
 .skip)))))))))
noncomputable def zcN:List Str := "self" :: "r" :: "c" :: "surrounded" :: "handled" :: "row" :: "col" :: "colour" :: "point" :: "group" :: []
noncomputable def zcT:IS:=
 (.seq (.assign (.var 3) (.list .nil))
 (.seq (.assign (.var 4) (.call (.ty "set") .nil))
 (.seq (.for_ (.tup (.cons (.var 5) (.cons (.var 6) .nil))) (.list (.cons (.tup (.cons (.var 1) (.cons (.var 2) .nil))) (.cons (.tup (.cons (.bin .Sub (.var 1) (.int 1)) (.cons (.var 2) .nil))) (.cons (.tup (.cons (.bin .Add (.var 1) (.int 1)) (.cons (.var 2) .nil))) (.cons (.tup (.cons (.var 1) (.cons (.bin .Sub (.var 2) (.int 1)) .nil))) (.cons (.tup (.cons (.var 1) (.cons (.bin .Add (.var 2) (.int 1)) .nil))) .nil))))))
 (.seq (.ite (.un .Not (.boolop .And (.cons (.cmp2 .LtE .Lt (.int 0) (.var 5) (.attr (.var 0) "side")) (.cons (.cmp2 .LtE .Lt (.int 0) (.var 6) (.attr (.var 0) "side")) .nil))))
  (.seq .cont
   .skip)
  .skip)
  (.seq (.assign (.var 7) (.sub (.sub (.attr (.var 0) "board") (.var 5)) (.var 6)))
  (.seq (.ite (.cmp .Is (.var 7) .none)
  (.seq .cont
   .skip)
  .skip)
  (.seq (.assign (.var 8) (.tup (.cons (.var 5) (.cons (.var 6) .nil))))
  (.seq (.ite (.cmp .In (.var 8) (.var 4))
  (.seq .cont
   .skip)
  .skip)
  (.seq (.assign (.var 9) (.meth (.var 0) "_make_group" (.cons (.var 5) (.cons (.var 6) (.cons (.var 7) .nil)))))
  (.seq (.ite (.attr (.var 9) "is_surrounded")
  (.seq (.expr (.meth (.var 3) "append" (.cons (.var 9) .nil)))
   .skip)
  .skip)
  (.seq (.expr (.meth (.var 4) "update" (.cons (.attr (.var 9) "points") .nil)))
  .skip)))))))))
 (.seq (.ret (.var 3))
 .skip))))
noncomputable def zoD:List Str := "self" :: []
noncomputable def zpR:IS:=
 (.seq (.ret (.attr (.var 0) "_is_empty"))
 .skip)
noncomputable def n_play:List Str := "self" :: "row" :: "col" :: "colour" :: "opponent" :: "surrounded" :: "simple_ko_point" :: "group" :: "to_capture" :: "self_capture" :: "r" :: "c" :: []
noncomputable def i_play:IS:=
 (.seq (.ite (.boolop .Or (.cons (.cmp .Lt (.var 1) (.int 0)) (.cons (.cmp .Lt (.var 2) (.int 0)) .nil)))
 (.seq (.raise_ "IndexError" "IndexError")
  .skip)
 .skip)
 (.seq (.assign (.var 4) (.call (.ref zcY) (.cons (.var 3) .nil)))
 (.seq (.ite (.cmp .IsNot (.sub (.sub (.attr (.var 0) "board") (.var 1)) (.var 2)) .none)
 (.seq (.raise_ "ValueError" "ValueError")
  .skip)
 .skip)
 (.seq (.assign (.sub (.sub (.attr (.var 0) "board") (.var 1)) (.var 2)) (.var 3))
 (.seq (.assign (.attr (.var 0) "_is_empty") (.bool false))
 (.seq (.assign (.var 5) (.meth (.var 0) "_find_surrounded_groups" (.cons (.var 1) (.cons (.var 2) .nil))))
 (.seq (.assign (.var 6) .none)
 (.seq (.ite (.var 5)
 (.seq (.cut (.ite (.cmp .Eq (.call (.bi "len") (.cons (.var 5) .nil)) (.int 1))
  (.seq (.assign (.var 8) (.var 5))
   (.seq (.ite (.cmp .Eq (.call (.bi "len") (.cons (.attr (.sub (.var 8) (.int 0)) "points") .nil)) (.bin .Mult (.attr (.var 0) "side") (.attr (.var 0) "side")))
   (.seq (.assign (.attr (.var 0) "_is_empty") (.bool true))
    .skip)
   .skip)
   .skip))
  (.seq (.assignC 8 (.comp (.one 7) (.var 5) (.cons (.cmp .Eq (.attr (.var 7) "colour") (.var 4)) .nil) (.var 7)))
   (.seq (.ite (.boolop .And (.cons (.cmp .Eq (.call (.bi "len") (.cons (.var 8) .nil)) (.int 1)) (.cons (.cmp .Eq (.call (.bi "len") (.cons (.attr (.sub (.var 8) (.int 0)) "points") .nil)) (.int 1)) .nil)))
   (.seq (.assignC 9 (.comp (.one 7) (.var 5) (.cons (.cmp .Eq (.attr (.var 7) "colour") (.var 3)) .nil) (.var 7)))
    (.seq (.ite (.cmp .Eq (.call (.bi "len") (.cons (.attr (.sub (.var 9) (.int 0)) "points") .nil)) (.int 1))
    (.seq (.assign (.tupS (.var 6)) (.attr (.sub (.var 8) (.int 0)) "points"))
     .skip)
    .skip)
    .skip))
   .skip)
   .skip))))
  (.seq (.for_ (.var 7) (.var 8)
  (.seq (.for_ (.tup (.cons (.var 10) (.cons (.var 11) .nil))) (.attr (.var 7) "points")
   (.seq (.assign (.sub (.sub (.attr (.var 0) "board") (.var 10)) (.var 11)) .none)
    .skip))
   .skip))
  .skip))
 .skip)
 (.seq (.ret (.var 6))
 .skip)))))))))
noncomputable def zbU:List Str := "self" :: "result" :: "row" :: "col" :: "colour" :: []
noncomputable def zbW:IS:=
 (.seq (.assign (.var 1) (.list .nil))
 (.seq (.for_ (.tup (.cons (.var 2) (.cons (.var 3) .nil))) (.attr (.var 0) "board_points")
 (.seq (.assign (.var 4) (.sub (.sub (.attr (.var 0) "board") (.var 2)) (.var 3)))
  (.seq (.ite (.cmp .IsNot (.var 4) .none)
  (.seq (.expr (.meth (.var 1) "append" (.cons (.tup (.cons (.var 4) (.cons (.tup (.cons (.var 2) (.cons (.var 3) .nil))) .nil))) .nil)))
   .skip)
  .skip)
  .skip)))
 (.seq (.ret (.var 1))
 .skip)))
noncomputable def zjJ:List Str := "self" :: "scores" :: "handled" :: "row" :: "col" :: "colour" :: "point" :: "region" :: "region_size" :: []
noncomputable def zjU:IS:=
 (.seq (.assign (.var 1) (.bw0 0 0))
 (.seq (.assign (.var 2) (.call (.ty "set") .nil))
 (.seq (.for_ (.tup (.cons (.var 3) (.cons (.var 4) .nil))) (.attr (.var 0) "board_points")
 (.seq (.assign (.var 5) (.sub (.sub (.attr (.var 0) "board") (.var 3)) (.var 4)))
  (.seq (.ite (.cmp .IsNot (.var 5) .none)
  (.seq (.augS (.var 1) (.var 5) .Add (.int 1))
   (.seq .cont
   .skip))
  .skip)
  (.seq (.assign (.var 6) (.tup (.cons (.var 3) (.cons (.var 4) .nil))))
  (.seq (.ite (.cmp .In (.var 6) (.var 2))
  (.seq .cont
   .skip)
  .skip)
  (.seq (.assign (.var 7) (.meth (.var 0) "_make_empty_region" (.cons (.var 3) (.cons (.var 4) .nil))))
  (.seq (.assign (.var 8) (.call (.bi "len") (.cons (.attr (.var 7) "points") .nil)))
  (.seq (.for_ (.var 5) (.tup (.cons (.str "b") (.cons (.str "w") .nil)))
  (.seq (.ite (.cmp .In (.var 5) (.attr (.var 7) "neighbouring_colours"))
   (.seq (.augS (.var 1) (.var 5) .Add (.var 8))
    .skip)
   .skip)
   .skip))
  (.seq (.expr (.meth (.var 2) "update" (.cons (.attr (.var 7) "points") .nil)))
  .skip)))))))))
 (.seq (.ret (.bin .Sub (.sub (.var 1) (.str "b")) (.sub (.var 1) (.str "w"))))
 .skip))))
noncomputable def zoE:List Str := "spot" :: "side" :: "out" :: []
noncomputable def zoH:IS:=
 (.seq (.assign (.var 2) (.list .nil))
 (.seq (.cut (.ite (.cmp .GtE (.var 0) (.var 1))
 (.seq (.expr (.meth (.var 2) "append" (.cons (.bin .Sub (.var 0) (.var 1)) .nil)))
  .skip)
 .skip))
 (.seq (.cut (.ite (.cmp .Lt (.var 0) (.bin .Sub (.bin .Mult (.var 1) (.var 1)) (.var 1)))
 (.seq (.expr (.meth (.var 2) "append" (.cons (.bin .Add (.var 0) (.var 1)) .nil)))
  .skip)
 .skip))
 (.seq (.cut (.ite (.cmp .Gt (.bin .Mod (.var 0) (.var 1)) (.int 0))
 (.seq (.expr (.meth (.var 2) "append" (.cons (.bin .Sub (.var 0) (.int 1)) .nil)))
  .skip)
 .skip))
 (.seq (.cut (.ite (.cmp .Lt (.bin .Mod (.var 0) (.var 1)) (.bin .Sub (.var 1) (.int 1)))
 (.seq (.expr (.meth (.var 2) "append" (.cons (.bin .Add (.var 0) (.int 1)) .nil)))
  .skip)
 .skip))
 (.seq (.ret (.var 2))
 .skip))))))
noncomputable def zgD:List Str := "cells" :: "side" :: "living" :: "spot" :: "by" :: []
noncomputable def zgB:IS:=
 (.seq (.assign (.var 2) (.list .nil))
 (.seq (.for_ (.var 3) (.call (.ty "range") (.cons (.bin .Mult (.var 1) (.var 1)) .nil))
 (.seq (.ite (.boolop .And (.cons (.cmp .IsNot (.sub (.var 0) (.var 3)) .none) (.cons (.cmp .In .none (.comp (.one 4) (.call (.ref zdG) (.cons (.var 3) (.cons (.var 1) .nil))) .nil (.sub (.var 0) (.var 4)))) .nil)))
  (.seq (.expr (.meth (.var 2) "append" (.cons (.var 3) .nil)))
   .skip)
  .skip)
  .skip))
 (.seq (.for_ (.var 3) (.var 2)
 (.seq (.for_ (.var 4) (.call (.ref zdG) (.cons (.var 3) (.cons (.var 1) .nil)))
  (.seq (.ite (.boolop .And (.cons (.cmp .Eq (.sub (.var 0) (.var 4)) (.sub (.var 0) (.var 3))) (.cons (.cmp .NotIn (.var 4) (.var 2)) .nil)))
   (.seq (.expr (.meth (.var 2) "append" (.cons (.var 4) .nil)))
    .skip)
   .skip)
   .skip))
  .skip))
 (.seq (.ret (.comp (.one 3) (.call (.ty "range") (.cons (.bin .Mult (.var 1) (.var 1)) .nil)) (.cons (.boolop .And (.cons (.cmp .IsNot (.sub (.var 0) (.var 3)) .none) (.cons (.cmp .NotIn (.var 3) (.var 2)) .nil))) .nil) (.var 3)))
 .skip))))
noncomputable def znW:List Str := "cells" :: "side" :: "spot" :: "colour" :: "laid" :: "dead" :: "taken" :: "gone" :: "after" :: "ko" :: "one" :: []
noncomputable def zpB:IS:=
 (.seq (.assign (.var 4) (.bin .Add (.bin .Add (.slice (.var 0) .none (.var 2)) (.list (.cons (.var 3) .nil))) (.slice (.var 0) (.bin .Add (.var 2) (.int 1)) .none)))
 (.seq (.assign (.var 5) (.call (.ref zbB) (.cons (.var 4) (.cons (.var 1) .nil))))
 (.seq (.assignC 6 (.comp (.one 10) (.var 5) (.cons (.cmp .NotEq (.sub (.var 4) (.var 10)) (.var 3)) .nil) (.var 10)))
 (.seq (.assign (.var 7) (.ife (.var 6) (.var 6) (.var 5)))
 (.seq (.assignC 8 (.comp (.one 10) (.call (.ty "range") (.cons (.bin .Mult (.var 1) (.var 1)) .nil)) .nil (.ife (.cmp .In (.var 10) (.var 7)) .none (.sub (.var 4) (.var 10)))))
 (.seq (.assign (.var 9) (.ife (.boolop .And (.cons (.cmp .Eq (.call (.bi "len") (.cons (.var 6) .nil)) (.int 1)) (.cons (.cmp .Eq (.call (.bi "len") (.cons (.var 5) .nil)) (.int 2)) .nil))) (.sub (.var 6) (.int 0)) .none))
 (.seq (.ret (.tup (.cons (.var 8) (.cons (.var 9) .nil))))
 .skip)))))))
noncomputable def zpC:List Str := "spot" :: "side" :: "view" :: "row" :: "col" :: []
noncomputable def zpJ:IS:=
 (.seq (.swap 3 4 (.tup (.cons (.bin .FloorDiv (.var 0) (.var 1)) (.cons (.bin .Mod (.var 0) (.var 1)) .nil))))
 (.seq (.cut (.ite (.bin .Mod (.var 2) (.int 2))
 (.seq (.assign (.var 3) (.bin .Sub (.bin .Sub (.var 1) (.int 1)) (.var 3)))
  .skip)
 .skip))
 (.seq (.cut (.ite (.bin .Mod (.bin .FloorDiv (.var 2) (.int 2)) (.int 2))
 (.seq (.assign (.var 4) (.bin .Sub (.bin .Sub (.var 1) (.int 1)) (.var 4)))
  .skip)
 .skip))
 (.seq (.ret (.ife (.bin .Mod (.bin .FloorDiv (.var 2) (.int 4)) (.int 2)) (.tup (.cons (.var 4) (.cons (.var 3) .nil))) (.tup (.cons (.var 3) (.cons (.var 4) .nil)))))
 .skip))))
noncomputable def zpL:List Str := "colour" :: "view" :: []
noncomputable def zoF:IS:=
 (.seq (.ret (.sub (.str "bw") (.bin .Mod (.bin .Add (.meth (.str "bw") "index" (.cons (.var 0) .nil)) (.bin .FloorDiv (.var 1) (.int 8))) (.int 2))))
 .skip)
noncomputable def zkX:List Str := "cells" :: "side" :: "colour" :: "held" :: "spot" :: "by" :: []
noncomputable def zmT:IS:=
 (.seq (.assignC 3 (.comp (.one 4) (.call (.ty "range") (.cons (.bin .Mult (.var 1) (.var 1)) .nil)) (.cons (.cmp .Eq (.sub (.var 0) (.var 4)) (.var 2)) .nil) (.var 4)))
 (.seq (.for_ (.var 4) (.var 3)
 (.seq (.for_ (.var 5) (.call (.ref zdG) (.cons (.var 4) (.cons (.var 1) .nil)))
  (.seq (.ite (.boolop .And (.cons (.cmp .Is (.sub (.var 0) (.var 5)) .none) (.cons (.cmp .NotIn (.var 5) (.var 3)) .nil)))
   (.seq (.expr (.meth (.var 3) "append" (.cons (.var 5) .nil)))
    .skip)
   .skip)
   .skip))
  .skip))
 (.seq (.ret (.call (.bi "len") (.cons (.var 3) .nil)))
 .skip)))
noncomputable def znY:List Str := "board" :: "side" :: "view" :: "spot" :: "colour" :: "row" :: "col" :: []
noncomputable def zoI:IS:=
 (.seq (.assign (.tup (.cons (.var 5) (.cons (.var 6) .nil))) (.call (.ref zcO) (.cons (.var 3) (.cons (.var 1) (.cons (.var 2) .nil)))))
 (.seq (.try_ (.seq (.ret (.meth (.var 0) "play" (.cons (.var 5) (.cons (.var 6) (.cons (.call (.ref zeA) (.cons (.var 4) (.cons (.var 2) .nil))) .nil)))))
  .skip)
 "ValueError" "ValueError"
 (.seq (.ret (.str "taken"))
  .skip))
 .skip))
noncomputable def zoU:List Str := "cells" :: "side" :: "view" :: "order" :: "board" :: "rest" :: "spot" :: "one" :: []
noncomputable def znZ:IS:=
 (.seq (.assign (.var 4) (.call (.ref zfF) (.cons (.var 1) .nil)))
 (.seq (.assignC 5 (.comp (.one 6) (.call (.ty "range") (.cons (.bin .Mult (.var 1) (.var 1)) .nil)) (.cons (.cmp .IsNot (.sub (.var 0) (.var 6)) .none) .nil) (.var 6)))
 (.seq (.while_ (.var 5)
 (.seq (.assign (.var 6) (.sub (.var 5) (.bin .Mod (.var 3) (.call (.bi "len") (.cons (.var 5) .nil)))))
  (.seq (.assign (.var 3) (.bin .FloorDiv (.var 3) (.call (.bi "len") (.cons (.var 5) .nil))))
  (.seq (.assignC 5 (.comp (.one 7) (.var 5) (.cons (.cmp .NotEq (.var 7) (.var 6)) .nil) (.var 7)))
  (.seq (.ite (.cmp .IsNot (.call (.ref zdI) (.cons (.var 4) (.cons (.var 1) (.cons (.var 2) (.cons (.var 6) (.cons (.sub (.var 0) (.var 6)) .nil)))))) .none)
  (.seq (.ret .none)
   .skip)
  .skip)
  .skip)))))
 (.seq (.ret (.var 4))
 .skip))))
noncomputable def zmY:List Str := "board" :: "cells" :: "side" :: "view" :: "stones" :: "spot" :: "point" :: "colour" :: []
noncomputable def zmK:IS:=
 (.seq (.assign (.var 4) (.call (.bi "sorted") (.cons (.comp (.one 5) (.call (.ty "range") (.cons (.bin .Mult (.var 2) (.var 2)) .nil)) (.cons (.cmp .IsNot (.sub (.var 1) (.var 5)) .none) .nil) (.tup (.cons (.call (.ref zcO) (.cons (.var 5) (.cons (.var 2) (.cons (.var 3) .nil)))) (.cons (.call (.ref zeA) (.cons (.sub (.var 1) (.var 5)) (.cons (.var 3) .nil))) .nil)))) .nil)))
 (.seq (.ite (.cmp .NotEq (.meth (.var 0) "is_empty" .nil) (.cmp .Eq (.var 4) (.list .nil)))
 (.seq (.ret (.bool false))
  .skip)
 .skip)
 (.seq (.ret (.cmp .Eq (.meth (.var 0) "list_occupied_points" .nil) (.comp (.many [6,7]) (.var 4) .nil (.tup (.cons (.var 7) (.cons (.var 6) .nil))))))
 .skip)))
noncomputable def n_law:List Str := "script" :: "numbers" :: "side" :: "size" :: "drawn" :: "cells" :: "dead" :: "view" :: "first" :: "second" :: "number" :: "score" :: "kind" :: "rest" :: "spot" :: "colour" :: "due" :: "ko" :: "one" :: []
noncomputable def i_te:IS:=
 (.seq (.assign (.var 11) (.bin .Sub (.call (.ref zdF) (.cons (.var 5) (.cons (.var 2) (.cons (.str "b") .nil)))) (.call (.ref zdF) (.cons (.var 5) (.cons (.var 2) (.cons (.str "w") .nil))))))
 (.seq (.ret (.cmp .Eq (.list (.cons (.meth (.var 8) "area_score" .nil) (.cons (.meth (.var 9) "area_score" .nil) .nil))) (.list (.cons (.var 11) (.cons (.ife (.cmp .Lt (.var 7) (.int 8)) (.var 11) (.un .USub (.var 11))) .nil)))))
 .skip))
noncomputable def i_t3:IS:=
 (.seq (.ite (.cmp .NotEq (.list (.cons (.call (.ref zdI) (.cons (.var 8) (.cons (.var 2) (.cons (.int 0) (.cons (.var 14) (.cons (.var 15) .nil)))))) (.cons (.call (.ref zdI) (.cons (.var 9) (.cons (.var 2) (.cons (.var 7) (.cons (.var 14) (.cons (.var 15) .nil)))))) .nil))) (.var 16))
   (.seq (.ret (.bool false))
    .skip)
   .skip)
   (.seq (.ite (.boolop .Or (.cons (.un .Not (.call (.ref zcL) (.cons (.var 8) (.cons (.var 5) (.cons (.var 2) (.cons (.int 0) .nil)))))) (.cons (.un .Not (.call (.ref zcL) (.cons (.var 9) (.cons (.var 5) (.cons (.var 2) (.cons (.var 7) .nil)))))) .nil)))
   (.seq (.ret (.bool false))
    .skip)
   .skip)
   .skip))
noncomputable def i_t2:IS:=
 (.seq (.assign (.var 16) (.list (.cons (.str "taken") (.cons (.str "taken") .nil))))
   (.seq (.cut (.ite (.cmp .Is (.sub (.var 5) (.var 14)) .none)
   (.seq (.assign (.tup (.cons (.var 5) (.cons (.var 17) .nil))) (.call (.ref zeD) (.cons (.var 5) (.cons (.var 2) (.cons (.var 14) (.cons (.var 15) .nil))))))
    (.seq (.assign (.var 16) (.ife (.cmp .Is (.var 17) .none) (.list (.cons .none (.cons .none .nil))) (.list (.cons (.call (.ref zcO) (.cons (.var 17) (.cons (.var 2) (.cons (.int 0) .nil)))) (.cons (.call (.ref zcO) (.cons (.var 17) (.cons (.var 2) (.cons (.var 7) .nil)))) .nil)))))
    .skip))
   .skip))
   i_t3))
noncomputable def i_turn:IS:=
 (.seq (.ite (.boolop .Or (.cons (.cmp .Is (.var 8) .none) (.cons (.cmp .Is (.var 9) .none) .nil)))
  (.seq (.ret (.bool false))
   .skip)
  .skip)
  (.seq (.assign (.var 12) (.bin .Mod (.var 10) (.int 8)))
  (.seq (.assign (.var 13) (.bin .Mod (.bin .FloorDiv (.var 10) (.int 8)) (.bin .Pow (.int 16) (.int 13))))
  (.seq (.ite (.cmp .Lt (.var 12) (.int 6))
  (.seq (.assign (.var 15) (.sub (.str "bw") (.bin .Mod (.var 13) (.int 2))))
   (.seq (.assign (.var 14) (.bin .Mod (.bin .FloorDiv (.var 13) (.int 2)) (.var 3)))
   (.seq (.cut (.ite (.cmp .Gt (.var 12) (.int 3))
   (.seq (.assign (.var 14) (.sub (.comp (.one 18) (.call (.ty "range") (.cons (.var 14) (.cons (.bin .Add (.var 14) (.var 3)) .nil))) (.cons (.cmp .Is (.sub (.var 5) (.bin .Mod (.var 18) (.var 3))) .none) .nil) (.bin .Mod (.var 18) (.var 3))) (.int 0)))
    .skip)
   .skip))
   i_t2)))
  (.seq (.ite (.cmp .Eq (.var 12) (.int 6))
   (.seq (.assign (.var 7) (.bin .Mod (.var 13) (.int 16)))
    (.seq (.assign (.var 9) (.call (.ref zcR) (.cons (.var 5) (.cons (.var 2) (.cons (.var 7) (.cons (.bin .FloorDiv (.var 13) (.int 16)) .nil))))))
    .skip))
   (.seq (.assign (.var 8) (.call (.ref zcR) (.cons (.var 5) (.cons (.var 2) (.cons (.int 0) (.cons (.var 13) .nil))))))
    .skip))
   .skip))
  .skip))))
noncomputable def i_td:IS:=
 (.seq (.for_ (.var 10) (.bin .Add (.slice (.var 0) (.int 3) (.int 9)) (.list (.cons (.int 4) .nil)))
 i_turn)
 i_te)
noncomputable def i_tc:IS:=
 (.seq (.assign (.var 7) (.bin .Mod (.bin .Add (.sub (.var 1) (.int 2)) (.int 9)) (.int 16)))
 (.seq (.assign (.var 8) (.call (.ref zcR) (.cons (.var 5) (.cons (.var 2) (.cons (.int 0) (.cons (.int 0) .nil))))))
 (.seq (.assign (.var 9) (.call (.ref zcR) (.cons (.var 5) (.cons (.var 2) (.cons (.var 7) (.cons (.bin .Mod (.bin .FloorDiv (.sub (.var 1) (.int 2)) (.int 16)) (.bin .Pow (.int 16) (.int 12))) .nil))))))
 i_td)))
noncomputable def i_tb:IS:=
 (.seq (.assign (.var 6) (.call (.ref zbB) (.cons (.var 5) (.cons (.var 2) .nil))))
 (.seq (.assign (.var 5) (.comp (.one 14) (.call (.ty "range") (.cons (.var 3) .nil)) .nil (.ife (.cmp .In (.var 14) (.var 6)) .none (.sub (.var 5) (.var 14)))))
 i_tc))
noncomputable def i_ta:IS:=
 (.seq (.assign (.var 5) (.comp (.one 14) (.call (.ty "range") (.cons (.var 3) .nil)) .nil (.sub (.list (.cons .none (.cons (.str "b") (.cons (.str "w") .nil)))) (.bin .Mod (.bin .FloorDiv (.var 4) (.bin .Pow (.int 3) (.var 14))) (.int 3)))))
 i_tb)
noncomputable def i_law:IS:=
 (.seq (.assign (.var 1) (.bin .Add (.slice (.var 0) .none (.int 3)) (.list (.cons (.int 0) (.cons (.int 0) (.cons (.int 0) .nil))))))
 (.seq (.assign (.var 2) (.bin .Add (.bin .Mod (.sub (.var 1) (.int 0)) (.int 3)) (.int 2)))
 (.seq (.assign (.var 3) (.bin .Mult (.var 2) (.var 2)))
 (.seq (.assign (.var 4) (.bin .Mod (.sub (.var 1) (.int 1)) (.bin .Pow (.int 3) (.var 3))))
 i_ta))))
noncomputable def gAll:GT:=[("KeyError",.ty "KeyError",false),("_opponents",.ref zfX,false),("set",.ty "set",true),("range",.ty "range",true),("ValueError",.ty "ValueError",false),("_Group",.ref zqP,true),("_Region",.ref zdJ,true),("len",.bi "len",true),("opponent_of",.ref zcY,true),("IndexError",.ty "IndexError",false),("_law_near",.ref zdG,true),("_law_breathless",.ref zbB,true),("_law_dyed",.ref zeA,true),("_law_seen",.ref zcO,true),("_law_told",.ref zdI,true),("Board",.ref zfF,true),("sorted",.bi "sorted",true),("_law_reach",.ref zdF,true),("_law_shows",.ref zcL,true),("_law_move",.ref zeD,true),("_law_laid",.ref zcR,true)]
structure L1 (C:Cx):Prop where
 K:C.K=heapK C.w.params
 miss:∀ x∈(["IndexError", "KeyError", "ValueError", "len", "range", "set", "sorted"]:List Str),C.mg x=none
theorem L1.fd {C:Cx}(h:L1 C){a:Addr}{x:Str}{v}(e:findIn (heapK C.w.params) (.ref a) x=v):findIn C.K (.ref a) x=v:=by rw[h.K];exact e
theorem L1.ft {C:Cx}(h:L1 C){a:Addr}{v}(e:typeIn (heapK C.w.params) (.ref a)=v):typeIn C.K (.ref a)=v:=by rw[h.K];exact e
theorem L1.cal {C:Cx}(h:L1 C){g:PV}(e:zgL (heapK C.w.params) g=true):zgL C.K g=true:=by rw[h.K];exact e
theorem L1.mks {C:Cx}(h:L1 C){a:Addr}(e:makesIn (heapK C.w.params) a=true):makesIn C.K a=true:=by rw[h.K];exact e
theorem L1.ref {C:Cx}(h:L1 C){x:Str}{a:Addr}{c:Bool}(e:nsIn (heapK C.w.params) mainGlobals x=some (some (.ref a)))(hc:c=true->zgL (heapK C.w.params) (.ref a)=true):GOk1 C x (.ref a) c:=⟨λ q=>h.cal (hc q),by rw[h.K];exact e⟩
theorem L1.ty {C:Cx}(h:L1 C){x:Str}{n:String}{c:Bool}(e:bootBuiltins x=some (.type n))(hm:x∈(["IndexError", "KeyError", "ValueError", "len", "range", "set", "sorted"]:List Str)):GOk1 C x (.ty n) c:=⟨λ _=>rfl,h.miss x hm,e⟩
theorem L1.bi {C:Cx}(h:L1 C){x:Str}{n:String}{c:Bool}(e:bootBuiltins x=some (.builtin n))(hm:x∈(["IndexError", "KeyError", "ValueError", "len", "range", "set", "sorted"]:List Str)):GOk1 C x (.bi n) c:=⟨λ _=>rfl,h.miss x hm,e⟩
theorem GOk.nil {C:Cx}:GOk C []:=λ _ h=>by cases h
theorem GOk.cons {C:Cx}{x:Str}{p:PV}{c:Bool}{G:GT}(h:GOk1 C x p c)(t:GOk C G):GOk C ((x,p,c)::G):=λ e he=>by
 rcases List.mem_cons.mp he with rfl|he
 ·exact h
 ·exact t e he
theorem L1.go {C:Cx}(h:L1 C):GOk C gAll:=(GOk.cons (h.ty PyProof.Rows.Boot.«KeyError» (by decide +kernel)) (GOk.cons (h.ref (by kernel_rfl) (λ q=>by cases q)) (GOk.cons (h.ty PyProof.Rows.Boot.«set» (by decide +kernel)) (GOk.cons (h.ty PyProof.Rows.Boot.«range» (by decide +kernel)) (GOk.cons (h.ty PyProof.Rows.Boot.«ValueError» (by decide +kernel)) (GOk.cons (h.ref (by kernel_rfl) (λ _=>by kernel_rfl)) (GOk.cons (h.ref (by kernel_rfl) (λ _=>by kernel_rfl)) (GOk.cons (h.bi PyProof.Rows.Boot.«len» (by decide +kernel)) (GOk.cons (h.ref (by kernel_rfl) (λ _=>by kernel_rfl)) (GOk.cons (h.ty PyProof.Rows.Boot.«IndexError» (by decide +kernel)) (GOk.cons (h.ref (by kernel_rfl) (λ _=>by kernel_rfl)) (GOk.cons (h.ref (by kernel_rfl) (λ _=>by kernel_rfl)) (GOk.cons (h.ref (by kernel_rfl) (λ _=>by kernel_rfl)) (GOk.cons (h.ref (by kernel_rfl) (λ _=>by kernel_rfl)) (GOk.cons (h.ref (by kernel_rfl) (λ _=>by kernel_rfl)) (GOk.cons (h.ref (by kernel_rfl) (λ _=>by kernel_rfl)) (GOk.cons (h.bi PyProof.Rows.Boot.«sorted» (by decide +kernel)) (GOk.cons (h.ref (by kernel_rfl) (λ _=>by kernel_rfl)) (GOk.cons (h.ref (by kernel_rfl) (λ _=>by kernel_rfl)) (GOk.cons (h.ref (by kernel_rfl) (λ _=>by kernel_rfl)) (GOk.cons (h.ref (by kernel_rfl) (λ _=>by kernel_rfl)) GOk.nil)))))))))))))))))))))
section
variable {T:Tr}{X:String}{H:zaA}{R:zaA->Prop}{Q:PV->zaA->Prop}{ps:List PV}
theorem L1.D_opponent_of {C:Cx}(h:L1 C):zdR C.K zcY ziC ["colour"] (zaK ziA):=by
 rw[h.K];refine⟨⟨.type "function",none,#[],?_⟩,?_,?_,?_,?_,?_,zgZ λ _=>?_,?_,?_,?_,?_,?_,?_,?_⟩ <;> first|kernel_rfl|decide +kernel
theorem zqU:mS gAll ziM ziC.scope.names ziB false true (zaK ziA)=true:=by decide +kernel
theorem zqV:ziM.Nodup:=by decide +kernel
theorem L1.f_opponent_of (h:L1 T.C)(hh:T.hd=false)(hn:1<=T.n)(hl:ps.length=1)(e:wS ziB X T.down (zipN 0 ps) H (λ _ H=>R H) (retK Q)):zaF T X (.ref zcY) ps H Q R:=
 zaF.fn h.go zqV h.D_opponent_of rfl (by rw[hh];exact zqU) rfl hn hl e
theorem L1.D_rinit {C:Cx}(h:L1 C):zdR C.K ztF d_rinit ["self"] (zaK s_rinit):=by
 rw[h.K];refine⟨⟨.type "function",none,#[],?_⟩,?_,?_,?_,?_,?_,zgZ λ _=>?_,?_,?_,?_,?_,?_,?_,?_⟩ <;> first|kernel_rfl|decide +kernel
theorem c_rinit:mS gAll n_rinit d_rinit.scope.names i_rinit false true (zaK s_rinit)=true:=by decide +kernel
theorem u_rinit:n_rinit.Nodup:=by decide +kernel
theorem L1.f_rinit (h:L1 T.C)(hh:T.hd=false)(hn:1<=T.n)(hl:ps.length=1)(e:wS i_rinit X T.down (zipN 0 ps) H (λ _ H=>R H) (retK Q)):zaF T X (.ref ztF) ps H Q R:=
 zaF.fn h.go u_rinit h.D_rinit rfl (by rw[hh];exact c_rinit) rfl hn hl e
theorem L1.D_init {C:Cx}(h:L1 C):zdR C.K a_init d_init ["self", "side"] (zaK s_init):=by
 rw[h.K];refine⟨⟨.type "function",none,#[],?_⟩,?_,?_,?_,?_,?_,zkJ λ _ _=>?_,?_,?_,?_,?_,?_,?_,?_⟩ <;> first|kernel_rfl|decide +kernel
theorem c_init:mS gAll n_init d_init.scope.names i_init false true (zaK s_init)=true:=by decide +kernel
theorem u_init:n_init.Nodup:=by decide +kernel
theorem L1.f_init (h:L1 T.C)(hh:T.hd=false)(hn:1<=T.n)(hl:ps.length=2)(e:wS i_init X T.down (zipN 0 ps) H (λ _ H=>R H) (retK Q)):zaF T X (.ref a_init) ps H Q R:=
 zaF.fn h.go u_init h.D_init rfl (by rw[hh];exact c_init) rfl hn hl e
theorem L1.D_make_group {C:Cx}(h:L1 C):zdR C.K zeZ zjV ["self", "row", "col", "colour"] (zaK zjW):=by
 rw[h.K];refine⟨⟨.type "function",none,#[],?_⟩,?_,?_,?_,?_,?_,ziH λ _ _ _ _=>?_,?_,?_,?_,?_,?_,?_,?_⟩ <;> first|kernel_rfl|decide +kernel
theorem zrK:mS gAll zjX zjV.scope.names zjI false true (zaK zjW)=true:=by decide +kernel
theorem zrL:zjX.Nodup:=by decide +kernel
theorem L1.f_make_group (h:L1 T.C)(hh:T.hd=false)(hn:1<=T.n)(hl:ps.length=4)(e:wS zjI X T.down (zipN 0 ps) H (λ _ H=>R H) (retK Q)):zaF T X (.ref zeZ) ps H Q R:=
 zaF.fn h.go zrL h.D_make_group rfl (by rw[hh];exact zrK) rfl hn hl e
theorem L1.D_make_empty_region {C:Cx}(h:L1 C):zdR C.K zbK zeN ["self", "row", "col"] (zaK zeI):=by
 rw[h.K];refine⟨⟨.type "function",none,#[],?_⟩,?_,?_,?_,?_,?_,zkO λ _ _ _=>?_,?_,?_,?_,?_,?_,?_,?_⟩ <;> first|kernel_rfl|decide +kernel
theorem zhT:mS gAll zeJ zeN.scope.names zeQ false true (zaK zeI)=true:=by decide +kernel
theorem zhO:zeJ.Nodup:=by decide +kernel
theorem L1.f_make_empty_region (h:L1 T.C)(hh:T.hd=false)(hn:1<=T.n)(hl:ps.length=3)(e:wS zeQ X T.down (zipN 0 ps) H (λ _ H=>R H) (retK Q)):zaF T X (.ref zbK) ps H Q R:=
 zaF.fn h.go zhO h.D_make_empty_region rfl (by rw[hh];exact zhT) rfl hn hl e
theorem L1.D_find_surrounded_groups {C:Cx}(h:L1 C):zdR C.K zaR zcQ ["self", "r", "c"] (zaK zcP):=by
 rw[h.K];refine⟨⟨.type "function",none,#[],?_⟩,?_,?_,?_,?_,?_,zkO λ _ _ _=>?_,?_,?_,?_,?_,?_,?_,?_⟩ <;> first|kernel_rfl|decide +kernel
theorem zfJ:mS gAll zcN zcQ.scope.names zcT false true (zaK zcP)=true:=by decide +kernel
theorem zfG:zcN.Nodup:=by decide +kernel
theorem L1.f_find_surrounded_groups (h:L1 T.C)(hh:T.hd=false)(hn:1<=T.n)(hl:ps.length=3)(e:wS zcT X T.down (zipN 0 ps) H (λ _ H=>R H) (retK Q)):zaF T X (.ref zaR) ps H Q R:=
 zaF.fn h.go zfG h.D_find_surrounded_groups rfl (by rw[hh];exact zfJ) rfl hn hl e
theorem L1.D_is_empty {C:Cx}(h:L1 C):zdR C.K zhF zoW ["self"] (zaK zoT):=by
 rw[h.K];refine⟨⟨.type "function",none,#[],?_⟩,?_,?_,?_,?_,?_,zgZ λ _=>?_,?_,?_,?_,?_,?_,?_,?_⟩ <;> first|kernel_rfl|decide +kernel
theorem zvY:mS gAll zoD zoW.scope.names zpR false true (zaK zoT)=true:=by decide +kernel
theorem zxL:zoD.Nodup:=by decide +kernel
theorem L1.f_is_empty (h:L1 T.C)(hh:T.hd=false)(hn:1<=T.n)(hl:ps.length=1)(e:wS zpR X T.down (zipN 0 ps) H (λ _ H=>R H) (retK Q)):zaF T X (.ref zhF) ps H Q R:=
 zaF.fn h.go zxL h.D_is_empty rfl (by rw[hh];exact zvY) rfl hn hl e
theorem L1.D_play {C:Cx}(h:L1 C):zdR C.K zpA d_play ["self", "row", "col", "colour"] (zaK s_play):=by
 rw[h.K];refine⟨⟨.type "function",none,#[],?_⟩,?_,?_,?_,?_,?_,ziH λ _ _ _ _=>?_,?_,?_,?_,?_,?_,?_,?_⟩ <;> first|kernel_rfl|decide +kernel
theorem c_play:mS gAll n_play d_play.scope.names i_play false true (zaK s_play)=true:=by decide +kernel
theorem u_play:n_play.Nodup:=by decide +kernel
theorem L1.f_play (h:L1 T.C)(hh:T.hd=false)(hn:1<=T.n)(hl:ps.length=4)(e:wS i_play X T.down (zipN 0 ps) H (λ _ H=>R H) (retK Q)):zaF T X (.ref zpA) ps H Q R:=
 zaF.fn h.go u_play h.D_play rfl (by rw[hh];exact c_play) rfl hn hl e
theorem L1.D_list_occupied_points {C:Cx}(h:L1 C):zdR C.K zbA zbV ["self"] (zaK zbX):=by
 rw[h.K];refine⟨⟨.type "function",none,#[],?_⟩,?_,?_,?_,?_,?_,zgZ λ _=>?_,?_,?_,?_,?_,?_,?_,?_⟩ <;> first|kernel_rfl|decide +kernel
theorem zgI:mS gAll zbU zbV.scope.names zbW false true (zaK zbX)=true:=by decide +kernel
theorem zgH:zbU.Nodup:=by decide +kernel
theorem zfW:mS gAll zbU zbV.scope.names zbW true true (zaK zbX)=true:=by decide +kernel
theorem L1.f_list_occupied_points (h:L1 T.C)(hn:1<=T.n)(hl:ps.length=1)(e:wS zbW X T.down (zipN 0 ps) H (λ _ H=>R H) (retK Q)):zaF T X (.ref zbA) ps H Q R:=
 zaF.fn h.go zgH h.D_list_occupied_points rfl (by cases q:T.hd;exact zgI;exact zfW) rfl hn hl e
theorem L1.D_area_score {C:Cx}(h:L1 C):zdR C.K zfA zjK ["self"] (zaK zjS):=by
 rw[h.K];refine⟨⟨.type "function",none,#[],?_⟩,?_,?_,?_,?_,?_,zgZ λ _=>?_,?_,?_,?_,?_,?_,?_,?_⟩ <;> first|kernel_rfl|decide +kernel
theorem zsL:mS gAll zjJ zjK.scope.names zjU false true (zaK zjS)=true:=by decide +kernel
theorem zrM:zjJ.Nodup:=by decide +kernel
theorem L1.f_area_score (h:L1 T.C)(hh:T.hd=false)(hn:1<=T.n)(hl:ps.length=1)(e:wS zjU X T.down (zipN 0 ps) H (λ _ H=>R H) (retK Q)):zaF T X (.ref zfA) ps H Q R:=
 zaF.fn h.go zrM h.D_area_score rfl (by rw[hh];exact zsL) rfl hn hl e
theorem L1.D_law_near {C:Cx}(h:L1 C):zdR C.K zdG zoJ ["spot", "side"] (zaK zoO):=by
 rw[h.K];refine⟨⟨.type "function",none,#[],?_⟩,?_,?_,?_,?_,?_,zkJ λ _ _=>?_,?_,?_,?_,?_,?_,?_,?_⟩ <;> first|kernel_rfl|decide +kernel
theorem zwO:mS gAll zoE zoJ.scope.names zoH false true (zaK zoO)=true:=by decide +kernel
theorem zwG:zoE.Nodup:=by decide +kernel
theorem L1.f_law_near (h:L1 T.C)(hh:T.hd=false)(hn:1<=T.n)(hl:ps.length=2)(e:wS zoH X T.down (zipN 0 ps) H (λ _ H=>R H) (retK Q)):zaF T X (.ref zdG) ps H Q R:=
 zaF.fn h.go zwG h.D_law_near rfl (by rw[hh];exact zwO) rfl hn hl e
theorem L1.D_law_breathless {C:Cx}(h:L1 C):zdR C.K zbB zgC ["cells", "side"] (zaK zgE):=by
 rw[h.K];refine⟨⟨.type "function",none,#[],?_⟩,?_,?_,?_,?_,?_,zkJ λ _ _=>?_,?_,?_,?_,?_,?_,?_,?_⟩ <;> first|kernel_rfl|decide +kernel
theorem zkC:mS gAll zgD zgC.scope.names zgB false true (zaK zgE)=true:=by decide +kernel
theorem zkD:zgD.Nodup:=by decide +kernel
theorem L1.f_law_breathless (h:L1 T.C)(hh:T.hd=false)(hn:1<=T.n)(hl:ps.length=2)(e:wS zgB X T.down (zipN 0 ps) H (λ _ H=>R H) (retK Q)):zaF T X (.ref zbB) ps H Q R:=
 zaF.fn h.go zkD h.D_law_breathless rfl (by rw[hh];exact zkC) rfl hn hl e
theorem L1.D_law_move {C:Cx}(h:L1 C):zdR C.K zeD zoX ["cells", "side", "spot", "colour"] (zaK zpQ):=by
 rw[h.K];refine⟨⟨.type "function",none,#[],?_⟩,?_,?_,?_,?_,?_,ziH λ _ _ _ _=>?_,?_,?_,?_,?_,?_,?_,?_⟩ <;> first|kernel_rfl|decide +kernel
theorem zxO:mS gAll znW zoX.scope.names zpB false true (zaK zpQ)=true:=by decide +kernel
theorem zwM:znW.Nodup:=by decide +kernel
theorem L1.f_law_move (h:L1 T.C)(hh:T.hd=false)(hn:1<=T.n)(hl:ps.length=4)(e:wS zpB X T.down (zipN 0 ps) H (λ _ H=>R H) (retK Q)):zaF T X (.ref zeD) ps H Q R:=
 zaF.fn h.go zwM h.D_law_move rfl (by rw[hh];exact zxO) rfl hn hl e
theorem L1.D_law_seen {C:Cx}(h:L1 C):zdR C.K zcO zoN ["spot", "side", "view"] (zaK zoV):=by
 rw[h.K];refine⟨⟨.type "function",none,#[],?_⟩,?_,?_,?_,?_,?_,zkO λ _ _ _=>?_,?_,?_,?_,?_,?_,?_,?_⟩ <;> first|kernel_rfl|decide +kernel
theorem zwU:mS gAll zpC zoN.scope.names zpJ false true (zaK zoV)=true:=by decide +kernel
theorem zwW:zpC.Nodup:=by decide +kernel
theorem L1.f_law_seen (h:L1 T.C)(hh:T.hd=false)(hn:1<=T.n)(hl:ps.length=3)(e:wS zpJ X T.down (zipN 0 ps) H (λ _ H=>R H) (retK Q)):zaF T X (.ref zcO) ps H Q R:=
 zaF.fn h.go zwW h.D_law_seen rfl (by rw[hh];exact zwU) rfl hn hl e
theorem L1.D_law_dyed {C:Cx}(h:L1 C):zdR C.K zeA znV ["colour", "view"] (zaK zoP):=by
 rw[h.K];refine⟨⟨.type "function",none,#[],?_⟩,?_,?_,?_,?_,?_,zkJ λ _ _=>?_,?_,?_,?_,?_,?_,?_,?_⟩ <;> first|kernel_rfl|decide +kernel
theorem zwB:mS gAll zpL znV.scope.names zoF false true (zaK zoP)=true:=by decide +kernel
theorem zwI:zpL.Nodup:=by decide +kernel
theorem L1.f_law_dyed (h:L1 T.C)(hh:T.hd=false)(hn:1<=T.n)(hl:ps.length=2)(e:wS zoF X T.down (zipN 0 ps) H (λ _ H=>R H) (retK Q)):zaF T X (.ref zeA) ps H Q R:=
 zaF.fn h.go zwI h.D_law_dyed rfl (by rw[hh];exact zwB) rfl hn hl e
theorem L1.D_law_reach {C:Cx}(h:L1 C):zdR C.K zdF zmL ["cells", "side", "colour"] (zaK zkV):=by
 rw[h.K];refine⟨⟨.type "function",none,#[],?_⟩,?_,?_,?_,?_,?_,zkO λ _ _ _=>?_,?_,?_,?_,?_,?_,?_,?_⟩ <;> first|kernel_rfl|decide +kernel
theorem zsX:mS gAll zkX zmL.scope.names zmT false true (zaK zkV)=true:=by decide +kernel
theorem zuG:zkX.Nodup:=by decide +kernel
theorem L1.f_law_reach (h:L1 T.C)(hh:T.hd=false)(hn:1<=T.n)(hl:ps.length=3)(e:wS zmT X T.down (zipN 0 ps) H (λ _ H=>R H) (retK Q)):zaF T X (.ref zdF) ps H Q R:=
 zaF.fn h.go zuG h.D_law_reach rfl (by rw[hh];exact zsX) rfl hn hl e
theorem L1.D_law_told {C:Cx}(h:L1 C):zdR C.K zdI zoZ ["board", "side", "view", "spot", "colour"] (zaK zoM):=by
 rw[h.K];refine⟨⟨.type "function",none,#[],?_⟩,?_,?_,?_,?_,?_,bind_of5 λ _ _ _ _ _=>?_,?_,?_,?_,?_,?_,?_,?_⟩ <;> first|kernel_rfl|decide +kernel
theorem zwK:mS gAll znY zoZ.scope.names zoI false true (zaK zoM)=true:=by decide +kernel
theorem zwL:znY.Nodup:=by decide +kernel
theorem L1.f_law_told (h:L1 T.C)(hh:T.hd=false)(hn:1<=T.n)(hl:ps.length=5)(e:wS zoI X T.down (zipN 0 ps) H (λ _ H=>R H) (retK Q)):zaF T X (.ref zdI) ps H Q R:=
 zaF.fn h.go zwL h.D_law_told rfl (by rw[hh];exact zwK) rfl hn hl e
theorem L1.D_law_laid {C:Cx}(h:L1 C):zdR C.K zcR zpO ["cells", "side", "view", "order"] (zaK zpE):=by
 rw[h.K];refine⟨⟨.type "function",none,#[],?_⟩,?_,?_,?_,?_,?_,ziH λ _ _ _ _=>?_,?_,?_,?_,?_,?_,?_,?_⟩ <;> first|kernel_rfl|decide +kernel
theorem zxK:mS gAll zoU zpO.scope.names znZ false true (zaK zpE)=true:=by decide +kernel
theorem zxC:zoU.Nodup:=by decide +kernel
theorem L1.f_law_laid (h:L1 T.C)(hh:T.hd=false)(hn:1<=T.n)(hl:ps.length=4)(e:wS znZ X T.down (zipN 0 ps) H (λ _ H=>R H) (retK Q)):zaF T X (.ref zcR) ps H Q R:=
 zaF.fn h.go zxC h.D_law_laid rfl (by rw[hh];exact zxK) rfl hn hl e
theorem L1.D_law_shows {C:Cx}(h:L1 C):zdR C.K zcL zkW ["board", "cells", "side", "view"] (zaK znF):=by
 rw[h.K];refine⟨⟨.type "function",none,#[],?_⟩,?_,?_,?_,?_,?_,ziH λ _ _ _ _=>?_,?_,?_,?_,?_,?_,?_,?_⟩ <;> first|kernel_rfl|decide +kernel
theorem ztA:mS gAll zmY zkW.scope.names zmK false true (zaK znF)=true:=by decide +kernel
theorem zuI:zmY.Nodup:=by decide +kernel
theorem L1.f_law_shows (h:L1 T.C)(hh:T.hd=false)(hn:1<=T.n)(hl:ps.length=4)(e:wS zmK X T.down (zipN 0 ps) H (λ _ H=>R H) (retK Q)):zaF T X (.ref zcL) ps H Q R:=
 zaF.fn h.go zuI h.D_law_shows rfl (by rw[hh];exact ztA) rfl hn hl e
theorem L1.D_law {C:Cx}(h:L1 C):zdR C.K a_law d_law ["script"] (zaK s_law):=by
 rw[h.K];refine⟨⟨.type "function",none,#[],?_⟩,?_,?_,?_,?_,?_,zgZ λ _=>?_,?_,?_,?_,?_,?_,?_,?_⟩ <;> first|kernel_rfl|decide +kernel
theorem c_law:mS gAll n_law d_law.scope.names i_law false true (zaK s_law)=true:=by decide +kernel
theorem u_law:n_law.Nodup:=by decide +kernel
end
noncomputable def cell:Option Str->PV
 | none=>.none
 | some c=>.str c
noncomputable def own5:List Str:=["__init__", "copy", "_make_group", "_make_empty_region", "_find_surrounded_groups", "_find_all_surrounded_groups", "is_empty", "get", "play", "apply_setup", "list_occupied_points", "area_score"]
structure BdAt (x d bp bd:Addr)(rows:List Addr)(n:Nat)(G:Pt->Option Str)(e:Bool)(H:zaA):Prop where
 inst:H x=some (.inst zfF d)
 attrs:∃ l,H d=some (.attrs l)/\l.length<=5000/\l.lookup ("side" : Str)=some (.int n)/\l.lookup ("board_points" : Str)=some (.ref bp)/\l.lookup ("board" : Str)=some (.ref bd)/\l.lookup ("_is_empty" : Str)=some (.bool e)/\∀ m∈own5,l.lookup m=none
 pts:H bp=some (.list (zbL n n λ i j=>some (pt (i,j))))
 board:H bd=some (.list (rows.map .ref))
 len:rows.length=n
 row:∀ (i:Nat) a,rows[i]?=some a->H a=some (.list ((List.range n).map λ j:Nat=>cell (G (i,j))))
 nodup:rows.Nodup
 lo:2<=n
 five:n<=5
 bpn:bp∉rows
 bdn:bd∉rows
section
variable {T:Tr}{X:String}{H H0:zaA}{R:zaA->Prop}{x d bp bd:Addr}{rows:List Addr}{n:Nat}{G:Pt->Option Str}{e:Bool}
theorem BdAt.ext {H':zaA}(B:BdAt x d bp bd rows n G e H)(ex:Ext H H'):BdAt x d bp bd rows n G e H':=
 ⟨ex _ _ B.inst,let ⟨l,a,b⟩:=B.attrs;⟨l,ex _ _ a,b⟩,ex _ _ B.pts,ex _ _ B.board,B.len,λ i a h=>ex _ _ (B.row i a h),B.nodup,B.lo,B.five,B.bpn,B.bdn⟩
theorem L1.clsB {C:Cx}(h:L1 C):zrA C.K zfF:=by rw[h.K];exact⟨by kernel_rfl,by kernel_rfl,by kernel_rfl,by kernel_rfl,by kernel_rfl⟩
theorem L1.clsG {C:Cx}(h:L1 C):zrA C.K zqP:=by rw[h.K];exact⟨by kernel_rfl,by kernel_rfl,by kernel_rfl,by kernel_rfl,by kernel_rfl⟩
theorem BdAt.gSide {Q:PV->zaA->Prop}(hL:L1 T.C)(B:BdAt x d bp bd rows n G e H)(h:Q (.int n) H):SGet T "side" (.ref x) H Q:=by
 refine q17 B.attrs λ l h1 h2 h3 h4 h5 h6 h7=>?_;exact SGet.inst hL.clsB (hL.fd (by kernel_rfl)) B.inst h1 h3 rfl h
theorem BdAt.gPts {Q:PV->zaA->Prop}(hL:L1 T.C)(B:BdAt x d bp bd rows n G e H)(h:Q (.ref bp) H):SGet T "board_points" (.ref x) H Q:=by
 refine q17 B.attrs λ l h1 h2 h3 h4 h5 h6 h7=>?_;exact SGet.inst hL.clsB (hL.fd (by kernel_rfl)) B.inst h1 h4 rfl h
theorem BdAt.gBoard {Q:PV->zaA->Prop}(hL:L1 T.C)(B:BdAt x d bp bd rows n G e H)(h:Q (.ref bd) H):SGet T "board" (.ref x) H Q:=by
 refine q17 B.attrs λ l h1 h2 h3 h4 h5 h6 h7=>?_;exact SGet.inst hL.clsB (hL.fd (by kernel_rfl)) B.inst h1 h5 rfl h
theorem BdAt.gEmpty {Q:PV->zaA->Prop}(hL:L1 T.C)(B:BdAt x d bp bd rows n G e H)(h:Q (.bool e) H):SGet T "_is_empty" (.ref x) H Q:=by
 refine q17 B.attrs λ l h1 h2 h3 h4 h5 h6 h7=>?_;exact SGet.inst hL.clsB (hL.fd (by kernel_rfl)) B.inst h1 h6 rfl h
noncomputable def MOk (P:Params)(m:Str)(g:Addr):Prop:=m∈own5/\findIn (heapK P) (.ref zfF) m=some (some (.ref g))/\typeIn (heapK P) (.ref g)=some (.type "function")/\zgL (heapK P) (.ref g)=true
theorem BdAt.meth {g:Addr}{m:Str}(hL:L1 T.C)(B:BdAt x d bp bd rows n G e H)(q:MOk T.C.w.params m g):zbQ T m (.ref x) H (.ref g):=by
 refine q17 B.attrs λ l h1 h2 h3 h4 h5 h6 h7=>?_;exact zbQ.own (hL.cal q.2.2.2) hL.clsB (hL.fd q.2.1) (hL.ft q.2.2.1) B.inst h1 (h7 m q.1)
theorem BdAt.rowAt (B:BdAt x d bp bd rows n G e H){i:Int}(h0:0<=i)(h1:i<n):∃ a,rows[i.toNat]?=some a/\H a=some (.list ((List.range n).map λ j:Nat=>cell (G (i,j)))):=by
 have hlt:i.toNat<rows.length:=by rw[B.len];exact lq14 h0 h1
 refine⟨rows[i.toNat],List.getElem?_eq_getElem hlt,?_⟩;have:=B.row i.toNat _ (List.getElem?_eq_getElem hlt);rw[Int.toNat_of_nonneg h0]at this;exact this
theorem sub2 {a:Addr}{i j:Int}{Q:PV->zaA->Prop}(hH:H a=some (.list ((List.range n).map λ j:Nat=>cell (G (i,j)))))(h0:0<=j)(h1:j<n)(hn:n<=5)(h:Q (cell (G (i,j))) H):SSub T (.ref a) (.int j) H Q:=by
 refine SSub.list hH h0 (by exact lq13 h1 hn rfl) (p:=cell (G (i,j))) ?_ h;rw[List.getElem?_map,List.getElem?_range (by exact lq14 h0 h1)];simp only[Option.map_some];rw[Int.toNat_of_nonneg h0]
theorem BdAt.at1 {i:Int}{Q:PV->zaA->Prop}(B:BdAt x d bp bd rows n G e H)(h0:0<=i)(h1:i<n)(h:∀ a,rows[i.toNat]?=some a->H a=some (.list ((List.range n).map λ j:Nat=>cell (G (i,j))))->Q (.ref a) H):SSub T (.ref bd) (.int i) H Q:=by
 refine q12 (B.rowAt h0 h1) λ a ha hH=>?_;exact SSub.list B.board h0 (by have:=B.five;exact lq13 h1 this rfl) (p:=.ref a) (by rw[List.getElem?_map,ha];rfl) (h a ha hH)
theorem zpS (hL:L1 T.C)(hn:1<=T.n)(hh:T.hd=false)(B:BdAt x d bp bd rows n G e H):zaF T X (.ref zhF) [.ref x] H (λ p H'=>p=.bool e/\H'=H) R:=
 hL.f_is_empty hh hn rfl (B.gEmpty hL ⟨rfl,rfl⟩)
end
structure zbF (g dg ps:Addr)(col:Str)(P:List Pt)(sur:Bool)(H:zaA):Prop where
 inst:H g=some (.inst zqP dg)
 attrs:∃ l,H dg=some (.attrs l)/\l.lookup ("colour" : Str)=some (.str col)/\l.lookup ("points" : Str)=some (.ref ps)/\l.lookup ("is_surrounded" : Str)=some (.bool sur)
 pts:H ps=some (.pset P)
inductive MGPost (n:Nat)(G:Pt->Option Str)(r c:Int)(col:Str)(H:zaA)(p:PV)(H':zaA):Prop
 | mk (g dg ps:Addr) (P:List Pt) (sur:Bool) (e:p=.ref g) (ex:Ext H H') (n1:H g=none) (n2:H dg=none) (n3:H ps=none) (at_:zbF g dg ps col P sur H') (mem:∀ q,q∈P↔zaJ n G col (r,c) q) (sr:sur=true↔Surr n G col (r,c)) (nd:P.Nodup):MGPost n G r c col H p H'
inductive MGI (n:Nat)(G:Pt->Option Str)(col:Str)(s:Pt)(a1 a2:Addr)(H:zaA)(m:Nat)(sur:Bool)(H':zaA):Prop
 | mk (P W:List Pt) (e:m=left n P) (mg:MG n G col s P W sur) (nP:P.Nodup) (nW:W.Nodup) (hP:H' a1=some (.pset P)) (hW:H' a2=some (.pset W)) (ex:Ext H H'):MGI n G col s a1 a2 H m sur H'
inductive MGJ (n:Nat)(G:Pt->Option Str)(col:Str)(q:Pt)(P1 W1:List Pt)(sur:Bool)(a1 a2 a3:Addr)(H:zaA)(i:Nat)(sur':Bool)(H':zaA):Prop
 | mk (W':List Pt) (mi:MI n G col q P1 W1 sur ((nb q).take i) W' sur') (nW':W'.Nodup) (k1:H' a1=some (.pset P1)) (k2:H' a2=some (.pset W')) (k3:H' a3=some (.list ((nb q).map pt))) (ex:Ext H H'):MGJ n G col q P1 W1 sur a1 a2 a3 H i sur' H'
theorem zcA {α:Type}{f:α->PV}{l:List α}{i:Nat}{v:PV}(h:(l.map f)[i]?=some v):∃ z,l[i]?=some z/\v=f z:=by
 rw[List.getElem?_map]at h;refine q12 (Option.map_eq_some_iff.mp h) λ z hz e=>?_;exact⟨z,hz,e.symm⟩
theorem zaO {α:Type}{l:List α}{i:Nat}{z:α}(h:l[i]?=some z):l.take (i+1)=l.take i++[z]:=by rw[List.take_add_one,h];rfl
section
variable {T:Tr}{X:String}{H:zaA}{R:zaA->Prop}{x d bp bd:Addr}{rows:List Addr}{n:Nat}{G:Pt->Option Str}{e:Bool}
theorem BdAt.box (B:BdAt x d bp bd rows n G e H){q:Pt}(hq:inG n q):zdN q:=by
 have:=B.five;refine q03 hq λ u0 q3 q4=>?_;obtain⟨q1,q2⟩:=u0;exact⟨by exact q1,by lia,by exact q3,by lia⟩
theorem zmC (hL:L1 T.C)(hn:3<=T.n)(hh:T.hd=false)(B:BdAt x d bp bd rows n G e H){r c:Int}{col:Str}(hg:inG n (r,c))(hc:G (r,c)=some col):
  zaF T X (.ref zeZ) [.ref x,.int r,.int c,.str col] H (MGPost n G r c col H) R:=by
 refine hL.f_make_group hh (by exact lq1 hn rfl) rfl ?_;refine zaG.set0 λ a1 h1=>?_;refine zaG.set0 λ a2 h2=>?_;have h12:a2≠a1:=λ e=>by rw[e,zaC]at h2;cases h2
 have h2':H a2=none:=by rw[zaD h12]at h2;exact h2
 refine M.add (r,c) zaC (B.box hg) λ l0 n0 m0=>?_;refine whileI Bool (λ b=>[(0,.ref x),(3,.str col),(4,.ref a1),(6,.ref a2),(5,.bool b)]) (MGI n G col (r,c) a1 a2 H) (left n []) true (SubN.of rfl) ?_ ?_
 ·refine⟨[],l0,rfl,MG.first hg hc m0,List.nodup_nil,n0,?_,zaC,Ext.upd (Ext.upd (Ext.upd (Ext.refl _) h1) h2') h2'⟩
  rw[zaD h12.symm,zaD h12.symm,zaC]
 intro m sur H' uu;obtain⟨P,W,rfl,mg,nP,nW,hP,hW,ex⟩:=uu;refine STr.set hW ?_;cases W with
 | nil=>
  obtain⟨d1,d2⟩:=mg.done;refine zaG.cls0 (hL.mks (by kernel_rfl)) (hL.fd (by kernel_rfl)) λ g dg hne hg1 hg2=>?_;refine zaP.inst hL.clsG (hL.fd (by kernel_rfl)) zaC (by rw[zaD hne.symm];exact zaC) (by simp) ?_;refine zaP.inst hL.clsG (hL.fd (by kernel_rfl)) (by rw[zaD hne];exact zaC) zaC (by simp) ?_;refine zaP.inst hL.clsG (hL.fd (by kernel_rfl)) (by rw[zaD hne,zaD hne];exact zaC) zaC (by simp) ?_;have ga:g≠a1:=λ q=>by rw[q,hP]at hg1;cases hg1
  have da:dg≠a1:=λ q=>by rw[q,hP]at hg2;cases hg2
  refine MGPost.mk g dg a1 P sur rfl ?_ (ex.none hg1) (ex.none hg2) h1 ⟨?_,⟨_,zaC,?_,?_,?_⟩,?_⟩ d1 d2 nP
  ·exact Ext.upd (Ext.upd (Ext.upd (Ext.upd (Ext.upd ex (ex.none hg2)) (ex.none hg1)) (ex.none hg2)) (ex.none hg2)) (ex.none hg2)
  ·rw[zaD hne,zaD hne,zaD hne];exact zaC
  ·exact zbM (by decide +kernel) (zbM (by decide +kernel) zcX)
  ·exact zbM (by decide +kernel) zcX
  ·exact zcX
  ·rw[zaD da.symm,zaD da.symm,zaD da.symm,zaD ga.symm,zaD da.symm];exact hP
 | cons w0 W0=>
 refine wS_goK λ K1 hK1=>?_;refine (let L0:LN:=_;(?_:wS _ _ _ L0 _ _ _));refine M.popS hW (by simp) λ q W1 hq nW1 mW1 _=>?_;have hP2:upd H' a2 (.pset W1) a1=some (.pset P):=by rw[zaD h12.symm];exact hP
 have hqg:=(mg.reach q (.inr hq)).inG;refine M.add q hP2 (B.box hqg) λ P1 nP1 mP1=>?_;intro a3 h3;have h31:a3≠a1:=λ e=>by rw[e,zaC]at h3;cases h3
 rw[zaD h31]at h3;have h32:a3≠a2:=λ e=>by rw[e,zaC]at h3;cases h3
 rw[zaD h32]at h3;have h3':H a3=none:=ex.none h3;refine WFor.list a3 ((nb q).map pt) rfl zaC Bool (λ b=>[(0,.ref x),(3,.str col),(4,.ref a1),(6,.ref a2),(5,.bool b)]) (MGJ n G col q P1 W1 sur a1 a2 a3 H) sur ⟨rfl,rfl,rfl,rfl,rfl,trivial⟩ ?_ (λ i b H'' hj=>by obtain⟨_,_,_,_,_,k3,_⟩:=hj;exact k3) ?_ ?_
 ·refine⟨W1,MI.nil,nW1,?_,?_,zaC,Ext.upd (Ext.upd (Ext.upd ex h2') h1) h3'⟩
  ·rw[zaD h31.symm,zaC]
  ·rw[zaD h32.symm,zaD h12,zaC]
 ·intro i p sur' H'' hp uu;obtain⟨W',mi,nW',k1,k2,k3,ex'⟩:=uu
  refine q12 (zcA hp) λ z hz u0=>?_;cases u0;refine zgV λ K hK=>?_;refine (let L1':LN:=(14,.int z.2)::(13,.int z.1)::_;(?_:wS _ _ _ L1' _ _ _));have hzm:z∈nb q:=List.mem_of_getElem? hz;have htk:=zaO hz;have B':=B.ext ex';have out:¬ inG n z->MGJ n G col q P1 W1 sur a1 a2 a3 H (i+1) sur' H'':=λ hzg=>⟨W',by rw[htk];exact mi.skip λ h=>absurd h hzg,nW',k1,k2,k3,ex'⟩
  have keep:SubN [(0,.ref x),(3,.str col),(4,.ref a1),(6,.ref a2),(5,.bool sur')] L1':=SubN.of rfl;refine zaW (λ z1=>?_) (λ z1=>hK _ rfl sur' _ _ keep (out (λ h=>z1 h.1.1)));refine B'.gSide hL ?_;refine zaW (λ z2=>?_) (λ z2=>hK _ rfl sur' _ _ keep (out (λ h=>z2 h.1.2)));refine zaW (λ z3=>?_) (λ z3=>hK _ rfl sur' _ _ keep (out (λ h=>z3 h.2.1)));refine B'.gSide hL ?_;refine zaW (λ z4=>?_) (λ z4=>hK _ rfl sur' _ _ keep (out (λ h=>z4 h.2.2)));have hzg:inG n z:=⟨⟨z1,z2⟩,z3,z4⟩
  refine B'.gBoard hL ?_;refine B'.at1 z1 z2 λ ra _ hra=>?_;refine sub2 hra z3 z4 B.five ?_;cases hG:G (z.1,z.2) with
  | none=>exact hK _ rfl false _ _ (SubN.of rfl) ⟨W',by rw[htk];exact mi.free hzg hG,nW',k1,k2,k3,ex'⟩
  | some c'=>
   refine br_beq (λ hcc=>?_) (λ hcc=>?_)
   ·subst hcc
    refine SCmp.inS z k1 (B.box hzg) ?_;refine br_ndec (λ hin=>?_) (λ hin=>?_)
    ·refine M.add z k2 (B.box hzg) λ W2 nW2 mW2=>?_
     exact hK _ rfl sur' _ _ (SubN.of rfl) ⟨W2,by rw[htk];exact mi.more hzm hzg hG hin mW2,nW2,by rw[zaD h12.symm];exact k1,zaC,by rw[zaD h32];exact k3,Ext.upd ex' h2'⟩
    ·exact hK _ rfl sur' _ _ (SubN.of rfl) ⟨W',by rw[htk];exact mi.skip λ _=>⟨by rw[show G z=some c' from hG];simp,λ _=>hin⟩,nW',k1,k2,k3,ex'⟩
   ·exact hK _ rfl sur' _ _ (SubN.of rfl) ⟨W',by rw[htk];exact mi.skip λ _=>⟨by rw[show G z=some c' from hG];simp,λ q=>by rw[show G z=some c' from hG]at q;exact absurd (Option.some.inj q) hcc⟩,nW',k1,k2,k3,ex'⟩
 ·intro sur' H'' uu;obtain⟨W',mi,nW',k1,k2,k3,ex'⟩:=uu
  rw[List.length_map,List.take_length]at mi;exact hK1 _ rfl sur' _ _ (SubN.of rfl) ⟨left n P1,mg.left_lt hq mP1,P1,W',rfl,mg.turn hq mW1 mP1 mi,nP1,nW',k1,k2,ex'⟩
end
structure GR where
 g:Addr
 dg:Addr
 ps:Addr
 col:Str
 P:List Pt
noncomputable def GR.cp (x:GR):Str×List Pt:=(x.col,x.P)
noncomputable def GR.At (x:GR)(H:zaA):Prop:=zbF x.g x.dg x.ps x.col x.P true H
structure GR.New (y:GR)(H H':zaA):Prop where
 at_:y.At H'
 ng:H y.g=none
 nd:H y.dg=none
 np:H y.ps=none
section
variable {T:Tr}{X:String}{H:zaA}{R:zaA->Prop}{x d bp bd:Addr}{rows:List Addr}{n:Nat}{G:Pt->Option Str}{e:Bool}{g dg ps:Addr}{col:Str}{P:List Pt}{sur:Bool}
theorem zbF.gCol {Q:PV->zaA->Prop}(hL:L1 T.C)(B:zbF g dg ps col P sur H)(h:Q (.str col) H):SGet T "colour" (.ref g) H Q:=by
 refine q14 B.attrs λ l h1 h2 h3 h4=>?_;exact SGet.inst hL.clsG (hL.fd (by kernel_rfl)) B.inst h1 h2 rfl h
theorem zbF.gPts {Q:PV->zaA->Prop}(hL:L1 T.C)(B:zbF g dg ps col P sur H)(h:Q (.ref ps) H):SGet T "points" (.ref g) H Q:=by
 refine q14 B.attrs λ l h1 h2 h3 h4=>?_;exact SGet.inst hL.clsG (hL.fd (by kernel_rfl)) B.inst h1 h3 rfl h
theorem zbF.gSur {Q:PV->zaA->Prop}(hL:L1 T.C)(B:zbF g dg ps col P sur H)(h:Q (.bool sur) H):SGet T "is_surrounded" (.ref g) H Q:=by
 refine q14 B.attrs λ l h1 h2 h3 h4=>?_;exact SGet.inst hL.clsG (hL.fd (by kernel_rfl)) B.inst h1 h4 rfl h
theorem zbF.ext {H':zaA}(B:zbF g dg ps col P sur H)(ex:Ext H H'):zbF g dg ps col P sur H':=
 ⟨ex _ _ B.inst,let ⟨l,a,b⟩:=B.attrs;⟨l,ex _ _ a,b⟩,ex _ _ B.pts⟩
theorem zbF.updList {a:Addr}{l m:List PV}(B:zbF g dg ps col P sur H)(ha:H a=some (.list l)):zbF g dg ps col P sur (upd H a (.list m)):=by
 have h1:g≠a:=λ q=>by have:=B.inst;rw[q,ha]at this;cases this
 have h3:ps≠a:=λ q=>by have:=B.pts;rw[q,ha]at this;cases this
 refine q12 B.attrs λ l b1 b2=>?_;have h2:dg≠a:=λ q=>by rw[q,ha]at b1;cases b1
 exact⟨by rw[zaD h1];exact B.inst,⟨l,by rw[zaD h2];exact b1,b2⟩,by rw[zaD h3];exact B.pts⟩
theorem zbF.updSet {a:Addr}{l m:List Pt}(B:zbF g dg ps col P sur H)(ha:H a=some (.pset l))(h3:ps≠a):zbF g dg ps col P sur (upd H a (.pset m)):=by
 have h1:g≠a:=λ q=>by have:=B.inst;rw[q,ha]at this;cases this
 refine q12 B.attrs λ l b1 b2=>?_;have h2:dg≠a:=λ q=>by rw[q,ha]at b1;cases b1
 exact⟨by rw[zaD h1];exact B.inst,⟨l,by rw[zaD h2];exact b1,b2⟩,by rw[zaD h3];exact B.pts⟩
theorem GR.New.ext {y:GR}{H1 H2':zaA}(h:y.New H H1)(ex:Ext H1 H2'):y.New H H2':=⟨zbF.ext h.at_ ex,h.ng,h.nd,h.np⟩
inductive FPost (n:Nat)(G:Pt->Option Str)(pts:List Pt)(H:zaA)(p:PV)(H':zaA):Prop
 | mk (a:Addr) (gs:List GR) (hdl:List Pt) (e:p=.ref a) (ex:Ext H H') (na:H a=none) (ka:H' a=some (.list (gs.map λ y=>.ref y.g))) (kg:∀ y∈gs,y.New H H') (le:gs.length<=pts.length) (fs:FSI n G pts (gs.map GR.cp) hdl):FPost n G pts H p H'
inductive FI (n:Nat)(G:Pt->Option Str)(pts:List Pt)(a1 a2 a3:Addr)(H:zaA)(i:Nat)(u:Unit)(H':zaA):Prop
 | mk (gs:List GR) (hdl:List Pt) (fs:FSI n G (pts.take i) (gs.map GR.cp) hdl) (nd:hdl.Nodup) (lg:gs.length<=i) (k1:H' a1=some (.list (gs.map λ y=>.ref y.g))) (k2:H' a2=some (.pset hdl)) (k3:H' a3=some (.list (pts.map pt)))
   (kg:∀ y∈gs,y.New H H'/\y.ps≠a2) (ex:Ext H H'):FI n G pts a1 a2 a3 H i u H'
theorem FI.new {pts:List Pt}{a1 a2 a3:Addr}{i:Nat}{u:Unit}{H' H2':zaA}{gs:List GR}{hdl:List Pt}{z:Pt}{c':Str}(h12:a2≠a1)(h31:a3≠a1)(h32:a3≠a2)(h1:H a1=none)(h2:H a2=none)(hz:pts[i]?=some z)
  (fs:FSI n G (pts.take i) (gs.map GR.cp) hdl) (lg:gs.length<=i) (kg:∀ y∈gs,y.New H H'/\y.ps≠a2) (k1:H' a1=some (.list (gs.map λ y=>.ref y.g))) (k2:H' a2=some (.pset hdl)) (k3:H' a3=some (.list (pts.map pt))) (ex:Ext H H') (hin:z∉hdl)
  (ex2:Ext H' H2') (q1:H' g=none) (q2:H' dg=none) (q3:H' ps=none) (gr:zbF g dg ps c' P sur H2') (hA:ztG n G z (c',P)) (gsur:sur=true↔Surr n G c' z) {hdl':List Pt} (nd':hdl'.Nodup) (mh:∀ q,q∈hdl'↔q∈hdl\/q∈P):
  FI n G pts a1 a2 a3 H (i+1) u (upd (cond sur (upd H2' a1 (.list (gs.map (λ y=>PV.ref y.g)++[PV.ref g]))) H2') a2 (.pset hdl')):=by
 have hps:ps≠a2:=λ q=>by rw[q,k2]at q3;cases q3
 have k1':=ex2 _ _ k1;have k2':=ex2 _ _ k2;have k3':=ex2 _ _ k3;have htk:=zaO hz;have kg':∀ y∈gs,y.New H H2'/\y.ps≠a2:=λ y hy=>⟨(kg y hy).1.ext ex2,(kg y hy).2⟩
 cases sur with
 | true=>
  have k2'':upd H2' a1 (.list (gs.map (λ y=>PV.ref y.g)++[PV.ref g])) a2=some (.pset hdl):=by rw[zaD h12];exact k2'
  have gr':=zbF.updList (m:=gs.map (λ y=>PV.ref y.g)++[PV.ref g]) gr k1';refine⟨gs++[⟨g,dg,ps,c',P⟩],hdl',?_,nd',by simp;exact lg,?_,zaC,?_,?_,Ext.upd (Ext.upd (ex.trans ex2) h1) h2⟩
  ·rw[htk,List.map_append];exact fs.new hin hA true gsur mh
  ·rw[zaD h12.symm,cond_true,zaC,List.map_append];rfl
  ·rw[zaD h32,cond_true,zaD h31];exact k3'
  ·intro y hy
   rcases List.mem_append.mp hy with hy|hy
   ·obtain⟨a,b⟩:=kg' y hy
    exact⟨⟨zbF.updSet (zbF.updList a.at_ k1') k2'' b,a.ng,a.nd,a.np⟩,b⟩
   ·rw[List.mem_singleton.mp hy]
    exact⟨⟨zbF.updSet gr' k2'' hps,ex.none q1,ex.none q2,ex.none q3⟩,hps⟩
 | false=>
  refine⟨gs,hdl',?_,nd',by exact lqg lg,?_,zaC,?_,?_,Ext.upd (ex.trans ex2) h2⟩
  ·rw[htk];exact fs.new hin hA false gsur mh
  ·rw[zaD h12.symm];exact k1'
  ·rw[zaD h32];exact k3'
  ·intro y hy
   obtain⟨a,b⟩:=kg' y hy;exact⟨⟨zbF.updSet a.at_ k2' b,a.ng,a.nd,a.np⟩,b⟩
theorem mo_mg {P:Params}:MOk P "_make_group" zeZ:=⟨by decide +kernel,by kernel_rfl,by kernel_rfl,by kernel_rfl⟩
theorem find_spec (hL:L1 T.C)(hn:4<=T.n)(hh:T.hd=false)(B:BdAt x d bp bd rows n G e H){r c:Int}:
  zaF T X (.ref zaR) [.ref x,.int r,.int c] H (FPost n G ((r,c)::nb (r,c)) H) R:=by
 refine hL.f_find_surrounded_groups hh (by exact lq1 hn rfl) rfl ?_;intro a1 h1;refine zaG.set0 λ a2 h2=>?_;have h12:a2≠a1:=λ e=>by rw[e,zaC]at h2;cases h2
 have h2':H a2=none:=by rw[zaD h12]at h2;exact h2
 intro a3 h3;have h32:a3≠a2:=λ e=>by rw[e,zaC]at h3;cases h3
 have h3:=h3;rw[zaD h32]at h3;have h31:a3≠a1:=λ e=>by rw[e,zaC]at h3;cases h3
 rw[zaD h31]at h3;refine WFor.list a3 (((r,c)::nb (r,c)).map pt) rfl zaC Unit (λ _=>[(0,.ref x),(3,.ref a1),(4,.ref a2)]) (FI n G ((r,c)::nb (r,c)) a1 a2 a3 H) () ⟨rfl,rfl,rfl,trivial⟩ ?_ (λ i b H'' hj=>by obtain⟨_,_,_,_,_,_,_,k3,_,_⟩:=hj;exact k3) ?_ ?_
 ·refine⟨[],[],FSI.nil,List.nodup_nil,Nat.zero_le _,?_,?_,zaC,by simp,Ext.upd (Ext.upd (Ext.upd (Ext.refl _) h1) h2') h3⟩
  ·rw[zaD h31.symm,zaD h12.symm];exact zaC
  ·rw[zaD h32.symm];exact zaC
 ·intro i p u H'' hp uu;obtain⟨gs,hdl,fs,nd,lg,k1,k2,k3,kg,ex'⟩:=uu
  refine q12 (zcA hp) λ z hz u0=>?_;cases u0;refine zgV λ K hK=>?_;refine (let L1':LN:=_;(?_:wS _ _ _ L1' _ _ _));have htk:=zaO hz;have B':=B.ext ex';have out:(inG n z->G z=none)->FI n G ((r,c)::nb (r,c)) a1 a2 a3 H (i+1) () H'':=λ hzg=>⟨gs,hdl,by rw[htk];exact fs.skip hzg,nd,by exact lqg lg,k1,k2,k3,kg,ex'⟩
  have keep:SubN [(0,.ref x),(3,.ref a1),(4,.ref a2)] L1':=SubN.of rfl;refine zaW (λ z1=>?_) (λ z1=>hK _ rfl () _ _ keep (out (λ h=>absurd h.1.1 z1)));refine B'.gSide hL ?_;refine zaW (λ z2=>?_) (λ z2=>hK _ rfl () _ _ keep (out (λ h=>absurd h.1.2 z2)));refine zaW (λ z3=>?_) (λ z3=>hK _ rfl () _ _ keep (out (λ h=>absurd h.2.1 z3)));refine B'.gSide hL ?_;refine zaW (λ z4=>?_) (λ z4=>hK _ rfl () _ _ keep (out (λ h=>absurd h.2.2 z4)));have hzg:inG n z:=⟨⟨z1,z2⟩,z3,z4⟩
  refine B'.gBoard hL ?_;refine B'.at1 z1 z2 λ ra _ hra=>?_;refine sub2 hra z3 z4 B.five ?_;cases hG:G (z.1,z.2) with
  | none=>exact hK _ rfl () _ _ (SubN.of rfl) (out (λ _=>hG))
  | some c'=>
   refine SCmp.inS z k2 (B.box hzg) ?_;refine zaW (λ hin=>?_) (λ hin=>?_)
   ·exact hK _ rfl () _ _ (SubN.of rfl) ⟨gs,hdl,by rw[htk];exact fs.again hin,nd,by exact lqg lg,k1,k2,k3,kg,ex'⟩
   ·refine M.own (B'.meth hL mo_mg) (zaF.callK (zmC (T:=T.down) (col:=c') hL (by show 3<=T.n-1;exact lq4 hn rfl) hh B' hzg hG) λ K0 hK0 p H2' h=>?_)
    obtain⟨g,dg,ps,P,sur,rfl,ex2,q1,q2,q3,gr,gm,gsur,gnd⟩:=h;refine hK0 _ _ ?_;have hps:ps≠a2:=λ q=>by rw[q,k2]at q3;cases q3
    have fin:∀ hdl':List Pt,hdl'.Nodup->(∀ q,q∈hdl'↔q∈hdl\/q∈P)->FI n G ((r,c)::nb (r,c)) a1 a2 a3 H (i+1) () (upd (cond sur (upd H2' a1 (.list (gs.map (λ y=>PV.ref y.g)++[PV.ref g]))) H2') a2 (.pset hdl')):=
     λ hdl' nd' mh=>FI.new h12 h31 h32 h1 h2' hz fs lg kg k1 k2 k3 ex' hin ex2 q1 q2 q3 gr ⟨hzg,hG,gm,gnd⟩ gsur nd' mh
    refine zbF.gSur hL gr ?_;cases sur with
    | true=>
     refine M.append (ex2 _ _ k1) (by rw[List.length_map];have:=(List.getElem?_eq_some_iff.mp hz).1;simp[nb]at this;exact lq12 lg this rfl) ?_;have gr':=zbF.updList (m:=gs.map (λ y=>PV.ref y.g)++[PV.ref g]) gr (ex2 _ _ k1);have k2'':upd H2' a1 (.list (gs.map (λ y=>PV.ref y.g)++[PV.ref g])) a2=some (.pset hdl):=by rw[zaD h12];exact ex2 _ _ k2
     refine Exists.intro _ (And.intro (zbQ.update k2'') (zbF.gPts hL gr' (zaG.update k2'' gr'.pts hps.symm λ hdl' nd' mh=>?_)));exact hK _ rfl () _ _ (SubN.of rfl) (fin hdl' nd' mh)
    | false=>
     refine Exists.intro _ (And.intro (zbQ.update (ex2 _ _ k2)) (zbF.gPts hL gr (zaG.update (ex2 _ _ k2) gr.pts hps.symm λ hdl' nd' mh=>?_)));exact hK _ rfl () _ _ (SubN.of rfl) (fin hdl' nd' mh)
 ·intro u H'' uu;obtain⟨gs,hdl,fs,nd,lg,k1,k2,k3,kg,ex'⟩:=uu
  rw[List.length_map]at lg fs;rw[List.take_length]at fs;exact⟨a1,gs,hdl,rfl,ex',h1,k1,λ y hy=>(kg y hy).1,lg,fs⟩
end
section
variable {H:zaA}{x d bp bd:Addr}{rows:List Addr}{n:Nat}{G:Pt->Option Str}{e:Bool}
noncomputable def Keep (H:zaA)(d:Addr)(rows:List Addr)(H':zaA):Prop:=∀ a o,H a=some o->a≠d->a∉rows->H' a=some o
theorem Keep.refl:Keep H d rows H:=λ _ _ e _ _=>e
theorem Keep.ext {H1 H2' H3:zaA}(a:Keep H1 d rows H2')(b:Ext H2' H3):Keep H1 d rows H3:=λ x o e h1 h2=>b x o (a x o e h1 h2)
theorem Keep.row {H1 H2':zaA}{a:Addr}{o:AO}(k:Keep H1 d rows H2')(ha:a∈rows):Keep H1 d rows (upd H2' a o):=λ b ob e h1 h2=>by
 rw[zaD (λ q:b=a=>h2 (by rw[q];exact ha))];exact k b ob e h1 h2
theorem Keep.dict {H1 H2':zaA}{o:AO}(k:Keep H1 d rows H2'):Keep H1 d rows (upd H2' d o):=λ b ob e h1 h2=>by
 rw[zaD h1];exact k b ob e h1 h2
theorem Keep.new {H1 H2':zaA}{a:Addr}{o:AO}(k:Keep H1 d rows H2')(ha:H1 a=none):Keep H1 d rows (upd H2' a o):=λ b ob e h1 h2=>by
 rw[zaD (λ q=>by rw[q,ha]at e;cases e)];exact k b ob e h1 h2
theorem Keep.remNew {H1 H2':zaA}{a:Addr}(k:Keep H1 d rows H2')(ha:H1 a=none):Keep H1 d rows (rem H2' a):=λ b ob e h1 h2=>by
 have:b≠a:=λ q=>by rw[q,ha]at e;cases e
 unfold rem;rw[if_neg this];exact k b ob e h1 h2
theorem zbF.updAttrs {g dg ps:Addr}{col:Str}{P:List Pt}{sur:Bool}{a:Addr}{l m:Ls}(B:zbF g dg ps col P sur H)(ha:H a=some (.attrs l))(hne:dg≠a):zbF g dg ps col P sur (upd H a (.attrs m)):=by
 have h1:g≠a:=λ q=>by have:=B.inst;rw[q,ha]at this;cases this
 have h3:ps≠a:=λ q=>by have:=B.pts;rw[q,ha]at this;cases this
 refine q12 B.attrs λ l b1 b2=>?_;exact⟨by rw[zaD h1];exact B.inst,⟨l,by rw[zaD hne];exact b1,b2⟩,by rw[zaD h3];exact B.pts⟩
theorem nodup_inj {l:List Addr}{i j:Nat}{a:Addr}(hn:l.Nodup)(h1:l[i]?=some a)(h2:l[j]?=some a):i=j:=
 (List.getElem?_inj (List.getElem?_eq_some_iff.mp h1).1 hn).mp (h1.trans h2.symm)
theorem row_put {i j:Int}{v:Option Str}(h0:0<=j)(h1:j<n):(((List.range n).map λ k:Nat=>cell (G (i,k))).set j.toNat (cell v))=(List.range n).map λ k:Nat=>cell (put G (i,j) v (i,k)):=by
 apply List.ext_getElem?;intro k;rw[List.getElem?_set];split
 ·rename_i hk
  subst hk;have:j.toNat<n:=by exact lq14 h0 h1
  simp only[List.length_map,List.length_range,this,if_true,List.getElem?_map,List.getElem?_range this,Option.map_some];rw[Int.toNat_of_nonneg h0];simp[put]
 ·rename_i hk
  rw[List.getElem?_map,List.getElem?_map]
  by_cases hkn:k<n
  ·rw[List.getElem?_range hkn]
   simp only[Option.map_some,put];rw[if_neg];intro q;have:=(Prod.mk.injEq _ _ _ _).mp q;lia
  ·rw[List.getElem?_eq_none (by simpa using hkn)];rfl
theorem BdAt.put {i j:Int}{a:Addr}{v:Option Str}(B:BdAt x d bp bd rows n G e H)(h2:0<=i)(h0:0<=j)(h1:j<n)(hra:rows[i.toNat]?=some a):
  BdAt x d bp bd rows n (AM.Internal.put G (i,j) v) e (upd H a (.list (((List.range n).map λ k:Nat=>cell (G (i,k))).set j.toNat (cell v)))):=by
 have ham:=List.mem_of_getElem? hra;have hH:=B.row _ _ hra;have hx:x≠a:=λ q=>by have:=B.inst;rw[q,hH]at this;cases this
 refine q12 B.attrs λ l b1 b2=>?_;have hd:d≠a:=λ q=>by rw[q,hH]at b1;cases b1
 have hbp:bp≠a:=λ q=>B.bpn (q▸ham);have hbd:bd≠a:=λ q=>B.bdn (q▸ham);refine⟨by rw[zaD hx];exact B.inst,⟨l,by rw[zaD hd];exact b1,b2⟩,by rw[zaD hbp];exact B.pts,by rw[zaD hbd];exact B.board,B.len,λ k b hb=>?_,B.nodup,B.lo,B.five,B.bpn,B.bdn⟩
 by_cases hk:k=i.toNat
 ·subst hk
  rw[hra]at hb;cases hb;rw[zaC,row_put h0 h1,Int.toNat_of_nonneg h2]
 ·have hne:b≠a:=λ q=>by
   subst q;have l1:=(List.getElem?_eq_some_iff.mp hb).1;have l2:=(List.getElem?_eq_some_iff.mp hra).1;exact hk (nodup_inj B.nodup hb hra)
  rw[zaD hne,B.row k b hb]
  congr 2
  apply List.map_congr_left;intro m _;simp only[AM.Internal.put];rw[if_neg];intro q;have:=(Prod.mk.injEq _ _ _ _).mp q;lia
theorem BdAt.mark {l:Ls}{e':Bool}(B:BdAt x d bp bd rows n G e H)(hd:H d=some (.attrs l))(hz:l.length<=4990):BdAt x d bp bd rows n G e' (upd H d (.attrs (("_is_empty",.bool e')::l))):=by
 refine q17 B.attrs λ l' b1 b2 b3 b4 b5 b6 b7=>?_;rw[hd]at b1;cases b1;have hx:x≠d:=λ q=>by have:=B.inst;rw[q,hd]at this;cases this
 have hbp:bp≠d:=λ q=>by have:=B.pts;rw[q,hd]at this;cases this
 have hbd:bd≠d:=λ q=>by have:=B.board;rw[q,hd]at this;cases this
 refine⟨by rw[zaD hx];exact B.inst,⟨_,zaC,by simp;lia,zbM (by decide +kernel) b3,zbM (by decide +kernel) b4,zbM (by decide +kernel) b5,zcX,λ m hm=>?_⟩,by rw[zaD hbp];exact B.pts,by rw[zaD hbd];exact B.board,B.len,λ k b hb=>?_,B.nodup,B.lo,B.five,B.bpn,B.bdn⟩
 ·refine zmQ ?_ (b7 m hm)
  revert m
  decide +kernel
 ·have:b≠d:=λ q=>by have:=B.row k b hb;rw[q,hd]at this;cases this
  rw[zaD this];exact B.row k b hb
theorem BdAt.rem {a:Addr}{l:List Pt}(B:BdAt x d bp bd rows n G e H)(ha:H a=some (.pset l)):BdAt x d bp bd rows n G e (AM.Internal.rem H a):=by
 have kp:∀ b o,H b=some o->(∀ m,o≠.pset m)->AM.Internal.rem H a b=some o:=λ b o h hk=>by
  have:b≠a:=λ q=>by rw[q,ha]at h;cases h;exact hk _ rfl
  unfold AM.Internal.rem;rw[if_neg this];exact h
 refine q12 B.attrs λ l' b1 b2=>?_;exact⟨kp _ _ B.inst (by intro m q;cases q),⟨l',kp _ _ b1 (by intro m q;cases q),b2⟩,kp _ _ B.pts (by intro m q;cases q),kp _ _ B.board (by intro m q;cases q),B.len,λ k b hb=>kp _ _ (B.row k b hb) (by intro m q;cases q),B.nodup,B.lo,B.five,B.bpn,B.bdn⟩
end
section
variable {T:Tr}{X:String}{H:zaA}{R:zaA->Prop}{x d bp bd:Addr}{rows:List Addr}{n:Nat}{G:Pt->Option Str}{e:Bool}
theorem catchV:zuA "ValueError" "ValueError" := ⟨by rw[isSubtype_type];kernel_rfl,by rw[isSubtype_type];kernel_rfl,by rw[isSubtype_type];kernel_rfl⟩
theorem catchK:zuA "KeyError" "KeyError" := ⟨by rw[isSubtype_type];kernel_rfl,by rw[isSubtype_type];kernel_rfl,by rw[isSubtype_type];kernel_rfl⟩
theorem raiseV:RaiseOk "ValueError" := ⟨⟨_,_,excClass_ValueError⟩,by rw[isSubtype_type];kernel_rfl⟩
theorem opp_at (hL:L1 T.C){c o:Str}(hco:Cols c o){Q:PV->zaA->Prop}(h:Q (.str o) H):SSub T (.ref zfX) (.str c) H Q:=SSub.of λ Fs v s hs=>by
 have hl:(heapK T.C.w.params).lookup zfX=some _:=rfl;rw[<- hL.K]at hl;rcases hco with ⟨rfl,rfl⟩|⟨rfl,rfl⟩
 ·exact ASub.topStr (tk:=t_w) hl ⟨⟨_,_,rfl,rfl⟩,⟨_,_,rfl,rfl⟩,trivial⟩ (by rw[hL.K];kernel_rfl) h λ _=>hs _ _
 ·exact ASub.topStr (tk:=t_b) hl ⟨⟨_,_,rfl,rfl⟩,⟨_,_,rfl,rfl⟩,trivial⟩ (by rw[hL.K];kernel_rfl) h λ _=>hs _ _
theorem zpW (hL:L1 T.C)(hn:1<=T.n)(hh:T.hd=false){c o:Str}(hco:Cols c o):
  zaF T X (.ref zcY) [.str c] H (λ p H'=>p=.str o/\H'=H) R:=by
 refine hL.f_opponent_of hh hn rfl ?_;refine Exists.intro "KeyError" (Exists.intro (λ _ _=>False) (And.intro catchK (And.intro ?_ (λ _ _ h=>h.elim))));refine opp_at (T:=T.down) hL hco ?_;exact⟨rfl,rfl⟩
theorem zfY {gs:List GR}{i:Nat}{y:GR}{f:GR->Bool}(h:gs[i]?=some y):((gs.take (i+1)).filter f).map (λ y=>PV.ref y.g)=((gs.take i).filter f).map (λ y=>PV.ref y.g)++(cond (f y) (some (PV.ref y.g)) none).toList:=by
 rw[zaO h,List.filter_append,List.map_append]
 congr 1
 cases e:f y <;> simp[e]
inductive zvB (n:Nat)(G:Pt->Option Str)(z:Pt)(col opp:Str)(x d bp bd:Addr)(rows:List Addr)(H:zaA)(p:PV)(H':zaA):Prop
 | mk (L:List (Str×List Pt)) (hdl:List Pt) (l l':Ls) (g0:G z=none) (fs:FSI n (AM.Internal.put G z (some col)) (z::nb z) L hdl) (l5:L.length<=5) (e:p=pvPt (koOf col opp L)) (at_:BdAt x d bp bd rows n (rm (AM.Internal.put G z (some col)) (zdS (zfU opp L))) (emOf n L) H') (kp:Keep H d rows H') (hl:H d=some (.attrs l)) (hl':H' d=some (.attrs l')) (le:l'.length<=l.length+2):zvB n G z col opp x d bp bd rows H p H'
inductive PCut (n:Nat)(G1:Pt->Option Str)(opp:Str)(gs:List GR)(x d bp bd:Addr)(rows:List Addr)(k:Nat)(H H2:zaA)(ta:Addr)(H':zaA):Prop
 | mk (tc:List GR) (l:Ls) (cap:tc.map GR.cp=zfU opp (gs.map GR.cp)) (sub:∀ y∈tc,y∈gs) (hta:H' ta=some (.list (tc.map λ y=>.ref y.g))) (htr:ta∉rows) (kg:∀ y∈gs,y.New H2 H') (at_:BdAt x d bp bd rows n G1 (emOf n (gs.map GR.cp)) H') (kp:Keep H d rows H') (hl:H' d=some (.attrs l)) (le:l.length<=k):PCut n G1 opp gs x d bp bd rows k H H2 ta H'
structure PL1 (n:Nat)(G1:Pt->Option Str)(e:Bool)(tc:List GR)(x d bp bd:Addr)(rows:List Addr)(l:Ls)(H:zaA)(ta:Addr)(i:Nat)(u:Unit)(H':zaA):Prop where
 at_:BdAt x d bp bd rows n (rm G1 (zdS ((tc.take i).map GR.cp))) e H'
 hta:H' ta=some (.list (tc.map λ y=>.ref y.g))
 kg:∀ y∈tc.drop i,y.At H'
 kp:Keep H d rows H'
 hl:H' d=some (.attrs l)
structure PL2 (n:Nat)(G2:Pt->Option Str)(e:Bool)(tc:List GR)(x d bp bd:Addr)(rows:List Addr)(l:Ls)(H:zaA)(ta ps:Addr)(i:Nat)(l':List Pt)(j:Nat)(u:Unit)(H':zaA):Prop where
 at_:BdAt x d bp bd rows n (rm G2 (l'.take j)) e H'
 hta:H' ta=some (.list (tc.map λ y=>.ref y.g))
 kg:∀ y∈tc.drop (i+1),y.At H'
 kp:Keep H d rows H'
 hl:H' d=some (.attrs l)
 hp:H' ps=none
theorem zfZ {H:zaA}{a:Addr}(B:BdAt x d bp bd rows n G e H)(ha:H a=none):a∉rows:=λ h=>by
 obtain⟨i,hi⟩:=List.getElem?_of_mem h;have:=B.row i _ hi;rw[ha]at this;cases this
theorem PL1.first {G1:Pt->Option Str}{tc:List GR}{l:Ls}{H':zaA}{ta:Addr}{i:Nat}{y:GR}{l':List Pt}(j:PL1 n G1 e tc x d bp bd rows l H ta i () H')(hy:tc[i]?=some y)(hyd:tc.drop i=y::tc.drop (i+1))(hn:H y.ps=none)(hps:∀ w∈tc.drop (i+1),w.ps≠y.ps):
  PL2 n (rm G1 (zdS ((tc.take i).map GR.cp))) e tc x d bp bd rows l H ta y.ps i l' 0 () (rem H' y.ps):=by
 obtain⟨b1,b2,b3,b4,b5⟩:=j;have ya:y.At H':=b3 y (by rw[hyd];exact .head _);have kr:∀ b o,H' b=some o->b≠y.ps->rem H' y.ps b=some o:=λ b o h hne=>by unfold rem;rw[if_neg hne];exact h
 refine⟨by rw[List.take_zero,zvJ];exact b1.rem ya.pts,kr _ _ b2 (λ q=>by rw[q,ya.pts]at b2;cases b2),λ w hw=>?_,b4.remNew hn,kr _ _ b5 (λ q=>by rw[q,ya.pts]at b5;cases b5),by unfold rem;rw[if_pos rfl]⟩;have wa:w.At H':=b3 w (by rw[hyd];exact .tail _ hw);refine q12 wa.attrs λ wl w1 w2=>?_;exact⟨kr _ _ wa.inst (λ q=>by have:=wa.inst;rw[q,ya.pts]at this;cases this),⟨wl,kr _ _ w1 (λ q=>by rw[q,ya.pts]at w1;cases w1),w2⟩,kr _ _ wa.pts (hps w hw)⟩
theorem PL2.turn {G2:Pt->Option Str}{tc:List GR}{l:Ls}{H':zaA}{ta ps:Addr}{i j:Nat}{q:Pt}{l':List Pt}{rb:Addr}(h:PL2 n G2 e tc x d bp bd rows l H ta ps i l' j () H')(hq:l'[j]?=some q)(qg:inG n q)(htr:ta∉rows)(hb1:rows[q.1.toNat]?=some rb)(hrb:H' rb=some (.list ((List.range n).map λ k:Nat=>cell (rm G2 (l'.take j) (q.1,k))))):
  PL2 n G2 e tc x d bp bd rows l H ta ps i l' (j+1) () (upd H' rb (.list (((List.range n).map λ k:Nat=>cell (rm G2 (l'.take j) (q.1,k))).set q.2.toNat .none))):=by
 obtain⟨c1,c2,c3,c4,c5,c6⟩:=h;have hrm:rb∈rows:=List.mem_of_getElem? hb1;refine⟨?_,?_,λ w hw=>zbF.updList (c3 w hw) hrb,c4.row hrm,?_,?_⟩
 ·rw[zaO hq,<- rm_snoc]
  exact c1.put (v:=none) qg.1.1 qg.2.1 qg.2.2 hb1
 ·rw[zaD (λ w:ta=rb=>htr (by rw[w];exact hrm))];exact c2
 ·rw[zaD (λ w=>by rw[w,hrb]at c5;cases c5)];exact c5
 ·rw[zaD (λ w=>by rw[w,hrb]at c6;cases c6)];exact c6
theorem PL2.fin {G1:Pt->Option Str}{tc:List GR}{l:Ls}{H':zaA}{ta:Addr}{i:Nat}{y:GR}{l':List Pt}(h:PL2 n (rm G1 (zdS ((tc.take i).map GR.cp))) e tc x d bp bd rows l H ta y.ps i l' l'.length () H')(hy:tc[i]?=some y)(hp:l'.Perm y.P):
  PL1 n G1 e tc x d bp bd rows l H ta (i+1) () (upd H' y.ps (.pset y.P)):=by
 obtain⟨c1,c2,c3,c4,c5,c6⟩:=h;rw[List.take_length]at c1;have ex6:Ext H' (upd H' y.ps (.pset y.P)):=Ext.upd (Ext.refl _) c6;refine⟨?_,ex6 _ _ c2,λ w hw=>zbF.ext (c3 w hw) ex6,c4.ext ex6,ex6 _ _ c5⟩;have e1:zdS ((tc.take (i+1)).map GR.cp)=zdS ((tc.take i).map GR.cp)++y.P:=by
  rw[zaO hy,List.map_append]
  simp[zdS,GR.cp]
 rw[e1,<- rm_append,<- zvE (G:=rm G1 (zdS ((tc.take i).map GR.cp))) (λ q=>hp.mem_iff (a:=q))];exact c1.ext ex6
theorem mo_fi {P:Params}:MOk P "_find_surrounded_groups" zaR:=⟨by decide +kernel,by kernel_rfl,by kernel_rfl,by kernel_rfl⟩
theorem play_spec (hL:L1 T.C)(hn:6<=T.n)(hh:T.hd=false)(B:BdAt x d bp bd rows n G e H){r c:Int}(hg:inG n (r,c)){col opp:Str}(hco:Cols col opp)(hval:∀ q s,G q=some s->s=col\/s=opp)
  (hz:∃ l,H d=some (.attrs l)/\l.length<=4000) (hX:X = "ValueError") (hR:G (r,c)≠none->R H):
  zaF T X (.ref zpA) [.ref x,.int r,.int c,.str col] H (zvB n G (r,c) col opp x d bp bd rows H) R:=by
 refine q12 hz λ l0 hd0 hz0=>?_;have g1:0<=r:=hg.1.1;have g2:r<n:=hg.1.2;have g3:0<=c:=hg.2.1;have g4:c<n:=hg.2.2;refine zaF.post λ Q hQ=>?_;refine hL.f_play hh (by exact lq1 hn rfl) rfl ?_;refine zaW (λ q=>absurd q (by exact lqb g1)) λ _=>?_;refine zaW (λ q=>absurd q (by exact lqb g3)) λ _=>?_;refine zaF.callK (zpW (T:=T.down) hL (by show 1<=T.n-1;exact lq4 hn rfl) hh hco) λ K0 hK0 p H' h=>?_;obtain⟨rfl,rfl⟩:=h;refine hK0 _ _ ?_;refine (let L1':LN:=(4,.str opp)::_;(?_:wS _ _ _ L1' _ _ _));refine B.gBoard hL ?_;refine B.at1 g1 g2 λ ra hr1 hra=>?_;refine sub2 hra g3 g4 B.five ?_;cases hG:G (r,c) with
 | some c'=>exact⟨hX,raiseV,hR (by rw[hG];simp)⟩
 | none=>
 refine B.gBoard hL ?_;refine B.at1 g1 g2 λ ra' hr1' hra'=>?_;rw[hr1]at hr1';cases hr1';refine zaQ.list hra g3 (by simpa using g4) (by simp;have:=B.five;exact lq2 this rfl) ?_;have B1:=B.put (v:=some col) g1 g3 g4 hr1;have hram:ra∈rows:=List.mem_of_getElem? hr1;have hdra:d≠ra:=λ q=>by rw[q,hra]at hd0;cases hd0
 have K1:Keep H' d rows (upd H' ra (.list (((List.range n).map λ k:Nat=>cell (G (r,k))).set c.toNat (cell (some col))))):=Keep.refl.row hram;have hd1:upd H' ra (.list (((List.range n).map λ k:Nat=>cell (G (r,k))).set c.toNat (cell (some col)))) d=some (.attrs l0):=by rw[zaD hdra];exact hd0
 refine zaP.inst hL.clsB (hL.fd (by kernel_rfl)) B1.inst hd1 (by exact lq2 hz0 rfl) ?_;have B2:=B1.mark (e':=false) hd1 (by exact lq2 hz0 rfl);have K2:=K1.dict (o:=.attrs (("_is_empty",.bool false)::l0));have hd2:upd (upd H' ra (.list (((List.range n).map λ k:Nat=>cell (G (r,k))).set c.toNat (cell (some col))))) d (.attrs (("_is_empty",.bool false)::l0)) d=some (.attrs (("_is_empty",.bool false)::l0)):=zaC;change w _ _ _ _ _ (upd (upd H' ra (.list (((List.range n).map λ k:Nat=>cell (G (r,k))).set c.toNat (cell (some col))))) d (.attrs (("_is_empty",.bool false)::l0))) _ _;generalize upd (upd H' ra (.list (((List.range n).map λ k:Nat=>cell (G (r,k))).set c.toNat (cell (some col))))) d (.attrs (("_is_empty",.bool false)::l0))=H2 at B2 K2 hd2 ⊢;clear B1 K1 hd1;refine M.own (B2.meth hL mo_fi) (zaF.callK (find_spec (T:=T.down) hL (by show 4<=T.n-1;exact lq4 hn rfl) hh B2) λ K0 hK0 p H3 h=>?_);obtain⟨sa,gs,hdl,rfl,ex3,hsa,ksa,kg,lg,fs⟩:=h;refine hK0 _ _ ?_;have lg:gs.length<=5:=lg;have B3:=B2.ext ex3;have K3:=K2.ext ex3;have hd3:=ex3 _ _ hd2;have hLlen:(gs.map GR.cp).length=gs.length:=List.length_map _;have hcol:∀ A∈gs.map GR.cp,A.1=col\/A.1=opp:=λ A hA=>by
  refine q13 (fs.grp A hA) λ z _ hz _=>?_;have:=hz.col;unfold AM.Internal.put at this;split at this
  ·exact .inl (Option.some.inj this).symm
  ·exact hval z _ this
 have hgl:(gs.map λ y=>PV.ref y.g).length<=100000:=by rw[List.length_map];exact lq2 lg rfl
 refine STr.list (.inl ksa) hgl ?_
 by_cases hnil:gs=[]
 ·subst hnil
  exact hQ _ _ ⟨[],hdl,l0,_,hG,fs,by simp,rfl,by rw[show zdS (zfU opp [])=[] from rfl,zvJ];exact B3,K3,hd0,hd3,by simp⟩
 have hemp:(gs.map λ y=>PV.ref y.g).isEmpty=false:=by simpa using hnil
 rw[hemp];have hsr:=zfZ B2 hsa;refine cutI Addr (λ ta=>[(0,.ref x),(8,.ref ta),(6,pvPt (koOf col opp (gs.map GR.cp)))]) (PCut n (AM.Internal.put G (r,c) (some col)) opp gs x d bp bd rows (l0.length+2) H' H2) ?_ ?_
 ·refine wS_cutK λ K hK=>?_
  refine (let L0:LN:=_;(?_:wS _ _ _ L0 _ _ _));refine zaG.lenL (.inl ksa) hgl ?_;refine zaW (λ h1=>?_) (λ h1=>?_)
  ·have hl1:gs.length=1:=by rw[List.length_map]at h1;exact lq21 h1 rfl
   obtain⟨y,rfl⟩:=List.length_eq_one_iff.mp hl1;have ya:=(kg y (.head _)).at_;refine SSub.list ksa (by decide) (by decide) rfl ?_;refine zbF.gPts hL ya ?_;refine zaG.lenS ya.pts ?_;refine B3.gSide hL ?_;refine B3.gSide hL ?_;refine And.intro (ziN B.five) ?_;have hcap:List.map GR.cp [y]=zfU opp (List.map GR.cp [y]):=rfl;refine zaW (λ h2=>?_) (λ h2=>?_)
   ·refine zaP.inst hL.clsB (hL.fd (by kernel_rfl)) B3.inst hd3 (by simp;exact lq2 hz0 rfl) ?_
    have hem:emOf n (List.map GR.cp [y])=true:=by simp only[List.map_cons,List.map_nil,emOf,GR.cp];simp;exact_mod_cast h2
    refine hK _ rfl sa _ _ (SubN.of rfl) ⟨[y],_,hcap,λ _ h=>h,?_,hsr,?_,?_,K3.dict,zaC,by simp⟩
    ·rw[zaD (λ q=>by rw[q,hd3]at ksa;cases ksa)];exact ksa
    ·intro z hz
     have k:=kg z hz;exact⟨zbF.updAttrs k.at_ hd3 (λ q=>by have:=k.nd;rw[q,hd2]at this;cases this),k.ng,k.nd,k.np⟩
    ·rw[hem];exact B3.mark hd3 (by simp;exact lq2 hz0 rfl)
   ·have hem:emOf n (List.map GR.cp [y])=false:=by simp only[List.map_cons,List.map_nil,emOf,GR.cp];simp;intro q;exact h2 (by exact_mod_cast q)
    exact hK _ rfl sa _ _ (SubN.of rfl) ⟨[y],_,hcap,λ _ h=>h,ksa,hsr,kg,by rw[hem];exact B3,K3,hd3,by simp⟩
  ·have hl2:2<=gs.length:=by
    have:gs.length≠0:=λ q=>hnil (List.length_eq_zero_iff.mp q);rw[List.length_map]at h1;lia
   refine zfD.list sa _ rfl ksa hgl (λ i out H'=>H'=H3/\out=((gs.take i).filter λ y=>y.col==opp).map λ y=>PV.ref y.g) ⟨rfl,rfl⟩ (λ i out H'' h=>h.1▸ksa) (λ i v out H'' hv h=>?_) (λ out H'' h=>?_)
   ·obtain⟨rfl,rfl⟩:=h
    refine q12 (zcA hv) λ y hy u0=>?_;cases u0;refine zbF.gCol hL (kg y (List.mem_of_getElem? hy)).at_ ?_;refine br (λ q=>⟨rfl,?_⟩) (λ q=>⟨rfl,?_⟩)
    ·rw[zfY hy,q];rfl
    ·rw[zfY hy,q];rfl
   obtain⟨rfl,rfl⟩:=h;refine⟨H'',Ext.refl _,λ ta hta=>?_⟩;rw[List.length_map,List.take_length];have hsrt:ta∉rows:=zfZ B3 hta;have htcp:(gs.filter λ y=>y.col==opp).map GR.cp=(gs.map GR.cp).filter λ A=>A.1==opp:=by rw[List.filter_map];rfl
   have hcap:(gs.filter λ y=>y.col==opp).map GR.cp=zfU opp (gs.map GR.cp):=by
    rw[htcp];unfold zfU;rw[if_neg (by rw[hLlen];lia)]
   have hscp:(gs.filter λ y=>y.col==col).map GR.cp=(gs.map GR.cp).filter λ A=>A.1==col:=by rw[List.filter_map];rfl
   have hem:emOf n (gs.map GR.cp)=false:=emOf_two (by rw[List.length_map];exact hl2);generalize htc:(gs.filter λ y=>y.col==opp)=tc at htcp hcap ⊢;have hsub:∀ y∈tc,y∈gs:=λ y hy=>by rw[<- htc]at hy;exact (List.mem_filter.mp hy).1
   have htcl:(tc.map λ y=>PV.ref y.g).length<=100000:=by rw[List.length_map,<- htc];exact Nat.le_trans (List.length_filter_le _ _) (by exact lq2 lg rfl)
   have ex4:Ext H'' (upd H'' ta (.list (tc.map λ y=>PV.ref y.g))):=Ext.upd (Ext.refl _) hta;have hta4:upd H'' ta (.list (tc.map λ y=>PV.ref y.g)) ta=some (.list (tc.map λ y=>PV.ref y.g)):=zaC;change w _ _ _ _ _ (upd H'' ta (.list (tc.map λ y=>PV.ref y.g))) _ _;generalize upd H'' ta (.list (tc.map λ y=>PV.ref y.g))=H4 at ex4 hta4 ⊢;have B4:=B3.ext ex4;have K4:=K3.ext ex4;have hd4:=ex4 _ _ hd3;have ksa4:=ex4 _ _ ksa;have kg4:∀ y∈gs,y.New H2 H4:=λ y hy=>(kg y hy).ext ex4;have fin:∀ H5:zaA,Ext H4 H5->PCut n (AM.Internal.put G (r,c) (some col)) opp gs x d bp bd rows (l0.length+2) H' H2 ta H5:=λ H5 ex=>
    ⟨tc,_,hcap,hsub,ex _ _ hta4,hsrt,λ y hy=>(kg4 y hy).ext ex,by rw[hem];exact B4.ext ex,K4.ext ex,ex _ _ hd4,by simp⟩
   have nko:koOf col opp (gs.map GR.cp)=none->SubN [(0,PV.ref x),(8,PV.ref ta),(6,pvPt (koOf col opp (gs.map GR.cp)))] ((8,.ref ta)::L0):=λ q=>by rw[q];exact SubN.of rfl
   refine zaG.lenL (.inl hta4) htcl ?_;refine zaW (λ h3=>?_) (λ h3=>hK _ rfl ta _ _ (nko (koOf_a (by rw[<- htcp,List.length_map];intro q;apply h3;rw[List.length_map,q];rfl))) (fin _ (Ext.refl _)));obtain⟨y,hy1⟩:=List.length_eq_one_iff.mp (show tc.length=1 by rw[List.length_map]at h3;exact lq21 h3 rfl);subst hy1;have ya:=(kg4 y (hsub y (.head _))).at_;refine SSub.list hta4 (by decide) (by decide) rfl ?_;refine zbF.gPts hL ya ?_;refine zaG.lenS ya.pts ?_;refine zaW (λ h4=>?_) (λ h4=>hK _ rfl ta _ _ (nko (koOf_b htcp.symm (by intro q;apply h4;simp only[GR.cp]at q;simp[q]))) (fin _ (Ext.refl _)));obtain⟨kq,hkq⟩:=List.length_eq_one_iff.mp (show y.P.length=1 by exact lq21 h4 rfl);refine zfD.list sa _ rfl ksa4 hgl (λ i out H'=>H'=H4/\out=((gs.take i).filter λ y=>y.col==col).map λ y=>PV.ref y.g) ⟨rfl,rfl⟩ (λ i out H'' h=>h.1▸ksa4) (λ i v out H'' hv h=>?_) (λ out H'' h=>?_)
   ·obtain⟨rfl,rfl⟩:=h
    refine q12 (zcA hv) λ y hy u0=>?_;cases u0;refine zbF.gCol hL (kg4 y (List.mem_of_getElem? hy)).at_ ?_;refine br (λ q=>⟨rfl,?_⟩) (λ q=>⟨rfl,?_⟩)
    ·rw[zfY hy,q];rfl
    ·rw[zfY hy,q];rfl
   obtain⟨rfl,rfl⟩:=h;refine⟨H'',Ext.refl _,λ sc hsc=>?_⟩;rw[List.length_map,List.take_length];refine q21 (own_there hcol (by rw[hLlen];exact hl2) (by rw[<- htcp];rfl)) λ A0 r0 hA0=>?_;rw[<- hscp]at hA0;have hss:∀ y∈(gs.filter λ y=>y.col==col),y∈gs:=λ y hy=>(List.mem_filter.mp hy).1;generalize (gs.filter λ y=>y.col==col)=ss at hA0 hscp hss ⊢;cases ss with
   | nil=>cases hA0
   | cons y' ss'=>
   have ex5:Ext H'' (upd H'' sc (.list ((y'::ss').map λ y=>PV.ref y.g))):=Ext.upd (Ext.refl _) hsc;have ksc:upd H'' sc (.list ((y'::ss').map λ y=>PV.ref y.g)) sc=some (.list ((y'::ss').map λ y=>PV.ref y.g)):=zaC;change w _ _ _ _ _ (upd H'' sc (.list ((y'::ss').map λ y=>PV.ref y.g))) _ _;generalize upd H'' sc (.list ((y'::ss').map λ y=>PV.ref y.g))=H5 at ex5 ksc ⊢;have ya':y'.At H5:=((kg4 y' (hss y' (.head _))).ext ex5).at_;refine SSub.list ksc (by decide) (by decide) rfl ?_;refine zbF.gPts hL ya' ?_;refine zaG.lenS ya'.pts ?_;refine zaW (λ h5=>?_) (λ h5=>hK _ rfl ta _ _ (nko (koOf_c (B:=y'.cp) (r:=ss'.map GR.cp) hscp.symm (by intro q;apply h5;simp only[GR.cp]at q;simp[q]))) (fin _ ex5));obtain⟨kq',hkq'⟩:=List.length_eq_one_iff.mp (show y'.P.length=1 by exact lq21 h5 rfl);refine SSub.list (ex5 _ _ hta4) (by decide) (by decide) rfl ?_;have ya5:y.At H5:=zbF.ext ya ex5;refine zbF.gPts hL ya5 ?_;refine⟨y.ps,kq,rfl,by have:=ya5.pts;rw[hkq]at this;exact this,hK _ rfl ta _ _ ?_ (fin _ ex5)⟩;rw[koOf_d (q:=kq) (q':=kq') (o:=y.col) (s:=y'.col) (r:=ss'.map GR.cp) (by rw[hLlen];exact hl2) (by rw[<- htcp];simp[GR.cp,hkq]) (by rw[<- hscp];simp[GR.cp,hkq'])];exact SubN.of rfl
 ·intro ta Hc uu;obtain⟨tc,l,htc,hsub,hta,htr,kg',B',K',hdl',hll⟩:=uu
  have hnew:∀ a,H2 a=none->H' a=none:=λ a ha=>by
   cases q:H' a with
   | none=>rfl
   | some o=>
    have h1:a≠d:=λ w=>by rw[w,hd2]at ha;cases ha
    have:=K2 a o q h1 (zfZ B2 ha);rw[ha]at this;cases this
  have hpw:(tc.map GR.cp).Pairwise λ A B=>∀ q∈A.2,q∉B.2:=by
   rw[htc];unfold zfU;split
   ·exact fs.apart
   ·exact fs.apart.filter _
  refine WFor.list ta _ rfl hta Unit (λ _=>[(0,.ref x),(6,pvPt (koOf col opp (gs.map GR.cp)))]) (PL1 n (AM.Internal.put G (r,c) (some col)) (emOf n (gs.map GR.cp)) tc x d bp bd rows l H' ta) () (SubN.of rfl) ?_ (λ i b H'' h=>h.hta) ?_ ?_
  ·exact⟨by rw[show zdS (List.map GR.cp (tc.take 0))=[] from rfl,zvJ];exact B',hta,λ y hy=>(kg' y (hsub y hy)).at_,K',hdl'⟩
  ·rintro i p u H'' hp hpl
   refine q12 (zcA hp) λ y hy u0=>?_;cases u0;have hilt:=(List.getElem?_eq_some_iff.mp hy).1;have hyd:tc.drop i=y::tc.drop (i+1):=by rw[List.drop_eq_getElem_cons hilt,(List.getElem?_eq_some_iff.mp hy).2]
   have ya:y.At H'':=hpl.kg y (by rw[hyd];exact .head _);have hyg:=hsub y (List.mem_of_getElem? hy);refine q13 (fs.grp y.cp (List.mem_map.mpr ⟨y,hyg,rfl⟩)) λ z0 _ hz0g _=>?_;have hyn:=hnew _ (kg' y hyg).np;have hps:∀ w∈tc.drop (i+1),w.ps≠y.ps:=λ w hw q=>by
    have wa:w.At H'':=hpl.kg w (by rw[hyd];exact .tail _ hw);have e1:=wa.pts;rw[q,ya.pts]at e1;have e2:y.P=w.P:=by injection e1 with e1;injection e1
    have hp2:=hpw;rw[<- List.take_append_drop i tc,hyd,List.map_append,List.map_cons]at hp2;have:=(List.pairwise_cons.mp (List.pairwise_append.mp hp2).2.1).1 w.cp (List.mem_map.mpr ⟨w,hw,rfl⟩) z0 hz0g.self;exact this (by show z0∈w.P;rw[<- e2];exact hz0g.self)
   refine zgV λ K hK=>?_;refine zbF.gPts hL ya ?_;refine WFor.set hh y.ps y.P rfl ya.pts Unit (λ _=>[(0,.ref x),(6,pvPt (koOf col opp (gs.map GR.cp)))]) (PL2 n (rm (AM.Internal.put G (r,c) (some col)) (zdS ((tc.take i).map GR.cp))) (emOf n (gs.map GR.cp)) tc x d bp bd rows l H' ta y.ps i) () (SubN.of rfl) ?_ ?_ ?_
   ·exact λ l' hperm=>hpl.first hy hyd hyn hps
   ·intro l' j q u H3 hperm hq hp2
    have hqg:inG n q:=((hz0g.mem q).mp ((hperm.mem_iff).mp (List.mem_of_getElem? hq))).inG;refine zgV λ K2' hK2=>?_;refine hp2.at_.gBoard hL ?_;refine hp2.at_.at1 hqg.1.1 hqg.1.2 λ rb hb1 hrb=>?_;refine zaQ.list hrb hqg.2.1 (by simpa using hqg.2.2) (by simp;have:=B.five;exact lq2 this rfl) ?_;exact hK2 _ rfl () _ _ (SubN.of rfl) (hp2.turn hq hqg htr hb1 hrb)
   ·intro l' u H3 hperm hp2
    exact hK _ rfl () _ _ (SubN.of rfl) (hp2.fin hy hperm)
  ·intro u H'' uu;obtain⟨b1,b2,b3,b4,b5⟩:=uu
   rw[List.length_map,List.take_length,htc]at b1;exact hQ _ _ ⟨gs.map GR.cp,hdl,l0,l,hG,fs,by rw[hLlen];exact lg,rfl,b1,b4,hd0,b5,hll⟩
end
inductive zpZ (n:Nat)(x d:Addr)(H:zaA)(p:PV)(H':zaA):Prop
 | mk (bp bd:Addr) (rows:List Addr) (l:Ls) (e:p=.none) (at_:BdAt x d bp bd rows n (λ _=>none) true H') (hl:H' d=some (.attrs l)) (le:l.length<=10) (kp:Keep H d [] H') (np:H bp=none) (nb:H bd=none) (nr:∀ a∈rows,H a=none):zpZ n x d H p H'
structure zvX (n:Nat)(x d bp bd:Addr)(H:zaA)(i:Nat)(u:Unit)(H':zaA):Prop where
 rows:∃ rows:List Addr,(rows.length=i/\rows.Nodup)/\(bp∉rows/\bd∉rows)/\H' bd=some (.list (rows.map .ref))/\∀ a∈rows,H' a=some (.list (List.replicate n .none))/\H a=none
 hx:H' x=some (.inst zfF d)
 hd:H' d=some (.attrs [("board",.ref bd),("board_points",.ref bp),("side",.int n)])
 hbp:H' bp=some (.list (zbL n n λ i j=>some (pt (i,j))))
 kp:Keep H d [] H'
section
variable {T:Tr}{X:String}{H:zaA}{R:zaA->Prop}{x d bp bd:Addr}{rows:List Addr}{n:Nat}{G:Pt->Option Str}{e:Bool}
theorem Keep.none {H':zaA}{a:Addr}(k:Keep H d [] H')(ha:H' a=none)(hd:H' d≠none):H a=none:=by
 cases q:H a with
 | none=>rfl
 | some o=>
  have:=k a o q (λ w=>hd (by rw[<- w];exact ha)) (by simp);rw[ha]at this;cases this
theorem zvX.turn {H' H7:zaA}{i:Nat}{c:Addr}(h:zvX n x d bp bd H i () H')(hbdd:bd≠d)(hbdp:bd≠bp)(hbn:H bd=none)(ex7:Ext H' H7)(hcn:H' c=none)(hc7:H7 c=some (.list (List.replicate n PV.none))):
  ∃ rows:List Addr,rows.length=i/\H7 bd=some (.list (rows.map .ref))/\zvX n x d bp bd H (i+1) () (upd H7 bd (.list (rows.map .ref++[.ref c]))):=by
 obtain⟨⟨rows,⟨r1,r2⟩,⟨r3,r4⟩,r8,r9⟩,r5,r6,r7,r10⟩:=h;have hne:∀ b o,H' b=some o->b≠c:=λ b o hb q=>by rw[q,hcn]at hb;cases hb
 have hcr:c∉rows:=λ h=>hne c _ (r9 c h).1 rfl;have kn:∀ b,b≠bd->upd H7 bd (.list (List.map PV.ref rows++[PV.ref c])) b=H7 b:=λ b hb=>zaD hb;have hbx:x≠bd:=λ q=>by rw[q,r8]at r5;cases r5
 refine⟨rows,r1,ex7 _ _ r8,⟨rows++[c],⟨by simp[r1],?_⟩,⟨?_,?_⟩,?_,?_⟩,?_,?_,?_,?_⟩
 ·exact List.nodup_append.mpr ⟨r2,by simp,λ a ha b hb q=>hcr (by rw[List.mem_singleton.mp hb]at q;rw[<- q];exact ha)⟩
 ·intro h
  rcases List.mem_append.mp h with h|h
  ·exact r3 h
  ·exact hne bp _ r7 (List.mem_singleton.mp h)
 ·intro h
  rcases List.mem_append.mp h with h|h
  ·exact r4 h
  ·exact hne bd _ r8 (List.mem_singleton.mp h)
 ·rw[zaC,List.map_append];rfl
 ·intro b hb
  rcases List.mem_append.mp hb with hb|hb
  ·rw[kn b (λ q=>r4 (q▸hb))];exact⟨ex7 _ _ (r9 b hb).1,(r9 b hb).2⟩
  ·rw[List.mem_singleton.mp hb,kn c (λ q=>hne bd _ r8 q.symm)];exact⟨hc7,r10.none hcn (by rw[r6];simp)⟩
 ·rw[kn x hbx];exact ex7 _ _ r5
 ·rw[kn d hbdd.symm];exact ex7 _ _ r6
 ·rw[kn bp hbdp.symm];exact ex7 _ _ r7
 ·exact (r10.ext ex7).new hbn
theorem zvX.fin {H':zaA}(h:zvX n x d bp bd H n () H')(hxd:x≠d)(hbpd:bp≠d)(hbdd:bd≠d)(h3:2<=n)(h5:n<=5)(np:H bp=none)(nb:H bd=none):
  zpZ n x d H .none (upd H' d (.attrs [("_is_empty",.bool true),("board",.ref bd),("board_points",.ref bp),("side",.int n)])):=by
 obtain⟨⟨rows,⟨r1,r2⟩,⟨r3,r4⟩,r8,r9⟩,r5,r6,r7,r10⟩:=h;refine⟨bp,bd,rows,_,rfl,⟨by rw[zaD hxd];exact r5,⟨_,zaC,by simp,?_,?_,?_,?_,?_⟩,by rw[zaD hbpd];exact r7,by rw[zaD hbdd];exact r8,r1,?_,r2,h3,h5,r3,r4⟩,zaC,by simp,r10.dict,np,nb,λ a ha=>(r9 a ha).2⟩
 ·exact zbM (by decide +kernel) (zbM (by decide +kernel) (zbM (by decide +kernel) zcX))
 ·exact zbM (by decide +kernel) (zbM (by decide +kernel) zcX)
 ·exact zbM (by decide +kernel) zcX
 ·exact zcX
 ·intro m hm
  refine zmQ ?_ (zmQ ?_ (zmQ ?_ (zmQ ?_ rfl))) <;> (revert m;decide +kernel)
 ·intro i b hb
  have hbr:=List.mem_of_getElem? hb;rw[zaD (λ q=>by have:=(r9 b hbr).1;rw[q,r6]at this;cases this),(r9 b hbr).1]
  congr 2
  apply List.ext_getElem?;intro k;rw[List.getElem?_map]
  by_cases hk:k<n
  ·rw[List.getElem?_range hk,List.getElem?_replicate,if_pos hk];rfl
  ·rw[List.getElem?_eq_none (by simpa using hk),List.getElem?_eq_none (by simpa using hk)];rfl
theorem init_spec (hL:L1 T.C)(hn:3<=T.n)(hh:T.hd=false)(hx:H x=some (.inst zfF d))(hd0:H d=some (.attrs []))(h3:2<=n)(h5:n<=5):
  zaF T X (.ref a_init) [.ref x,.int n] H (zpZ n x d H) R:=by
 refine hL.f_init hh (by exact lq1 hn rfl) rfl ?_;have hxd:x≠d:=λ q=>by rw[q,hd0]at hx;cases hx
 refine zaP.inst hL.clsB (hL.fd (by kernel_rfl)) hx hd0 (by simp) ?_;have hx1:upd H d (.attrs [("side",.int n)]) x=some (.inst zfF d):=by rw[zaD hxd];exact hx
 have hd1:upd H d (.attrs [("side",.int n)]) d=some (.attrs [("side",.int n)]):=zaC;have K1:Keep H d [] (upd H d (.attrs [("side",.int n)])):=Keep.refl.dict;change cond _ (wS _ _ _ _ (upd H d (.attrs [("side",.int n)])) _ _) (wS _ _ _ _ (upd H d (.attrs [("side",.int n)])) _ _);generalize upd H d (.attrs [("side",.int n)])=H1 at hx1 hd1 K1 ⊢;refine zaW (λ q=>absurd q (by lia)) λ _=>?_;refine Exists.intro n (Exists.intro n (Exists.intro (λ i j=>some (pt (i,j))) (And.intro (by have:n*n<=5*5:=Nat.mul_le_mul h5 h5;exact lq2 this rfl) (And.intro (by exact lq3 h5 rfl) (And.intro (by exact lq3 h5 rfl) (zaG.range1 λ a hra=>Exists.intro a (And.intro rfl (And.intro zaC (And.intro ?_ (And.intro ?_ ?_)))))))) ))
 ·intro i H' hi ex
  exact zaG.range1 λ b hb=>⟨b,rfl,zaC,Ext.upd ex (ex.none hb)⟩
 ·intro i j H' hi hj ex
  exact⟨ex,_,rfl,rfl,ex⟩
 intro bp hbp;have hbpd:bp≠d:=λ q=>by
  rw[q]at hbp;have:upd H1 a (.range 0 n) d=some (.attrs [("side",.int n)]):=Ext.upd (Ext.refl _) hra _ _ hd1;rw[this]at hbp;cases hbp
 have ex2:Ext H1 (upd (upd H1 a (.range 0 n)) bp (.list (zbL n n λ i j=>some (pt (i,j))))):=λ b o hb=>Ext.upd (Ext.refl _) hbp _ _ (Ext.upd (Ext.refl _) hra _ _ hb);have hbp2:upd (upd H1 a (.range 0 n)) bp (.list (zbL n n λ i j=>some (pt (i,j)))) bp=some (.list (zbL n n λ i j=>some (pt (i,j)))):=zaC;have hx2:=ex2 _ _ hx1;have hd2:=ex2 _ _ hd1;have K2:=K1.ext ex2;have np:H bp=none:=K1.none (Ext.none (Ext.upd (Ext.refl _) hra) hbp) (by rw[hd1];simp);change zaP _ _ _ _ (upd (upd H1 a (.range 0 n)) bp (.list (zbL n n λ i j=>some (pt (i,j))))) _;generalize upd (upd H1 a (.range 0 n)) bp (.list (zbL n n λ i j=>some (pt (i,j))))=H2 at ex2 hbp2 hx2 hd2 K2 ⊢;refine zaP.inst hL.clsB (hL.fd (by kernel_rfl)) hx2 hd2 (by simp) ?_;have hx3:upd H2 d (.attrs [("board_points",.ref bp),("side",.int n)]) x=some (.inst zfF d):=by rw[zaD hxd];exact hx2
 have hd3:upd H2 d (.attrs [("board_points",.ref bp),("side",.int n)]) d=some (.attrs [("board_points",.ref bp),("side",.int n)]):=zaC;have hbp3:upd H2 d (.attrs [("board_points",.ref bp),("side",.int n)]) bp=some (.list (zbL n n λ i j=>some (pt (i,j)))):=by rw[zaD hbpd];exact hbp2
 have K3:Keep H d [] (upd H2 d (.attrs [("board_points",.ref bp),("side",.int n)])):=K2.dict;intro bd hbd;change upd H2 d (.attrs [("board_points",.ref bp),("side",.int n)]) bd=none at hbd;change zaP _ _ _ _ (upd (upd H2 d (.attrs [("board_points",.ref bp),("side",.int n)])) bd (.list [])) _;generalize upd H2 d (.attrs [("board_points",.ref bp),("side",.int n)])=H3 at hx3 hd3 hbp3 K3 hbd ⊢;have hbdd:bd≠d:=λ q=>by rw[q,hd3]at hbd;cases hbd
 have hbdp:bd≠bp:=λ q=>by rw[q,hbp3]at hbd;cases hbd
 have ex4:Ext H3 (upd H3 bd (.list [])):=Ext.upd (Ext.refl _) hbd;have hbd4:upd H3 bd (.list []) bd=some (.list []):=zaC;have hbdn:H bd=none:=K3.none hbd (by rw[hd3];simp);have hx4:=ex4 _ _ hx3;have hd4:=ex4 _ _ hd3;have hbp4:=ex4 _ _ hbp3;have K4:=K3.ext ex4;generalize upd H3 bd (.list [])=H4 at ex4 hbd4 hx4 hd4 hbp4 K4 ⊢;refine zaP.inst hL.clsB (hL.fd (by kernel_rfl)) hx4 hd4 (by simp) ?_;refine zaG.range1 λ ra hra=>?_;change upd H4 d (.attrs [("board",.ref bd),("board_points",.ref bp),("side",.int n)]) ra=none at hra;have exr:=Ext.upd (o:=.range 0 n) (Ext.refl _) hra;refine WFor.range ra n rfl zaC (by exact lq3 h5 rfl) Unit (λ _=>[(0,.ref x),(1,.int n)]) (zvX n x d bp bd H) () ⟨rfl,rfl,trivial⟩ ?_ ?_ ?_
 ·refine⟨⟨[],⟨rfl,List.nodup_nil⟩,⟨by simp,by simp⟩,exr _ _ (by rw[zaD hbdd];exact hbd4),by simp⟩,exr _ _ (by rw[zaD hxd];exact hx4),exr _ _ zaC,exr _ _ (by rw[zaD hbpd];exact hbp4),K4.dict.ext exr⟩
 ·rintro i u H' hi hI
  refine zgV λ K hK=>?_;refine (let L1':LN:=_;(?_:wS _ _ _ L1' _ _ _));refine SGet.inst hL.clsB (hL.fd (by kernel_rfl)) hI.hx hI.hd (p:=.ref bd) zcX rfl ?_;refine q14 hI.rows λ rows0 _ _ r8 _=>?_;refine Exists.intro _ (And.intro (zbQ.append r8) ?_);intro la hla;refine SBin.mulL zaC (by exact Int.natCast_nonneg _) (by exact lq15 h5 rfl) λ c hc=>?_;have ex7:Ext H' (upd (upd H' la (.list [PV.none])) c (.list (List.replicate (n:Int).toNat PV.none))):=λ b o hb=>Ext.upd (Ext.refl _) hc _ _ (Ext.upd (Ext.refl _) hla _ _ hb);have hcn:H' c=none:=Ext.none (Ext.upd (Ext.refl _) hla) hc;refine q13 (hI.turn hbdd hbdp hbdn ex7 hcn zaC) λ rows r1 r8' hI'=>?_;refine zaG.append r8' (by rw[List.length_map];lia) ?_;exact hK _ rfl () _ _ (SubN.of rfl) hI'
 ·rintro u H' hI
  refine zaP.inst hL.clsB (hL.fd (by kernel_rfl)) hI.hx hI.hd (by simp) ?_;exact hI.fin hxd hbpd hbdd h3 h5 np hbdn
end
section
theorem zxS {m:Nat}{f:Pt->Option PV}(l:List Nat):(l.flatMap λ i:Nat=>(List.range m).filterMap λ j:Nat=>f ((i:Int),(j:Int)))=(l.flatMap λ i:Nat=>(List.range m).map λ j:Nat=>(((i:Int),(j:Int)):Pt)).filterMap f:=by
 induction l with
 | nil=>rfl
 | cons i l ih=>
  rw[List.flatMap_cons,List.flatMap_cons,List.filterMap_append,ih,List.filterMap_map];rfl
theorem zuH {n:Nat}{f:Pt->Option PV}:zbL n n (λ i j=>f ((i:Int),(j:Int)))=(grid n).filterMap f:=zxS (List.range n)
theorem zjC {n:Nat}:zbL n n (λ i j=>some (pt ((i:Int),(j:Int))))=(grid n).map pt:=by
 rw[zuH (f:=λ z=>some (pt z))];rw[List.filterMap_eq_map']
noncomputable def occ (n:Nat)(G:Pt->Option Str):List PV:=(grid n).filterMap λ z=>(G z).map λ c=>PV.tup [.str c,pt z]
theorem grid_le {n:Nat}(h:n<=5):(grid n).length<=25:=by
 rw[zeO];exact Nat.mul_le_mul h h
noncomputable def dpt (z:Pt):Dat:=.tuple [.int z.1,.int z.2]
theorem hd_pt {C:Cx}{H:zaA}{k:Nat}{z:Pt}:HD C H (k+2) (pt z) (dpt z):=HD.tup' (All2.mk HD.int' (All2.mk HD.int' rfl))
noncomputable def dko:Option Pt->Dat
 | none=>.none
 | some q=>dpt q
theorem hd_ko {C:Cx}{H:zaA}{k:Nat}:∀ o:Option Pt,HD C H (k+2) (pvPt o) (dko o)
 | none=>HD.none'
 | some q=>hd_pt
noncomputable def docc (n:Nat)(G:Pt->Option Str):List Dat:=(grid n).filterMap λ z=>(G z).map λ c=>Dat.tuple [.str c,dpt z]
theorem zwA {C:Cx}{H:zaA}{k:Nat}{G:Pt->Option Str}(hv:∀ z c,G z=some c->PyData.strOk c=true)(gl:List Pt):All2 (HD C H (k+3)) (gl.filterMap λ z=>(G z).map λ c=>PV.tup [.str c,pt z]) (gl.filterMap λ z=>(G z).map λ c=>Dat.tuple [.str c,dpt z]):=by
 induction gl with
 | nil=>rfl
 | cons z gl ih=>
  rw[List.filterMap_cons,List.filterMap_cons];cases hz:G z with
  | none=>exact ih
  | some c=>exact⟨_,_,rfl,HD.tup' (All2.mk (HD.str' (hv z c hz)) (All2.mk hd_pt rfl)),ih⟩
theorem hd_occ {C:Cx}{H:zaA}{a:Addr}{n:Nat}{G:Pt->Option Str}(hv:∀ z c,G z=some c->PyData.strOk c=true)(hl:H a=some (.list (occ n G))):HD C H 9 (.ref a) (.list (docc n G)):=HD.list' (.inl hl) (zwA (k:=5) hv _)
end
structure OccI (n:Nat)(G:Pt->Option Str)(a1:Addr)(H:zaA)(k:Nat)(u:Unit)(H':zaA):Prop where
 k1:H' a1=some (.list (((grid n).take k).filterMap λ z=>(G z).map λ c=>PV.tup [.str c,pt z]))
 ex:Ext H H'
inductive OccPost (n:Nat)(G:Pt->Option Str)(H:zaA)(p:PV)(H':zaA):Prop
 | mk (a:Addr) (e:p=.ref a) (ex:Ext H H') (na:H a=none) (ka:H' a=some (.list (occ n G))):OccPost n G H p H'
section
variable {T:Tr}{X:String}{H:zaA}{R:zaA->Prop}{x d bp bd:Addr}{rows:List Addr}{n:Nat}{G:Pt->Option Str}{e:Bool}
theorem zrC (hL:L1 T.C)(hn:3<=T.n)(B:BdAt x d bp bd rows n G e H):
  zaF T X (.ref zbA) [.ref x] H (OccPost n G H) R:=by
 refine hL.f_list_occupied_points (by exact lq1 hn rfl) rfl ?_;intro a1 h1;have ex1:Ext H (upd H a1 (.list [])):=Ext.upd (Ext.refl _) h1;refine (B.ext ex1).gPts hL ?_;have hbp:=B.pts;rw[zjC]at hbp;refine WFor.list bp ((grid n).map pt) rfl (ex1 _ _ hbp) Unit (λ _=>[(0,.ref x),(1,.ref a1)]) (OccI n G a1 H) () ⟨rfl,rfl,trivial⟩ ⟨zaC,ex1⟩ (λ i b H' h=>h.ex _ _ hbp) ?_ ?_
 ·rintro k p u H' hp hI
  refine q12 (zcA hp) λ z hz u0=>?_;cases u0;refine zgV λ K hK=>?_;refine (let L1':LN:=_;(?_:wS _ _ _ L1' _ _ _));have hzg:=zbC.mp (List.mem_of_getElem? hz);have htk:=zaO hz;have B':=B.ext hI.ex;refine B'.gBoard hL ?_;refine B'.at1 hzg.1.1 hzg.1.2 λ ra _ hra=>?_;refine sub2 hra hzg.2.1 hzg.2.2 B.five ?_;cases hG:G (z.1,z.2) with
  | none=>
   have hG:G z=none:=hG;refine hK _ rfl () _ _ (SubN.of rfl) ⟨?_,hI.ex⟩;rw[htk,List.filterMap_append];simp only[List.filterMap_cons,hG,Option.map_none,List.filterMap_nil,List.append_nil];exact hI.k1
  | some c=>
   have hG:G z=some c:=hG;refine M.append hI.k1 ?_ ?_
   ·have h1:=List.length_filterMap_le (λ z=>(G z).map λ c=>PV.tup [.str c,pt z]) ((grid n).take k)
    have h3:=grid_le B.five;have h4:((grid n).take k).length<=(grid n).length:=by rw[List.length_take];exact Nat.min_le_right _ _
    exact Nat.le_trans h1 (Nat.le_trans h4 (Nat.le_trans h3 (by decide)))
   refine hK _ rfl () _ _ (SubN.of rfl) ⟨?_,Ext.upd hI.ex h1⟩;rw[zaC,htk,List.filterMap_append];simp only[List.filterMap_cons,hG,Option.map_some,List.filterMap_nil];rfl
 ·rintro u H' hI
  have k1:=hI.k1;rw[List.length_map,List.take_length]at k1;exact⟨a1,rfl,hI.ex,h1,k1⟩
end
noncomputable def KC (G:Pt->Option Str)(c:Str):Pt->Option Str:=λ z=>(G z).elim (some "e") λ c'=>if c'=c then none else some "x"
section
variable {G:Pt->Option Str}{c c':Str}{z:Pt}
theorem zdO (h:G z=none):KC G c z=some "e" := by unfold KC;rw[h];rfl
theorem KC_eq (h:G z=some c):KC G c z=none:=by unfold KC;rw[h];exact if_pos rfl
theorem KC_ne (h:G z=some c')(hne:c'≠c):KC G c z=some "x" := by unfold KC;rw[h];exact if_neg hne
end
theorem x_ne_e:("x" : Str) ≠ "e" := by decide +kernel
structure RgAt (g dg ps cs:Addr)(P:List Pt)(fb fw:Bool)(H:zaA):Prop where
 inst:H g=some (.inst zdJ dg)
 attrs:∃ l,H dg=some (.attrs l)/\l.lookup ("points" : Str)=some (.ref ps)/\l.lookup ("neighbouring_colours" : Str)=some (.ref cs)
 pts:H ps=some (.pset P)
 cols:H cs=some (.cset fb fw)
inductive RgPost (n:Nat)(G:Pt->Option Str)(s:Pt)(H:zaA)(p:PV)(H':zaA):Prop
 | mk (g dg ps cs:Addr) (P:List Pt) (fb fw:Bool) (e:p=.ref g) (ex:Ext H H') (n3:H ps=none) (at_:RgAt g dg ps cs P fb fw H') (nP:P.Nodup) (mem:∀ q,q∈P↔zaJ n (KC G "b") "e" s q) (mem':∀ q,q∈P↔zaJ n (KC G "w") "e" s q)
   (hb:(!fb)=true↔Surr n (KC G "b") "e" s) (hw:(!fw)=true↔Surr n (KC G "w") "e" s):RgPost n G s H p H'
inductive RgI (n:Nat)(G:Pt->Option Str)(s:Pt)(a1 ac a2:Addr)(H:zaA)(m:Nat)(u:Unit)(H':zaA):Prop
 | mk (P W:List Pt) (fb fw:Bool) (e:m=left n P) (mb:MG n (KC G "b") "e" s P W (!fb)) (mw:MG n (KC G "w") "e" s P W (!fw)) (nP:P.Nodup) (nW:W.Nodup) (hP:H' a1=some (.pset P)) (hW:H' a2=some (.pset W)) (hC:H' ac=some (.cset fb fw)) (ex:Ext H H'):RgI n G s a1 ac a2 H m u H'
inductive RgJ (n:Nat)(G:Pt->Option Str)(q:Pt)(P1 W1:List Pt)(fb fw:Bool)(a1 ac a2 a3:Addr)(H:zaA)(i:Nat)(u:Unit)(H':zaA):Prop
 | mk (W':List Pt) (fb' fw':Bool) (ib:MI n (KC G "b") "e" q P1 W1 (!fb) ((nb q).take i) W' (!fb')) (iw:MI n (KC G "w") "e" q P1 W1 (!fw) ((nb q).take i) W' (!fw')) (nW':W'.Nodup) (k1:H' a1=some (.pset P1)) (k2:H' a2=some (.pset W')) (kc:H' ac=some (.cset fb' fw')) (k3:H' a3=some (.list ((nb q).map pt))) (ex:Ext H H'):RgJ n G q P1 W1 fb fw a1 ac a2 a3 H i u H'
section
variable {T:Tr}{X:String}{H:zaA}{R:zaA->Prop}{x d bp bd:Addr}{rows:List Addr}{n:Nat}{G:Pt->Option Str}{e:Bool}
theorem L1.clsR {C:Cx}(h:L1 C):zrA C.K zdJ:=by rw[h.K];exact⟨by kernel_rfl,by kernel_rfl,by kernel_rfl,by kernel_rfl,by kernel_rfl⟩
theorem zmD {H:zaA}{a b:Addr}{o:AO}(h:H a=some o)(hb:H b=none):a≠b:=λ q=>by rw[q,hb]at h;cases h
theorem zsZ (hL:L1 T.C)(hn:4<=T.n)(hh:T.hd=false)(B:BdAt x d bp bd rows n G e H)(hval:∀ q s,G q=some s->s = "b" \/ s = "w"){r c:Int}(hg:inG n (r,c))(hc:G (r,c)=none):
  zaF T X (.ref zbK) [.ref x,.int r,.int c] H (RgPost n G (r,c) H) R:=by
 refine hL.f_make_empty_region hh (by exact lq1 hn rfl) rfl ?_;refine zaG.set0 (fresh λ a1 H1 h1 ex1 k1=>?_);refine zaG.cs0 (fresh λ ac H2 hac ex2 kc=>?_);refine zaG.set0 (fresh λ a2 H3 h2 ex3 k2=>?_);have hac0:H ac=none:=ex1.none hac;have h20:H a2=none:=ex1.none (ex2.none h2);have k13:=ex3 _ _ (ex2 _ _ k1);have kc3:=ex3 _ _ kc;have n1c:a1≠ac:=zmD k1 hac;have n12:a1≠a2:=zmD (ex2 _ _ k1) h2;have nc2:ac≠a2:=zmD kc h2;have ex03:=(ex1.trans ex2).trans ex3;refine M.add (r,c) k2 (B.box hg) λ l0 n0 m0=>?_;refine whileI Unit (λ _=>[(0,.ref x),(3,.ref a1),(4,.ref ac),(5,.ref a2)]) (RgI n G (r,c) a1 ac a2 H) (left n []) () (SubN.of rfl) ?_ ?_
 ·exact⟨[],l0,false,false,rfl,MG.first hg (zdO hc) m0,MG.first hg (zdO hc) m0,List.nodup_nil,n0,by rw[zaD n12];exact k13,zaC,by rw[zaD nc2];exact kc3,Ext.upd ex03 h20⟩
 clear k13 kc3 ex03 ex1 ex2 ex3 k1 kc k2 m0 n0 hac h2;clear H1 H2 H3;intro m u H' uu;obtain⟨P,W,fb,fw,rfl,mb,mw,nP,nW,hP,hW,hC,ex⟩:=uu;refine STr.set hW ?_;cases W with
 | nil=>
  obtain⟨b1,b2⟩:=mb.done;obtain⟨w1,w2⟩:=mw.done;refine zaG.cls (fI:=ztF) (hL.mks (by kernel_rfl)) (hL.fd (by kernel_rfl)) (hL.ft (by kernel_rfl)) (by show 1<=T.n-1;exact lq4 hn rfl) λ g dg hne hg1 hg2=>?_;have g1:a1≠g:=zmD hP hg1;have d1:a1≠dg:=zmD hP hg2;have g3:ac≠g:=zmD hC hg1;have d3:ac≠dg:=zmD hC hg2;have ki:upd (upd H' dg (.attrs [])) g (.inst zdJ dg) g=some (.inst zdJ dg):=zaC;have kd:upd (upd H' dg (.attrs [])) g (.inst zdJ dg) dg=some (.attrs []):=by rw[zaD hne.symm];exact zaC
  have exI:Ext H' (upd (upd H' dg (.attrs [])) g (.inst zdJ dg)):=Ext.upd (Ext.upd (Ext.refl _) hg2) hg1;generalize upd (upd H' dg (.attrs [])) g (.inst zdJ dg)=HI at ki kd exI ⊢;refine hL.f_rinit (T:=T.down.down) hh (by show 1<=T.n-1-1;exact lq5 hn rfl) rfl ?_;refine zaG.set0 (fresh λ s1 J1 hs1 j1 _=>?_);refine zaP.inst hL.clsR (hL.fd (by kernel_rfl)) (j1 _ _ ki) (j1 _ _ kd) (by simp) ?_;refine zaG.set0 (fresh λ s2 J2 hs2 j2 _=>?_);have ki2:J2 g=some (.inst zdJ dg):=j2 _ _ (by rw[zaD hne];exact j1 _ _ ki);have kd2:=j2 _ _ (zaC (H:=J1) (a:=dg));refine zaP.inst hL.clsR (hL.fd (by kernel_rfl)) ki2 kd2 (by simp) ?_;refine And.intro rfl ?_;refine zaP.inst hL.clsR (hL.fd (by kernel_rfl)) (by rw[zaD hne];exact ki2) zaC (by simp) ?_;refine zaP.inst hL.clsR (hL.fd (by kernel_rfl)) (by rw[zaD hne,zaD hne];exact ki2) zaC (by simp) ?_;have kk:∀ {a:Addr} {o:AO},H' a=some o->a≠dg->J2 a=some o:=λ h hd=>j2 _ _ (by rw[zaD hd];exact j1 _ _ (exI _ _ h));have hd0:H dg=none:=ex.none hg2;refine RgPost.mk g dg a1 ac P fb fw rfl (λ a o h=>?_) h1 ⟨?_,⟨_,zaC,?_,?_⟩,?_,?_⟩ nP b1 w1 b2 w2
  ·have hd:a≠dg:=zmD h hd0
   rw[zaD hd,zaD hd,zaD hd];exact kk (ex _ _ h) hd
  ·rw[zaD hne,zaD hne,zaD hne];exact ki2
  ·exact zbM (by decide +kernel) zcX
  ·exact zcX
  ·rw[zaD d1,zaD d1,zaD d1];exact kk hP d1
  ·rw[zaD d3,zaD d3,zaD d3];exact kk hC d3
 | cons w0 W0=>
 refine wS_goK λ K1 hK1=>?_;refine (let L0:LN:=_;(?_:wS _ _ _ L0 _ _ _));refine M.popS hW (by simp) λ q W1 hq nW1 mW1 _=>?_;have hP2:upd H' a2 (.pset W1) a1=some (.pset P):=by rw[zaD n12];exact hP
 have hC2:upd H' a2 (.pset W1) ac=some (.cset fb fw):=by rw[zaD nc2];exact hC
 have ex2:Ext H (upd H' a2 (.pset W1)):=Ext.upd ex h20;have k2:upd H' a2 (.pset W1) a2=some (.pset W1):=zaC;generalize upd H' a2 (.pset W1)=H4 at hP2 hC2 ex2 k2 ⊢;have hqg:=(mb.reach q (.inr hq)).inG;refine M.add q hP2 (B.box hqg) λ P1 nP1 mP1=>?_;have hP3:upd H4 a1 (.pset P1) a1=some (.pset P1):=zaC;have hC3:upd H4 a1 (.pset P1) ac=some (.cset fb fw):=by rw[zaD n1c.symm];exact hC2
 have k3:upd H4 a1 (.pset P1) a2=some (.pset W1):=by rw[zaD n12.symm];exact k2
 have ex3:Ext H (upd H4 a1 (.pset P1)):=Ext.upd ex2 h1;generalize upd H4 a1 (.pset P1)=H5 at hP3 hC3 k3 ex3 ⊢;refine fresh λ a3 H6 h3 ex6 k6=>?_;have n32:a2≠a3:=zmD k3 h3;have n3c:ac≠a3:=zmD hC3 h3;refine WFor.list a3 ((nb q).map pt) rfl k6 Unit (λ _=>[(0,.ref x),(3,.ref a1),(4,.ref ac),(5,.ref a2)]) (RgJ n G q P1 W1 fb fw a1 ac a2 a3 H) () ⟨rfl,rfl,rfl,rfl,trivial⟩ ?_ (λ i b H'' hj=>by obtain⟨_,_,_,_,_,_,_,_,_,k3,_⟩:=hj;exact k3) ?_ ?_
 ·exact⟨W1,fb,fw,MI.nil,MI.nil,nW1,ex6 _ _ hP3,ex6 _ _ k3,ex6 _ _ hC3,k6,ex3.trans ex6⟩
 ·intro i p u H'' hp uu;obtain⟨W',fb',fw',ib,iw,nW',k1',k2',kc',k3',ex'⟩:=uu
  refine q12 (zcA hp) λ z hz u0=>?_;cases u0;refine zgV λ K hK=>?_;refine (let L1':LN:=(13,.int z.2)::(12,.int z.1)::_;(?_:wS _ _ _ L1' _ _ _));have hzm:z∈nb q:=List.mem_of_getElem? hz;have htk:=zaO hz;have B':=B.ext ex';have out:¬ inG n z->RgJ n G q P1 W1 fb fw a1 ac a2 a3 H (i+1) () H'':=λ hzg=>⟨W',fb',fw',by rw[htk];exact ib.skip λ h=>absurd h hzg,by rw[htk];exact iw.skip λ h=>absurd h hzg,nW',k1',k2',kc',k3',ex'⟩
  have keep:SubN [(0,.ref x),(3,.ref a1),(4,.ref ac),(5,.ref a2)] L1':=SubN.of rfl;refine zaW (λ z1=>?_) (λ z1=>hK _ rfl () _ _ keep (out (λ h=>z1 h.1.1)));refine B'.gSide hL ?_;refine zaW (λ z2=>?_) (λ z2=>hK _ rfl () _ _ keep (out (λ h=>z2 h.1.2)));refine zaW (λ z3=>?_) (λ z3=>hK _ rfl () _ _ keep (out (λ h=>z3 h.2.1)));refine B'.gSide hL ?_;refine zaW (λ z4=>?_) (λ z4=>hK _ rfl () _ _ keep (out (λ h=>z4 h.2.2)));have hzg:inG n z:=⟨⟨z1,z2⟩,z3,z4⟩
  refine B'.gBoard hL ?_;refine B'.at1 z1 z2 λ ra _ hra=>?_;refine sub2 hra z3 z4 B.five ?_;cases hG:G (z.1,z.2) with
  | none=>
   have hG:G z=none:=hG;refine SCmp.inS z k1' (B.box hzg) ?_;refine br_ndec (λ hin=>?_) (λ hin=>?_)
   ·refine M.add z k2' (B.box hzg) λ W2 nW2 mW2=>?_
    exact hK _ rfl () _ _ (SubN.of rfl) ⟨W2,fb',fw',by rw[htk];exact ib.more hzm hzg (zdO hG) hin mW2,by rw[htk];exact iw.more hzm hzg (zdO hG) hin mW2,nW2,by rw[zaD n12];exact k1',zaC,by rw[zaD nc2];exact kc',by rw[zaD n32.symm];exact k3',Ext.upd ex' h20⟩
   ·exact hK _ rfl () _ _ (SubN.of rfl) ⟨W',fb',fw',by rw[htk];exact ib.skip λ _=>⟨by rw[zdO hG];simp,λ _=>hin⟩,by rw[htk];exact iw.skip λ _=>⟨by rw[zdO hG];simp,λ _=>hin⟩,nW',k1',k2',kc',k3',ex'⟩
  | some c'=>
   have hG:G z=some c':=hG;have hv:=hval _ _ hG;refine M.addC kc' hv ?_;have sk:∀ {c:Str},c'≠c->(KC G c z≠none/\(KC G c z=some "e" -> z∈P1)):=λ hne=>⟨by rw[KC_ne hG hne];simp,λ q=>by rw[KC_ne hG hne]at q;exact absurd (Option.some.inj q) x_ne_e⟩
   rcases hv with rfl|rfl
   ·exact hK _ rfl () _ _ (SubN.of rfl) ⟨W',true,fw',by rw[htk];exact ib.free hzg (KC_eq hG),by rw[htk];exact iw.skip λ _=>sk zjM,nW',by rw[zaD n1c];exact k1',by rw[zaD nc2.symm];exact k2',zaC,by rw[zaD n3c.symm];exact k3',Ext.upd ex' hac0⟩
   ·exact hK _ rfl () _ _ (SubN.of rfl) ⟨W',fb',true,by rw[htk];exact ib.skip λ _=>sk ziU,by rw[htk];exact iw.free hzg (KC_eq hG),nW',by rw[zaD n1c];exact k1',by rw[zaD nc2.symm];exact k2',zaC,by rw[zaD n3c.symm];exact k3',Ext.upd ex' hac0⟩
 ·intro u H'' uu;obtain⟨W',fb',fw',ib,iw,nW',k1',k2',kc',k3',ex'⟩:=uu
  rw[List.length_map,List.take_length]at ib iw;exact hK1 _ rfl () _ _ (SubN.of rfl) ⟨left n P1,mb.left_lt hq mP1,P1,W',fb',fw',rfl,mb.turn hq mW1 mP1 ib,mw.turn hq mW1 mP1 iw,nP1,nW',k1',k2',kc',ex'⟩
end
noncomputable def Tch (n:Nat)(G:Pt->Option Str)(c:Str)(z:Pt):Prop:=¬ Surr n (KC G c) "e" z
open Classical in
noncomputable def tchB (n:Nat)(G:Pt->Option Str)(c:Str)(z:Pt):Bool:=decide (Tch n G c z)
noncomputable def znX (n:Nat)(G:Pt->Option Str)(c:Str)(z:Pt):Bool:=G z==some c||G z==none&&tchB n G c z
noncomputable def zcK (n:Nat)(G:Pt->Option Str)(c:Str):Nat:=((grid n).filter (znX n G c)).length
section
variable {n:Nat}{G:Pt->Option Str}{c c':Str}{z q y:Pt}
theorem KC_e:KC G c z=some "e" ↔ G z=none:=by
 cases h:G z with
 | none=>rw[zdO h];simp
 | some c'=>
  by_cases hc:c'=c
  ·rw[KC_eq (hc▸h)];simp
  ·rw[KC_ne h hc];simp[x_ne_e]
theorem znB (h:zaJ n (KC G c) "e" q y):tchB n G c y=tchB n G c q:=by
 unfold tchB Tch;have:Surr n (KC G c) "e" y↔Surr n (KC G c) "e" q:=⟨λ hs w hw=>hs w (h.symm.trans hw),λ hs w hw=>hs w (h.trans hw)⟩
 simp[this]
structure ArI (n:Nat)(G:Pt->Option Str)(i:Nat)(hd:List Pt)(sb sw:Int):Prop where
 nd:hd.Nodup
 emp:∀ q∈hd,inG n q/\G q=none
 cl:∀ q∈hd,∀ y,zaJ n (KC G "b") "e" q y->y∈hd
 all:∀ z∈(grid n).take i,G z=none->z∈hd
 sb:sb=(((grid n).take i).filter λ z=>G z==some ("b" : Str)).length+(hd.filter (tchB n G "b")).length
 sw:sw=(((grid n).take i).filter λ z=>G z==some ("w" : Str)).length+(hd.filter (tchB n G "w")).length
theorem ArI.nil:ArI n G 0 [] 0 0:=⟨List.nodup_nil,nofun,nofun,nofun,rfl,rfl⟩
variable {i:Nat}{hd:List Pt}{sb sw:Int}
theorem zhH {l:List Pt}(hz:l[i]?=some z)(f:Pt->Bool):((l.take (i+1)).filter f).length=((l.take i).filter f).length+(f z).toNat:=by
 rw[zaO hz,List.filter_append,List.length_append];cases h:f z <;> simp[h]
theorem ArI.grow (h:ArI n G i hd sb sw)(hz:(grid n)[i]?=some z)(hd':G z=none->z∈hd):∀ y∈(grid n).take (i+1),G y=none->y∈hd:=λ y hy hn=>by
 rw[zaO hz]at hy;rcases List.mem_append.mp hy with hy|hy
 ·exact h.all y hy hn
 ·rw[List.mem_singleton.mp hy]at hn ⊢;exact hd' hn
theorem ArI.stone (h:ArI n G i hd sb sw)(hz:(grid n)[i]?=some z)(hG:G z=some c):ArI n G (i+1) hd (sb+(c == "b").toNat) (sw+(c == "w").toNat):=by
 refine⟨h.nd,h.emp,h.cl,h.grow hz (λ q=>by rw[hG]at q;cases q),?_,?_⟩
 ·rw[zhH hz,hG,h.sb,show (some c==some ("b" : Str))=(c == "b") from rfl];lia
 ·rw[zhH hz,hG,h.sw,show (some c==some ("w" : Str))=(c == "w") from rfl];lia
theorem ArI.old (h:ArI n G i hd sb sw)(hz:(grid n)[i]?=some z)(hG:G z=none)(hm:z∈hd):ArI n G (i+1) hd sb sw:=by
 refine⟨h.nd,h.emp,h.cl,h.grow hz λ _=>hm,?_,?_⟩
 ·rw[zhH hz,hG,h.sb];rfl
 ·rw[zhH hz,hG,h.sw];rfl
theorem zrB {l m:List Pt}(f:Pt->Bool)(h:l.Perm m):(l.filter f).length=(m.filter f).length:=(h.filter f).length_eq
theorem ztM {l m:List Pt}(nl:l.Nodup)(nm:m.Nodup)(h:∀ q,q∈l↔q∈m):l.Perm m:=(List.perm_ext_iff_of_nodup nl nm).mpr h
theorem ArI.new (h:ArI n G i hd sb sw)(hz:(grid n)[i]?=some z)(hG:G z=none)(hm:z∉hd){P hd':List Pt}(nP:P.Nodup)(mem:∀ q,q∈P↔zaJ n (KC G "b") "e" z q)(mem':∀ q,q∈P↔zaJ n (KC G "w") "e" z q)(nd':hd'.Nodup)(mh:∀ q,q∈hd'↔q∈hd\/q∈P){fb fw:Bool}
  (hb:(!fb)=true↔Surr n (KC G "b") "e" z) (hw:(!fw)=true↔Surr n (KC G "w") "e" z):ArI n G (i+1) hd' (sb+(if fb then P.length else 0:Nat)) (sw+(if fw then P.length else 0:Nat)):=by
 have hzg:inG n z:=zbC.mp (List.mem_of_getElem? hz);have hzP:z∈P:=(mem z).mpr (.refl hzg (zdO hG));have dis:∀ a∈hd,∀ b∈P,a≠b:=λ a ha b hb' e=>hm (h.cl a ha z (by rw[e];exact ((mem b).mp hb').symm));have pm:hd'.Perm (hd++P):=ztM nd' (List.nodup_append.mpr ⟨h.nd,nP,dis⟩) λ q=>by rw[mh,List.mem_append]
 have tb:tchB n G "b" z=fb:=by
  unfold tchB Tch;cases fb <;> simp at hb ⊢ <;> exact hb
 have tw:tchB n G "w" z=fw:=by
  unfold tchB Tch;cases fw <;> simp at hw ⊢ <;> exact hw
 have cb:(P.filter (tchB n G "b")).length=if fb then P.length else 0:=by
  have e:∀ q∈P,tchB n G "b" q=fb:=λ q hq=>by rw[znB ((mem q).mp hq),tb]
  cases fb with
  | true=>rw[List.filter_eq_self.mpr e];rfl
  | false=>rw[List.filter_eq_nil_iff.mpr λ q hq=>by rw[e q hq];simp];rfl
 have cw:(P.filter (tchB n G "w")).length=if fw then P.length else 0:=by
  have e:∀ q∈P,tchB n G "w" q=fw:=λ q hq=>by rw[znB ((mem' q).mp hq),tw]
  cases fw with
  | true=>rw[List.filter_eq_self.mpr e];rfl
  | false=>rw[List.filter_eq_nil_iff.mpr λ q hq=>by rw[e q hq];simp];rfl
 refine⟨nd',λ q hq=>?_,λ q hq y hy=>?_,λ y hy hn=>?_,?_,?_⟩
 ·rcases (mh q).mp hq with hq|hq
  ·exact h.emp q hq
  ·have r:=(mem q).mp hq;exact⟨r.inG,KC_e.mp r.col⟩
 ·rcases (mh q).mp hq with hq|hq
  ·exact (mh y).mpr (.inl (h.cl q hq y hy))
  ·exact (mh y).mpr (.inr ((mem y).mpr (((mem q).mp hq).trans hy)))
 ·rw[zaO hz]at hy
  rcases List.mem_append.mp hy with hy|hy
  ·exact (mh y).mpr (.inl (h.all y hy hn))
  ·rw[List.mem_singleton.mp hy];exact (mh z).mpr (.inr hzP)
 ·rw[zhH hz,hG,zrB _ pm,List.filter_append,List.length_append,cb,h.sb]
  show _=((_+0:Nat):Int)+_
  lia
 ·rw[zhH hz,hG,zrB _ pm,List.filter_append,List.length_append,cw,h.sw]
  show _=((_+0:Nat):Int)+_
  lia
theorem cnt_or {l:List Pt}{f g:Pt->Bool}(h:∀ z,f z=true->g z=false):(l.filter λ z=>f z||g z).length=(l.filter f).length+(l.filter g).length:=by
 induction l with
 | nil=>rfl
 | cons a l ih=>
  rw[List.filter_cons,List.filter_cons,List.filter_cons];cases hf:f a with
  | true=>rw[h a hf];simp[ih];lia
  | false=>cases g a <;> simp[ih];lia
theorem ArI.area (h:ArI n G (grid n).length hd sb sw):sb=zcK n G "b" /\ sw=zcK n G "w" := by
 have pm:hd.Perm ((grid n).filter λ z=>G z==none):=ztM h.nd (zfQ.filter _) λ q=>by
  rw[List.mem_filter,zbC];refine⟨λ hq=>⟨(h.emp q hq).1,by rw[(h.emp q hq).2];rfl⟩,λ u9=>q02 u9 λ a b=>h.all q (by rw[List.take_length];exact zbC.mpr a) (by simpa using b)⟩
 have key:∀ c:Str,zcK n G c=((grid n).filter λ z=>G z==some c).length+(hd.filter (tchB n G c)).length:=λ c=>by
  unfold zcK znX;rw[cnt_or (f:=λ z=>G z==some c) (g:=λ z=>G z==none&&tchB n G c z) λ z hz=>by rw[eq_of_beq hz];rfl,zrB _ pm,List.filter_filter]
  congr 2
  refine List.filter_congr λ z _=>Bool.and_comm _ _
 have hb:=h.sb;have hw:=h.sw;rw[List.take_length]at hb hw;exact⟨by rw[hb,key];rfl,by rw[hw,key];rfl⟩
end
section
variable {T:Tr}{X:String}{H:zaA}{R:zaA->Prop}{x d bp bd:Addr}{rows:List Addr}{n:Nat}{G:Pt->Option Str}{e:Bool}
theorem RgAt.gPts {g dg ps cs:Addr}{P:List Pt}{fb fw:Bool}{Q:PV->zaA->Prop}(hL:L1 T.C)(B:RgAt g dg ps cs P fb fw H)(h:Q (.ref ps) H):SGet T "points" (.ref g) H Q:=by
 refine q13 B.attrs λ l h1 h2 h3=>?_;exact SGet.inst hL.clsR (hL.fd (by kernel_rfl)) B.inst h1 h2 rfl h
theorem RgAt.gCols {g dg ps cs:Addr}{P:List Pt}{fb fw:Bool}{Q:PV->zaA->Prop}(hL:L1 T.C)(B:RgAt g dg ps cs P fb fw H)(h:Q (.ref cs) H):SGet T "neighbouring_colours" (.ref g) H Q:=by
 refine q13 B.attrs λ l h1 h2 h3=>?_;exact SGet.inst hL.clsR (hL.fd (by kernel_rfl)) B.inst h1 h3 rfl h
theorem RgAt.upd {g dg ps cs a:Addr}{P:List Pt}{fb fw:Bool}{o:AO}(B:RgAt g dg ps cs P fb fw H)(h1:g≠a)(h2:dg≠a)(h3:ps≠a)(h4:cs≠a):RgAt g dg ps cs P fb fw (AM.Internal.upd H a o):=by
 refine q12 B.attrs λ l q1 q2=>?_;exact⟨by rw[zaD h1];exact B.inst,⟨l,by rw[zaD h2];exact q1,q2⟩,by rw[zaD h3];exact B.pts,by rw[zaD h4];exact B.cols⟩
inductive ArJ (n:Nat)(G:Pt->Option Str)(sc ha:Addr)(H:zaA)(i:Nat)(u:Unit)(H':zaA):Prop
 | mk (l:List Pt) (sb sw:Int) (ai:ArI n G i l sb sw) (ks:H' sc=some (.bw sb sw)) (kh:H' ha=some (.pset l)) (ex:Ext H H'):ArJ n G sc ha H i u H'
theorem zuE {c:Str}(hv:c = "b" \/ c = "w")(x y:Int):znM x y c (bwAt x y c+1)=.bw (x+(c == "b").toNat) (y+(c == "w").toNat):=by
 rcases hv with rfl|rfl
 ·simp[znM,bwAt,beq_eq_false_iff_ne.mpr zjM]
 ·simp[znM,bwAt,beq_eq_false_iff_ne.mpr ziU]
theorem inCb {a:Addr}{fb fw:Bool}{Q:Bool->zaA->Prop}(hH:H a=some (.cset fb fw))(h:Q fb H):SCmp T .In (.str "b") (.ref a) H Q:=SCmp.inC hH (.inl rfl) (by rw[show csAt fb fw "b" = fb by simp[csAt]];exact h)
theorem inCw {a:Addr}{fb fw:Bool}{Q:Bool->zaA->Prop}(hH:H a=some (.cset fb fw))(h:Q fw H):SCmp T .In (.str "w") (.ref a) H Q:=SCmp.inC hH (.inr rfl) (by rw[show csAt fb fw "w" = fw by simp[csAt,beq_eq_false_iff_ne.mpr ziU]];exact h)
theorem bwPut_b (x y k:Int):znM x y "b" (bwAt x y "b" + k)=.bw (x+k) y:=by simp[znM,bwAt]
theorem bwPut_w (x y k:Int):znM x y "w" (bwAt x y "w" + k)=.bw x (y+k):=by simp[znM,bwAt,beq_eq_false_iff_ne.mpr ziU]
inductive TcJ (sc ha g dg ps cs:Addr)(P l:List Pt)(fb fw:Bool)(sb sw:Int)(H H1:zaA)(j:Nat)(u:Unit)(H':zaA):Prop
 | mk (ks:H' sc=some (.bw (sb+(if fb&&decide (1<=j) then P.length else 0:Nat)) (sw+(if fw&&decide (2<=j) then P.length else 0:Nat)))) (kh:H' ha=some (.pset l)) (rg:RgAt g dg ps cs P fb fw H') (ex:Ext H H'):TcJ sc ha g dg ps cs P l fb fw sb sw H H1 j u H'
theorem mo_rg {P:Params}:MOk P "_make_empty_region" zbK:=⟨by decide +kernel,by kernel_rfl,by kernel_rfl,by kernel_rfl⟩
theorem zsF (hL:L1 T.C)(hn:7<=T.n)(hh:T.hd=false)(B:BdAt x d bp bd rows n G e H)(hval:∀ q s,G q=some s->s = "b" \/ s = "w"):
  zaF T X (.ref zfA) [.ref x] H (λ p H'=>p=.int (zcK n G "b" - zcK n G "w")/\Ext H H') R:=by
 refine hL.f_area_score hh (by exact lq1 hn rfl) rfl ?_;refine fresh λ sc H1 hs ex1 ks=>?_;refine zaG.set0 (fresh λ ha H2 hha ex2 kh=>?_);have hha0:H ha=none:=ex1.none hha;have ks2:=ex2 _ _ ks;have B2:=B.ext (ex1.trans ex2);have hbp:=B2.pts;rw[zjC]at hbp;have nsh:sc≠ha:=zmD ks hha;refine B2.gPts hL ?_;refine WFor.list bp _ rfl hbp Unit (λ _=>[(0,.ref x),(1,.ref sc),(2,.ref ha)]) (ArJ n G sc ha H) () (SubN.of rfl) ?_ ?_ ?_ ?_
 ·exact⟨[],0,0,ArI.nil,ks2,kh,ex1.trans ex2⟩
 ·intro i b H' h
  obtain⟨_,_,_,_,_,_,ex⟩:=h;have:=B.pts;rw[zjC]at this;exact ex _ _ this
 ·intro i p u H' hp uu;obtain⟨l,sb,sw,ai,ks',kh',ex'⟩:=uu
  refine q12 (zcA hp) λ z hz u0=>?_;cases u0;have hzg:=zbC.mp (List.mem_of_getElem? hz);have B':=B.ext ex';refine zgV λ K hK=>?_;refine (let L1':LN:=(4,.int z.2)::(3,.int z.1)::_;(?_:wS _ _ _ L1' _ _ _));refine B'.gBoard hL ?_;refine B'.at1 hzg.1.1 hzg.1.2 λ ra _ hra=>?_;refine sub2 hra hzg.2.1 hzg.2.2 B.five ?_;cases hG:G (z.1,z.2) with
  | some c'=>
   have hG:G z=some c':=hG;have hv:=hval _ _ hG;refine zqO.sc ks' hv ?_;refine SBin.iaddI ?_;refine zaQ.sc ks' hv ?_;rw[zuE hv];exact hK _ rfl () _ _ (SubN.of rfl) ⟨l,_,_,ai.stone hz hG,zaC,by rw[zaD nsh.symm];exact kh',Ext.upd ex' hs⟩
  | none=>
   have hG:G z=none:=hG;refine SCmp.inS z kh' (B.box hzg) ?_;refine zaW (λ hin=>hK _ rfl () _ _ (SubN.of rfl) ⟨l,sb,sw,ai.old hz hG hin,ks',kh',ex'⟩) λ hin=>?_;refine M.own (B'.meth hL mo_rg) (zaF.callK (zsZ (T:=T.down) (r:=z.1) (c:=z.2) hL (by show 4<=T.n-1;exact lq4 hn rfl) hh B' hval hzg hG) λ K0 hK0 p H3 h=>?_);obtain⟨g,dg,ps,cs,P,fb,fw,rfl,ex3,n3,rg,nP,mem,mem',hb,hw⟩:=h;refine hK0 _ _ ?_;refine RgAt.gPts hL rg ?_;refine zaG.lenS rg.pts ?_;have ks3:=ex3 _ _ ks';have kh3:=ex3 _ _ kh';have gs:g≠sc:=λ q=>by have r:=rg.inst;rw[q,ks3]at r;cases r
   have ds:dg≠sc:=λ q=>by refine q12 rg.attrs λ _ r _=>?_;rw[q,ks3]at r;cases r
   have pss:ps≠sc:=λ q=>by have r:=rg.pts;rw[q,ks3]at r;cases r
   have css:cs≠sc:=λ q=>by have r:=rg.cols;rw[q,ks3]at r;cases r
   have psh:ps≠ha:=λ q=>by rw[q,kh']at n3;cases n3
   refine WFor.tup [.str "b",.str "w"] rfl Unit (λ _=>[(0,.ref x),(1,.ref sc),(2,.ref ha),(7,.ref g),(8,.int P.length)]) (TcJ sc ha g dg ps cs P l fb fw sb sw H H) () (SubN.of rfl) ?_ ?_ ?_
   ·exact⟨by rw[ks3];simp,kh3,rg,ex'.trans ex3⟩
   ·intro j v u H4 hv uu;obtain⟨k4,h4,r4,x4⟩:=uu
    refine zgV λ K2' hK2=>?_
    match j,hv with
    | 0,hv=>
     cases hv;refine RgAt.gCols hL r4 ?_;refine inCb r4.cols ?_;cases fb with
     | false=>exact hK2 _ rfl () _ _ (SubN.of rfl) ⟨by rw[k4];simp,h4,r4,x4⟩
     | true=>
      refine zqO.sc k4 (.inl rfl) ?_;refine SBin.iaddI ?_;refine zaQ.sc k4 (.inl rfl) ?_;rw[bwPut_b];exact hK2 _ rfl () _ _ (SubN.of rfl) ⟨by rw[zaC];simp,by rw[zaD nsh.symm];exact h4,r4.upd gs ds pss css,Ext.upd x4 hs⟩
    | 1,hv=>
     cases hv;refine RgAt.gCols hL r4 ?_;refine inCw r4.cols ?_;cases fw with
     | false=>exact hK2 _ rfl () _ _ (SubN.of rfl) ⟨by rw[k4];simp,h4,r4,x4⟩
     | true=>
      refine zqO.sc k4 (.inr rfl) ?_;refine SBin.iaddI ?_;refine zaQ.sc k4 (.inr rfl) ?_;rw[bwPut_w];exact hK2 _ rfl () _ _ (SubN.of rfl) ⟨by rw[zaC];simp,by rw[zaD nsh.symm];exact h4,r4.upd gs ds pss css,Ext.upd x4 hs⟩
    | j+2,hv=>cases hv
   intro u H4 uu;obtain⟨k4,h4,r4,x4⟩:=uu;refine Exists.intro _ (And.intro (zbQ.update h4) (RgAt.gPts hL r4 (zaG.update h4 r4.pts psh.symm λ hd' nd' mh=>?_)));refine hK _ rfl () _ _ (SubN.of rfl) ⟨hd',_,_,ai.new hz hG hin nP mem mem' nd' mh hb hw,?_,zaC,Ext.upd x4 hha0⟩;rw[zaD nsh,k4]
   simp
 ·intro u H' uu;obtain⟨l,sb,sw,ai,ks',kh',ex'⟩:=uu
  rw[List.length_map]at ai;obtain⟨rfl,rfl⟩:=ai.area;refine SSub.sc ks' (.inl rfl) ?_;refine SSub.sc ks' (.inr rfl) ?_;refine⟨?_,ex'⟩
  simp[bwAt,beq_eq_false_iff_ne.mpr ziU]
end
theorem near_len {n k:Nat}:(near n k).length<=4:=by
 have one:∀ (c:Prop) [Decidable c] (i:Nat),(if c then [i] else []).length<=1:=λ c _ i=>by split <;> simp
 unfold near;rw[List.length_append,List.length_append,List.length_append];exact Nat.add_le_add (Nat.add_le_add (Nat.add_le_add (one _ _) (one _ _)) (one _ _)) (one _ _)
noncomputable def pn (k:Nat):PV:=.int (k:Int)
noncomputable def cells (n:Nat)(G:Pt->Option Str):List PV:=(List.range (n*n)).map λ k=>cell (G (pOf n k))
noncomputable def dcell:Option Str->Dat
 | none=>.none
 | some c=>.str c
theorem ziG {n k:Nat}{G:Pt->Option Str}(hk:k<n*n):(cells n G)[k]?=some (cell (G (pOf n k))):=by
 unfold cells;rw[List.getElem?_map,List.getElem?_range hk];rfl
theorem zfM {n:Nat}{G:Pt->Option Str}:(cells n G).length=n*n:=by unfold cells;rw[List.length_map,List.length_range]
theorem hd_cell {C:Cx}{H:zaA}{m:Nat}{o:Option Str}(h:∀ c,o=some c->PyData.strOk c=true):HD C H (m+1) (cell o) (dcell o):=by
 cases o with
 | none=>exact HD.none'
 | some c=>exact HD.str' (h c rfl)
theorem zvR {C:Cx}{H:zaA}{m:Nat}{n:Nat}{G:Pt->Option Str}(hv:∀ z c,G z=some c->PyData.strOk c=true):∀ l:List Nat,All2 (HD C H (m+1)) (l.map λ j=>cell (G (pOf n j))) (l.map λ j=>dcell (G (pOf n j)))
 | []=>rfl
 | j::l=>All2.mk (hd_cell (hv _)) (zvR hv l)
theorem zhD {C:Cx}{H:zaA}{m:Nat}:∀ l:List Nat,All2 (HD C H (m+1)) (l.map pn) (l.map λ j:Nat=>Dat.int (j:Int))
 | []=>rfl
 | j::l=>All2.mk HD.int' (zhD l)
theorem zfH {j:Nat}{l:List Nat}:Dat.int (j:Int)∈l.map (λ j:Nat=>Dat.int (j:Int))↔j∈l:=by
 rw[List.mem_map];exact⟨λ u9=>q12 u9 λ y hy e=>Int.ofNat.inj (Dat.int.inj e)▸hy,λ h=>⟨j,h,rfl⟩⟩
inductive NPost (n k:Nat)(H:zaA)(p:PV)(H':zaA):Prop
 | mk (a:Addr) (e:p=.ref a) (ex:Ext H H') (na:H a=none) (ka:H' a=some (.list ((near n k).map pn))):NPost n k H p H'
inductive BLPost (n:Nat)(G:Pt->Option Str)(H:zaA)(p:PV)(H':zaA):Prop
 | mk (a:Addr) (f:Nat->Bool) (e:p=.ref a) (ex:Ext H H') (na:H a=none) (ka:H' a=some (.list (((List.range (n*n)).filter f).map pn))) (hf:∀ k<n*n,f k=true↔Dead n G k):BLPost n G H p H'
inductive BI1 (n:Nat)(G:Pt->Option Str)(la:Addr)(H:zaA)(i:Nat)(u:Unit)(H':zaA):Prop
 | mk (l:List Nat) (hl:∀ k,k∈l↔k<i/\k<n*n/\G (pOf n k)≠none/\Free n G (pOf n k)) (nd:l.Nodup) (ka:H' la=some (.list (l.map pn))) (ex:Ext H H'):BI1 n G la H i u H'
inductive BI2 (n:Nat)(G:Pt->Option Str)(la:Addr)(H:zaA)(m i:Nat)(u:Unit)(H':zaA):Prop
 | mk (gl:List Nat) (e:m+i=n*n) (lv:LV n G gl i) (ka:H' la=some (.list (gl.map pn))) (ex:Ext H H'):BI2 n G la H m i u H'
inductive BI3 (n:Nat)(G:Pt->Option Str)(k:Nat)(la na:Addr)(H:zaA)(i j:Nat)(u:Unit)(H':zaA):Prop
 | mk (gl:List Nat) (lv:LV n G gl i) (at_:gl[i]?=some k) (dn:∀ x∈(near n k).take j,G (pOf n x)=G (pOf n k)->x∈gl) (ka:H' la=some (.list (gl.map pn))) (kn:H' na=some (.list ((near n k).map pn))) (ex:Ext H H'):BI3 n G k la na H i j u H'
section
variable {T:Tr}{X:String}{H:zaA}{R:zaA->Prop}{n k:Nat}{G:Pt->Option Str}
theorem zkL {a:Addr}{H':zaA}{l:List Int}{i:Int}(h1:H a=none)(ex:Ext H H')(h:H' a=some (.list (l.map .int))):Ext H (upd H' a (.list (l.map .int++[.int i])))/\upd H' a (.list (l.map .int++[.int i])) a=some (.list ((l++[i]).map .int)):=⟨Ext.upd ex h1,by rw[zaC,List.map_append];rfl⟩
theorem znE (hL:L1 T.C)(hn:1<=T.n)(hh:T.hd=false)(n2:2<=n)(h5:n<=5)(hk:k<n*n):zaF T X (.ref zdG) [pn k,.int n] H (NPost n k H) R:=by
 refine hL.f_law_near hh hn rfl ?_;intro a h1;have exa:Ext H (upd H a (.list [])):=Ext.upd (Ext.refl _) h1;have q8:∀ l:List Int,l.length<=3->(l.map PV.int).length<=100000:=λ l h=>by rw[List.length_map];exact lq2 h rfl
 have one:∀ (c:Prop) [Decidable c] (i:Int),(if c then [i] else []).length<=1:=λ c _ i=>by split <;> simp
 refine Exists.intro Unit (Exists.intro (λ _=>[(0,pn k),(1,.int n),(2,.ref a)]) (Exists.intro (λ _ H'=>Ext H H'/\H' a=some (.list ((if (n:Int)<=k then [(k:Int)-n] else []).map .int))) (And.intro ?_ ?_)))
 ·refine zaW (λ q=>?_) (λ q=>⟨(),⟨rfl,rfl,rfl,trivial⟩,exa,by rw[if_neg q];exact zaC⟩)
  refine M.append zaC (by simp) ?_;exact⟨(),⟨rfl,rfl,rfl,trivial⟩,by rw[if_pos q];exact zkL (l:=[]) h1 exa zaC⟩
 rintro u H1 ⟨ex1,k1⟩;generalize hA:(if (n:Int)<=k then [(k:Int)-n] else [])=A at k1;have lA:A.length<=1:=hA▸one _ _;refine Exists.intro Unit (Exists.intro (λ _=>[(0,pn k),(1,.int n),(2,.ref a)]) (Exists.intro (λ _ H'=>Ext H H'/\H' a=some (.list ((A++(if (k:Int)<n*n-n then [(k:Int)+n] else [])).map .int))) (And.intro ?_ ?_)))
 ·refine And.intro (ziN h5) ?_
  refine zaW (λ q=>?_) (λ q=>⟨(),⟨rfl,rfl,rfl,trivial⟩,ex1,by rw[if_neg q,List.append_nil];exact k1⟩);refine M.append k1 (q8 _ (by exact lq2 lA rfl)) ?_;exact⟨(),⟨rfl,rfl,rfl,trivial⟩,by rw[if_pos q];exact zkL h1 ex1 k1⟩
 rintro u H2 ⟨ex2,k2⟩;generalize hB:(if (k:Int)<n*n-n then [(k:Int)+n] else [])=B at k2;have lB:B.length<=1:=hB▸one _ _;refine Exists.intro Unit (Exists.intro (λ _=>[(0,pn k),(1,.int n),(2,.ref a)]) (Exists.intro (λ _ H'=>Ext H H'/\H' a=some (.list ((A++B++(if 0<Int.fmod k n then [(k:Int)-1] else [])).map .int))) (And.intro ?_ ?_)))
 ·refine And.intro (by exact lq23 n2 rfl) ?_
  refine zaW (λ q=>?_) (λ q=>⟨(),⟨rfl,rfl,rfl,trivial⟩,ex2,by rw[if_neg q,List.append_nil];exact k2⟩);refine M.append k2 (q8 _ (by rw[List.length_append];lia)) ?_;exact⟨(),⟨rfl,rfl,rfl,trivial⟩,by rw[if_pos q];exact zkL h1 ex2 k2⟩
 rintro u H3 ⟨ex3,k3⟩;generalize hD:(if 0<Int.fmod k n then [(k:Int)-1] else [])=D at k3;have lD:D.length<=1:=hD▸one _ _;refine Exists.intro Unit (Exists.intro (λ _=>[(2,.ref a)]) (Exists.intro (λ _ H'=>Ext H H'/\H' a=some (.list ((A++B++D++(if Int.fmod k n<n-1 then [(k:Int)+1] else [])).map .int))) (And.intro ?_ ?_)))
 ·refine And.intro (by exact lq23 n2 rfl) ?_
  refine zaW (λ q=>?_) (λ q=>⟨(),⟨rfl,trivial⟩,ex3,by rw[if_neg q,List.append_nil];exact k3⟩);refine M.append k3 (q8 _ (by rw[List.length_append,List.length_append];exact lq24 lA lB lD rfl)) ?_;exact⟨(),⟨rfl,trivial⟩,by rw[if_pos q];exact zkL h1 ex3 k3⟩
 rintro u H4 ⟨ex4,k4⟩;subst hA hB hD;have e:nearI n k=_:=nearI_eq h5 hk;unfold nearI at e;rw[e,List.map_map]at k4;exact⟨a,rfl,ex4,h1,k4⟩
theorem zaU {ca:Addr}{Q:PV->zaA->Prop}(hc:H ca=some (.list (cells n G)))(h5:n<=5)(hk:k<n*n)(h:Q (cell (G (pOf n k))) H):SSub T (.ref ca) (pn k) H Q:=
 SSub.list hc (Int.natCast_nonneg _) (by have:=lt25 h5 hk;lia) (p:=cell (G (pOf n k))) (ziG hk) h
theorem zgN (hL:L1 T.C)(hn:2<=T.n)(hh:T.hd=false)(n2:2<=n)(h5:n<=5){ca:Addr}(hc:H ca=some (.list (cells n G)))(hv:∀ z c,G z=some c->PyData.strOk c=true):zaF T X (.ref zbB) [.ref ca,.int n] H (BLPost n G H) R:=by
 refine hL.f_law_breathless hh (by exact lq1 hn rfl) rfl ?_;have enn:(n:Int)*n=((n*n:Nat):Int):=by push_cast;rfl
 have h25:=zqJ h5;intro la h1;have exl:Ext H (upd H la (.list [])):=Ext.upd (Ext.refl _) h1;refine And.intro (ziN h5) ?_;refine zaG.range1 λ ra hra=>?_;have hrl:ra≠la:=λ q=>by rw[q,zaC]at hra;cases hra
 refine WFor.range ra (n*n) rfl (by rw[<- enn];exact zaC) (by exact lq3 h25 rfl) Unit (λ _=>[(0,.ref ca),(1,.int n),(2,.ref la)]) (BI1 n G la H) () ⟨rfl,rfl,rfl,trivial⟩ ?_ ?_ ?_
 ·exact⟨[],λ k=>⟨λ h=>(by cases h),λ h=>absurd h.1 (Nat.not_lt_zero _)⟩,List.nodup_nil,by rw[zaD hrl.symm];exact zaC,exl.trans (Ext.upd (Ext.refl _) hra)⟩
 ·intro i u H' hi uu;obtain⟨l,hl,nd,ka,ex⟩:=uu
  refine zaU (k:=i) (ex _ _ hc) h5 hi ?_;have no:¬ (G (pOf n i)≠none/\Free n G (pOf n i))->∀ H2',Ext H' H2'->BI1 n G la H (i+1) () H2':=λ q H2' ex2=>⟨l,λ k=>(hl k).trans ⟨λ h=>⟨Nat.lt_succ_of_lt h.1,h.2⟩,λ h=>⟨Nat.lt_of_le_of_ne (Nat.le_of_lt_succ h.1) λ e=>q (e▸h.2.2),h.2⟩⟩,nd,ex2 _ _ ka,ex.trans ex2⟩
  cases hG:G (pOf n i) with
  | none=>exact⟨(),⟨rfl,rfl,rfl,trivial⟩,no (λ q=>q.1 hG) _ (Ext.refl _)⟩
  | some c=>
   refine zaF.call (znE (k:=i) (T:=T.down) hL (by show 1<=T.n-1;exact lq4 hn rfl) hh n2 h5 hi) λ p H2 h=>?_;obtain⟨na,rfl,ex2,hna,kna⟩:=h;refine zfD.list na _ rfl kna (by rw[List.length_map];exact Nat.le_trans near_len (by decide)) (λ i' out H'=>H'=H2/\out=((near n i).take i').map λ j=>cell (G (pOf n j))) ⟨rfl,rfl⟩ (λ i' out H'' h=>h.1▸kna) (λ i' v out H'' hv' h=>?_) (λ out H'' h=>?_)
   ·obtain⟨rfl,rfl⟩:=h
    refine q12 (zcA hv') λ j hj u0=>?_;cases u0;refine zaU (k:=j) (ex2 _ _ (ex _ _ hc)) h5 (zkS h5 hi (List.mem_of_getElem? hj)) ?_;exact⟨rfl,by rw[zaO hj,List.map_append];rfl⟩
   ·obtain⟨rfl,rfl⟩:=h
    refine⟨H'',Ext.refl _,λ oa hoa=>?_⟩;rw[List.length_map,List.take_length];have ex3:Ext H'' (upd H'' oa (.list ((near n i).map λ j=>cell (G (pOf n j))))):=Ext.upd (Ext.refl _) hoa;refine SCmp.inL (.inl zaC) (zvR hv (near n i)) HD.none' λ b hb=>?_;have hb:b=true↔Free n G (pOf n i):=hb.trans ((List.mem_map).trans ⟨λ u9=>q12 u9 λ j hj e=>(zsG h5 hi).mpr ⟨j,hj,by
     cases q:G (pOf n j) with
     | none=>rfl
     | some c=>rw[q]at e;cases e⟩,λ hf=>let ⟨j,hj,e⟩:=(zsG h5 hi).mp hf;⟨j,hj,by rw[e];rfl⟩⟩)
    refine br_in hb (λ hf=>?_) (λ hf=>⟨(),⟨rfl,rfl,rfl,trivial⟩,no (λ q=>hf q.2) _ (ex2.trans ex3)⟩);refine M.append (ex3 _ _ (ex2 _ _ ka)) ?_ ?_
    ·rw[List.length_map]
     have:l.length<=(List.range i).length:=by
      have:=(List.Nodup.length_le_of_subset nd (l₂:=List.range i) λ k hk=>List.mem_range.mpr ((hl k).mp hk).1)
      exact this
     rw[List.length_range]at this;lia
    refine⟨(),⟨rfl,rfl,rfl,trivial⟩,l++[i],λ k=>?_,?_,by rw[zaC,List.map_append];rfl,Ext.upd ((ex.trans ex2).trans ex3) h1⟩
    ·rw[List.mem_append,hl k,List.mem_singleton]
     constructor
     ·rintro (h|rfl)
      ·exact⟨Nat.lt_succ_of_lt h.1,h.2⟩
      ·exact⟨Nat.lt_succ_self _,hi,by rw[hG];simp,hf⟩
     ·rintro⟨h1,h2⟩
      rcases Nat.lt_or_eq_of_le (Nat.le_of_lt_succ h1) with q|q
      ·exact .inl ⟨q,h2⟩
      ·exact .inr q
    ·exact List.nodup_append.mpr ⟨nd,List.nodup_cons.mpr ⟨by simp,List.nodup_nil⟩,λ a ha b hb e=>by
      rw[List.mem_singleton.mp hb]at e;subst e;exact Nat.lt_irrefl _ ((hl a).mp ha).1⟩
 intro u H1 uu;obtain⟨l,hl,nd,ka,ex⟩:=uu;refine WFor.grow la rfl ⟨_,ka⟩ Unit (λ _=>[(0,.ref ca),(1,.int n),(2,.ref la)]) (BI2 n G la H) (n*n) () ⟨rfl,rfl,rfl,trivial⟩ ?_ ?_
 ·refine⟨l,rfl,⟨λ k hk hc' hf=>(hl k).mpr ⟨hk,hk,hc',hf⟩,λ k hk=>?_,λ a k ha=>absurd ha (Nat.not_lt_zero _),nd,Nat.zero_le _⟩,ka,ex⟩
  refine q04 ((hl k).mp hk) λ _ k1 k2 k3=>?_;obtain⟨c,hc'⟩:=Option.ne_none_iff_exists'.mp k2;exact⟨k1,zmM.free k1 hc' k3⟩
 intro m i u H' uu;obtain⟨gl,em,lv,ka,ex⟩:=uu;refine⟨_,ka,λ v hv'=>?_,λ hle=>?_⟩
 ·refine q12 (zcA hv') λ k hk u0=>?_;cases u0
  have hkm:=List.mem_of_getElem? hk;obtain⟨hkn,hal⟩:=lv.alive k hkm;refine zaF.call (znE (k:=k) (T:=T.down) hL (by show 1<=T.n-1;exact lq4 hn rfl) hh n2 h5 hkn) λ p H2 h=>?_;obtain⟨na,rfl,ex2,hna,kna⟩:=h;have hnl:na≠la:=λ q=>by rw[q,ka]at hna;cases hna
  refine WFor.list na _ rfl kna Unit (λ _=>[(0,.ref ca),(1,.int n),(2,.ref la),(3,pn k)]) (BI3 n G k la na H i) () ⟨rfl,rfl,rfl,rfl,trivial⟩ ?_ (λ j b H'' h=>by obtain⟨_,_,_,_,_,h,_⟩:=h;exact h) ?_ ?_
  ·exact⟨gl,lv,hk,λ x hx=>by simp at hx,ex2 _ _ ka,kna,ex.trans ex2⟩
  ·intro j v u H3 hv3 uu;obtain⟨gl,lv,at_,dn,ka,kn,ex⟩:=uu
   refine q12 (zcA hv3) λ y hy u0=>?_;cases u0;have hyn:=List.mem_of_getElem? hy;have hyl:=zkS h5 hkn hyn;have go:(G (pOf n y)=G (pOf n k)->y∈gl)->BI3 n G k la na H i (j+1) () H3:=λ q=>⟨gl,lv,at_,λ x hx=>by
    rw[zaO hy]at hx;rcases List.mem_append.mp hx with hx|hx
    ·exact dn x hx
    ·rw[List.mem_singleton.mp hx];exact q,ka,kn,ex⟩
   refine zaU (k:=y) (ex _ _ hc) h5 hyl ?_;refine zaU (k:=k) (ex _ _ hc) h5 hkn ?_;refine q12 hal λ c hck hsu=>?_;rw[hck];cases hG:G (pOf n y) with
   | none=>
    refine SCmp.eqD HD.none' (HD.str' (hv _ _ hck)) λ b hb=>?_;refine br_in hb (λ q=>by cases q) (λ _=>⟨(),⟨rfl,rfl,rfl,rfl,trivial⟩,go λ q=>by rw[hG,hck]at q;cases q⟩)
   | some c'=>
    refine br_beq (λ hcc=>?_) (λ hcc=>⟨(),⟨rfl,rfl,rfl,rfl,trivial⟩,go λ q=>by rw[hG,hck]at q;exact absurd (Option.some.inj q) hcc⟩);subst hcc;refine SCmp.inL (.inl ka) (zhD gl) HD.int' λ b hb=>?_;refine br_nin (hb.trans zfH) (λ hin=>?_) (λ hin=>⟨(),⟨rfl,rfl,rfl,rfl,trivial⟩,go λ _=>hin⟩);refine M.append ka (by rw[List.length_map];have:=lv.len;exact lq30 this h25 rfl) ?_;have hlt:=(List.getElem?_eq_some_iff.mp at_).1;refine⟨(),⟨rfl,rfl,rfl,rfl,trivial⟩,gl++[y],lv.more hyl (zmM.step h5 hkn hyn ⟨c',hck,hsu⟩ (by rw[hG,hck])) hin,by rw[List.getElem?_append_left hlt];exact at_,λ x hx e=>?_,by rw[zaC,List.map_append];rfl,by rw[zaD hnl];exact kn,Ext.upd ex h1⟩;rw[zaO hy]at hx;rcases List.mem_append.mp hx with hx|hx
    ·exact List.mem_append_left _ (dn x hx e)
    ·exact List.mem_append_right _ hx
  ·intro u H3 uu;obtain⟨gl,lv,at_,dn,ka,kn,ex⟩:=uu
   rw[List.length_map,List.take_length]at dn;have lv':=lv.turn at_ dn;have:=Nat.le_trans lv'.le lv.len;exact⟨(),⟨rfl,rfl,rfl,trivial⟩,n*n-(i+1),sub_lt_of (by assumption) this,gl,Nat.sub_add_cancel this,lv',ka,ex⟩
 ·rw[List.length_map]at hle
  have hie:i=gl.length:=Nat.le_antisymm lv.le hle;subst hie;refine And.intro (ziN h5) ?_;refine zaG.range1 λ rb hrb=>?_;have exr:=Ext.upd (o:=.range 0 ((n:Int)*n)) (Ext.refl _) hrb;refine zfD.range rb (n*n) rfl (by rw[<- enn];exact zaC) (by exact lq2 h25 rfl) (λ i out H2'=>H2'=upd H' rb (.range 0 ((n:Int)*n))/\out=((List.range i).filter λ k=>(G (pOf n k)).isSome&&!decide (k∈gl)).map pn) ⟨rfl,rfl⟩ (λ i out H2' hi h=>?_) (λ out H2' h=>?_)
  ·obtain⟨rfl,rfl⟩:=h
   have fin:∀ b,((G (pOf n i)).isSome&&!decide (i∈gl))=b->((List.range i).filter λ k=>(G (pOf n k)).isSome&&!decide (k∈gl)).map pn++(cond b (some (pn i)) none).toList=((List.range (i+1)).filter λ k=>(G (pOf n k)).isSome&&!decide (k∈gl)).map pn:=λ b hb=>by
    rw[List.range_succ,List.filter_append,List.map_append]
    congr 1
    rw[List.filter_cons,hb];cases b <;> rfl
   refine zaU (k:=i) (exr _ _ (ex _ _ hc)) h5 hi ?_;cases hG:G (pOf n i) with
   | none=>exact⟨rfl,fin false (by rw[hG];rfl)⟩
   | some c=>
    refine SCmp.inL (.inl (exr _ _ ka)) (zhD gl) HD.int' λ b hb=>?_;refine br_nin (hb.trans zfH) (λ hin=>⟨rfl,fin true (by rw[hG,decide_eq_false hin];rfl)⟩) (λ hin=>⟨rfl,fin false (by rw[hG,decide_eq_true hin];rfl)⟩)
  ·obtain⟨rfl,rfl⟩:=h
   refine⟨_,Ext.refl _,λ oa hoa=>?_⟩;refine⟨oa,λ k=>(G (pOf n k)).isSome&&!decide (k∈gl),rfl,Ext.upd (ex.trans exr) ((ex.trans exr).none hoa),(ex.trans exr).none hoa,zaC,λ k hk=>?_⟩;cases hG:G (pOf n k) with
   | none=>
    constructor
    ·intro q;cases q
    ·intro uu;refine q12 uu λ c hc' _=>?_;rw[hG]at hc';cases hc'
   | some c=>
    rw[<- dead_not hG,<- lv.done h5 hk]
    simp
end
noncomputable def pvN:Option Nat->PV
 | none=>.none
 | some j=>pn j
theorem cells_put {n k:Nat}{G:Pt->Option Str}{v:Option Str}(hk:k<n*n):(cells n G).take k++[cell v]++(cells n G).drop (k+1)=cells n (put G (pOf n k) v):=by
 have e:(cells n G).set k (cell v)=(cells n G).take k++cell v::(cells n G).drop (k+1):=by
  rw[List.set_eq_take_append_cons_drop,if_pos (by rw[zfM];exact hk)]
 rw[List.append_assoc,List.singleton_append,<- e];apply List.ext_getElem?;intro i;rw[List.getElem?_set]
 by_cases hi:i<n*n
 ·by_cases h:k=i
  ·subst h
   rw[if_pos rfl,if_pos (by rw[zfM];exact hk),ziG hk,zeS]
  ·rw[if_neg h,ziG hi,ziG hi,zuR λ q=>h (zeT q).symm]
 ·rw[if_neg λ q:k=i=>hi (q▸hk),List.getElem?_eq_none (by rw[zfM];lia),List.getElem?_eq_none (by rw[zfM];lia)]
theorem zdV.hiN {T:Tr}{H:zaA}{a:Addr}{l:List PV}{k:Nat}{Q:PV->zaA->Prop}(hl:LAt T.C H a l)(hz:l.length<=100000)(h:∀ c,H c=Option.none->Q (.ref c) (upd H c (.list (l.take k)))):zdV T (.ref a) none (some (k:Int)) H Q:=
 zdV.mk hl hz (by rw[zrX _ (Int.natCast_nonneg _)];exact h)
theorem zdV.loN {T:Tr}{H:zaA}{a:Addr}{l:List PV}{k:Nat}{Q:PV->zaA->Prop}(hl:LAt T.C H a l)(hz:l.length<=100000)(h:∀ c,H c=Option.none->Q (.ref c) (upd H c (.list (l.drop (k+1))))):zdV T (.ref a) (some ((k:Int)+1)) none H Q:=
 zdV.mk hl hz (by rw[pslice_lo _ (by lia)];exact h)
inductive MVPost (n:Nat)(G1:Pt->Option Str)(col:Str)(H:zaA)(p:PV)(H':zaA):Prop
 | mk (aa:Addr) (f:Nat->Bool) (e:p=.tup [.ref aa,pvN (koL n G1 col f)]) (ex:Ext H H') (na:H aa=none) (ka:H' aa=some (.list (cells n (rm G1 ((zeU n G1 col f).map (pOf n)))))) (hf:∀ k<n*n,f k=true↔Dead n G1 k):MVPost n G1 col H p H'
theorem spots_le {n:Nat}(h5:n<=5){f:Nat->Bool}:(zcE n f).length<=25:=Nat.le_trans (List.length_filter_le _ _) (by rw[List.length_range];exact zqJ h5)
section
variable {T:Tr}{X:String}{H:zaA}{R:zaA->Prop}{n k:Nat}{G:Pt->Option Str}{x d bp bd:Addr}{rows:List Addr}{e:Bool}
theorem move_spec (hL:L1 T.C)(hn:3<=T.n)(hh:T.hd=false)(n2:2<=n)(h5:n<=5){ca:Addr}(hc:H ca=some (.list (cells n G)))(hv:∀ z c,G z=some c->PyData.strOk c=true)(hk:k<n*n){col:Str}(hcol:PyData.strOk col=true):
  zaF T X (.ref zeD) [.ref ca,.int n,pn k,.str col] H (MVPost n (put G (pOf n k) (some col)) col H) R:=by
 refine hL.f_law_move hh (by exact lq1 hn rfl) rfl ?_;have h25:=zqJ h5;have hlc:(cells n G).length<=100000:=by rw[zfM];exact lq2 h25 rfl
 refine zdV.hiN (.inl hc) hlc (fresh λ s1 H1 hs1 ex1 k1=>?_);refine fresh λ s2 H2 hs2 ex2 k2=>?_;refine SBin.addL (.inl (ex2 _ _ k1)) (.inl k2) (by simp only[List.length_take,List.length_singleton];lia) (fresh λ s3 H3 hs3 ex3 k3=>?_);refine zdV.loN (.inl (ex3 _ _ (ex2 _ _ (ex1 _ _ hc)))) hlc (fresh λ s4 H4 hs4 ex4 k4=>?_);have ecp:(cells n G).take k++[PV.str col]++(cells n G).drop (k+1)=_:=cells_put (v:=some col) hk;refine SBin.addL (.inl (ex4 _ _ k3)) (.inl k4) (by rw[<- List.length_append,ecp,zfM];exact lq2 h25 rfl) ?_;rw[ecp];refine fresh λ lb H5 hlb ex5 klb=>?_;have exB':=(((ex1.trans ex2).trans ex3).trans ex4).trans ex5;clear k1 k2 k3 k4 ex1 ex2 ex3 ex4 ex5 hs1 hs2 hs3 hs4 hlb;clear H1 H2 H3 H4;have hv1:∀ z c,put G (pOf n k) (some col) z=some c->PyData.strOk c=true:=λ z c h=>by
  unfold put at h;split at h
  ·cases h;exact hcol
  ·exact hv z c h
 generalize put G (pOf n k) (some col)=G1 at klb hv1 ⊢;clear ecp;refine zaF.call (zgN (T:=T.down) hL (by show 2<=T.n-1;exact lq4 hn rfl) hh n2 h5 klb hv1) λ p H2 h=>?_;obtain⟨da,f,rfl,ex2,hda,kda,hf⟩:=h;have klb2:=ex2 _ _ klb;have hdl:(zcE n f).length<=25:=spots_le h5;refine zfD.list da _ rfl kda (by rw[List.length_map];exact Nat.le_trans hdl (by decide)) (λ i out H'=>H'=H2/\out=(((zcE n f).take i).filter λ j=>!(G1 (pOf n j)==some col)).map pn) ⟨rfl,rfl⟩ (λ i out H' h=>h.1▸kda) (λ i v out H' hv' h=>?_) (λ out H' h=>?_)
 ·obtain⟨rfl,rfl⟩:=h
  refine q12 (zcA hv') λ j hj u0=>?_;cases u0;have hj:(zcE n f)[i]?=some j:=hj;obtain⟨hjn,hfj⟩:=zcI.mp (List.mem_of_getElem? hj);refine q12 ((hf j hjn).mp hfj) λ c hcj _=>?_;refine zaU (k:=j) klb2 h5 hjn ?_;rw[hcj];have fin:∀ b,(!(G1 (pOf n j)==some col))=b->(((zcE n f).take i).filter λ j=>!(G1 (pOf n j)==some col)).map pn++(cond b (some (pn j)) none).toList=(((zcE n f).take (i+1)).filter λ j=>!(G1 (pOf n j)==some col)).map pn:=λ b hb=>by
   rw[zaO hj,List.filter_append,List.map_append]
   congr 1
   rw[List.filter_cons,hb];cases b <;> rfl
  refine br_bne (λ q=>⟨rfl,fin true (by rw[hcj];simpa using q)⟩) (λ q=>⟨rfl,fin false (by rw[hcj,q];simp)⟩)
 obtain⟨rfl,rfl⟩:=h;refine⟨_,Ext.refl _,?_⟩;rw[show (List.take (List.map pn (List.filter f (List.range (n*n)))).length (zcE n f))=zcE n f from by rw[List.length_map];exact List.take_length];refine fresh (o:=.list ((zaY n G1 col f).map pn)) λ ta H3 hta ex3 kta=>?_;have htl:(zaY n G1 col f).length<=25:=Nat.le_trans (List.length_filter_le _ _) hdl;have kda3:=ex3 _ _ kda;have klb3:=ex3 _ _ klb2;refine STr.list (.inl kta) (by rw[List.length_map];exact lq2 htl rfl) ?_;refine br_var rfl rfl λ p hp=>?_;obtain⟨ga,rfl,kga⟩:∃ ga,p=.ref ga/\H3 ga=some (.list ((zeU n G1 col f).map pn)):=by
  unfold zeU;cases h:zaY n G1 col f with
  | nil=>rw[h]at hp;exact⟨da,hp,kda3⟩
  | cons a l=>rw[h]at hp kta;exact⟨ta,hp,by rw[if_neg (by simp)];exact kta⟩
 have enn:(n:Int)*n=((n*n:Nat):Int):=by push_cast;rfl
 refine And.intro (ziN h5) ?_;refine zaG.range1 (fresh λ ra H4 hra exr kra=>?_);refine zfD.range ra (n*n) rfl (by rw[<- enn];exact kra) (by exact lq2 h25 rfl) (λ i out H2'=>H2'=H4/\out=(List.range i).map λ j=>cell (rm G1 ((zeU n G1 col f).map (pOf n)) (pOf n j))) ⟨rfl,rfl⟩ (λ i out H2' hi h=>?_) (λ out H2' h=>?_)
 ·obtain⟨rfl,rfl⟩:=h
  have fin:∀ v,cell (rm G1 ((zeU n G1 col f).map (pOf n)) (pOf n i))=v->(List.range i).map (λ j=>cell (rm G1 ((zeU n G1 col f).map (pOf n)) (pOf n j)))++(some v).toList=(List.range (i+1)).map λ j=>cell (rm G1 ((zeU n G1 col f).map (pOf n)) (pOf n j)):=λ v hv=>by
   rw[List.range_succ,List.map_append,<- hv];rfl
  refine SCmp.inL (.inl (exr _ _ kga)) (zhD _) HD.int' λ b hb=>?_;refine br_in (hb.trans zfH) (λ hin=>⟨rfl,fin .none ?_⟩) (λ hin=>?_)
  ·unfold rm
   rw[if_pos (List.mem_map.mpr ⟨i,hin,rfl⟩)];rfl
  ·refine zaU (k:=i) (exr _ _ klb3) h5 hi ⟨rfl,fin _ ?_⟩
   unfold rm;rw[if_neg λ h=>let ⟨j,hj,e⟩:=List.mem_map.mp h;hin (zeT e▸hj)]
 obtain⟨rfl,rfl⟩:=h;have exC:=(exB'.trans ex2).trans (ex3.trans exr);refine⟨_,Ext.refl _,fresh (o:=.list (cells n (rm G1 ((zeU n G1 col f).map (pOf n))))) λ aa H6 haa ex9 kaa=>?_⟩;refine zaG.lenL (.inl (ex9 _ _ (exr _ _ kta))) (by rw[List.length_map];exact lq2 htl rfl) ?_;have done:∀ o,koL n G1 col f=o->MVPost n G1 col H (.tup [.ref aa,pvN o]) H6:=λ o ho=>⟨aa,f,by rw[ho],exC.trans ex9,exC.none haa,kaa,hf⟩
 refine zaW (λ q1=>?_) (λ q1=>done none (if_neg λ q=>q1 (by rw[List.length_map];exact_mod_cast q.1)));have q1:(zaY n G1 col f).length=1:=by rw[List.length_map]at q1;exact_mod_cast q1
 refine zaG.lenL (.inl (ex9 _ _ (exr _ _ kda3))) (by rw[List.length_map];exact Nat.le_trans hdl (by decide)) ?_;refine zaW (λ q2=>?_) (λ q2=>done none (if_neg λ q=>q2 (by rw[List.length_map];exact_mod_cast q.2)));have q2:(zcE n f).length=2:=by rw[List.length_map]at q2;exact_mod_cast q2
 obtain⟨j,hj⟩:=List.length_eq_one_iff.mp q1;refine SSub.list (ex9 _ _ (exr _ _ kta)) (by decide) (by decide) (p:=pn j) (by rw[hj];rfl) ?_;exact done (some j) ((if_pos ⟨q1,q2⟩).trans (by rw[hj];rfl))
end
section
variable {n:Nat}{G:Pt->Option Str}{c:Str}{z y:Pt}{L:List Pt}{i:Nat}
theorem KC_z:KC G c z=none↔G z=some c:=by
 cases h:G z with
 | none=>rw[zdO h];simp
 | some c'=>
  by_cases hc:c'=c
  ·rw[KC_eq (hc▸h),hc];simp
  ·rw[KC_ne h hc];simp[hc]
theorem tch_iff:tchB n G c z=true↔∃ q,zaJ n (KC G c) "e" z q/\∃ w∈nb q,inG n w/\G w=some c:=by
 unfold tchB Tch Surr Free;simp only[decide_eq_true_iff,Classical.not_forall,Classical.not_not,KC_z];exact⟨λ ⟨q,h,w⟩=>⟨q,h,w⟩,λ u9=>q12 u9 λ q h w=>⟨q,h,w⟩⟩
theorem zeB:znX n G c z=true↔G z=some c\/G z=none/\tchB n G c z=true:=by
 unfold znX;rw[Bool.or_eq_true,Bool.and_eq_true,beq_iff_eq,beq_iff_eq]
structure GA (n:Nat)(G:Pt->Option Str)(c:Str)(L:List Pt)(i:Nat):Prop where
 nd:L.Nodup
 inn:∀ z∈L,inG n z/\znX n G c z=true
 st:∀ z,inG n z->G z=some c->z∈L
 cl:∀ k<i,∀ z,L[k]?=some z->∀ y∈nb z,inG n y->G y=none->y∈L
theorem GA.len (h:GA n G c L i):L.length<=n*n:=by
 have:=nodup_le h.nd (m:=grid n) λ z hz=>zbC.mpr (h.inn z hz).1
 rwa [zeO]at this
theorem GA.more (h:GA n G c L i)(hi:i<=L.length)(hz:z∈L)(hy:y∈nb z)(hg:inG n y)(hG:G y=none)(hn:y∉L):GA n G c (L++[y]) i:=by
 have ya:tchB n G c y=true:=by
  obtain⟨zg,za⟩:=h.inn z hz;rcases zeB.mp za with hs|⟨h0,ht⟩
  ·exact tch_iff.mpr ⟨y,.refl hg (zdO hG),z,zhP hy,zg,hs⟩
  ·have r:zaJ n (KC G c) "e" y z:=(zaJ.refl hg (zdO hG)).step (zhP hy) zg (zdO h0)
   rw[<- znB r];exact ht
 refine⟨List.nodup_append.mpr ⟨h.nd,by simp,λ a ha b hb e=>hn (by rw[<- List.mem_singleton.mp hb,<- e];exact ha)⟩,λ q hq=>?_,λ q hq hs=>List.mem_append_left _ (h.st q hq hs),λ k hk q hq w hw hwg hw0=>?_⟩
 ·rcases List.mem_append.mp hq with hq|hq
  ·exact h.inn q hq
  ·rw[List.mem_singleton.mp hq];exact⟨hg,zeB.mpr (.inr ⟨hG,ya⟩)⟩
 ·by_cases hkl:k<L.length
  ·rw[List.getElem?_append_left hkl]at hq
   exact List.mem_append_left _ (h.cl k hk q hq w hw hwg hw0)
  ·exact absurd (Nat.lt_of_lt_of_le hk hi) hkl
theorem GA.next (h:GA n G c L i)(hz:L[i]?=some z)(hc:∀ y∈nb z,inG n y->G y=none->y∈L):GA n G c L (i+1):=by
 refine⟨h.nd,h.inn,h.st,λ k hk q hq y hy yg y0=>?_⟩;rcases Nat.lt_or_eq_of_le (Nat.le_of_lt_succ hk) with hk|rfl
 ·exact h.cl k hk q hq y hy yg y0
 ·rw[hz]at hq;cases hq;exact hc y hy yg y0
theorem GA.area (h:GA n G c L L.length):L.length=zcK n G c:=by
 have key:∀ z,inG n z->znX n G c z=true->z∈L:=λ z zg za=>by
  rcases zeB.mp za with hs|⟨h0,ht⟩
  ·exact h.st z zg hs
  ·refine q12 (tch_iff.mp ht) λ q r u8=>q13 u8 λ w hw wg ws=>?_
   have cl:∀ a∈L,∀ y∈nb a,inG n y->G y=none->y∈L:=λ a ha y hy yg y0=>by
    obtain⟨k,hk⟩:=List.getElem?_of_mem ha;exact h.cl k (List.getElem?_eq_some_iff.mp hk).1 a hk y hy yg y0
   have hq:q∈L:=cl w (h.st w wg ws) q (zhP hw) r.inG (KC_e.mp r.col);have r':=r.symm;clear ht r hw h0 za zg
   induction r' with
   | refl a b=>exact hq
   | step r1 a b e ih=>exact cl _ ih _ a b (KC_e.mp e)
 unfold zcK;exact (ztM h.nd (zfQ.filter _) λ q=>by
  rw[List.mem_filter,zbC];exact⟨λ hq=>h.inn q hq,λ u9=>q02 u9 λ a b=>key q a b⟩).length_eq
end
noncomputable def vw (v k:Nat):Bool:=decide (v / k % 2≠0)
noncomputable def zgQ (n v:Nat):Pt->Pt:=seenB n (vw v 1) (vw v 2) (vw v 4)
noncomputable def backV (n v:Nat):Pt->Pt:=backB n (vw v 1) (vw v 2) (vw v 4)
noncomputable def dyeV (v:Nat):Str->Str:=dyeB (vw v 8)
theorem symV (n v:Nat):Sym n (zgQ n v) (backV n v):=sym_seen _ _ _
theorem zuC (v:Nat):Dye (dyeV v):=dye_dye _
noncomputable def imG (n v:Nat)(G:Pt->Option Str):Pt->Option Str:=λ z=>(G (backV n v z)).map (dyeV v)
theorem znH {n v:Nat}{G:Pt->Option Str}:Img (zgQ n v) (dyeV v) G (imG n v G):=λ z=>by
 unfold imG;rw[(symV n v).ts]
theorem imG_of {n v:Nat}{G G':Pt->Option Str}(h:Img (zgQ n v) (dyeV v) G G'):G'=imG n v G:=funext λ z=>by
 have:=h (backV n v z);rw[(symV n v).st]at this;exact this
theorem zuQ {v k:Nat}{d:Int}(hd:d=k):(((v:Int).fdiv d).fmod 2=0)↔vw v k=false:=by
 subst hd;have e:((v:Int).fdiv k).fmod 2=((v / k % 2:Nat):Int):=by
  rw[show (v:Int).fdiv k=((v / k:Nat):Int) from (Int.ofNat_fdiv ..).symm];exact (Int.ofNat_fmod ..).symm
 rw[e];unfold vw;rw[decide_eq_false_iff_not,Classical.not_not];exact Int.ofNat_eq_zero
theorem vw_one {v:Nat}:((v:Int).fmod 2=0)↔vw v 1=false:=by
 have:=zuQ (v:=v) (k:=1) rfl
 rwa [show (v:Int).fdiv ((1:Nat):Int)=v from Int.fdiv_one _]at this
theorem br_bit {φ:Prop}[Decidable φ]{b:Bool}(hb:φ↔b=false){P:Bool->Prop}{A B:Prop}(h:P b)(h1:P true->A)(h0:P false->B):cond (!decide φ) A B:=by
 cases b with
 | true=>rw[decide_eq_false λ q=>Bool.noConfusion (hb.mp q)];exact h1 h
 | false=>rw[decide_eq_true (hb.mpr rfl)];exact h0 h
section
variable {T:Tr}{X:String}{H:zaA}{R:zaA->Prop}{n k v:Nat}{G:Pt->Option Str}
theorem ziT (hL:L1 T.C)(hn:1<=T.n)(hh:T.hd=false)(n2:2<=n)(h5:n<=5):
  zaF T X (.ref zcO) [pn k,.int n,.int v] H (λ p H'=>p=pt (zgQ n v (pOf n k))/\H'=H) R:=by
 refine hL.f_law_seen hh hn rfl ?_;have e1:(k:Int).fdiv n=(pOf n k).1:=(Int.ofNat_fdiv ..).symm;have e2:(k:Int).fmod n=(pOf n k).2:=(Int.ofNat_fmod ..).symm;refine And.intro (divOk (by exact lq1 n2 rfl) (by exact lq2 h5 rfl)) ?_;refine And.intro (by exact lq23 n2 rfl) ?_;rw[e1,e2];unfold zgQ;generalize pOf n k=z;obtain⟨r,c⟩:=z;refine Exists.intro _ (Exists.intro _ (And.intro rfl ?_));refine cutI Unit (λ _=>[(1,.int n),(2,.int v),(3,.int (cond (vw v 1) ((n:Int)-1-r) r)),(4,.int c)]) (λ _ H'=>H'=H) ?_ ?_
 ·refine And.intro (by decide) ?_
  refine br_bit (P:=λ b=>vw v 1=b) vw_one rfl (λ q=>?_) (λ q=>?_)
  ·exact⟨(),⟨rfl,rfl,by rw[q];rfl,rfl,trivial⟩,rfl⟩
  ·exact⟨(),⟨rfl,rfl,by rw[q];rfl,rfl,trivial⟩,rfl⟩
 rintro u H1 rfl;refine cutI Unit (λ _=>[(2,.int v),(3,.int (cond (vw v 1) ((n:Int)-1-r) r)),(4,.int (cond (vw v 2) ((n:Int)-1-c) c))]) (λ _ H'=>H'=H1) ?_ ?_
 ·refine And.intro ⟨by decide,zbI (by decide) (by decide)⟩ (And.intro (by decide) ?_)
  refine br_bit (P:=λ b=>vw v 2=b) (zuQ rfl) rfl (λ q=>?_) (λ q=>?_)
  ·exact⟨(),⟨rfl,rfl,by rw[q];rfl,trivial⟩,rfl⟩
  ·exact⟨(),⟨rfl,rfl,by rw[q];rfl,trivial⟩,rfl⟩
 rintro u H2 rfl;refine And.intro ⟨by decide,zbI (by decide) (by decide)⟩ (And.intro (by decide) ?_);have e:(cond (vw v 1) ((n:Int)-1-r) r,cond (vw v 2) ((n:Int)-1-c) c)=(λ z=>cond (vw v 2) (fC n z) z) (cond (vw v 1) (fR n (r,c)) (r,c)):=by
  cases vw v 1 <;> cases vw v 2 <;> rfl
 unfold seenB;rw[<- e];refine br_bit (P:=λ b=>vw v 4=b) (zuQ rfl) rfl (λ q=>?_) (λ q=>?_)
 ·exact⟨by rw[q];rfl,rfl⟩
 ·exact⟨by rw[q];rfl,rfl⟩
theorem zrJ (hL:L1 T.C)(hn:1<=T.n)(hh:T.hd=false){c:Str}(hc:BW c):
  zaF T X (.ref zeA) [.str c,.int v] H (λ p H'=>p=.str (dyeV v c)/\H'=H) R:=by
 refine hL.f_law_dyed hh hn rfl ?_;refine M.bwIndex hc ?_;refine And.intro ⟨by decide,zbI (by decide) (by decide)⟩ (And.intro (by decide) ?_);have hb:((v:Int).fdiv 8).fmod 2=(cond (vw v 8) 1 0:Int):=by
  have h:=zuQ (v:=v) (k:=8) rfl;have h1:=Int.fmod_nonneg_of_pos ((v:Int).fdiv 8) (b:=2) (by decide);have h2:=Int.fmod_lt_of_pos ((v:Int).fdiv 8) (b:=2) (by decide);cases q:vw v 8 with
  | false=>exact h.mpr q
  | true=>
   have:((v:Int).fdiv 8).fmod 2≠0:=λ e=>by rw[h.mp e]at q;cases q
   show _=(1:Int)
   lia
 have key:(bwI c+(v:Int).fdiv 8).fmod 2=bwI (dyeV v c):=by
  rw[Int.fmod_eq_emod_of_nonneg _ (by decide)]at hb ⊢;unfold dyeV dyeB flipC bwI;have hne:(("w" : Str) == "b")=false:=by decide +kernel
  have hbb:(("b" : Str) == "b")=true:=by decide +kernel
  rcases hc with rfl|rfl <;> cases q:vw v 8 <;> rw[q]at hb <;> simp only[cond,hne,hbb]at hb ⊢ <;> lia
 rw[key];have hd:BW (dyeV v c):=(zuC v).val hc;refine SSub.bw (Q:=λ p H'=>p=.str (dyeV v c)/\H'=H) (by rcases hd with q|q <;> rw[q] <;> decide +kernel) (by rcases hd with q|q <;> rw[q] <;> decide +kernel) λ s hs h=>⟨?_,rfl⟩
 have hne:bwI "w" = 1:=by decide +kernel
 have hbb:bwI "b" = 0:=by decide +kernel
 rcases hd with q|q
 ·rw[q]at h ⊢;rw[h.mpr hbb]
 ·rw[q]at h ⊢
  rcases hs with rfl|rfl
  ·have:=h.mp rfl;rw[hne]at this;cases this
  ·rfl
end
theorem filt_snoc {g:Nat->Bool}{l:List Nat}{i k:Nat}(h:l[i]?=some k)(b:Bool)(hb:g k=b):((l.take i).filter g).map pn++(cond b (some (pn k)) none).toList=((l.take (i+1)).filter g).map pn:=by
 rw[zaO h,List.filter_append,List.map_append]
 congr 1
 rw[List.filter_cons,hb];cases b <;> rfl
theorem zwC {g:Nat->Bool}{i:Nat}(b:Bool)(hb:g i=b):((List.range i).filter g).map pn++(cond b (some (pn i)) none).toList=((List.range (i+1)).filter g).map pn:=by
 rw[List.range_succ,List.filter_append,List.map_append]
 congr 1
 rw[List.filter_cons,hb];cases b <;> rfl
structure Ad where
 x:Addr
 d:Addr
 bp:Addr
 bd:Addr
 rows:List Addr
inductive B4 (n:Nat)(a:Ad)(G:Pt->Option Str)(m:Nat)(H:zaA):Prop
 | mk (e:Bool) (l:Ls) (B:BdAt a.x a.d a.bp a.bd a.rows n G e H) (em:e=true↔∀ z,G z=none) (hl:H a.d=some (.attrs l)) (le:l.length<=m):B4 n a G m H
structure Apt (a b:Ad):Prop where
 dd:a.d≠b.d
 pr:a.bp∉b.rows
 br:a.bd∉b.rows
 rr:∀ z∈a.rows,z∉b.rows
noncomputable def pvI (n v:Nat):Option (Option Nat)->PV
 | none=>.str "taken"
 | some o=>pvPt (o.map λ k=>zgQ n v (pOf n k))
theorem mo_pl {P:Params}:MOk P "play" zpA:=⟨by decide +kernel,by kernel_rfl,by kernel_rfl,by kernel_rfl⟩
section
variable {T:Tr}{X:String}{H H':zaA}{R:zaA->Prop}{n k v m m':Nat}{G G':Pt->Option Str}{a b:Ad}{c:Str}
theorem B4.ext (I:B4 n a G m H)(ex:Ext H H'):B4 n a G m H':=by
 obtain⟨e,l,B,em,hl,le⟩:=I;exact⟨e,l,B.ext ex,em,ex _ _ hl,le⟩
theorem B4.mono (I:B4 n a G m H)(h:m<=m'):B4 n a G m' H:=by
 obtain⟨e,l,B,em,hl,le⟩:=I;exact⟨e,l,B,em,hl,Nat.le_trans le h⟩
theorem B4.keep (I:B4 n a G m H)(J:B4 n b G' m' H)(kp:Keep H b.d b.rows H')(ap:Apt a b):B4 n a G m H':=by
 obtain⟨e,l,B,em,hl,le⟩:=I;obtain⟨e',l',B',-,hl',-⟩:=J;have row:∀ z∈b.rows,∃ f,H z=some (.list f):=λ z hz=>by
  obtain⟨k,hk⟩:=List.getElem?_of_mem hz;exact⟨_,B'.row k z hk⟩
 have nd:∀ z o,H z=some o->(∀ l,o≠.attrs l)->z≠b.d:=λ z o h hk q=>by rw[q,hl']at h;cases h;exact hk _ rfl
 have nr:∀ z o,H z=some o->(∀ l,o≠.list l)->z∉b.rows:=λ z o h hk q=>by
  obtain⟨f,hf⟩:=row z q;rw[hf]at h;cases h;exact hk _ rfl
 have hd:=kp _ _ hl ap.dd (nr _ _ hl λ l q=>by cases q);have ls:∀ z f,H z=some (.list f)->z∉b.rows->H' z=some (.list f):=λ z f h hz=>kp _ _ h (nd _ _ h λ l q=>by cases q) hz;refine⟨e,l,⟨kp _ _ B.inst (nd _ _ B.inst λ l q=>by cases q) (nr _ _ B.inst λ l q=>by cases q),?_,ls _ _ B.pts ap.pr,ls _ _ B.board ap.br,B.len,λ i z h=>ls _ _ (B.row i z h) (ap.rr z (List.mem_of_getElem? h)),B.nodup,B.lo,B.five,B.bpn,B.bdn⟩,em,hd,le⟩;refine q12 B.attrs λ l2 q1 q2=>?_;rw[hl]at q1;cases q1;exact⟨l,hd,q2⟩
theorem BW.cols (h:BW c):∃ o,Cols c o:=h.elim (λ q=>⟨"w",.inl ⟨q,rfl⟩⟩) λ q=>⟨"b",.inr ⟨q,rfl⟩⟩
inductive T4 (n v:Nat)(a:Ad)(G:Pt->Option Str)(z:Pt)(c:Str)(m:Nat)(H:zaA)(p:PV)(H':zaA):Prop
 | mk (e:p=pvI n v (actD n G z c)) (I:B4 n a (imG n v (actG n G z c)) m H') (kp:Keep H a.d a.rows H'):T4 n v a G z c m H p H'
theorem play4 (hL:L1 T.C)(hn:6<=T.n)(hh:T.hd=false)(I:B4 n a (imG n v G) m H)(P:LPos n G)(hm:m<=4000){z:Pt}(hz:inG n z)(hc:BW c)(hX:X = "ValueError")(hR:G z≠none->R H):
  zaF T X (.ref zpA) [.ref a.x,.int (zgQ n v z).1,.int (zgQ n v z).2,.str (dyeV v c)] H (λ p H'=>G z=none/\T4 n v a G z c (m+2) H p H') R:=by
 obtain⟨e,l,B,em,hl,le⟩:=I;have S:=symV n v;have hi:Img (zgQ n v) (dyeV v) G (imG n v G):=znH;have hg:inG n (zgQ n v z):=(S.ig z).mpr hz;obtain⟨o,hco⟩:=BW.cols hc;have hco':=(zuC v).cols hco;have P':LPos n (imG n v G):=P.img S (zuC v) hi;have hval:∀ q s,imG n v G q=some s->s=dyeV v c\/s=dyeV v o:=λ q s h=>by
  rcases P'.val q s h with rfl|rfl <;> rcases hco' with ⟨q1,q2⟩|⟨q1,q2⟩ <;> simp[q1,q2]
 refine zaF.mono (play_spec (r:=(zgQ n v z).1) (c:=(zgQ n v z).2) hL hn hh B hg hco' hval ⟨l,hl,Nat.le_trans le hm⟩ hX λ q=>hR λ w=>q ((zhG hi).mpr w)) λ p H' h=>?_;obtain⟨L,hdl,l1,l2,g0,fs,hL5,rfl,B3,K3,hl1,hl2,hl12⟩:=h;have g0':G z=none:=(zhG hi).mp g0;rw[hl]at hl1;cases hl1;refine q03 (play_act P' hg hco' g0 fs) λ e1 u0 e4=>?_;obtain⟨o',e2,e3⟩:=u0;obtain⟨i1,i2⟩:=act_img (p:=z) P S (zuC v) hi hc;have B3:BdAt a.x a.d a.bp a.bd a.rows n (actG n (imG n v G) (zgQ n v z) (dyeV v c)) (emOf n L) H':=e1▸B3;rw[imG_of i1]at B3 e4;refine⟨g0',?_,⟨_,l2,B3,e4,hl2,Nat.le_trans hl12 (Nat.add_le_add_right le 2)⟩,K3⟩;rw[e2,(zdK (n:=n) (col:=c) g0').2]at i2;rw[e3,(zdK (n:=n) (col:=c) g0').2];exact congrArg pvPt (Option.some.inj i2)
theorem told4 (hL:L1 T.C)(hn:8<=T.n)(hh:T.hd=false)(I:B4 n a (imG n v G) m H)(P:LPos n G)(hm:m<=4000)(hk:k<n*n)(hc:BW c):
  zaF T X (.ref zdI) [.ref a.x,.int n,.int v,pn k,.str c] H (T4 n v a G (pOf n k) c (m+2) H) R:=by
 have n2:2<=n/\n<=5:=by obtain⟨_,_,B,_⟩:=I;exact⟨B.lo,B.five⟩
 refine hL.f_law_told hh (by exact lq1 hn rfl) rfl ?_;refine zaF.callK (ziT (T:=T.down) (v:=v) hL (by show 1<=T.n-1;exact lq4 hn rfl) hh n2.1 n2.2) λ K0 hK0 p H' h=>?_;obtain⟨rfl,rfl⟩:=h;refine hK0 _ _ ?_;refine Exists.intro "ValueError" (Exists.intro (λ ls'' H''=>H''=H'/\G (pOf n k)≠none) (And.intro catchV (And.intro ?_ ?_)))
 ·refine Exists.intro (.ref zpA) (And.intro (I.casesOn λ e l B _ _ _=>B.meth hL mo_pl) ?_)
  refine zaF.callK (zrJ (T:=T.down) (v:=v) hL (by show 1<=T.n-1;exact lq4 hn rfl) hh hc) λ K1 hK1 p H'' h=>?_;obtain⟨rfl,rfl⟩:=h;refine hK1 _ _ ?_;exact zaF.call (play4 (T:=T.down) hL (by show 6<=T.n-1;exact lq4 hn rfl) hh I P hm (zdC hk) hc rfl λ q=>⟨rfl,q⟩) λ p H2 h=>h.2
 ·rintro ls'' H'' ⟨rfl,hG⟩
  obtain⟨s,hs⟩:=Option.ne_none_iff_exists'.mp hG;obtain⟨a1,a2⟩:=ziE (n:=n) (col:=c) hs;exact⟨by rw[a2];rfl,by rw[a1];exact I.mono (Nat.le_add_right m 2),Keep.refl⟩
end
theorem zqQ {b:Bool}{α:Type}{K:α->zaA->Prop}{x y:α}{H:zaA}(h:K (cond b x y) H):cond b (K x H) (K y H):=by cases b <;> exact h
theorem zxJ {H:zaA}{l:List Nat}{a:Addr}{g:Nat->Bool}{step:PV->zaA->(Option PV->zaA->Prop)->Prop}{T:Tr}{Q:PV->zaA->Prop}(ha:H a=some (.list (l.map pn)))(hz:l.length<=25)
  (turn:∀ k∈l,∀ H',Ext H H'->∀ K:Option PV->zaA->Prop,(∀ H'',Ext H' H''->K (cond (g k) (some (pn k)) none) H'')->step (pn k) H' K)
  (fin:∀ H' b,Ext H H'->H b=none->H' b=some (.list ((l.filter g).map pn))->Q (.ref b) H'):zfD T (.ref a) H step Q:=by
 refine zfD.list a _ rfl ha (by rw[List.length_map];exact Nat.le_trans hz (by decide)) (λ i out H'=>Ext H H'/\out=((l.take i).filter g).map pn) ⟨Ext.refl _,rfl⟩ (λ i out H' h=>h.1 _ _ ha) (λ i v out H' hv' h=>?_) (λ out H' h=>?_)
 ·obtain⟨ex,rfl⟩:=h
  refine q12 (zcA hv') λ k hk u0=>?_;cases u0;exact turn k (List.mem_of_getElem? hk) H' ex _ λ H'' ex2=>⟨ex.trans ex2,filt_snoc hk _ rfl⟩
 ·obtain⟨ex,rfl⟩:=h
  refine⟨_,Ext.refl _,fresh (o:=.list (((l.take (l.map pn).length).filter g).map pn)) λ b H3 hb ex3 kb=>?_⟩;rw[List.length_map,List.take_length]at kb;exact fin H3 b (ex.trans ex3) (ex.none hb) kb
theorem zoA {H:zaA}{T:Tr}{a:Addr}{m:Nat}{g:Nat->Bool}{step:PV->zaA->(Option PV->zaA->Prop)->Prop}{Q:PV->zaA->Prop}(ha:H a=some (.range 0 m))(hz:m<=25)
  (turn:∀ k<m,∀ H',Ext H H'->∀ K:Option PV->zaA->Prop,(∀ H'',Ext H' H''->K (cond (g k) (some (pn k)) none) H'')->step (pn k) H' K)
  (fin:∀ H' b,Ext H H'->H b=none->H' b=some (.list (((List.range m).filter g).map pn))->Q (.ref b) H'):zfD T (.ref a) H step Q:=by
 refine zfD.range a m rfl ha (Nat.le_trans hz (by decide)) (λ i out H'=>Ext H H'/\out=((List.range i).filter g).map pn) ⟨Ext.refl _,rfl⟩ (λ i out H' hi h=>?_) (λ out H' h=>?_)
 ·obtain⟨ex,rfl⟩:=h
  exact turn i hi H' ex _ λ H'' ex2=>⟨ex.trans ex2,zwC _ rfl⟩
 ·obtain⟨ex,rfl⟩:=h
  exact⟨_,Ext.refl _,fresh (o:=.list (((List.range m).filter g).map pn)) λ b H3 hb ex3 kb=>fin H3 b (ex.trans ex3) (ex.none hb) kb⟩
theorem keep_ext {Hb H H':zaA}{d:Addr}{rows:List Addr}(ex:Ext Hb H)(k:Keep H d rows H')(hd:Hb d=none)(hr:∀ a∈rows,Hb a=none):Ext Hb H':=λ a o e=>
 k a o (ex a o e) (λ q=>by rw[q,hd]at e;cases e) (λ q=>by rw[hr a q]at e;cases e)
structure New4 (a:Ad)(H:zaA):Prop where
 d:H a.d=none
 bp:H a.bp=none
 bd:H a.bd=none
 rows:∀ z∈a.rows,H z=none
inductive Laid4 (n v:Nat)(G:Pt->Option Str)(H:zaA)(p:PV)(H':zaA):Prop
 | mk (a:Ad) (e:p=.ref a.x) (I:B4 n a (imG n v G) 60 H') (ex:Ext H H') (nw:New4 a H):Laid4 n v G H p H'
inductive LI4 (n v:Nat)(G:Pt->Option Str)(a:Ad)(H:zaA)(m:Nat)(b:Int×Addr)(H':zaA):Prop
 | mk (rl ll:List Nat) (e:m=rl.length) (k:H' b.2=some (.list (rl.map pn))) (nr:b.2∉a.rows) (I:B4 n a (imG n v (subG G (ll.map (pOf n)))) (10+2*ll.length) H') (le:ll.length+rl.length<=25)
   (st:∀ k∈rl,k<n*n/\G (pOf n k)≠none) (nd:∀ k∈rl,k∉ll) (al:∀ k<n*n,G (pOf n k)≠none->k∈ll\/k∈rl) (ex:Ext H H'):LI4 n v G a H m b H'
section
variable {T:Tr}{X:String}{H:zaA}{R:zaA->Prop}{n v:Nat}{G:Pt->Option Str}
theorem B4.fresh {a:Ad}{m:Nat}(I:B4 n a G m H){b:Addr}(h:H b=none):b∉a.rows:=by
 obtain⟨e,l,B,-⟩:=I;exact zfZ B h
theorem B4.nd {a:Ad}{m:Nat}(I:B4 n a G m H){b:Addr}{l:List PV}(h:H b=some (.list l)):b≠a.d:=λ q=>by
 obtain⟨e,l',B,em,hl,-⟩:=I;rw[q,hl]at h;cases h
theorem ziV (hL:L1 T.C)(hn:10<=T.n)(hh:T.hd=false)(n2:2<=n)(h5:n<=5)(P:LPos n G){ca:Addr}(hc:H ca=some (.list (cells n G))){o:Int}:
  zaF T X (.ref zcR) [.ref ca,.int n,.int v,.int o] H (Laid4 n v G H) R:=by
 refine hL.f_law_laid hh (by exact lq1 hn rfl) rfl ?_;have enn:(n:Int)*n=((n*n:Nat):Int):=Int.natCast_mul n n▸rfl;have h25:=zqJ h5;refine zaG.cls (hL.mks (by kernel_rfl)) (hL.fd (by kernel_rfl)) (hL.ft (by kernel_rfl)) (by show 1<=T.n-1;exact lq4 hn rfl) λ x d hxd hx hd=>zaF.mono (init_spec (T:=T.down.down) (n:=n) hL (by show 3<=T.n-1-1;exact lq5 hn rfl) hh zaC (by rw[zaD hxd.symm];exact zaC) n2 h5) λ p H2 h=>?_;obtain⟨bp,bd,rows,l0,rfl,B0,hd0,hl0',kp0,np,nb',nr⟩:=h;refine And.intro rfl ?_;have up0:Ext H (upd (upd H d (.attrs [])) x (.inst zfF d)):=(Ext.upd (Ext.refl _) hd).trans (Ext.upd (Ext.refl _) (by rw[zaD hxd];exact hx));have nw:New4 ⟨x,d,bp,bd,rows⟩ H:=⟨hd,up0.none np,up0.none nb',λ z hz=>up0.none (nr z hz)⟩
 have ex2:Ext H H2:=λ a o e=>kp0 a o (up0 a o e) (λ q=>by rw[q,hd]at e;cases e) (by simp);have I0:B4 n ⟨x,d,bp,bd,rows⟩ (imG n v (subG G [])) 10 H2:=⟨true,l0,by rw[sub_nil];exact B0,by rw[sub_nil];exact⟨λ _ _=>rfl,λ _=>rfl⟩,hd0,hl0'⟩
 have hc2:=ex2 _ _ hc;clear B0 hd0 hl0' kp0 np nb' nr up0 hx hd;refine And.intro (ziN h5) ?_;refine zaG.range1 (fresh λ ra H3 hra ex3 kra=>?_);refine zoA (m:=n*n) (g:=λ k=>!(cell (G (pOf n k))).isNone) (by rw[<- enn];exact kra) h25 (λ k hk H' ex K hK=>?_) λ H4 b ex4 hb kb=>?_
 ·refine zaU (k:=k) (ex _ _ (ex3 _ _ hc2)) h5 hk ?_
  exact zqQ (hK _ (Ext.refl _))
 generalize hrl:(List.range (n*n)).filter (λ k=>!(cell (G (pOf n k))).isNone)=rl0 at kb;have mrl:∀ k,k∈rl0↔k<n*n/\G (pOf n k)≠none:=λ k=>by
  rw[<- hrl,List.mem_filter,List.mem_range];refine and_congr_right λ _=>?_;cases G (pOf n k) <;> simp[cell,PV.isNone]
 have ex24:=ex2.trans (ex3.trans ex4);refine whileI (Int×Addr) (λ b=>[(0,.ref ca),(1,.int n),(2,.int v),(3,.int b.1),(4,.ref x),(5,.ref b.2)]) (LI4 n v G ⟨x,d,bp,bd,rows⟩ H) rl0.length (o,b) (SubN.of rfl) ?_ ?_
 ·refine⟨rl0,[],rfl,kb,(I0.ext ex3).fresh hb,(I0.ext ex3).ext ex4,?_,λ k hk=>(mrl k).mp hk,λ _ _ h=>(nomatch h),λ k hk h=>.inr ((mrl k).mpr ⟨hk,h⟩),ex24⟩
  rw[<- hrl];exact Nat.le_trans (Nat.le_of_eq (Nat.zero_add _)) (Nat.le_trans (List.length_filter_le _ _) (by rw[List.length_range];exact h25))
 clear I0 ex3 ex4 kra hra hb kb ex24 hrl mrl ex2 hc2;rintro m ⟨o,b⟩ H' ⟨rl,ll,rfl,kb,nrb,I,le,st,nd,al,ex⟩;refine STr.list (.inl kb) (by rw[List.length_map];lia) ?_;cases hrl:rl with
 | nil=>
  subst hrl;refine⟨⟨x,d,bp,bd,rows⟩,rfl,?_,ex,nw⟩;have:subG G (ll.map (pOf n))=G:=sub_all λ z hz=>by
   refine q12 (zbN (P.sup z hz)) λ k hk u0=>?_;cases u0;exact (al k hk hz).elim (λ h=>List.mem_map.mpr ⟨k,h,rfl⟩) λ h=>nomatch h
  rw[this]at I;exact I.mono (by lia)
 | cons r rs=>
 rw[<- hrl];have hpos:0<rl.length:=by rw[hrl];exact Nat.succ_pos _
 rw[show (rl.map pn).isEmpty=false by rw[hrl];rfl];clear hrl;have hl25:(rl.map pn).length<=100000:=by rw[List.length_map];lia
 refine wS_goK λ K hK=>?_;refine (let L1':LN:=_;(?_:wS _ _ _ L1' _ _ _));refine zaG.lenL (.inl kb) hl25 ?_;rw[List.length_map];refine q12 (fm (a:=o) (b:=(rl.length:Int)) (m:=rl.length) rfl hpos) λ j hj hjl=>?_;refine And.intro (by lia) ?_;rw[hj];have hs:rl[j]?=some rl[j]:=List.getElem?_eq_getElem hjl;generalize rl[j]=s at hs;have hsm:=List.mem_of_getElem? hs;obtain⟨hsn,hG⟩:=st s hsm;obtain⟨c,hG⟩:=Option.ne_none_iff_exists'.mp hG;refine SSub.list kb (Int.natCast_nonneg _) (by lia) (p:=pn s) (by rw[List.getElem?_map,show ((j:Nat):Int).toNat=j from rfl,hs];rfl) ?_;refine zaG.lenL (.inl kb) hl25 ?_;rw[List.length_map];refine And.intro (divOk hpos (by lia)) ?_;generalize Int.fdiv o (rl.length:Int)=o';refine zxJ (g:=λ k=>!decide ((k:Int)=(s:Int))) kb (by lia) (λ k hk H'' ex' K hK=>zqQ (hK _ (Ext.refl _))) λ H4 b' ex4 hb' kb'=>?_;refine zaU (k:=s) (ex4 _ _ (ex _ _ hc)) h5 hsn ?_;rw[hG];have hpl:pOf n s∉ll.map (pOf n):=λ h=>by
  refine q12 (List.mem_map.mp h) λ k hk e=>?_;exact nd s hsm (zeT e▸hk)
 obtain⟨l1,l2⟩:=lay_one P hG hpl;refine zaF.callK (told4 (T:=T.down) (v:=v) hL (by show 8<=T.n-1;exact lq4 hn rfl) hh (I.ext ex4) (zvS P _) (by lia) hsn (P.val _ _ hG)) λ K0 hK0 p H5 h=>?_;obtain⟨rfl,I5,kp⟩:=h;refine hK0 _ _ ?_;rw[l2];rw[l1]at I5;have hlt:(rl.filter λ k:Nat=>!decide ((k:Int)=(s:Int))).length<rl.length:=List.length_filter_lt_length_iff_exists.mpr ⟨s,hsm,by show ¬ (!decide ((s:Int)=(s:Int)))=true;simp⟩;refine hK _ rfl (o',b') _ _ (SubN.of rfl) ⟨_,hlt,_,ll++[s],rfl,kp _ _ kb' ((I.ext ex4).nd kb') (I.fresh hb'),I.fresh hb',?_,?_,λ k hk=>st k (List.mem_filter.mp hk).1,λ k hk h=>?_,λ k hk h=>?_,keep_ext (ex.trans ex4) kp nw.d nw.rows⟩
 ·rw[List.map_append,List.length_append];exact I5
 ·rw[List.length_append];exact Nat.le_trans (by rw[Nat.add_assoc,Nat.add_comm [s].length];exact Nat.add_le_add_left hlt _) le
 ·obtain⟨h1,h2⟩:=List.mem_filter.mp hk
  rcases List.mem_append.mp h with h|h
  ·exact nd k h1 h
  ·rw[List.mem_singleton.mp h]at h2;simp at h2
 ·rcases al k hk h with h|h
  ·exact .inl (List.mem_append_left _ h)
  ·by_cases e:k=s
   ·exact .inl (List.mem_append_right _ (List.mem_singleton.mpr e))
   ·exact .inr (List.mem_filter.mpr ⟨h,by simp;omega⟩)
end
inductive AR2 (n:Nat)(G:Pt->Option Str)(c:Str)(la:Addr)(H:zaA)(m i:Nat)(u:Unit)(H':zaA):Prop
 | mk (L:List Nat) (em:m+i=n*n) (ga:GA n G c (L.map (pOf n)) i) (lt:∀ k∈L,k<n*n) (le:i<=L.length) (ka:H' la=some (.list (L.map pn))) (ex:Ext H H'):AR2 n G c la H m i u H'
inductive AR3 (n:Nat)(G:Pt->Option Str)(c:Str)(z:Nat)(la na:Addr)(H:zaA)(i j:Nat)(u:Unit)(H':zaA):Prop
 | mk (L:List Nat) (ga:GA n G c (L.map (pOf n)) i) (lt:∀ k∈L,k<n*n) (at_:L[i]?=some z) (dn:∀ y∈(near n z).take j,G (pOf n y)=none->y∈L) (ka:H' la=some (.list (L.map pn))) (kn:H' na=some (.list ((near n z).map pn))) (ex:Ext H H'):AR3 n G c z la na H i j u H'
theorem zvF {m i N L:Nat}(e:m+i=N)(h:i<L)(g:L<=N):m-1<m/\m-1+(i+1)=N:=by
 cases m with
 | zero=>exact absurd (Nat.lt_of_lt_of_le h g) (by rw[<- e,Nat.zero_add];exact Nat.lt_irrefl i)
 | succ m=>exact⟨Nat.lt_succ_self m,by rw[<- e,Nat.succ_add];rfl⟩
theorem zuU {P:Nat->Prop}{k:Nat}{l:List Nat}{z:Nat}(hz:l[k]?=some z)(h:∀ y∈l.take k,P y)(hp:P z):∀ y∈l.take (k+1),P y:=λ y hy=>by
 rw[zaO hz]at hy;rcases List.mem_append.mp hy with hy|hy
 ·exact h y hy
 ·rw[List.mem_singleton.mp hy];exact hp
theorem zqT {n k:Nat}{L:List Nat}:pOf n k∈L.map (pOf n)↔k∈L:=by
 rw[List.mem_map];exact⟨λ u9=>q12 u9 λ j hj e=>zeT e▸hj,λ h=>⟨k,h,rfl⟩⟩
section
variable {T:Tr}{X:String}{H:zaA}{R:zaA->Prop}{n:Nat}{G:Pt->Option Str}
theorem zoY (hL:L1 T.C)(hn:2<=T.n)(hh:T.hd=false)(n2:2<=n)(h5:n<=5)(P:LPos n G){ca:Addr}(hc:H ca=some (.list (cells n G))){c:Str}(hcc:PyData.strOk c=true):
  zaF T X (.ref zdF) [.ref ca,.int n,.str c] H (λ p H'=>p=.int (zcK n G c)/\Ext H H') R:=by
 refine hL.f_law_reach hh (by exact lq1 hn rfl) rfl ?_;have enn:(n:Int)*n=((n*n:Nat):Int):=Int.natCast_mul n n▸rfl;have h25:=zqJ h5;refine And.intro (ziN h5) ?_;refine zaG.range1 (fresh λ ra H1 hra ex1 kra=>?_);refine zoA (m:=n*n) (g:=λ k=>G (pOf n k)==some c) (by rw[<- enn];exact kra) h25 (λ k hk H' ex K hK=>?_) λ H3 la ex3 hla kla=>?_
 ·refine zaU (k:=k) (ex _ _ (ex1 _ _ hc)) h5 hk ?_
  have hK:=hK H' (Ext.refl _)
  revert hK
  cases hG:G (pOf n k) with
  | none=>
   intro hK;refine SCmp.eqD HD.none' (HD.str' hcc) λ b hb=>?_;refine br_in hb (λ q=>by cases q) (λ _=>hK)
  | some c'=>exact λ hK=>zqQ hK
 have exH:=ex1.trans ex3;have hla0:H la=none:=ex1.none hla;have ga0:GA n G c (((List.range (n*n)).filter λ k=>G (pOf n k)==some c).map (pOf n)) 0:=by
  refine⟨zhN (List.nodup_range.filter _),λ z hz=>?_,λ z zg zs=>?_,λ k hk=>absurd hk (Nat.not_lt_zero _)⟩
  ·refine q12 (List.mem_map.mp hz) λ k hk u0=>?_;cases u0
   obtain⟨h1,h2⟩:=List.mem_filter.mp hk;exact⟨zdC (List.mem_range.mp h1),zeB.mpr (.inl (by simpa using h2))⟩
  ·refine q12 (zbN zg) λ k hk u0=>?_;cases u0
   exact zqT.mpr (List.mem_filter.mpr ⟨List.mem_range.mpr hk,by simpa using zs⟩)
 have lt0:∀ k∈(List.range (n*n)).filter λ k=>G (pOf n k)==some c,k<n*n:=λ k hk=>List.mem_range.mp (List.mem_filter.mp hk).1;generalize (List.range (n*n)).filter (λ k=>G (pOf n k)==some c)=L0 at kla ga0 lt0;refine WFor.grow la rfl ⟨_,kla⟩ Unit (λ _=>[(0,.ref ca),(1,.int n),(3,.ref la)]) (AR2 n G c la H) (n*n) () (SubN.of rfl) ⟨L0,rfl,ga0,lt0,Nat.zero_le _,kla,exH⟩ ?_;clear ex3 kla ga0 lt0 exH hla ex1 hra kra;clear H1 H3;intro m i u H' uu;obtain⟨L,em,ga,lt,le,ka,ex'⟩:=uu;have hlen:L.length<=n*n:=by have:=ga.len;rwa [List.length_map]at this
 refine⟨_,ka,λ v hv'=>?_,λ hle=>?_⟩
 ·refine q12 (zcA hv') λ z hz u0=>?_;cases u0
  refine zgV λ K1 hK1=>?_;have zn:=lt z (List.mem_of_getElem? hz);refine zaF.callK (znE (T:=T.down) (k:=z) hL (by show 1<=T.n-1;exact lq4 hn rfl) hh n2 h5 zn) λ K0 hK0 p H2 h=>?_;obtain⟨na,rfl,ex2,hna,kna⟩:=h;refine hK0 _ _ ?_;have hnl:na≠la:=λ q=>by rw[q,ka]at hna;cases hna
  refine WFor.list na _ rfl kna Unit (λ _=>[(0,.ref ca),(1,.int n),(3,.ref la),(4,pn z)]) (AR3 n G c z la na H i) () (SubN.of rfl) ?_ (λ j b H'' h=>by obtain⟨_,_,_,_,_,_,h,_⟩:=h;exact h) ?_ ?_
  ·exact⟨L,ga,lt,hz,λ x hx=>by simp at hx,ex2 _ _ ka,kna,ex'.trans ex2⟩
  ·intro j v u H4 hv3 uu;obtain⟨L,ga,lt,at_,dn,ka,kn,ex''⟩:=uu
   refine q12 (zcA hv3) λ y hy u0=>?_;cases u0;refine zgV λ K hK=>?_;have ynb:=List.mem_of_getElem? hy;have yl:=zkS h5 zn ynb;have go:(G (pOf n y)=none->y∈L)->AR3 n G c z la na H i (j+1) () H4:=λ q=>⟨L,ga,lt,at_,zuU (P:=λ y=>G (pOf n y)=none->y∈L) hy dn q,ka,kn,ex''⟩
   refine zaU (k:=y) (ex'' _ _ hc) h5 yl ?_;cases hG:G (pOf n y) with
   | some c'=>exact hK _ rfl () _ _ (SubN.of rfl) (go λ q=>by rw[hG]at q;cases q)
   | none=>
    refine SCmp.inL (.inl ka) (zhD L) HD.int' λ b hb=>?_;refine br_nin (hb.trans zfH) (λ hin=>?_) (λ hin=>hK _ rfl () _ _ (SubN.of rfl) (go λ _=>hin));have hlt:=(List.getElem?_eq_some_iff.mp at_).1;have hlen:L.length<=n*n:=by have:=ga.len;rwa [List.length_map]at this
    refine M.append ka (by rw[List.length_map];exact lq30 hlen h25 rfl) ?_;refine hK _ rfl () _ _ (SubN.of rfl) ⟨L++[y],?_,λ k hk=>?_,by rw[List.getElem?_append_left hlt];exact at_,zuU (P:=λ w=>G (pOf n w)=none->w∈L++[y]) hy (λ w hw h0=>List.mem_append_left _ (dn w hw h0)) (λ _=>by simp),by rw[zaC,List.map_append];rfl,by rw[zaD hnl];exact kn,Ext.upd ex'' hla0⟩
    ·rw[List.map_append]
     exact ga.more (by rw[List.length_map];exact Nat.le_of_lt hlt) (zqT.mpr (List.mem_of_getElem? at_)) ((zhE h5 zn yl).mp ynb) (zdC yl) hG λ q=>hin (zqT.mp q)
    ·rcases List.mem_append.mp hk with hk|hk
     ·exact lt k hk
     ·rw[List.mem_singleton.mp hk];exact yl
  ·intro u H4 uu;obtain⟨L,ga,lt,at_,dn,ka,kn,ex''⟩:=uu
   rw[List.length_map,List.take_length]at dn;have hlt:=(List.getElem?_eq_some_iff.mp at_).1;have hlen:L.length<=n*n:=by have:=ga.len;rwa [List.length_map]at this
   refine hK1 _ rfl () _ _ (SubN.of rfl) ⟨m-1,(zvF em hlt hlen).1,L,(zvF em hlt hlen).2,ga.next (by rw[List.getElem?_map,at_];rfl) λ y hy yg y0=>?_,lt,hlt,ka,ex''⟩;refine q12 (zbN yg) λ k hk u0=>?_;cases u0;exact zqT.mpr (dn k ((zhE h5 zn hk).mpr hy) y0)
 ·rw[List.length_map]at hle
  have hie:i=L.length:=Nat.le_antisymm le hle;subst hie;refine zaG.lenL (.inl ka) (by rw[List.length_map];lia) ?_;have ga':GA n G c (L.map (pOf n)) (L.map (pOf n)).length:=by rw[List.length_map];exact ga
  have:=ga'.area;rw[List.length_map]at this;exact⟨by rw[List.length_map,this],ex'⟩
end
noncomputable def rkP (n:Nat)(z:Pt):Nat:=(z.1*n+z.2).toNat
theorem rk_fin:∀ n<6,∀ k<25,∀ j<25,rkP n (pOf n k)=k/\ptB (pOf n k) (pOf n j)=decide (k<j)\/n=0:=by decide +kernel
theorem rk_grid:∀ n<6,(grid n).map (rkP n)=List.range (n*n):=by decide +kernel
theorem zuS {n k:Nat}(n2:2<=n)(h5:n<=5)(hk:k<n*n):rkP n (pOf n k)=k:=
 ((rk_fin n (Nat.lt_succ_of_le h5) k (lt25 h5 hk) k (lt25 h5 hk)).resolve_right λ q=>by rw[q]at n2;cases n2).1
theorem rk_lt {n:Nat}{z y:Pt}(n2:2<=n)(h5:n<=5)(hz:inG n z)(hy:inG n y):ptB z y=decide (rkP n z<rkP n y):=by
 refine q12 (zbN hz) λ k hk u0=>?_;cases u0;refine q12 (zbN hy) λ j hj u0=>?_;cases u0;rw[zuS n2 h5 hk,zuS n2 h5 hj];exact ((rk_fin n (Nat.lt_succ_of_le h5) k (lt25 h5 hk) j (lt25 h5 hj)).resolve_right λ q=>by rw[q]at n2;cases n2).2
theorem rk_inj {n:Nat}{z y:Pt}(n2:2<=n)(h5:n<=5)(hz:inG n z)(hy:inG n y)(h:rkP n z=rkP n y):z=y:=by
 refine q12 (zbN hz) λ k hk u0=>?_;cases u0;refine q12 (zbN hy) λ j hj u0=>?_;cases u0;rw[zuS n2 h5 hk,zuS n2 h5 hj]at h;rw[h]
theorem sorted_eq {α:Type}{f:α->Nat}{l m:List α}(hl:l.Pairwise λ a b=>f a<f b)(hm:m.Pairwise λ a b=>f a<f b)(h:∀ x,x∈l↔x∈m):l=m:=by
 have nd:∀ {l:List α},(l.Pairwise λ a b=>f a<f b)->l.Nodup:=λ h=>h.imp λ {a b} (q:f a<f b) (e:a=b)=>by subst e;exact Nat.lt_irrefl _ q
 exact ((List.perm_ext_iff_of_nodup (nd hl) (nd hm)).mpr h).eq_of_pairwise (λ a b _ _ h1 h2=>absurd (Nat.lt_trans h1 h2) (Nat.lt_irrefl _)) hl hm
noncomputable def occE (n:Nat)(G:Pt->Option Str):List (Pt×Str):=(grid n).filterMap λ z=>(G z).map λ c=>(z,c)
theorem occ_E {n:Nat}{G:Pt->Option Str}:occ n G=(occE n G).map λ e=>PV.tup [.str e.2,pt e.1]:=by
 unfold occ occE;rw[List.map_filterMap];exact congrArg (λ F=>(grid n).filterMap F) (funext λ z=>by cases G z <;> rfl)
theorem zkI {n:Nat}{G:Pt->Option Str}{e:Pt×Str}:e∈occE n G↔inG n e.1/\G e.1=some e.2:=by
 unfold occE;rw[List.mem_filterMap];constructor
 ·intro uu;refine q12 uu λ z hz h=>?_
  refine q12 (Option.map_eq_some_iff.mp h) λ c hc u0=>?_;cases u0;exact⟨zbC.mp hz,hc⟩
 ·rintro⟨h1,h2⟩
  exact⟨e.1,zbC.mpr h1,by rw[h2];rfl⟩
theorem zsW {n:Nat}{G:Pt->Option Str}(h5:n<=5):(occE n G).Pairwise λ e f=>rkP n e.1<rkP n f.1:=by
 have hg:(grid n).Pairwise λ z y=>rkP n z<rkP n y:=by
  have:=List.pairwise_lt_range (n:=n*n);rw[<- rk_grid n (Nat.lt_succ_of_le h5)]at this;exact List.pairwise_map.mp this
 refine List.pairwise_filterMap.mpr (hg.imp λ {z y} q e he f hf=>?_);refine q12 (Option.map_eq_some_iff.mp he) λ c _ u0=>?_;cases u0;refine q12 (Option.map_eq_some_iff.mp hf) λ c' _ u0=>?_;cases u0;exact q
noncomputable def zmB (n v:Nat)(G:Pt->Option Str)(l:List Nat):List (Pt×Str):=l.map λ k=>(zgQ n v (pOf n k),dyeV v ((G (pOf n k)).getD ""))
noncomputable def zgS (n:Nat)(G:Pt->Option Str)(k:Nat):Bool:=!(cell (G (pOf n k))).isNone
noncomputable def zgW (n:Nat)(G:Pt->Option Str):List Nat:=(List.range (n*n)).filter (zgS n G)
theorem zfL {n k:Nat}{G:Pt->Option Str}:k∈zgW n G↔k<n*n/\∃ c,G (pOf n k)=some c:=by
 unfold zgW zgS;rw[List.mem_filter,List.mem_range];refine and_congr_right λ _=>?_;cases G (pOf n k) <;> simp[cell,PV.isNone]
section
variable {n v:Nat}{G:Pt->Option Str}
theorem zuK {e:Pt×Str}(h:e∈zmB n v G (zgW n G)):inG n e.1:=by
 refine q12 (List.mem_map.mp h) λ k hk u0=>?_;cases u0;exact ((symV n v).ig _).mpr (zdC (zfL.mp hk).1)
theorem seen_nd (n2:2<=n)(h5:n<=5):((zmB n v G (zgW n G)).map λ e=>rkP n e.1).Nodup:=by
 unfold zmB;rw[List.map_map];refine List.pairwise_map.mpr ((List.nodup_range.filter (zgS n G)).imp_of_mem λ {a b} ha hb hab e=>hab ?_);have S:=symV n v;have ha:=zdC (zfL.mp ha).1;have hb:=zdC (zfL.mp hb).1;have:=rk_inj n2 h5 ((S.ig _).mpr ha) ((S.ig _).mpr hb) e;exact zeT (by rw[<- S.ts (pOf n a),this,S.ts])
theorem seen_occ (P:LPos n G)(h5:n<=5){l:List (Pt×Str)}(hp:l.Perm (zmB n v G (zgW n G)))(hs:l.Pairwise λ e f=>rkP n e.1<rkP n f.1):l=occE n (imG n v G):=by
 refine sorted_eq (f:=λ e=>rkP n e.1) hs (zsW h5) λ e=>?_;rw[hp.mem_iff,zkI];have S:=symV n v;constructor
 ·intro h
  refine⟨zuK h,?_⟩;refine q12 (List.mem_map.mp h) λ k hk u0=>?_;cases u0;refine q02 (zfL.mp hk) λ _ u8=>q11 u8 λ c hc=>?_
  show imG n v G (zgQ n v (pOf n k))=some (dyeV v ((G (pOf n k)).getD ""))
  rw[znH,hc];rfl
 ·rintro⟨hg,h⟩
  refine q12 (Option.map_eq_some_iff.mp h) λ c hc hd=>?_;refine q12 (zbN (P.sup _ (by rw[hc];simp))) λ k hk hz=>?_;refine List.mem_map.mpr ⟨k,zfL.mpr ⟨hk,c,by rw[hz];exact hc⟩,?_⟩;rw[hz,S.st,hc];exact Prod.ext rfl hd
end
theorem mo_oc {P:Params}:MOk P "list_occupied_points" zbA:=⟨by decide +kernel,by kernel_rfl,by kernel_rfl,by kernel_rfl⟩
theorem mo_em {P:Params}:MOk P "is_empty" zhF:=⟨by decide +kernel,by kernel_rfl,by kernel_rfl,by kernel_rfl⟩
theorem hd_es {C:Cx}{H:zaA}{l:List (Pt×Str)}(h:∀ e∈l,PyData.strOk e.2=true):All2 (HD C H 8) (l.map ePV) (l.map λ e=>Dat.tuple [dpt e.1,.str e.2]):=by
 induction l with
 | nil=>rfl
 | cons e l ih=>exact All2.mk (HD.tup' (All2.mk hd_pt (All2.mk (HD.str' (h e (.head _))) rfl))) (ih λ f hf=>h f (.tail _ hf))
theorem zrV {n v i:Nat}{G:Pt->Option Str}{o:Option PV}(h:o=cond (zgS n G i) (some (ePV (zgQ n v (pOf n i),dyeV v ((G (pOf n i)).getD "")))) none):(zmB n v G ((List.range i).filter (zgS n G))).map ePV++o.toList=(zmB n v G ((List.range (i+1)).filter (zgS n G))).map ePV:=by
 unfold zmB;rw[List.range_succ,List.filter_append,List.map_append,List.map_append,List.filter_cons,h];cases zgS n G i <;> rfl
theorem em_occ {n:Nat}{G:Pt->Option Str}(sup:∀ z,G z≠none->inG n z):occE n G=[]↔∀ z,G z=none:=by
 constructor
 ·intro h z
  cases e:G z with
  | none=>rfl
  | some c=>
   have:(z,c)∈occE n G:=zkI.mpr ⟨sup z (by rw[e];simp),e⟩;rw[h]at this;cases this
 ·exact λ h=>List.eq_nil_iff_forall_not_mem.mpr λ e he=>by
   have:=(zkI.mp he).2;rw[h]at this;cases this
section
variable {T:Tr}{X:String}{H:zaA}{R:zaA->Prop}{n v m:Nat}{G:Pt->Option Str}{a:Ad}
theorem zpI (hL:L1 T.C)(hn:6<=T.n)(hh:T.hd=false)(n2:2<=n)(h5:n<=5)(P:LPos n G)(I:B4 n a (imG n v G) m H){ca:Addr}(hc:H ca=some (.list (cells n G))):
  zaF T X (.ref zcL) [.ref a.x,.ref ca,.int n,.int v] H (λ p H'=>p=.bool true/\Ext H H') R:=by
 refine hL.f_law_shows hh (by exact lq1 hn rfl) rfl ?_;have enn:(n:Int)*n=((n*n:Nat):Int):=Int.natCast_mul n n▸rfl;have h25:=zqJ h5;refine And.intro (ziN h5) ?_;refine zaG.range1 (fresh λ ra H1 hra ex1 kra=>?_);refine zfD.range ra (n*n) rfl (by rw[<- enn];exact kra) (by exact lq2 h25 rfl) (λ i out H'=>Ext H1 H'/\out=(zmB n v G ((List.range i).filter (zgS n G))).map ePV) ⟨Ext.refl _,rfl⟩ (λ i out H' hi h=>?_) (λ out H' h=>?_)
 ·obtain⟨ex,rfl⟩:=h
  refine zaU (k:=i) (ex _ _ (ex1 _ _ hc)) h5 hi ?_;cases hG:G (pOf n i) with
  | none=>exact⟨ex,zrV (by unfold zgS;rw[hG];rfl)⟩
  | some c=>
   refine zaF.callK (ziT (T:=T.down) (v:=v) hL (by show 1<=T.n-1;exact lq4 hn rfl) hh n2 h5) λ K0 hK0 p H2 h=>?_;obtain⟨rfl,rfl⟩:=h;refine hK0 _ _ ?_;refine zaU (k:=i) (ex _ _ (ex1 _ _ hc)) h5 hi ?_;rw[hG];refine zaF.callK (zrJ (T:=T.down) (v:=v) hL (by show 1<=T.n-1;exact lq4 hn rfl) hh (P.val _ _ hG)) λ K1 hK1 p H3 h=>?_;obtain⟨rfl,rfl⟩:=h;exact hK1 _ _ ⟨ex,zrV (by unfold zgS;rw[hG];rfl)⟩
 obtain⟨ex,rfl⟩:=h;refine⟨_,Ext.refl _,fresh (o:=.list ((zmB n v G (zgW n G)).map ePV)) λ la H2 hla ex2 kla=>?_⟩;have hz:(zmB n v G (zgW n G)).length<64:=by
  unfold zmB zgW;rw[List.length_map];have:=List.length_filter_le (zgS n G) (List.range (n*n));rw[List.length_range]at this;lia
 refine zaG.sortedE (T:=T.down) (rk:=rkP n) (by show 1<=T.n-1;exact lq4 hn rfl) (λ e he f hf=>rk_lt n2 h5 (zuK he) (zuK hf)) (seen_nd n2 h5) hz kla λ es' sa hp hs hsa=>?_;have hlen:es'.length<=100000:=by rw[hp.length_eq];lia
 have es:=seen_occ P h5 hp hs;subst es;have P':LPos n (imG n v G):=P.img (symV n v) (zuC v) znH;have exS:Ext H (upd H2 sa (.list ((occE n (imG n v G)).map ePV))):=Ext.upd ((ex1.trans ex).trans ex2) ((ex1.trans ex).trans ex2 |>.none hsa);have ksa:upd H2 sa (.list ((occE n (imG n v G)).map ePV)) sa=_:=zaC;dsimp only[wFin,wT];generalize upd H2 sa (.list ((occE n (imG n v G)).map ePV))=H3 at exS ksa ⊢;clear hp hs hsa kla hla ex2 ex kra hra ex1;have I3:=I.ext exS;obtain⟨e,l,B,em,-,-⟩:=I3;refine M.own (B.meth hL mo_em) (zaF.callK (zpS (T:=T.down) hL (by show 1<=T.n-1;exact lq4 hn rfl) hh B) λ K0 hK0 p H' h=>?_);obtain⟨rfl,rfl⟩:=h;refine hK0 _ _ ?_;refine fresh λ na H4 hna ex4 kna=>?_;refine SCmp.eqD (HD.list' (.inl (ex4 _ _ ksa)) (hd_es λ e he=>P'.strOk _ _ (zkI.mp he).2)) (HD.list' (.inl kna) (l:=[]) (ds:=[]) rfl) λ b hb=>?_;have hb:b=true↔∀ z,imG n v G z=none:=hb.trans ((⟨λ h=>List.map_eq_nil_iff.mp (Dat.list.inj h),λ h=>by rw[h];rfl⟩:_↔occE n (imG n v G)=[]).trans (em_occ P'.sup));have eb:e=b:=Bool.eq_iff_iff.mpr (em.trans hb.symm);subst eb;refine SCmp.neB ?_;rw[show (e != e)=false by cases e <;> rfl];refine M.own ((B.ext ex4).meth hL mo_oc) (zaF.callK (zrC (T:=T.down) hL (by show 3<=T.n-1;exact lq4 hn rfl) (B.ext ex4)) λ K1 hK1 _ H5 h=>?_);obtain⟨oc,rfl,ex5,hoc,koc⟩:=h;refine hK1 _ _ ?_;refine zfD.list sa _ rfl (ex5 _ _ (ex4 _ _ ksa)) (by rw[List.length_map];exact hlen) (λ i out H'=>H'=H5/\out=((occE n (imG n v G)).take i).map λ e=>PV.tup [.str e.2,pt e.1]) ⟨rfl,rfl⟩ (λ i out H'' h=>h.1▸ex5 _ _ (ex4 _ _ ksa)) (λ i w out H'' hw h=>?_) (λ out H'' h=>?_)
 ·obtain⟨rfl,rfl⟩:=h
  refine q12 (zcA hw) λ e he u0=>?_;cases u0;exact⟨rfl,by rw[zaO he,List.map_append];rfl⟩
 ·obtain⟨rfl,rfl⟩:=h
  rw[List.length_map,List.take_length,<- occ_E];refine⟨_,Ext.refl _,fresh λ qa H6 hqa ex6 kqa=>?_⟩;refine SCmp.eqD (hd_occ P'.strOk (ex6 _ _ koc)) (hd_occ P'.strOk kqa) λ b hb=>?_;exact⟨congrArg PV.bool (hb.mpr rfl),exS.trans (ex4.trans (ex5.trans ex6))⟩
end
theorem zaG.range2 {T:Tr}{X:String}{H:zaA}{R:zaA->Prop}{m n:Int}{Q:PV->zaA->Prop}(h:∀ c,H c=Option.none->Q (.ref c) (upd H c (.range m n))):zaG T X (.ty "range") [.int m,.int n] H Q R:=zaG.of λ Fs=>zaT.range2 h
theorem some_free {n:Nat}{G:Pt->Option Str}(P:LPos n G)(n2:2<=n):∃ k,k<n*n/\G (pOf n k)=none:=by
 have h0:0<n*n:=Nat.mul_pos (by exact lq1 n2 rfl) (by exact lq1 n2 rfl);cases e:G (pOf n 0) with
 | none=>exact⟨0,h0,e⟩
 | some c=>
  refine q12 (ziJ (P.leg _ c (zdC h0) e)) λ x _ u8=>q13 u8 λ y _ hy hy0=>?_;refine q12 (zbN hy) λ k hk u0=>?_;cases u0;exact⟨k,hk,hy0⟩
noncomputable def zhJ (n:Nat)(G:Pt->Option Str)(lo i:Nat):List PV:=((List.range i).filter λ j=>decide (lo<=j)&&(G (pOf n (j % (n*n)))).isNone).map λ j=>pn (j % (n*n))
theorem round_lo {n lo:Nat}{G:Pt->Option Str}:zhJ n G lo lo=[]:=by
 unfold zhJ;rw[List.filter_eq_nil_iff.mpr];rfl;intro j hj;have:¬ lo<=j:=Nat.not_le.mpr (List.mem_range.mp hj)
 simp[this]
theorem zwX {n lo i:Nat}{G:Pt->Option Str}(h:lo<=i):zhJ n G lo i++(cond (cell (G (pOf n (i % (n*n))))).isNone (some (pn (i % (n*n)))) none).toList=zhJ n G lo (i+1):=by
 unfold zhJ;rw[List.range_succ,List.filter_append,List.map_append,List.filter_cons,decide_eq_true h];cases G (pOf n (i % (n*n))) <;> rfl
theorem zxE {n lo:Nat}{G:Pt->Option Str}(P:LPos n G)(n2:2<=n)(hlo:lo<n*n):∃ k,k<n*n/\(zhJ n G lo (lo+n*n))[0]?=some (pn k):=by
 refine q12 (some_free P n2) λ k hk hG=>?_;have hne:zhJ n G lo (lo+n*n)≠[]:=by
  have hm:∃ j,lo<=j/\j<lo+n*n/\j % (n*n)=k:=by
   by_cases q:lo<=k
   ·exact⟨k,q,by lia,Nat.mod_eq_of_lt hk⟩
   ·exact⟨k+n*n,by lia,by lia,by rw[Nat.add_mod_right,Nat.mod_eq_of_lt hk]⟩
  refine q13 hm λ j h1 h2 h3=>?_;refine List.ne_nil_of_mem (a:=pn (j % (n*n))) (List.mem_map.mpr ⟨j,List.mem_filter.mpr ⟨List.mem_range.mpr h2,?_⟩,rfl⟩);rw[h3,hG,decide_eq_true h1];rfl
 cases e:zhJ n G lo (lo+n*n) with
 | nil=>exact absurd e hne
 | cons p l=>
  have hp:p∈zhJ n G lo (lo+n*n):=by rw[e];exact .head _
  refine q12 (List.mem_map.mp hp) λ j _ u0=>?_;cases u0;exact⟨_,Nat.mod_lt _ (by lia),rfl⟩
noncomputable def dI (n v:Nat):Option (Option Nat)->Dat
 | none=>.str "taken"
 | some o=>dko (o.map λ k=>zgQ n v (pOf n k))
theorem hd_pvI {C:Cx}{H:zaA}{n v:Nat}:∀ o:Option (Option Nat),HD C H 8 (pvI n v o) (dI n v o)
 | none=>HD.str' (by decide +kernel)
 | some o=>hd_ko _
theorem ztX {n m:Nat}{G:Pt->Option Str}{a b:Ad}{H:zaA}(I:B4 n b G m H)(nw:New4 a H):Apt a b/\Apt b a:=by
 obtain⟨e,l,B,em,hl,le⟩:=I;have row:∀ z∈b.rows,H z≠none:=λ z hz=>by
  obtain⟨k,hk⟩:=List.getElem?_of_mem hz;rw[B.row k z hk];simp
 have nr:∀ z,H z≠none->z∉a.rows:=λ z hz q=>hz (nw.rows z q);refine⟨⟨λ q=>?_,λ q=>row _ q nw.bp,λ q=>row _ q nw.bd,λ z hz q=>row _ q (nw.rows z hz)⟩,⟨λ q=>?_,nr _ (by rw[B.pts];simp),nr _ (by rw[B.board];simp),λ z hz=>nr z (row z hz)⟩⟩
 ·have:=nw.d;rw[q,hl]at this;cases this
 ·have:=nw.d;rw[<- q,hl]at this;cases this
structure S4 where
 ca:Addr
 x1:Addr
 x2:Addr
 v:Nat
inductive J4 (n:Nat)(na:Addr)(nl:List PV)(m:Nat)(b:S4)(H':zaA):Prop
 | mk (G:Pt->Option Str) (a1 a2:Ad) (P:LPos n G) (e1:a1.x=b.x1) (e2:a2.x=b.x2) (I1:B4 n a1 (imG n 0 G) m H') (I2:B4 n a2 (imG n b.v G) m H') (p12:Apt a1 a2) (p21:Apt a2 a1) (kc:H' b.ca=some (.list (cells n G))) (c1:b.ca∉a1.rows) (c2:b.ca∉a2.rows) (kn:H' na=some (.list nl)) (n1:na∉a1.rows) (n2:na∉a2.rows) (v16:b.v<16):J4 n na nl m b H'
noncomputable def L4 (n:Nat)(b:S4):LN:=[(2,.int n),(3,pn (n*n)),(5,.ref b.ca),(7,.int b.v),(8,.ref b.x1),(9,.ref b.x2)]
noncomputable def L4s (n:Nat)(b:S4)(c:Str)(s:Nat):LN:=[(2,.int n),(3,pn (n*n)),(5,.ref b.ca),(7,.int b.v),(8,.ref b.x1),(9,.ref b.x2),(14,pn s),(15,.str c)]
section
variable {T:Tr}{X:String}{H:zaA}{R:LN->zaA->Prop}{n s m:Nat}{na:Addr}{nl:List PV}{b:S4}{c:Str}
inductive D4 (n:Nat)(b:S4)(G:Pt->Option Str)(s:Nat)(c:Str)(H:zaA)(q:Addr×Addr)(H':zaA):Prop
 | mk (ex:Ext H H') (k:H' q.1=some (.list (cells n (actG n G (pOf n s) c)))) (o:q.1=b.ca\/H q.1=none) (kd:H' q.2=some (.list [pvI n 0 (actD n G (pOf n s) c),pvI n b.v (actD n G (pOf n s) c)])) (nd:H q.2=none):D4 n b G s c H q H'
theorem zvI {t:IE}{ls:LN}{R:zaA->Prop}{Q:PV->zaA->Prop} (h:w T X t .t ls H R λ p H1=>match p with
  | .bool b=>Q (.bool (!b)) H1
  | _=>False):w T X (.un .Not t) .t ls H R Q:=h
theorem w_or2 {a b:IE}{ls:LN}{R:zaA->Prop}{Q:PV->zaA->Prop} (h:w T X a .t ls H R λ p H1=>match p with
  | .bool c=>cond c (Q (.bool true) H1) (w T X b .o ls H1 R Q)
  | _=>False):w T X (.boolop .Or (.cons a b)) .t ls H R Q:=h
theorem w_o1 {a b:IE}{ls:LN}{R:zaA->Prop}{Q:PV->zaA->Prop} (h:w T X a .t ls H R λ p H1=>match p with
  | .bool c=>cond c (Q (.bool true) H1) (w T X b .o ls H1 R Q)
  | _=>False):w T X (.cons a b) .o ls H R Q:=h
theorem t34 (hL:L1 T.C)(hn:12<=T.n)(hh:T.hd=false)(n2:2<=n)(h5:n<=5)(hm:m<=900)(hs:s<n*n)(hc:BW c){G:Pt->Option Str}{a1 a2:Ad}(P:LPos n G)(e1:a1.x=b.x1)(e2:a2.x=b.x2)(I1:B4 n a1 (imG n 0 G) m H)(I2:B4 n a2 (imG n b.v G) m H)(p12:Apt a1 a2)(p21:Apt a2 a1)
  (kc:H b.ca=some (.list (cells n G))) (c1:b.ca∉a1.rows) (c2:b.ca∉a2.rows) (kn:H na=some (.list nl)) (n1:na∉a1.rows) (n2':na∉a2.rows) (v16:b.v<16) {q:Addr×Addr} {H1:zaA} (D:D4 n b G s c H q H1) {Q:AFl->LN->zaA->Prop}
  (hQ:∀ ls H',SubN (L4 n ⟨q.1,b.x1,b.x2,b.v⟩) ls->J4 n na nl (m+2) ⟨q.1,b.x1,b.x2,b.v⟩ H'->Q .next ls H'):
  wS i_t3 X T [(2,.int n),(3,pn (n*n)),(5,.ref q.1),(7,.int b.v),(8,.ref b.x1),(9,.ref b.x2),(14,pn s),(15,.str c),(16,.ref q.2)] H1 R Q:=by
 obtain⟨ex,k,o,kd,nd⟩:=D;have r1:q.1∉a1.rows:=o.elim (λ e=>e▸c1) I1.fresh;have r2:q.1∉a2.rows:=o.elim (λ e=>e▸c2) I2.fresh;rw[<- e1,<- e2];refine zaF.callK (told4 (v:=0) (c:=c) hL (by exact lq1 hn rfl) hh (I1.ext ex) P (by exact lq2 hm rfl) hs hc) λ K0 hK0 p H2 h=>?_;obtain⟨rfl,I1',kp1⟩:=h;refine hK0 _ _ ?_;have k1:=kp1 _ _ k ((I1.ext ex).nd k) r1;have kd1:=kp1 _ _ kd ((I1.ext ex).nd kd) (I1.fresh nd);have kn1:=kp1 _ _ (ex _ _ kn) ((I1.ext ex).nd (ex _ _ kn)) n1;have I2':=(I2.ext ex).keep (I1.ext ex) kp1 p21;refine zaF.callK (told4 (v:=b.v) (c:=c) hL (by exact lq1 hn rfl) hh I2' P (by exact lq2 hm rfl) hs hc) λ K1 hK1 p H3 h=>?_;obtain⟨rfl,I2'',kp2⟩:=h;refine hK1 _ _ ?_;have k2:=kp2 _ _ k1 (I2'.nd k1) r2;have kd2:=kp2 _ _ kd1 (I2'.nd kd1) (I2.fresh nd);have kn2:=kp2 _ _ kn1 (I2'.nd kn1) n2';have I1'':=I1'.keep I2' kp2 p12;obtain⟨opp,hco⟩:=BW.cols hc;have P':=P.act (zdC hs) hco;refine fresh λ ta H4 hta ex4 kta=>?_;have hda:All2 (HD T.C H4 8) [pvI n 0 (actD n G (pOf n s) c),pvI n b.v (actD n G (pOf n s) c)] [dI n 0 (actD n G (pOf n s) c),dI n b.v (actD n G (pOf n s) c)]:=All2.mk (hd_pvI _) (All2.mk (hd_pvI _) rfl);refine SCmp.neD (HD.list' (.inl kta) hda) (HD.list' (.inl (ex4 _ _ kd2)) hda) λ b' hb=>?_;cases b' with
 | true=>exact absurd rfl (hb.mp rfl)
 | false=>
 clear hb;change wS (.seq (.ite (.boolop .Or (.cons (.un .Not (.call (.ref zcL) _)) _)) _ _) _) X T _ H4 R Q;refine wS_seq (wS_ite (w_or2 (zvI ?_)));refine zaF.callK (zpI (T:=T) (v:=0) hL (by exact lq1 hn rfl) hh n2 h5 P' (I1''.ext ex4) (ex4 _ _ k2)) λ K2' hK2 p H5 h=>?_;obtain⟨rfl,ex5⟩:=h;refine hK2 _ _ ?_;dsimp only[wFin,wTr,cond,Bool.not_true];refine w_o1 (zvI ?_);refine zaF.callK (zpI (T:=T) (v:=b.v) hL (by exact lq1 hn rfl) hh n2 h5 P' ((I2''.ext ex4).ext ex5) (ex5 _ _ (ex4 _ _ k2))) λ K3 hK3 p H6 h=>?_;obtain⟨rfl,ex6⟩:=h;refine hK3 _ _ ?_;have exF:=ex4.trans (ex5.trans ex6);dsimp only[wFin,wTr,cond,Bool.not_true];exact hQ _ _ (SubN.of (by rw[e1,e2];rfl)) ⟨_,a1,a2,P',e1,e2,I1''.ext exF,I2''.ext exF,p12,p21,exF _ _ k2,r1,r2,exF _ _ kn2,n1,n2',v16⟩
end
noncomputable def pvD:Option (Option Nat)->PV
 | none=>.str "taken"
 | some o=>pvN o
section
variable {T:Tr}{X:String}{H:zaA}{R:zaA->Prop}{n k:Nat}{G:Pt->Option Str}
theorem move_act (hL:L1 T.C)(hn:3<=T.n)(hh:T.hd=false)(n2:2<=n)(h5:n<=5){ca:Addr}(hc:H ca=some (.list (cells n G)))(P:LPos n G)(hk:k<n*n){col:Str}(hcol:PyData.strOk col=true)(g0:G (pOf n k)=none):
  zaF T X (.ref zeD) [.ref ca,.int n,pn k,.str col] H (λ p H'=>∃ aa,p=.tup [.ref aa,pvD (actD n G (pOf n k) col)]/\Ext H H'/\H aa=none/\H' aa=some (.list (cells n (actG n G (pOf n k) col)))) R:=by
 refine zaF.mono (move_spec hL hn hh n2 h5 hc P.strOk hk hcol) λ p H' h=>?_;obtain⟨aa,f,e,ex,na,ka,hf⟩:=h;obtain⟨m1,m2⟩:=mv_of hf;rw[m1]at ka;rw[m2]at e;obtain⟨a1,a2⟩:=zdK (n:=n) (col:=col) g0;exact⟨aa,by rw[a2];exact e,ex,na,by rw[a1];exact ka⟩
end
section
variable {T:Tr}{X:String}{H:zaA}{R:LN->zaA->Prop}{n s m:Nat}{na:Addr}{nl:List PV}{b:S4}{c:Str}
theorem t24 (hL:L1 T.C)(hn:12<=T.n)(hh:T.hd=false)(n2:2<=n)(h5:n<=5)(hm:m<=900)(hs:s<n*n)(hc:BW c){G:Pt->Option Str}{a1 a2:Ad}(P:LPos n G)(e1:a1.x=b.x1)(e2:a2.x=b.x2)(I1:B4 n a1 (imG n 0 G) m H)(I2:B4 n a2 (imG n b.v G) m H)(p12:Apt a1 a2)(p21:Apt a2 a1)
  (kc:H b.ca=some (.list (cells n G))) (c1:b.ca∉a1.rows) (c2:b.ca∉a2.rows) (kn:H na=some (.list nl)) (n1:na∉a1.rows) (n2':na∉a2.rows) (v16:b.v<16) {Q:AFl->LN->zaA->Prop} {k12 k13:PV}
  (hQ:∀ b' ls H',SubN (L4 n b') ls->J4 n na nl (m+2) b' H'->Q .next ls H'):
  wS i_t2 X T [(2,.int n),(3,pn (n*n)),(5,.ref b.ca),(7,.int b.v),(8,.ref b.x1),(9,.ref b.x2),(14,pn s),(15,.str c)] H R Q:=by
 refine fresh λ d0 H1 hd0 ex1 kd0=>?_;refine cutI (Addr×Addr) (λ q=>[(2,.int n),(3,pn (n*n)),(5,.ref q.1),(7,.int b.v),(8,.ref b.x1),(9,.ref b.x2),(14,pn s),(15,.str c),(16,.ref q.2)]) (D4 n b G s c H) ?_ λ q H2 D=>t34 hL hn hh n2 h5 hm hs hc P e1 e2 I1 I2 p12 p21 kc c1 c2 kn n1 n2' v16 D λ ls H'=>hQ _ ls H';refine wS_cutK λ K hK=>?_;refine (let L1':LN:=_;(?_:wS _ _ _ L1' _ _ _));refine zaU (k:=s) (ex1 _ _ kc) h5 hs ?_;cases hG:G (pOf n s) with
 | some c'=>
  obtain⟨g1,g2⟩:=ziE (n:=n) (col:=c) hG;exact hK _ rfl (b.ca,d0) _ _ (SubN.of rfl) ⟨ex1,by rw[g1];exact ex1 _ _ kc,.inl rfl,by rw[g2];exact kd0,hd0⟩
 | none=>
  obtain⟨g1,g2⟩:=zdK (n:=n) (col:=c) hG;refine zaF.callK (move_act (T:=T) hL (by exact lq1 hn rfl) hh n2 h5 (ex1 _ _ kc) P hs (by rcases hc with rfl|rfl <;> decide +kernel) hG) λ K0 hK0 p H2 h=>?_;refine q14 h ?_;clear h;intro aa u0;cases u0;intro ex2 haa kaa;refine hK0 _ _ ?_;have haa:=ex1.none haa;rw[g2];cases ho:mvK n G (pOf n s) c with
  | none=>
   refine fresh λ d1 H3 hd1 ex3 kd1=>?_;exact hK _ rfl (aa,d1) _ _ (SubN.of rfl) ⟨ex1.trans (ex2.trans ex3),ex3 _ _ kaa,.inr haa,by rw[g2,ho];exact kd1,(ex1.trans ex2).none hd1⟩
  | some k=>
   refine zaF.callK (ziT (T:=T) (v:=0) (k:=k) hL (by exact lq1 hn rfl) hh n2 h5) λ K1 hK1 p H3 h=>?_;obtain⟨rfl,rfl⟩:=h;refine hK1 _ _ ?_;refine zaF.callK (ziT (T:=T) (v:=b.v) (k:=k) hL (by exact lq1 hn rfl) hh n2 h5) λ K2' hK2 p H4 h=>?_;obtain⟨rfl,rfl⟩:=h;refine hK2 _ _ ?_;refine fresh λ d1 H5 hd1 ex3 kd1=>?_;exact hK _ rfl (aa,d1) _ _ (SubN.of rfl) ⟨ex1.trans (ex2.trans ex3),ex3 _ _ kaa,.inr haa,by rw[g2,ho];exact kd1,(ex1.trans ex2).none hd1⟩
end
section
variable {T:Tr}{X:String}{H:zaA}{R:LN->zaA->Prop}{n m:Nat}{na:Addr}{nl:List PV}{b:S4}{k:Int}
theorem New4.nr {a:Ad}{z:Addr}{o:AO}(nw:New4 a H)(h:H z=some o):z∉a.rows:=λ q=>by rw[nw.rows z q]at h;cases h
theorem imod {i N:Nat}:(i:Int).fmod (N:Int)=((i % N:Nat):Int):=(Int.ofNat_fmod ..).symm
theorem turn4 (hL:L1 T.C)(hn:12<=T.n)(hh:T.hd=false)(n2:2<=n)(h5:n<=5)(hm:m<=900)(hm':60<=m)(J:J4 n na nl m b H){Q:AFl->LN->zaA->Prop}
  (hQ:∀ b' ls H',SubN (L4 n b') ls->J4 n na nl (m+2) b' H'->Q .next ls H'):wS i_turn X T ((10,.int k)::L4 n b) H R Q:=by
 obtain⟨G,a1,a2,P,e1,e2,I1,I2,p12,p21,kc,c1,c2,kn,n1,n2',v16⟩:=id J;have h25:=zqJ h5;have hpos:0<n*n:=Nat.mul_pos (by exact lq1 n2 rfl) (by exact lq1 n2 rfl);refine And.intro (by decide) ?_;refine q12 (fm (a:=k) (b:=8) (m:=8) rfl (by decide)) λ kd hkd _=>?_;rw[hkd];refine And.intro ⟨by decide,zbI (by decide) (by decide)⟩ (And.intro ⟨by decide,by decide +kernel⟩ (And.intro (by decide +kernel) ?_));generalize Int.fmod (k.fdiv 8) (16 ^ (13:Int).toNat)=r;refine zaW (λ hk=>?_) (λ hk=>zaW (λ hk6=>?_) (λ hk6=>?_))
 ·refine And.intro (by decide) ?_
  refine SSub.bw (Int.fmod_nonneg_of_pos _ (by decide)) (Int.fmod_lt_of_pos _ (by decide)) λ c hc _=>?_;refine And.intro ⟨by decide,zbI (by decide) (by decide)⟩ ?_;refine And.intro (by lia) ?_;refine q12 (fm (a:=r.fdiv 2) (b:=((n*n:Nat):Int)) (m:=n*n) rfl hpos) λ s0 hs0 s0l=>?_;rw[hs0];refine cutI Nat (λ s=>L4s n b c s) (λ s H'=>s<n*n/\Ext H H') ?_ ?_
  ·refine zaW (λ _=>?_) (λ _=>⟨s0,SubN.of rfl,s0l,Ext.refl _⟩)
   refine zaG.range2 (fresh λ ra H1 hra ex1 kra=>?_);refine zfD.rangeF ra s0 (s0+n*n) rfl (Nat.le_add_right _ _) kra (by lia) (λ i out H'=>Ext H1 H'/\out=zhJ n G s0 i) ⟨Ext.refl _,round_lo.symm⟩ (λ i out H' hge hlt h=>?_) (λ out H' h=>?_)
   ·obtain⟨ex,rfl⟩:=h
    have hr:=zwX (n:=n) (G:=G) hge;refine And.intro (by lia) ?_;rw[imod];refine zaU (k:=i % (n*n)) (ex _ _ (ex1 _ _ kc)) h5 (Nat.mod_lt _ hpos) ?_;cases hG:G (pOf n (i % (n*n))) with
    | none=>
     refine And.intro (by lia) ?_;rw[imod];rw[hG]at hr;exact⟨ex,hr⟩
    | some c'=>
     rw[hG]at hr;exact⟨ex,hr⟩
   ·obtain⟨ex,rfl⟩:=h
    refine⟨_,Ext.refl _,fresh λ la H2 hla ex2 kla=>?_⟩;refine q12 (zxE (n:=n) (lo:=s0) P n2 s0l) λ j hj hhd=>?_;refine SSub.list kla (by decide) (by decide) (p:=pn j) hhd ?_;exact⟨j,SubN.of rfl,hj,ex1.trans (ex.trans ex2)⟩
  ·rintro s H1 ⟨hs,ex⟩
   exact t24 (k12:=.none) (k13:=.none) hL hn hh n2 h5 hm hs hc P e1 e2 (I1.ext ex) (I2.ext ex) p12 p21 (ex _ _ kc) c1 c2 (ex _ _ kn) n1 n2' v16 hQ
 ·refine And.intro (by decide) ?_
  refine q12 (fm (a:=r) (b:=16) (m:=16) rfl (by decide)) λ v' hv' v16'=>?_;rw[hv'];refine And.intro ⟨by decide,zbI (by decide) (by decide)⟩ ?_;refine zaF.callK (ziV (T:=T) (v:=v') hL (by exact lq1 hn rfl) hh n2 h5 P kc) λ K0 hK0 p H2 h=>?_;obtain⟨a,rfl,I,ex,nw⟩:=h;obtain⟨q1,q2⟩:=ztX I1 nw;exact hK0 _ _ (hQ ⟨b.ca,b.x1,a.x,v'⟩ _ _ (SubN.of rfl) ⟨G,a1,a,P,e1,rfl,(I1.ext ex).mono (by omega),I.mono (by omega),q2,q1,ex _ _ kc,c1,nw.nr kc,ex _ _ kn,n1,nw.nr kn,v16'⟩)
 ·refine zaF.callK (ziV (T:=T) (v:=0) hL (by exact lq1 hn rfl) hh n2 h5 P kc) λ K0 hK0 p H2 h=>?_
  obtain⟨a,rfl,I,ex,nw⟩:=h;obtain⟨q1,q2⟩:=ztX I2 nw;exact hK0 _ _ (hQ ⟨b.ca,a.x,b.x2,b.v⟩ _ _ (SubN.of rfl) ⟨G,a,a2,P,rfl,e2,I.mono (by omega),(I2.ext ex).mono (by omega),q1,q2,ex _ _ kc,nw.nr kc,c2,ex _ _ kn,nw.nr kn,n2',v16⟩)
end
section
variable {n v:Nat}{G G':Pt->Option Str}{c:Str}{σ τ:Pt->Pt}{δ:Str->Str}
theorem KC_img (h:Img σ δ G G')(i:Inj δ G c):Img σ id (KC G c) (KC G' (δ c)):=λ z=>by
 rw[Option.map_id]
 show KC G' (δ c) (σ z)=KC G c z
 unfold KC;rw[h z];cases e:G z with
 | none=>rfl
 | some s=>
  show (if δ s=δ c then none else some _)=if s=c then none else some _
  by_cases q:s=c
  ·rw[if_pos q,if_pos (congrArg δ q)]
  ·rw[if_neg q,if_neg λ w=>q (i z s e w)]
theorem area_img (S:Sym n σ τ)(h:Img σ δ G G')(i:Inj δ G c):zcK n G' (δ c)=zcK n G c:=by
 refine zrD S.st S.ts (zfQ.filter _) (zfQ.filter _) λ z=>?_;rw[List.mem_filter,List.mem_filter,zbC,zbC,S.ig,zeB,zeB,zkK h i,zhG h];refine and_congr_right λ _=>or_congr_right (and_congr_right λ _=>?_);have ti:∀ (G:Pt->Option Str) c z,tchB n G c z=true↔¬ Surr n (KC G c) "e" z:=λ G c z=>@decide_eq_true_iff _ (Classical.propDecidable _);exact (ti _ _ _).trans ((not_congr (zkN S (KC_img h i) λ _ _ _ q=>q)).trans (ti _ _ _).symm)
theorem zsC (P:LPos n G):(zcK n (imG n v G) "b" : Int)-zcK n (imG n v G) "w" = cond (vw v 8) (-((zcK n G "b" : Int)-zcK n G "w")) ((zcK n G "b" : Int)-zcK n G "w"):=by
 have a:∀ c,BW c->zcK n (imG n v G) (dyeV v c)=zcK n G c:=λ c hc=>area_img (symV n v) znH ((zuC v).injG P.val c hc);have hb:=a "b" (.inl rfl);have hw:=a "w" (.inr rfl);unfold dyeV dyeB at hb hw;cases q:vw v 8 with
 | false=>rw[q]at hb hw;rw[show zcK n (imG n v G) "b" = zcK n G "b" from hb,show zcK n (imG n v G) "w" = zcK n G "w" from hw];rfl
 | true=>
  rw[q]at hb hw;have e1:flipC "b" = "w" := by decide +kernel
  have e2:flipC "w" = "b" := by decide +kernel
  rw[show zcK n (imG n v G) "b" = zcK n G "w" from e2▸hw,show zcK n (imG n v G) "w" = zcK n G "b" from e1▸hb];exact (Int.neg_sub _ _).symm
theorem vw8 (h:v<16):vw v 8=false↔(v:Int)<8:=by
 unfold vw;rw[decide_eq_false_iff_not,Classical.not_not];lia
theorem score0 (P:LPos n G):(zcK n (imG n 0 G) "b" : Int)-zcK n (imG n 0 G) "w" = (zcK n G "b" : Int)-zcK n G "w" := (zsC P).trans (by rw[show vw 0 8=false from rfl];rfl)
noncomputable def zgT (n:Nat)(G:Pt->Option Str):Pt->Option Str:=rm G ((zcE n (zdY n G)).map (pOf n))
theorem ztS:zmP n (zgT n G):=by
 intro q c hqn hq hs;have hdm:∀ {w},inG n w->w∉(zcE n (zdY n G)).map (pOf n)->∀ c,G w=some c->¬ Surr n G c w:=λ {w} hw h c hc hsu=>by
  refine q12 (zbN hw) λ k hk u0=>?_;cases u0;exact h (List.mem_map.mpr ⟨k,zcI.mpr ⟨hk,zcF.mpr ⟨c,hc,hsu⟩⟩,rfl⟩)
 unfold zgT rm at hq;split at hq
 ·cases hq
 ·rename_i hnm
  have hns:=hdm hqn hnm c hq;refine q12 (ziJ hns) λ x hx u8=>q13 u8 λ y hy hyn hy0=>?_;refine hs x (hx.mono λ w hw=>?_) ⟨y,hy,hyn,?_⟩
  ·unfold zgT rm
   rw[if_neg λ h=>?_]
   ·exact hw.col
   ·refine q12 (List.mem_map.mp h) λ k hk u0=>?_;cases u0
    refine q12 (zcF.mp (zcI.mp hk).2) λ c' e' s'=>?_;rw[hw.col]at e';cases e';exact hns (s'.of_reach hw.symm)
  ·unfold zgT rm
   split
   ·rfl
   ·exact hy0
theorem zvO {k:Nat}{G0:Pt->Option Str}(hk:k<n*n):(Dead n G0 k->zgT n G0 (pOf n k)=none)/\(¬ Dead n G0 k->zgT n G0 (pOf n k)=G0 (pOf n k)):=by
 unfold zgT rm;constructor
 ·exact λ h=>if_pos (List.mem_map.mpr ⟨k,zcI.mpr ⟨hk,zcF.mpr h⟩,rfl⟩)
 ·exact λ h=>if_neg λ q=>by
   refine q12 (List.mem_map.mp q) λ j hj e=>?_;cases zeT e;exact h (zcF.mp (zcI.mp hj).2)
theorem zpN {G0:Pt->Option Str}{z:Pt}{c:Str}(h:zgT n G0 z=some c):G0 z=some c:=by
 unfold zgT rm at h;split at h
 ·cases h
 ·exact h
end
theorem mo_ar {P:Params}:MOk P "area_score" zfA:=⟨by decide +kernel,by kernel_rfl,by kernel_rfl,by kernel_rfl⟩
section
variable {T:Tr}{X:String}{H:zaA}{R:LN->zaA->Prop}{n m:Nat}{na:Addr}{nl:List PV}{b:S4}
theorem te4 (hL:L1 T.C)(hn:12<=T.n)(hh:T.hd=false)(n2:2<=n)(h5:n<=5)(J:J4 n na nl m b H):wS i_te X T (L4 n b) H R (λ a _ _=>a=.ret (.bool true)):=by
 obtain⟨G,a1,a2,P,e1,e2,I1,I2,-,-,kc,-,-,-,-,-,v16⟩:=J;unfold L4;rw[<- e1,<- e2];refine zaF.callK (zoY (T:=T) (c := "b") hL (by exact lq1 hn rfl) hh n2 h5 P kc (by decide +kernel)) λ K0 hK0 p H1 h=>?_;obtain⟨rfl,ex1⟩:=h;refine hK0 _ _ ?_;refine zaF.callK (zoY (T:=T) (c := "w") hL (by exact lq1 hn rfl) hh n2 h5 P (ex1 _ _ kc) (by decide +kernel)) λ K1 hK1 p H2 h=>?_;obtain⟨rfl,ex2⟩:=h;refine hK1 _ _ ?_;obtain⟨q1,l1,B1,-,-,-⟩:=I1.ext (ex1.trans ex2);obtain⟨q2,l2,B2,-,-,-⟩:=I2.ext (ex1.trans ex2);have val:∀ v q s,imG n v G q=some s->s = "b" \/ s = "w" := λ v=>(P.img (symV n v) (zuC v) znH).val;refine M.own (B1.meth hL mo_ar) (zaF.callK (zsF (T:=T) hL (by exact lq1 hn rfl) hh B1 (val 0)) λ K2' hK2 p H3 h=>?_);obtain⟨rfl,ex3⟩:=h;refine hK2 _ _ ?_;refine M.own ((B2.ext ex3).meth hL mo_ar) (zaF.callK (zsF (T:=T) hL (by exact lq1 hn rfl) hh (B2.ext ex3) (val b.v)) λ K3 hK3 p H4 h=>?_);obtain⟨rfl,ex4⟩:=h;refine hK3 _ _ ?_;refine fresh λ la H5 hla ex5 kla=>?_;rw[score0 P,zsC P]at kla;refine zaW (λ hv=>?_) (λ hv=>?_)
 ·refine fresh λ ma H6 hma ex6 kma=>?_
  rw[(vw8 v16).mpr hv]at kla;refine SCmp.eqD (HD.list' (.inl (ex6 _ _ kla)) (All2.mk HD.int' (All2.mk HD.int' rfl))) (HD.list' (.inl kma) (All2.mk HD.int' (All2.mk HD.int' rfl))) λ b hb=>?_;exact congrArg (λ b=>AFl.ret (.bool b)) (hb.mpr rfl)
 ·refine fresh λ ma H6 hma ex6 kma=>?_
  rw[(Bool.not_eq_false _).mp (λ q=>hv ((vw8 v16).mp q))]at kla;refine SCmp.eqD (HD.list' (.inl (ex6 _ _ kla)) (All2.mk HD.int' (All2.mk HD.int' rfl))) (HD.list' (.inl kma) (All2.mk HD.int' (All2.mk HD.int' rfl))) λ b hb=>?_;exact congrArg (λ b=>AFl.ret (.bool b)) (hb.mpr rfl)
end
noncomputable def gOf (n:Nat)(f:Nat->Option Str):Pt->Option Str:=λ z=>@dite _ (∃ k,k<n*n/\pOf n k=z) (Classical.propDecidable _) (λ h=>f (Classical.choose h)) λ _=>none
theorem gOf_at {n k:Nat}{f:Nat->Option Str}(hk:k<n*n):gOf n f (pOf n k)=f k:=by
 unfold gOf;have h:∃ j,j<n*n/\pOf n j=pOf n k:=⟨k,hk,rfl⟩
 rw[dif_pos h];exact congrArg f (zeT (Classical.choose_spec h).2)
theorem zuT {n:Nat}{f:Nat->Option Str}{z:Pt}{c:Str}(h:gOf n f z=some c):∃ k,k<n*n/\pOf n k=z/\f k=some c:=by
 unfold gOf at h
 by_cases q:∃ k,k<n*n/\pOf n k=z
 ·rw[dif_pos q]at h
  exact⟨_,(Classical.choose_spec q).1,(Classical.choose_spec q).2,h⟩
 ·rw[dif_neg q]at h;cases h
theorem pow3:∀ k<17,(Builtin.Int.intBits 3:Int)*(k:Nat)<=2 ^ 27/\(3:Int) ^ k≠0:=by decide +kernel
theorem pow3_py:∀ k<17,∀ a:Int,Builtin.divisionGoesByPylong a ((3:Int) ^ k)=false:=λ k hk a=>by
 have h:∀ k<17,(decide ((if ((3:Int) ^ k==0)=true then 0 else ((3:Int) ^ k).natAbs.log2 / 30+1)>300))=false:=by decide +kernel
 delta Builtin.divisionGoesByPylong
 dsimp only;rw[h k hk];rfl
noncomputable def upF (f:Nat->Option Str)(i:Nat)(o:Option Str):Nat->Option Str:=λ k=>if k=i then o else f k
theorem zuP {f:Nat->Option Str}{i:Nat}{o:Option Str}:upF f i o i=o:=if_pos rfl
theorem upF_ne {f:Nat->Option Str}{i k:Nat}{o:Option Str}(h:k≠i):upF f i o k=f k:=if_neg h
noncomputable def thr (j:Nat):Option Str:=match j with
 | 0=>none
 | 1=>some "b"
 | _=>some "w"
theorem thr_bw {j:Nat}{s:Str}(h:thr j=some s):BW s:=by
 unfold thr at h;split at h
 ·cases h
 ·cases h;exact .inl rfl
 ·cases h;exact .inr rfl
theorem thr_at {j:Nat}(hj:j<3):[PV.none,PV.str "b",PV.str "w"][j]?=some (cell (thr j)):=by
 rcases j with _ | _ | _ | j
 ·rfl
 ·rfl
 ·rfl
 ·exact absurd hj (Nat.not_lt.mpr (Nat.le_add_left 3 j))
theorem sz2 (a:Int):∃ n:Nat,a.fmod 3+2=(n:Int)/\2<=n/\n<=4:=by
 refine q12 (fm (a:=a) (b:=3) (m:=3) rfl (by decide)) λ k e l=>?_;exact⟨k+2,by rw[e];rfl,Nat.le_add_left _ _,Nat.add_le_add_right (Nat.le_of_lt_succ l) 2⟩
theorem nums (xs:List Int):∃ a b c:Int,((xs.take 3++[0,0,0]).map PV.int)[0]?=some (.int a)/\((xs.take 3++[0,0,0]).map PV.int)[1]?=some (.int b)/\((xs.take 3++[0,0,0]).map PV.int)[2]?=some (.int c):=by
 rcases xs with _ | ⟨a,_ | ⟨b,_ | ⟨c,l⟩⟩⟩
 ·exact⟨0,0,0,rfl,rfl,rfl⟩
 ·exact⟨a,0,0,rfl,rfl,rfl⟩
 ·exact⟨a,b,0,rfl,rfl,rfl⟩
 ·exact⟨a,b,c,rfl,rfl,rfl⟩
section
variable {T:Tr}{X:String}{H:zaA}{n:Nat}{xs:List Int}{N:Int}{nu ca da:Addr}{G:Pt->Option Str}{vs:List Int}
theorem td4 (hL:L1 T.C)(hn:14<=T.n)(hh:T.hd=false)(n2:2<=n)(h5:n<=5)(hsc:T.C.scL=xs.map PV.int)(hlen:xs.length<=63){a1 a2:Ad}{v:Nat}(P:LPos n G)(I1:B4 n a1 (imG n 0 G) 60 H)(I2:B4 n a2 (imG n v G) 60 H)(p12:Apt a1 a2)(p21:Apt a2 a1)(kc:H ca=some (.list (cells n G)))(c1:ca∉a1.rows)(c2:ca∉a2.rows)(v16:v<16){ls:LN}(hls:SubN (L4 n ⟨ca,a1.x,a2.x,v⟩) ls)(h0:lkN 0 ls=some (.ref T.C.scA)):
  wS i_td X T ls H noRL (λ a _ _=>a=.ret (.bool true)):=by
 refine w_var (X:=X) (R:=λ _=>False) h0 ?_;refine zdV.mk (.inr ⟨rfl,hsc.symm⟩) (by rw[List.length_map];exact Nat.le_trans hlen (by decide)) (fresh λ z1 H1 hz1 ex1 kz1=>?_);rw[ztR _ (by decide) (by decide),<- List.map_take,<- List.map_drop]at kz1;refine fresh λ z2 H2 hz2 ex2 kz2=>?_;have hsl:((xs.take (9:Int).toNat).drop (3:Int).toNat).length<=6:=by rw[List.length_drop];exact Nat.sub_le_sub_right (List.length_take_le _ _) 3
 generalize (xs.take (9:Int).toNat).drop (3:Int).toNat=ys at kz1 hsl;refine SBin.addL (.inl (ex2 _ _ kz1)) (.inl kz2) (by rw[List.length_map];exact Nat.le_trans (Nat.add_le_add_right hsl 1) (by decide)) (fresh λ na H3 hna ex3 kna=>?_);have kna:H3 na=some (.list ((ys++[4]).map PV.int)):=by rw[kna,List.map_append];rfl
 have hzl:(ys++[(4:Int)]).length<=7:=by rw[List.length_append];exact Nat.succ_le_succ hsl
 generalize ys++[(4:Int)]=zs at kna hzl;have ex:=(ex1.trans ex2).trans ex3;refine WFor.list na _ rfl kna S4 (L4 n) (λ i b H'=>J4 n na (zs.map PV.int) (60+2*i) b H') ⟨ca,a1.x,a2.x,v⟩ hls ?_ (λ i b H' h=>by obtain⟨_,_,_,_,_,_,_,_,_,_,_,_,_,h,_⟩:=h;exact h) (λ i w b H' hw J=>?_) (λ b H' J=>?_)
 ·have hn1:=I1.fresh ((ex1.trans ex2).none hna)
  have hn2:=I2.fresh ((ex1.trans ex2).none hna);exact⟨G,a1,a2,P,rfl,rfl,I1.ext ex,I2.ext ex,p12,p21,ex _ _ kc,c1,c2,kna,hn1,hn2,v16⟩
 ·have hi:=(List.getElem?_eq_some_iff.mp hw).1
  rw[List.length_map]at hi;refine q12 (zcA hw) λ k hk u0=>?_;cases u0;exact turn4 hL (by exact lq1 hn rfl) hh n2 h5 (by lia) (by lia) J λ b' ls H' hs J'=>⟨b',hs,J'⟩
 ·exact te4 hL (by exact lq1 hn rfl) hh n2 h5 J
theorem tc4 (hL:L1 T.C)(hn:14<=T.n)(hh:T.hd=false)(n2:2<=n)(h5:n<=5)(hsc:T.C.scL=xs.map PV.int)(hlen:xs.length<=63)(P:LPos n G)(kc:H ca=some (.list (cells n G))){c:Int}{nl:List PV}(kn:H nu=some (.list nl))(hc:nl[2]?=some (.int c)){p4 p6 p5:PV}:
  wS i_tc X T [(5,.ref ca),(6,p6),(5,p5),(4,p4),(3,pn (n*n)),(2,.int n),(1,.ref nu),(0,.ref T.C.scA)] H noRL (λ a _ _=>a=.ret (.bool true)):=by
 refine SSub.list kn (by decide) (by decide) hc ?_;refine And.intro (by decide) ?_;refine q12 (fm (a:=c+9) (b:=16) (m:=16) rfl (by decide)) λ v hv v16=>?_;rw[hv];refine zaF.callK (ziV (T:=T) (v:=0) hL (by exact lq1 hn rfl) hh n2 h5 P kc) λ K0 hK0 p H1 h=>?_;obtain⟨a1,rfl,I1,ex1,nw1⟩:=h;refine hK0 _ _ ?_;refine SSub.list (ex1 _ _ kn) (by decide) (by decide) hc ?_;refine And.intro ⟨by decide,zbI (by decide) (by decide)⟩ (And.intro ⟨by decide,by decide +kernel⟩ (And.intro (by decide +kernel) ?_));refine zaF.callK (ziV (T:=T) (v:=v) hL (by exact lq1 hn rfl) hh n2 h5 P (ex1 _ _ kc)) λ K1 hK1 p H2 h=>?_;obtain⟨a2,rfl,I2,ex2,nw2⟩:=h;refine hK1 _ _ ?_;obtain⟨q1,q2⟩:=ztX I1 nw2;dsimp only[wFin,wT];refine td4 hL hn hh n2 h5 hsc hlen P (I1.ext ex2) I2 q2 q1 (ex2 _ _ (ex1 _ _ kc)) (nw1.nr kc) (nw2.nr (ex1 _ _ kc)) v16 ?_ ?_
 ·exact SubN.of rfl
 ·rfl
theorem tb4 (hL:L1 T.C)(hn:14<=T.n)(hh:T.hd=false)(n2:2<=n)(h5:n<=5)(hsc:T.C.scL=xs.map PV.int)(hlen:xs.length<=63)(sup:∀ z,G z≠none->inG n z)(val:∀ q s,G q=some s->BW s)(kc:H ca=some (.list (cells n G))){c:Int}{nl:List PV}(kn:H nu=some (.list nl))(hc:nl[2]?=some (.int c)){p4:PV}:
  wS i_tb X T [(5,.ref ca),(4,p4),(3,pn (n*n)),(2,.int n),(1,.ref nu),(0,.ref T.C.scA)] H noRL (λ a _ _=>a=.ret (.bool true)):=by
 have h25:=zqJ h5;have hv:∀ z c,G z=some c->PyData.strOk c=true:=λ z c h=>(val z c h).elim (λ q=>q▸by decide +kernel) λ q=>q▸by decide +kernel
 refine zaF.callK (zgN (T:=T) hL (by exact lq1 hn rfl) hh n2 h5 kc hv) λ K0 hK0 p H1 h=>?_;obtain⟨da,f,rfl,ex1,hda,kda,hf⟩:=h;refine hK0 _ _ ?_;refine zaG.range1 (fresh λ ra H2 hra ex2 kra=>?_);refine zfD.range ra (n*n) rfl kra (by exact lq2 h25 rfl) (λ i out H'=>H'=H2/\out=(List.range i).map λ k=>cell (zgT n G (pOf n k))) ⟨rfl,rfl⟩ (λ i out H' hi h=>?_) (λ out H' h=>?_)
 ·obtain⟨rfl,rfl⟩:=h
  refine SCmp.inL (.inl (ex2 _ _ kda)) (zhD _) HD.int' λ b hb=>?_;have hm:i∈(List.range (n*n)).filter f↔Dead n G i:=by rw[List.mem_filter,List.mem_range];exact⟨λ h=>(hf i hi).mp h.2,λ h=>⟨hi,(hf i hi).mpr h⟩⟩
  refine br_in (hb.trans (zfH.trans hm)) (λ q=>⟨rfl,?_⟩) (λ q=>?_)
  ·rw[List.range_succ,List.map_append,List.map_singleton,(zvO hi).1 q];rfl
  ·refine zaU (k:=i) (ex2 _ _ (ex1 _ _ kc)) h5 hi ⟨rfl,?_⟩
   rw[List.range_succ,List.map_append,List.map_singleton,(zvO hi).2 q];rfl
 obtain⟨rfl,rfl⟩:=h;refine⟨_,Ext.refl _,fresh (o:=.list (cells n (zgT n G))) λ cb H3 hcb ex3 kcb=>?_⟩;dsimp only[wFin,wT];exact tc4 hL hn hh n2 h5 hsc hlen ⟨ztS,λ z hz=>by
  obtain⟨s,hs⟩:=Option.ne_none_iff_exists'.mp hz;exact sup z (by rw[zpN hs];simp),λ q s h=>val q s (zpN h)⟩ kcb (ex3 _ _ (ex2 _ _ (ex1 _ _ kn))) hc
end
section
variable {T:Tr}{X:String}{H:zaA}{n:Nat}{xs:List Int}{N:Int}{nu ca da:Addr}{G:Pt->Option Str}{vs:List Int}
theorem asg {x:Nat}{p:PV}{ls:LN}{R:LN->zaA->Prop}{b:IS}{Q:AFl->LN->zaA->Prop}(h:wS b X T ((x,p)::ls) H R Q):wFin T .v (λ p H1=>wT T X (.var x) p ls H1 R λ ls' H'=>(λ (fl:AFl) ls' H'=>match fl with
  | .next=>wS b X T ls' H' R Q
  | fl=>Q fl ls' H') .next ls' H') p H:=h
theorem ta4 (hL:L1 T.C)(hn:14<=T.n)(hh:T.hd=false)(n2:2<=n)(h4:n<=4)(hsc:T.C.scL=xs.map PV.int)(hlen:xs.length<=63){c:Int}{nl:List PV}(kn:H nu=some (.list nl))(hc:nl[2]?=some (.int c)):
  wS i_ta X T [(4,.int N),(3,pn (n*n)),(2,.int n),(1,.ref nu),(0,.ref T.C.scA)] H noRL (λ a _ _=>a=.ret (.bool true)):=by
 have h16:n*n<=16:=Nat.mul_le_mul h4 h4;refine zaG.range1 (fresh λ ra H1 hra ex1 kra=>?_);refine zfD.range ra (n*n) rfl kra (by exact lq2 h16 rfl) (λ i out H'=>Ext H1 H'/\∃ f:Nat->Option Str,(∀ k s,f k=some s->BW s)/\out=(List.range i).map λ k=>cell (f k)) ⟨Ext.refl _,λ _=>none,(λ k s e=>by cases e),rfl⟩ (λ i out H' hi h=>?_) (λ out H' h=>?_)
 ·refine q02 h ?_;clear h;intro ex u8;refine q12 u8 ?_;clear u8;intro f hf u0;cases u0
  have i17:i<17:=by exact lq30 (by assumption) h16 rfl
  obtain⟨p1,p2⟩:=pow3 i i17;refine fresh λ la H2 hla ex2 kla=>?_;refine And.intro ⟨Int.natCast_nonneg _,p1⟩ (And.intro ⟨p2,pow3_py i i17 _⟩ (And.intro (by decide) ?_));refine q12 (fm (a:=N.fdiv (3 ^ (i:Int).toNat)) (b:=3) (m:=3) rfl (by decide)) λ j hj hj3=>?_;rw[hj];refine SSub.list kla (Int.natCast_nonneg _) (by lia) (p:=cell (thr j)) (thr_at hj3) ?_;refine⟨ex.trans ex2,upF f i (thr j),λ k s e=>?_,?_⟩
  ·by_cases q:k=i
   ·rw[q,zuP]at e;exact thr_bw e
   ·rw[upF_ne q]at e;exact hf k s e
  ·rw[List.range_succ,List.map_append,List.map_singleton,zuP]
   refine congrArg (·++_) (List.map_congr_left λ k hk=>?_);rw[upF_ne (Nat.ne_of_lt (List.mem_range.mp hk))]
 refine q02 h ?_;clear h;intro ex u8;refine q12 u8 ?_;clear u8;intro f hf u0;cases u0;refine⟨_,Ext.refl _,fresh λ ca H2 hca ex2 kca=>?_⟩;have kc:H2 ca=some (.list (cells n (gOf n f))):=by
  rw[kca];unfold cells
  congr 2
  exact List.map_congr_left λ k hk=>by rw[gOf_at (List.mem_range.mp hk)]
 refine asg ?_;exact tb4 hL hn hh n2 (Nat.le_succ_of_le h4) hsc hlen (λ z hz=>by
  obtain⟨s,hs⟩:=Option.ne_none_iff_exists'.mp hz;refine q13 (zuT hs) λ k hk e _=>?_;subst e;exact zdC hk) (λ q s h=>by
  refine q13 (zuT h) λ k hk e h=>?_;exact hf k s h) kc (ex2 _ _ (ex _ _ (ex1 _ _ kn))) hc
end
section
variable {T:Tr}{X:String}{H:zaA}{n:Nat}{xs:List Int}{N:Int}{nu ca da:Addr}{G:Pt->Option Str}{vs:List Int}
theorem law_spec (hL:L1 T.C)(hn:14<=T.n)(hh:T.hd=false)(hsc:T.C.scL=xs.map PV.int)(hlen:xs.length<=63):
  wS i_law X T [(0,.ref T.C.scA)] H noRL (λ a _ _=>a=.ret (.bool true)):=by
 refine q31 (nums xs) λ a b c u8=>q03 u8 λ e0 e1 e2=>?_;refine zdV.mk (.inr ⟨rfl,hsc.symm⟩) (by rw[List.length_map];exact Nat.le_trans hlen (by decide)) (fresh λ z1 H1 hz1 ex1 kz1=>?_);rw[zrX _ (by decide),<- List.map_take]at kz1;refine fresh λ z2 H2 hz2 ex2 kz2=>?_;refine SBin.addL (.inl (ex2 _ _ kz1)) (.inl kz2) (by rw[List.length_map];exact Nat.le_trans (Nat.add_le_add_right (List.length_take_le _ _) 3) (by decide)) (fresh λ nu H3 hnu ex3 kn=>?_);have kn:H3 nu=some (.list ((xs.take 3++[0,0,0]).map PV.int)):=by rw[kn,List.map_append];rfl
 refine SSub.list kn (by decide) (by decide) e0 ?_;refine And.intro (by decide) ?_;refine q13 (sz2 a) λ n hnn n2 n4=>?_;refine And.intro (by rw[hnn];exact ziN (Nat.le_succ_of_le n4)) ?_;rw[hnn];rw[show (n:Int)*n=((n*n:Nat):Int) from (Int.natCast_mul n n).symm];refine SSub.list kn (by decide) (by decide) e1 ?_;obtain⟨p1,p2⟩:=pow3 (n*n) (by have:n*n<=4*4:=Nat.mul_le_mul n4 n4;exact lq3 this rfl);refine And.intro ⟨Int.natCast_nonneg _,p1⟩ (And.intro p2 ?_);generalize Int.fmod b (3 ^ ((n*n:Nat):Int).toNat)=N;refine asg ?_;exact ta4 hL hn hh n2 n4 hsc hlen kn e2
end
end AM.Internal
theorem PySem.Challenge.cw_md0058_04_holds : PySem.Challenge.rw_md0058_04.Holds := by
 w_on; refine holds_law (by decide +kernel) λ said => ?_
 refine holds_open (q := AM.Internal.viewQ) (loose := AM.Internal.looseK) (Xt := λ s => xlAt AM.Internal.viewQ [] s && recOk (RowW.records (PySem.Challenge.rw_md0058_04.row.toRowW)) s) (XP := XL AM.Internal.viewQ []) (Yf := Hook.obs AM.Internal.hookK) (Ya := Hook.val AM.Internal.hookK) (YP := Hook.says AM.Internal.hookK) (N := AM.Internal.stepsK) ?hl (Hook.of AM.Internal.hookK) (Hook.keeps AM.Internal.hookK) (λ s e => xl_of s (Bool.and_eq_true_iff.mp e).1) XL.keeps (by rfl) (by rfl) (by rfl) (λ s e => recFacts_of (Bool.and_eq_true_iff.mp e).2) (by rfl) (by assumption) (by decide +kernel) ⟨rfl, rfl, rfl, rfl, rfl, by decide +kernel⟩ ?hw ?hc
 case hl => refine LeftO.of_split "special-get-raises" ?_; intro w; kernel_rfl
 case hw => exact ⟨[.list []], by decide +kernel, by decide +kernel⟩
 generalize hvq : AM.Internal.viewQ = vq
 generalize hlk : AM.Internal.looseK = lk
 k_go0
 rename_i w s₀ s₁ mg mb G Y fa o pm cd doc ho hcd hg KX X V T B D TE TW _ _ M xs hs hlay0 hL0 hr1 hl2 _ _ scA vs _ hL ra w1 r0 hI hr hc1 hc2 K0 hD h₁ tk F o1 o2 o3 o4 left2 left1 left right N0 X0
 subst hvq hlk
 clear Y G B D TE TW M hcd hD K0 ra r0 hr X V left2 left1 left right
 have okC : AM.Internal.Cx.Ok { prog := rw_md0058_04.row.prog, w := w, K := AM.Internal.heapK w.params, h₀ := s₁.heap, os := s₁.os, view := AM.Internal.viewQ, loose := looseW AM.Internal.viewQ [Str.ofString "_opponents"], mg := mg, mb := mb, scA := scA, scL := xs.map AM.Internal.PV.int } :=
  ⟨KX, topRead_of T, AM.Internal.script_at w1 hL hI⟩
 have L : AM.Internal.L1 { prog := rw_md0058_04.row.prog, w := w, K := AM.Internal.heapK w.params, h₀ := s₁.heap, os := s₁.os, view := AM.Internal.viewQ, loose := looseW AM.Internal.viewQ [Str.ofString "_opponents"], mg := mg, mb := mb, scA := scA, scL := xs.map AM.Internal.PV.int } :=
  ⟨rfl, AM.Internal.miss_of T (by decide +kernel)⟩
 have hlaw := AM.Internal.law_ax L.go AM.Internal.u_law L.D_law rfl AM.Internal.c_law rfl (AM.Internal.law_spec (T := ⟨_, 30, false⟩) (X := "ValueError") L (by show 14 <= 30; decide) rfl (xs := xs) rfl (by lia))
 refine AM.Internal.law_end (s₁ := s₁) rfl rfl rfl (by show 1 + claimMargin + 1 <= 400; decide) (by show 4 + 3 <= 100; decide) rfl (AM.Internal.law_rep okC (d := 0) rfl rfl hg F rfl N0 X0 rfl rfl rfl) (hlaw _ rfl) ?_
 intro s' h1 h2 h3
 exact ⟨.inl ⟨_, _, [], rfl, λ _ => rfl, ReadsW.bool true, (by first | rfl | wrow_post), λ _ => ⟨List.nodup_nil, λ _ hm => (nomatch hm)⟩⟩, h1, h2, h3⟩
