import PyProof.Rows.All
import Wide.All
import OpenK.AllK
import Wide.FinOn
import PyProof.SetKind
import PyProof.TupleKey
import PyProof.SetRoads
import PyProof.Rows.TupIter
import PyProof.StationsW
import PyProof.DictIter
import PyProof.Laws
import PyProof.Rows.TupAssign
import PyProof.Rows.StrRules
import PyProof.ListRange
import PySem.Challenge.RW_md0058_03
open PySem PySem.W PyProof.Rows
set_option Elab.async false
set_option maxRecDepth 100000
set_option linter.unusedSimpArgs false
set_option linter.unusedVariables false
set_option maxHeartbeats 8000000
set_option genInjectivity false
set_option genSizeOfSpec false
set_option genSizeOf false
set_option genCtorIdx false
set_option compiler.extract_closed false
set_option bootstrap.genMatcherCode false
namespace AM.Internal
set_option autoImplicit false
set_option maxHeartbeats 8000000
theorem q02 {A B Q:Prop}(h:A/\B)(k:A->B->Q):Q:=k h.1 h.2
theorem q03 {A B C Q:Prop}(h:A/\B/\C)(k:A->B->C->Q):Q:=k h.1 h.2.1 h.2.2
theorem q04 {A B C D Q:Prop}(h:A/\B/\C/\D)(k:A->B->C->D->Q):Q:=k h.1 h.2.1 h.2.2.1 h.2.2.2
theorem q05 {A B C D E Q:Prop}(h:A/\B/\C/\D/\E)(k:A->B->C->D->E->Q):Q:=k h.1 h.2.1 h.2.2.1 h.2.2.2.1 h.2.2.2.2
theorem q06 {A B C D E F Q:Prop}(h:A/\B/\C/\D/\E/\F)(k:A->B->C->D->E->F->Q):Q:=k h.1 h.2.1 h.2.2.1 h.2.2.2.1 h.2.2.2.2.1 h.2.2.2.2.2
theorem q07 {A B C D E F I Q:Prop}(h:A/\B/\C/\D/\E/\F/\I)(k:A->B->C->D->E->F->I->Q):Q:=k h.1 h.2.1 h.2.2.1 h.2.2.2.1 h.2.2.2.2.1 h.2.2.2.2.2.1 h.2.2.2.2.2.2
theorem q08 {A B C D E F I J Q:Prop}(h:A/\B/\C/\D/\E/\F/\I/\J)(k:A->B->C->D->E->F->I->J->Q):Q:=k h.1 h.2.1 h.2.2.1 h.2.2.2.1 h.2.2.2.2.1 h.2.2.2.2.2.1 h.2.2.2.2.2.2.1 h.2.2.2.2.2.2.2
theorem q09 {A B C D E F I J K Q:Prop}(h:A/\B/\C/\D/\E/\F/\I/\J/\K)(k:A->B->C->D->E->F->I->J->K->Q):Q:=k h.1 h.2.1 h.2.2.1 h.2.2.2.1 h.2.2.2.2.1 h.2.2.2.2.2.1 h.2.2.2.2.2.2.1 h.2.2.2.2.2.2.2.1 h.2.2.2.2.2.2.2.2
theorem q11.{u0}{T0:Sort u0}{A:T0->Prop}{Q:Prop}(h:∃ x0,A x0)(k:∀ x0,A x0->Q):Q:=h.elim λ x0 h=>k x0 h
theorem q12.{u0}{T0:Sort u0}{A B:T0->Prop}{Q:Prop}(h:∃ x0,A x0/\B x0)(k:∀ x0,A x0->B x0->Q):Q:=h.elim λ x0 h=>k x0 h.1 h.2
theorem q13.{u0}{T0:Sort u0}{A B C:T0->Prop}{Q:Prop}(h:∃ x0,A x0/\B x0/\C x0)(k:∀ x0,A x0->B x0->C x0->Q):Q:=h.elim λ x0 h=>k x0 h.1 h.2.1 h.2.2
theorem q14.{u0}{T0:Sort u0}{A B C D:T0->Prop}{Q:Prop}(h:∃ x0,A x0/\B x0/\C x0/\D x0)(k:∀ x0,A x0->B x0->C x0->D x0->Q):Q:=h.elim λ x0 h=>k x0 h.1 h.2.1 h.2.2.1 h.2.2.2
theorem q15.{u0}{T0:Sort u0}{A B C D E:T0->Prop}{Q:Prop}(h:∃ x0,A x0/\B x0/\C x0/\D x0/\E x0)(k:∀ x0,A x0->B x0->C x0->D x0->E x0->Q):Q:=h.elim λ x0 h=>k x0 h.1 h.2.1 h.2.2.1 h.2.2.2.1 h.2.2.2.2
theorem q17.{u0}{T0:Sort u0}{A B C D E F I:T0->Prop}{Q:Prop}(h:∃ x0,A x0/\B x0/\C x0/\D x0/\E x0/\F x0/\I x0)(k:∀ x0,A x0->B x0->C x0->D x0->E x0->F x0->I x0->Q):Q:=h.elim λ x0 h=>k x0 h.1 h.2.1 h.2.2.1 h.2.2.2.1 h.2.2.2.2.1 h.2.2.2.2.2.1 h.2.2.2.2.2.2
theorem q21.{u0,u1}{T0:Sort u0}{T1:Sort u1}{A:T0->T1->Prop}{Q:Prop}(h:∃ x0 x1,A x0 x1)(k:∀ x0 x1,A x0 x1->Q):Q:=h.elim λ x0 h=>h.elim λ x1 h=>k x0 x1 h
theorem q22.{u0,u1}{T0:Sort u0}{T1:Sort u1}{A B:T0->T1->Prop}{Q:Prop}(h:∃ x0 x1,A x0 x1/\B x0 x1)(k:∀ x0 x1,A x0 x1->B x0 x1->Q):Q:=h.elim λ x0 h=>h.elim λ x1 h=>k x0 x1 h.1 h.2
theorem q23.{u0,u1}{T0:Sort u0}{T1:Sort u1}{A B C:T0->T1->Prop}{Q:Prop}(h:∃ x0 x1,A x0 x1/\B x0 x1/\C x0 x1)(k:∀ x0 x1,A x0 x1->B x0 x1->C x0 x1->Q):Q:=h.elim λ x0 h=>h.elim λ x1 h=>k x0 x1 h.1 h.2.1 h.2.2
theorem q24.{u0,u1}{T0:Sort u0}{T1:Sort u1}{A B C D:T0->T1->Prop}{Q:Prop}(h:∃ x0 x1,A x0 x1/\B x0 x1/\C x0 x1/\D x0 x1)(k:∀ x0 x1,A x0 x1->B x0 x1->C x0 x1->D x0 x1->Q):Q:=h.elim λ x0 h=>h.elim λ x1 h=>k x0 x1 h.1 h.2.1 h.2.2.1 h.2.2.2
theorem q31.{u0,u1,u2}{T0:Sort u0}{T1:Sort u1}{T2:Sort u2}{A:T0->T1->T2->Prop}{Q:Prop}(h:∃ x0 x1 x2,A x0 x1 x2)(k:∀ x0 x1 x2,A x0 x1 x2->Q):Q:=h.elim λ x0 h=>h.elim λ x1 h=>h.elim λ x2 h=>k x0 x1 x2 h
theorem q32.{u0,u1,u2}{T0:Sort u0}{T1:Sort u1}{T2:Sort u2}{A B:T0->T1->T2->Prop}{Q:Prop}(h:∃ x0 x1 x2,A x0 x1 x2/\B x0 x1 x2)(k:∀ x0 x1 x2,A x0 x1 x2->B x0 x1 x2->Q):Q:=h.elim λ x0 h=>h.elim λ x1 h=>h.elim λ x2 h=>k x0 x1 x2 h.1 h.2
theorem q41.{u0,u1,u2,u3}{T0:Sort u0}{T1:Sort u1}{T2:Sort u2}{T3:Sort u3}{A:T0->T1->T2->T3->Prop}{Q:Prop}(h:∃ x0 x1 x2 x3,A x0 x1 x2 x3)(k:∀ x0 x1 x2 x3,A x0 x1 x2 x3->Q):Q:=h.elim λ x0 h=>h.elim λ x1 h=>h.elim λ x2 h=>h.elim λ x3 h=>k x0 x1 x2 x3 h
theorem q42.{u0,u1,u2,u3}{T0:Sort u0}{T1:Sort u1}{T2:Sort u2}{T3:Sort u3}{A B:T0->T1->T2->T3->Prop}{Q:Prop}(h:∃ x0 x1 x2 x3,A x0 x1 x2 x3/\B x0 x1 x2 x3)(k:∀ x0 x1 x2 x3,A x0 x1 x2 x3->B x0 x1 x2 x3->Q):Q:=h.elim λ x0 h=>h.elim λ x1 h=>h.elim λ x2 h=>h.elim λ x3 h=>k x0 x1 x2 x3 h.1 h.2
theorem q43.{u0,u1,u2,u3}{T0:Sort u0}{T1:Sort u1}{T2:Sort u2}{T3:Sort u3}{A B C:T0->T1->T2->T3->Prop}{Q:Prop}(h:∃ x0 x1 x2 x3,A x0 x1 x2 x3/\B x0 x1 x2 x3/\C x0 x1 x2 x3)(k:∀ x0 x1 x2 x3,A x0 x1 x2 x3->B x0 x1 x2 x3->C x0 x1 x2 x3->Q):Q:=h.elim λ x0 h=>h.elim λ x1 h=>h.elim λ x2 h=>h.elim λ x3 h=>k x0 x1 x2 x3 h.1 h.2.1 h.2.2
theorem q46.{u0,u1,u2,u3}{T0:Sort u0}{T1:Sort u1}{T2:Sort u2}{T3:Sort u3}{A B C D E F:T0->T1->T2->T3->Prop}{Q:Prop}(h:∃ x0 x1 x2 x3,A x0 x1 x2 x3/\B x0 x1 x2 x3/\C x0 x1 x2 x3/\D x0 x1 x2 x3/\E x0 x1 x2 x3/\F x0 x1 x2 x3)(k:∀ x0 x1 x2 x3,A x0 x1 x2 x3->B x0 x1 x2 x3->C x0 x1 x2 x3->D x0 x1 x2 x3->E x0 x1 x2 x3->F x0 x1 x2 x3->Q):Q:=h.elim λ x0 h=>h.elim λ x1 h=>h.elim λ x2 h=>h.elim λ x3 h=>k x0 x1 x2 x3 h.1 h.2.1 h.2.2.1 h.2.2.2.1 h.2.2.2.2.1 h.2.2.2.2.2
theorem q51.{u0,u1,u2,u3,u4}{T0:Sort u0}{T1:Sort u1}{T2:Sort u2}{T3:Sort u3}{T4:Sort u4}{A:T0->T1->T2->T3->T4->Prop}{Q:Prop}(h:∃ x0 x1 x2 x3 x4,A x0 x1 x2 x3 x4)(k:∀ x0 x1 x2 x3 x4,A x0 x1 x2 x3 x4->Q):Q:=h.elim λ x0 h=>h.elim λ x1 h=>h.elim λ x2 h=>h.elim λ x3 h=>h.elim λ x4 h=>k x0 x1 x2 x3 x4 h
theorem q55.{u0,u1,u2,u3,u4}{T0:Sort u0}{T1:Sort u1}{T2:Sort u2}{T3:Sort u3}{T4:Sort u4}{A B C D E:T0->T1->T2->T3->T4->Prop}{Q:Prop}(h:∃ x0 x1 x2 x3 x4,A x0 x1 x2 x3 x4/\B x0 x1 x2 x3 x4/\C x0 x1 x2 x3 x4/\D x0 x1 x2 x3 x4/\E x0 x1 x2 x3 x4)(k:∀ x0 x1 x2 x3 x4,A x0 x1 x2 x3 x4->B x0 x1 x2 x3 x4->C x0 x1 x2 x3 x4->D x0 x1 x2 x3 x4->E x0 x1 x2 x3 x4->Q):Q:=h.elim λ x0 h=>h.elim λ x1 h=>h.elim λ x2 h=>h.elim λ x3 h=>h.elim λ x4 h=>k x0 x1 x2 x3 x4 h.1 h.2.1 h.2.2.1 h.2.2.2.1 h.2.2.2.2
theorem q61.{u0,u1,u2,u3,u4,u5}{T0:Sort u0}{T1:Sort u1}{T2:Sort u2}{T3:Sort u3}{T4:Sort u4}{T5:Sort u5}{A:T0->T1->T2->T3->T4->T5->Prop}{Q:Prop}(h:∃ x0 x1 x2 x3 x4 x5,A x0 x1 x2 x3 x4 x5)(k:∀ x0 x1 x2 x3 x4 x5,A x0 x1 x2 x3 x4 x5->Q):Q:=h.elim λ x0 h=>h.elim λ x1 h=>h.elim λ x2 h=>h.elim λ x3 h=>h.elim λ x4 h=>h.elim λ x5 h=>k x0 x1 x2 x3 x4 x5 h
theorem lq1 {a b t : Nat} (h : a <= t) (e : Nat.ble b a = true) : b <= t := Nat.le_trans (Nat.le_of_ble_eq_true e) h
theorem lq2 {a b t : Nat} (h : t <= a) (e : Nat.ble a b = true) : t <= b := Nat.le_trans h (Nat.le_of_ble_eq_true e)
theorem lq3 {a b t : Nat} (h : t <= a) (e : Nat.blt a b = true) : t < b := Nat.lt_of_le_of_lt h (Nat.le_of_ble_eq_true e)
theorem lq4 {a b t : Nat} (h : a <= t) (e : Nat.blt b a = true) : b <= t - 1 := Nat.le_sub_of_add_le (lq1 h e)
theorem lq5 {a b t : Nat} (h : a <= t) (e : Nat.blt b (a - 1) = true) : b <= t - 1 - 1 := lq4 (Nat.sub_le_sub_right h 1) e
theorem lq6 {a b c u : Nat} (h : u + a <= c) (e : Nat.blt b a = true) : u + b < c := Nat.lt_of_lt_of_le (Nat.add_lt_add_left (Nat.le_of_ble_eq_true e) u) h
theorem lq7 {a b c u : Nat} (h : u + a < c) (e : Nat.ble b a = true) : u + b < c := Nat.lt_of_le_of_lt (Nat.add_le_add_left (Nat.le_of_ble_eq_true e) u) h
theorem lq8 {a b c d k : Nat} (h : a + b + c <= d) (e : Nat.ble d k = true) : a <= k := Nat.le_trans (Nat.le_trans (Nat.le_add_right a b) (Nat.le_add_right _ c)) (lq2 h e)
theorem lq9 {a b c d k : Nat} (h : a + b + c <= d) (e : Nat.ble d k = true) : b <= k := Nat.le_trans (Nat.le_trans (Nat.le_add_left b a) (Nat.le_add_right _ c)) (lq2 h e)
theorem lq10 {a b c d k : Nat} (h : a + b + c <= d) (e : Nat.ble d k = true) : c <= k := Nat.le_trans (Nat.le_add_left c _) (lq2 h e)
theorem lq11 {a b c d k : Nat} (h : a + b + c <= d) (e : Nat.ble d k = true) : a + b <= k := Nat.le_trans (Nat.le_add_right _ c) (lq2 h e)
theorem lq12 {t i a b : Nat} (h : t <= i) (g : i < a) (e : Nat.ble a b = true) : t <= b := lq2 (Nat.le_of_lt (Nat.lt_of_le_of_lt h g)) e
theorem lqa {a : Nat} {b : Int} (e : Nat.blt a b.toNat = true) : (a : Int) <= b := Int.le_of_lt (Int.lt_toNat.mp (Nat.le_of_ble_eq_true e))
theorem lq13 {t : Int} {n a : Nat} {b : Int} (h : t < (n : Int)) (g : n <= a) (e : Nat.blt a b.toNat = true) : t < b := Int.lt_of_lt_of_le h (Int.le_trans (Int.ofNat_le.mpr g) (lqa e))
theorem lq14 {a : Int} {n : Nat} (h : 0 <= a) (g : a < (n : Int)) : a.toNat < n := (Int.toNat_lt h).mpr g
theorem lq15 {n a : Nat} {b : Int} (h : n <= a) (e : Nat.blt a b.toNat = true) : (n : Int) <= b := Int.le_trans (Int.ofNat_le.mpr h) (lqa e)
theorem lq16 {n a : Nat} {b : Int} (h : n <= a) (e : Nat.blt a b.toNat = true) : (n : Int) < b := Int.lt_toNat.mp (Nat.lt_of_le_of_lt h (Nat.le_of_ble_eq_true e))
theorem lq17 {a b t : Int} (h : t < a) (e : Nat.blt a.toNat b.toNat = true) : t < b := Int.lt_of_lt_of_le h (Int.le_trans (Int.self_le_toNat a) (lqa e))
theorem lq18 {a t : Int} (h : 0 <= t) (e : Nat.beq a.toNat 0 = true) : a <= t := Int.le_trans (by have := Nat.eq_of_beq_eq_true e; omega) h
theorem lq19 {a t : Int} (h : 0 <= t) (e : Nat.beq a.toNat 0 = true) : ¬ t < a := Int.not_lt.mpr (lq18 h e)
theorem lq20 {a t : Int} (h : ¬ t < 0) (e : Nat.beq a.toNat 0 = true) : a <= t := lq18 (Int.not_lt.mp h) e
theorem lq21 {n k : Nat} {a : Int} (h : (n : Int) = a) (e : a = (k : Int)) : n = k := Int.ofNat.inj (h.trans e)
theorem lq23 {n a : Nat} (h : a <= n) (e : Nat.blt 0 a = true) : (n : Int) ≠ 0 := fun h' => absurd (lq1 h e) (by rw [show n = 0 from Int.ofNat.inj h']; exact Nat.not_lt_zero 0)
theorem lqb {a b : Int} (h : b <= a) : ¬ a < b := Int.not_lt.mpr h
theorem lqc {a b : Int} (h : b < a) : ¬ a <= b := Int.not_le.mpr h
theorem lqd {a b : Int} (h : ¬ a < b) : b <= a := Int.not_lt.mp h
theorem lqe {a b : Int} (h : ¬ a <= b) : b < a := Int.not_le.mp h
theorem lqf {a b : Nat} (h : a < b) : (a : Int) < b := Int.ofNat_lt.mpr h
theorem lqg {a b : Nat} (h : a <= b) : a <= b + 1 := Nat.le_succ_of_le h
theorem lq24 {a b c x y z k : Nat} (h1 : a <= x) (h2 : b <= y) (h3 : c <= z) (e : Nat.ble (x + y + z) k = true) : a + b + c <= k := lq2 (Nat.add_le_add (Nat.add_le_add h1 h2) h3) e
theorem lq28 {k m n : Nat} (e : n = m) (h : k < m) : k < n := e ▸ h
theorem lq32 {k m n : Nat} (e : m = n) (h : k < m) : k < n := e ▸ h
theorem lq29 {m n a k : Nat} (e : n = m) (h : m <= a) (b : Nat.ble a k = true) : n <= k := lq2 (e ▸ h) b
theorem lq30 {a b c k : Nat} (h : a <= b) (g : b <= c) (e : Nat.ble c k = true) : a <= k := lq2 (Nat.le_trans h g) e
theorem ybT {m i N:Nat}(h:m+i=N)(h':i+1<=N):N-(i+1)<m:=by
 subst h;rw[Nat.add_comm m i,Nat.add_sub_add_left];exact Nat.sub_lt (Nat.lt_of_add_lt_add_left (Nat.add_comm m i▸h':i+0<i+m)) (by decide)
theorem yjF {x S:Nat}(h:x*2<S)(h0:0<x):x*5<(S-1)*3:=by
 have h1:x*2*3<=(S-1)*3:=Nat.mul_le_mul_right 3 (Nat.le_sub_one_of_lt h);rw[Nat.mul_assoc]at h1;exact Nat.lt_of_lt_of_le (Nat.mul_lt_mul_of_pos_left (by decide:5<2*3) h0) h1
theorem yaM {x S L:Nat}(h:x*5<(S-1)*3)(h':¬ S>L):x<=L:=by lia
theorem zfV {i m:Nat}(h:i<m):m-(i+1)<m-i:=Nat.sub_lt_sub_left h (Nat.lt_succ_self i)
namespace Tab
theorem mid {lo hi:Nat}(h:lo<hi):lo<=(lo+hi) / 2/\(lo+hi) / 2<hi:=by lia
theorem zzH {xs:Array Nat}{j f lo hi:Nat}:SetTable.below.go xs j (f+1) lo hi=if lo<hi then (if xs.getD ((lo+hi) / 2) j<j then SetTable.below.go xs j f ((lo+hi) / 2+1) hi else SetTable.below.go xs j f lo ((lo+hi) / 2)) else lo:=rfl
theorem yfX (xs:Array Nat)(j:Nat)(hs:xs.toList.Pairwise (· < ·))(fuel:Nat):∀ (lo hi:Nat),hi<=xs.size->lo<=hi->hi<=lo+fuel ->
  (∀ i (h:i<xs.size),i<lo->xs[i]<j)->(∀ i (h:i<xs.size),hi<=i->j<=xs[i]) ->
  let p:=SetTable.below.go xs j fuel lo hi
  p<=xs.size/\(∀ i (h:i<xs.size),i<p->xs[i]<j)/\(∀ i (h:i<xs.size),p<=i->j<=xs[i]):=by
 induction fuel with
 | zero=>
  intro lo hi h1 h2 h3 h4 h5;have:lo=hi:=Nat.le_antisymm h2 h3;subst this;exact⟨h1,h4,h5⟩
 | succ fuel ih=>
  intro lo hi h1 h2 h3 h4 h5;have mono:∀ a b (ha:a<xs.size) (hb:b<xs.size),a<b->xs[a]<xs[b]:=λ a b ha hb hab=>List.pairwise_iff_getElem.mp hs a b ha hb hab;rw[zzH]
  by_cases hl:lo<hi
  ·obtain⟨m1,m2⟩:=mid hl
   rw[if_pos hl];generalize (lo+hi) / 2=m at m1 m2 ⊢;have hm:m<xs.size:=Nat.lt_of_lt_of_le m2 h1;have hg:xs.getD m j=xs[m]:=dif_pos hm;dsimp only;rw[hg]
   by_cases hc:xs[m]<j
   ·rw[if_pos hc]
    exact ih _ _ h1 m2 (Nat.le_trans h3 (by rw[Nat.add_right_comm m 1 fuel];exact Nat.succ_le_succ (Nat.add_le_add_right m1 fuel))) (λ i h hi'=>(Nat.lt_or_eq_of_le (Nat.le_of_lt_succ hi')).elim (λ q=>Nat.lt_trans (mono i _ h hm q) hc) (λ q=>by subst q;exact hc)) h5
   ·rw[if_neg hc]
    exact ih _ _ (Nat.le_of_lt hm) m1 (Nat.le_of_lt_succ (Nat.lt_of_lt_of_le m2 h3)) h4 λ i h hi'=>(Nat.lt_or_eq_of_le hi').elim (λ q=>Nat.le_trans (Nat.le_of_not_lt hc) (Nat.le_of_lt (mono _ i hm h q))) (λ q=>by subst q;exact Nat.le_of_not_lt hc)
  ·rw[if_neg hl]
   have:lo=hi:=Nat.le_antisymm h2 (Nat.le_of_not_lt hl);subst this;exact⟨h1,h4,h5⟩
theorem below_spec {xs:Array Nat}(hs:xs.toList.Pairwise (· < ·))(j:Nat):
  SetTable.below xs j<=xs.size/\(∀ i (h:i<xs.size),i<SetTable.below xs j->xs[i]<j)/\(∀ i (h:i<xs.size),SetTable.below xs j<=i->j<=xs[i]):=
 yfX xs j hs xs.size 0 xs.size (Nat.le_refl _) (Nat.zero_le _) (by lia) (λ i h hi=>by lia) (λ i h hi=>by lia)
theorem ziU {xs:Array Nat}(hs:xs.toList.Pairwise (· < ·)){i j:Nat}(h:xs[i]?=some j):SetTable.below xs j=i:=by
 obtain⟨hi,e⟩:=Array.getElem?_eq_some_iff.mp h;refine q03 (below_spec hs j) λ h1 h2 h3=>?_;have mono:∀ a b (ha:a<xs.size) (hb:b<xs.size),a<b->xs[a]<xs[b]:=by
  intro a b ha hb hab;have:=List.pairwise_iff_getElem.mp hs a b (by simpa using ha) (by simpa using hb) hab
  simpa using this
 rcases Nat.lt_trichotomy (SetTable.below xs j) i with q|q|q
 ·have hb:SetTable.below xs j<xs.size:=by lia
  have:=h3 _ hb (Nat.le_refl _);have:=mono _ _ hb hi q;lia
 ·exact q
 ·have:=h2 i hi q
  lia
theorem zkH {xs:Array Nat}(hs:xs.toList.Pairwise (· < ·))(j:Nat):SetTable.has xs j=true↔j∈xs.toList:=by
 unfold SetTable.has;constructor
 ·intro h
  have h':=eq_of_beq h;exact Array.mem_toList_iff.mpr (Array.mem_of_getElem? h')
 ·intro h
  obtain⟨i,hi⟩:=Array.getElem?_of_mem (Array.mem_toList_iff.mp h);rw[ziU hs hi,hi]
  simp
theorem zeE {xs:Array Nat}(hs:xs.toList.Pairwise (· < ·)){j:Nat}(hj:j∉xs.toList):
  (SetTable.insertAt xs (SetTable.below xs j) j).toList.Pairwise (· < ·):=by
 rw[SetTable.toList_insertAt];refine q03 (below_spec hs j) λ h1 h2 h3=>?_;rw[List.pairwise_append];refine⟨hs.sublist (List.take_sublist _ _),?_,?_⟩
 ·rw[List.pairwise_cons]
  refine⟨λ y hy=>?_,hs.sublist (List.drop_sublist _ _)⟩;refine q11 (List.mem_iff_getElem.mp hy) λ i u8=>q11 u8 λ hi e=>?_;rw[List.getElem_drop]at e;have hlt:SetTable.below xs j+i<xs.size:=by simp at hi;lia
  have:=h3 _ hlt (by lia);have e':xs[SetTable.below xs j+i]=y:=by simpa using e
  rw[e']at this;have hne:j≠y:=by
   intro q;subst q;exact hj (List.mem_of_mem_drop hy)
  lia
 ·intro a ha b hb
  refine q11 (List.mem_iff_getElem.mp ha) λ i u8=>q11 u8 λ hi e=>?_;rw[List.getElem_take]at e;have hi':i<SetTable.below xs j:=by simp at hi;lia
  have hlt:i<xs.size:=by lia
  have haj:a<j:=by
   have:=h2 i hlt hi';have e':xs[i]=a:=by simpa using e
   lia
  rcases List.mem_cons.mp hb with q|q
  ·exact lq28 q haj
  ·refine q11 (List.mem_iff_getElem.mp q) λ k u8=>q11 u8 λ hk e2=>?_
   rw[List.getElem_drop]at e2;have hlt2:SetTable.below xs j+k<xs.size:=by simp at hk;lia
   have:=h3 _ hlt2 (by lia);have e':xs[SetTable.below xs j+k]=b:=by simpa using e2
   lia
theorem toList_eraseAt {α:Type}(xs:Array α)(p:Nat):(SetTable.eraseAt xs p).toList=xs.toList.eraseIdx p:=by
 unfold SetTable.eraseAt;rw[Array.toList_append,Array.toList_extract,Array.toList_extract,List.eraseIdx_eq_take_drop_succ];simp only[List.extract,List.drop_zero,Nat.sub_zero];rw[List.take_of_length_le (l:=List.drop (p+1) xs.toList) (by simp)]
structure Ok (t:SetTable):Prop where
 sp:t.place.toList.Pairwise (· < ·)
 sd:t.dummies.toList.Pairwise (· < ·)
 bp:∀ j∈t.place.toList,j<=t.mask
 bd:∀ j∈t.dummies.toList,j<=t.mask
 dj:∀ j∈t.place.toList,j∉t.dummies.toList
theorem slot_live {t:SetTable}(o:Ok t){i j:Nat}:t.slot j=.live i↔t.place[i]?=some j:=by
 unfold SetTable.slot;dsimp only;constructor
 ·intro h
  split at h
  ·rename_i e;cases h;exact eq_of_beq e
  ·split at h <;> cases h
 ·intro h
  rw[ziU o.sp h,h]
  simp
theorem zkK {t:SetTable}(o:Ok t){j:Nat}:t.slot j=.dummy↔j∈t.dummies.toList:=by
 unfold SetTable.slot;dsimp only;constructor
 ·intro h
  split at h
  ·cases h
  ·split at h
   ·rename_i e;exact (zkH o.sd j).mp e
   ·cases h
 ·intro h
  rw[if_neg,if_pos ((zkH o.sd j).mpr h)];intro e;exact o.dj j (Array.mem_toList_iff.mpr (Array.mem_of_getElem? (eq_of_beq e))) h
theorem zdJ {t:SetTable}(o:Ok t){j:Nat}:t.slot j=.empty↔j∉t.place.toList/\j∉t.dummies.toList:=by
 constructor
 ·intro h
  refine⟨λ hm=>?_,λ hm=>?_⟩
  ·obtain⟨i,hi⟩:=Array.getElem?_of_mem (Array.mem_toList_iff.mp hm)
   rw[(slot_live o).mpr hi]at h;cases h
  ·rw[(zkK o).mpr hm]at h;cases h
 ·intro ⟨h1,h2⟩
  cases h:t.slot j with
  | empty=>rfl
  | dummy=>exact absurd ((zkK o).mp h) h2
  | live i=>exact absurd (Array.mem_toList_iff.mpr (Array.mem_of_getElem? ((slot_live o).mp h))) h1
end Tab
namespace Tab
noncomputable def zfO (m:Nat):Prop:=m=7\/m=15\/m=31\/m=63\/m=127
noncomputable def lcg (m i:Nat):Nat:=(i*5+1) % (m+1)
noncomputable def zxV (m:Nat):Nat->Nat->Nat
 | 0,i=>i
 | n+1,i=>lcg m (zxV m n i)
theorem zrM (m a b i:Nat):zxV m (a+b) i=zxV m a (zxV m b i):=by
 induction a with
 | zero=>rw[Nat.zero_add];rfl
 | succ a ih=>rw[Nat.succ_add];exact congrArg (lcg m) ih
noncomputable def yjY (m:Nat):Nat->Nat->List Nat
 | 0,_=>[]
 | n+1,i=>i::yjY m n (lcg m i)
theorem ygO (m n i:Nat):zxV m n (lcg m i)=lcg m (zxV m n i):=by
 induction n with
 | zero=>rfl
 | succ n ih=>exact congrArg (lcg m) ih
theorem ydO (m n:Nat):∀ i j,j∈yjY m n i->∃ k,k<n/\zxV m k i=j:=by
 induction n with
 | zero=>exact λ _ _ h=>nomatch h
 | succ n ih=>
  intro i j h;rcases List.mem_cons.mp h with e|h
  ·exact⟨0,Nat.succ_pos n,e.symm⟩
  ·refine q12 (ih _ j h) λ k hk e=>?_
   exact⟨k+1,Nat.succ_lt_succ hk,(ygO m k i).symm.trans e⟩
noncomputable def zeZ (m:Nat):Bool:=let l:=yjY m (m+1) 0;((List.range (m+1)).all λ j=>l.contains j)&&zxV m (m+1) 0==0
theorem yjH:zeZ 7=true:=by decide +kernel
theorem yeA:zeZ 15=true:=by decide +kernel
theorem yfT:zeZ 31=true:=by decide +kernel
theorem yeF:zeZ 63=true:=by decide +kernel
theorem ycJ:zeZ 127=true:=by decide +kernel
theorem yoG {m:Nat}(g:zfO m){i j:Nat}(hi:i<=m)(hj:j<=m):∃ k,k<=m/\zxV m k i=j:=by
 have h:zeZ m=true:=by
  rcases g with rfl|rfl|rfl|rfl|rfl
  ·exact yjH
  ·exact yeA
  ·exact yfT
  ·exact yeF
  ·exact ycJ
 unfold zeZ at h;obtain⟨h,hp⟩:=Bool.and_eq_true_iff.mp h;have hp:zxV m (m+1) 0=0:=eq_of_beq hp;have hc:∀ x,x<=m->∃ k,k<m+1/\zxV m k 0=x:=λ x hx=>by
  have h2:=List.all_eq_true.mp h x (List.mem_range.mpr (by lia));exact ydO m _ _ _ (List.contains_iff_mem.mp h2)
 refine q12 (hc i hi) λ a ha ea=>?_;refine q12 (hc j hj) λ b hb eb=>?_
 by_cases q:a<=b
 ·refine⟨b-a,by lia,?_⟩
  rw[<- ea,<- zrM,Nat.sub_add_cancel q];exact eb
 ·refine⟨b+(m+1)-a,by lia,?_⟩
  rw[<- ea,<- zrM,Nat.sub_add_cancel (by lia),zrM,hp];exact eb
noncomputable def blk (m:Nat)(h:Int):Nat->Nat×Nat
 | 0=>(SetTable.bits h % (m+1),SetTable.bits h)
 | n+1=>SetTable.leap m (blk m h n).1 (blk m h n).2
noncomputable def len (m i:Nat):Nat:=SetTable.runEnd m i-i
theorem zuA (m:Nat)(h:Int)(n:Nat):(blk m h n).1<=m:=by
 cases n with
 | zero=>exact Nat.le_of_lt_succ (Nat.mod_lt _ (Nat.succ_pos _))
 | succ n=>exact Nat.le_of_lt_succ (Nat.mod_lt _ (Nat.succ_pos _))
theorem yhG (m i:Nat):len m i<=9:=by
 unfold len SetTable.runEnd;split <;> lia
theorem ygA {m i k:Nat}(hi:i<=m)(hk:k<=len m i):i+k<=m:=by
 unfold len SetTable.runEnd at hk;split at hk <;> lia
theorem zwC (m:Nat)(h:Int)(n:Nat):(blk m h n).2=SetTable.bits h / 32 ^ n:=by
 induction n with
 | zero=>exact (Nat.div_one _).symm
 | succ n ih=>
  show (blk m h n).2 / 32=_
  rw[ih,Nat.div_div_eq_div_mul,Nat.pow_succ]
theorem yjI (h:Int):SetTable.bits h<2 ^ 64:=by
 unfold SetTable.bits;have h1:=Int.emod_nonneg h (b:=(2 ^ 64:Int)) (by decide);have h2:=Int.emod_lt_of_pos h (b:=(2 ^ 64:Int)) (by decide);exact lq14 h1 (by assumption)
theorem yfV (m:Nat)(h:Int)(n:Nat):(blk m h (12+n)).1=zxV m n (blk m h 12).1:=by
 induction n with
 | zero=>rfl
 | succ n ih=>
  have e:blk m h (12+(n+1))=SetTable.leap m (blk m h (12+n)).1 (blk m h (12+n)).2:=rfl;have hz:(blk m h (12+n)).2 / 32=0:=by
   rw[zwC,Nat.div_div_eq_div_mul];have:=yjI h;refine Nat.div_eq_of_lt (Nat.lt_of_lt_of_le this ?_);have:(32:Nat) ^ (12+n)*32=32 ^ 13*32 ^ n:=by
    rw[<- Nat.pow_succ,<- Nat.pow_add];congr 1;lia
   rw[this];have h1:(2:Nat) ^ 64<=32 ^ 13:=by decide
   exact Nat.le_trans h1 (Nat.le_mul_of_pos_right _ (Nat.pos_of_ne_zero (by simp)))
  rw[e]
  show ((blk m h (12+n)).1*5+1+(blk m h (12+n)).2 / 32) % (m+1)=lcg m (zxV m n (blk m h 12).1)
  rw[hz,<- ih]
  rfl
theorem zpB {m:Nat}(g:zfO m)(h:Int){j:Nat}(hj:j<=m):∃ n,n<=m+12/\(blk m h n).1=j:=by
 refine q12 (yoG g (zuA m h 12) hj) λ k hk e=>?_;exact⟨12+k,by lia,by rw[yfV];exact e⟩
noncomputable def P (m:Nat)(h:Int)(n k:Nat)(d:Option Nat):SetTable.Probe:=
 { j:=(blk m h n).1+k,more:=len m (blk m h n).1-k,i:=(blk m h n).1,perturb:=(blk m h n).2,dummy:=d }
theorem zsG (t:SetTable)(h:Int):t.probeStart h=P t.mask h 0 0 none:=by
 simp[SetTable.probeStart,P,blk,len]
theorem zxW {t:SetTable}{h:Int}{n k:Nat}{d:Option Nat}(hk:k<len t.mask (blk t.mask h n).1):t.advance (P t.mask h n k d)=P t.mask h n (k+1) d:=by
 unfold SetTable.advance P;rw[if_pos (by show _>0;simp only;lia)];simp only[SetTable.Probe.mk.injEq,and_true,true_and];lia
theorem zvJ {t:SetTable}{h:Int}{n k:Nat}{d:Option Nat}(hk:¬ k<len t.mask (blk t.mask h n).1):t.advance (P t.mask h n k d)=P t.mask h (n+1) 0 d:=by
 unfold SetTable.advance P;rw[if_neg (by show ¬ _>0;simp only;lia)];simp only[SetTable.Probe.mk.injEq,and_true,true_and,Nat.add_zero,Nat.sub_zero,blk,len]
noncomputable def zbM (n k n' k':Nat):Prop:=n<n'\/(n=n'/\k<k')
noncomputable def On (m:Nat)(h:Int)(n k:Nat):Prop:=k<=len m (blk m h n).1
noncomputable def at' (m:Nat)(h:Int)(n k:Nat):Nat:=(blk m h n).1+k
inductive zsU (t:SetTable)(hashAt:Nat->Int)(h:Int)(n k:Nat)(d:Option Nat):SetTable.Met->Prop
 | empty (n' k':Nat) (d':Option Nat) (on:On t.mask h n' k') (e:t.slot (at' t.mask h n' k')=.empty) (ge:¬ zbM n' k' n k)
   (bef:∀ a b,On t.mask h a b->¬ zbM a b n k->zbM a b n' k'->t.slot (at' t.mask h a b)≠.empty/\∀ i,t.slot (at' t.mask h a b)=.live i->hashAt i≠h)
   (dum:d'=d\/∃ a b,On t.mask h a b/\¬ zbM a b n k/\zbM a b n' k'/\d'=some (at' t.mask h a b)/\t.slot (at' t.mask h a b)=.dummy):
   zsU t hashAt h n k d (.empty (at' t.mask h n' k') d')
 | cand (n' k' i:Nat) (next:SetTable.Probe) (on:On t.mask h n' k') (e:t.slot (at' t.mask h n' k')=.live i) (hh:hashAt i=h) (ge:¬ zbM n' k' n k)
   (bef:∀ a b,On t.mask h a b->¬ zbM a b n k->zbM a b n' k'->t.slot (at' t.mask h a b)≠.empty/\∀ i,t.slot (at' t.mask h a b)=.live i->hashAt i≠h):
   zsU t hashAt h n k d (.candidate (at' t.mask h n' k') i next)
theorem zbM.trans {a b c d e f:Nat}(h:zbM a b c d)(h':zbM c d e f):zbM a b e f:=by
 rcases h with h|⟨rfl,h⟩
 ·rcases h' with h' | ⟨rfl,h'⟩
  ·exact .inl (Nat.lt_trans h h')
  ·exact .inl h
 ·rcases h' with h' | ⟨rfl,h'⟩
  ·exact .inl h'
  ·exact .inr ⟨rfl,Nat.lt_trans h h'⟩
theorem zbM.irrefl {a b:Nat}(h:zbM a b a b):False:=by
 rcases h with h|⟨_,h⟩
 ·exact Nat.lt_irrefl _ h
 ·exact Nat.lt_irrefl _ h
theorem zbM.total {a b c d:Nat}(h:¬ zbM c d a b):zbM a b c d\/(a=c/\b=d):=by
 rcases Nat.lt_trichotomy a c with q|q|q
 ·exact .inl (.inl q)
 ·subst q
  rcases Nat.lt_trichotomy b d with q|q|q
  ·exact .inl (.inr ⟨rfl,q⟩)
  ·exact .inr ⟨rfl,q⟩
  ·exact absurd (.inr ⟨rfl,q⟩) h
 ·exact absurd (.inl q) h
theorem zbM.next {a b c d e f:Nat}(h:zbM a b c d)(h':¬ zbM e f c d):zbM a b e f:=by
 rcases zbM.total h' with q|⟨rfl,rfl⟩
 ·exact h.trans q
 ·exact h
theorem zsU.before {t:SetTable}{hashAt:Nat->Int}{h:Int}{n k n1 k1:Nat}{d d1:Option Nat}{met:SetTable.Met}(on:On t.mask h n k)
  (nx:∀ a b,On t.mask h a b->¬ zbM a b n k->(a=n/\b=k)\/¬ zbM a b n1 k1) (ad:zbM n k n1 k1)
  (ne:t.slot (at' t.mask h n k)≠.empty/\∀ i,t.slot (at' t.mask h n k)=.live i->hashAt i≠h)
  (hd:d1=d\/(d1=some (at' t.mask h n k)/\t.slot (at' t.mask h n k)=.dummy)) (m:zsU t hashAt h n1 k1 d1 met):zsU t hashAt h n k d met:=by
 cases m with
 | empty n' k' d' on' e ge bef dum=>
  refine .empty n' k' d' on' e (λ q=>ge (q.trans ad)) (λ a b ho hn ha=>?_) ?_
  ·rcases nx a b ho hn with ⟨rfl,rfl⟩|q
   ·exact ne
   ·exact bef a b ho q ha
  ·rcases dum with rfl|⟨a,b,x1,x2,x3,x4,x5⟩
   ·rcases hd with rfl|⟨rfl,y⟩
    ·exact .inl rfl
    ·exact .inr ⟨n,k,on,zbM.irrefl,ad.next ge,rfl,y⟩
   ·exact .inr ⟨a,b,x1,λ q=>x2 (q.trans ad),x3,x4,x5⟩
 | cand n' k' i next on' e hh ge bef=>
  refine .cand n' k' i next on' e hh (λ q=>ge (q.trans ad)) (λ a b ho hn ha=>?_)
  ·rcases nx a b ho hn with ⟨rfl,rfl⟩|q
   ·exact ne
   ·exact bef a b ho q ha
theorem gm0 {N n k:Nat}(h:k<=9)(hn:n<N\/(n=N/\k=0))(hf:10*N+1<=0+k+10*n):False:=by
 rcases hn with q|⟨rfl,rfl⟩
 ·have h1:10*n+10<=10*N:=Nat.mul_le_mul_left 10 q
  have h2:=Nat.le_trans (Nat.succ_le_succ h1) hf;rw[Nat.zero_add,Nat.add_comm k]at h2;exact absurd (Nat.le_of_add_le_add_left (a:=10*n) (b:=11) h2) (Nat.not_le.mpr (Nat.lt_of_le_of_lt h (by decide)))
 ·rw[Nat.add_zero,Nat.zero_add]at hf
  exact absurd hf (Nat.not_succ_le_self _)
theorem gm2 {N n k f:Nat}(h:k<=9)(hf:10*N+1<=f+1+k+10*n):10*N+1<=f+0+10*(n+1):=by
 lia
theorem nx_in {n k:Nat}{a b:Nat}(h:¬ zbM a b n k):(a=n/\b=k)\/¬ zbM a b n (k+1):=
 (zbM.total h).elim (λ q=>.inr λ h'=>h'.elim (λ x=>q.elim (λ y=>Nat.lt_asymm x y) λ y=>Nat.ne_of_lt x y.1.symm) λ x=>q.elim (λ y=>Nat.ne_of_lt y x.1.symm) λ y=>absurd x.2 (Nat.not_lt.mpr y.2)) λ q=>.inl ⟨q.1.symm,q.2.symm⟩
theorem ypP {n k L:Nat}{a b:Nat}(hk:L<=k)(ho:a=n->b<=L)(h:¬ zbM a b n k):(a=n/\b=k)\/¬ zbM a b (n+1) 0:=
 (zbM.total h).elim (λ q=>q.elim (λ x=>.inr λ h'=>h'.elim (λ y=>Nat.lt_irrefl _ (Nat.lt_of_lt_of_le x (Nat.le_of_lt_succ y))) λ y=>Nat.not_lt_zero _ y.2) λ y=>absurd (Nat.le_trans (ho y.1.symm) hk) (Nat.not_le.mpr y.2)) λ q=>.inl ⟨q.1.symm,q.2.symm⟩
theorem yjO {t:SetTable}{hashAt:Nat->Int}{h:Int}{f:Nat}{p:SetTable.Probe}:SetTable.probe.go t hashAt h (f+1) p=SetTable.instReprSlot.repr.match_1 (λ _=>Option SetTable.Met) (t.slot p.j) (λ _=>some (.empty p.j p.dummy)) (λ _=>SetTable.probe.go t hashAt h f (t.advance { p with dummy:=some p.j })) (λ i=>if (hashAt i==h)=true then some (.candidate p.j i (t.advance p)) else SetTable.probe.go t hashAt h f (t.advance p)):=rfl
theorem yeP {t:SetTable}{hashAt:Nat->Int}{h:Int}{N:Nat}(hN:t.slot (blk t.mask h N).1=.empty)(f:Nat):
  ∀ (n k:Nat) (d:Option Nat),On t.mask h n k->(n<N\/(n=N/\k=0))->10*N+1<=f+k+10*n ->
   ∃ met,SetTable.probe.go t hashAt h f (P t.mask h n k d)=some met/\zsU t hashAt h n k d met:=by
 induction f with
 | zero=>exact λ n k d on hn hf=>(gm0 (Nat.le_trans on (yhG t.mask (blk t.mask h n).1)) hn hf).elim
 | succ f ih=>
  intro n k d on hn hf;have l9:=Nat.le_trans on (yhG t.mask (blk t.mask h n).1);have step:∀ d1,(t.slot (at' t.mask h n k)≠.empty/\∀ i,t.slot (at' t.mask h n k)=.live i->hashAt i≠h)->(d1=d\/(d1=some (at' t.mask h n k)/\t.slot (at' t.mask h n k)=.dummy)) ->
    ∃ met,SetTable.probe.go t hashAt h f (t.advance (P t.mask h n k d1))=some met/\zsU t hashAt h n k d met:=by
   intro d1 ne hd;have hlt:n<N:=hn.elim id λ q=>absurd hN (by obtain⟨rfl,rfl⟩:=q;exact ne.1)
   by_cases hk:k<len t.mask (blk t.mask h n).1
   ·rw[zxW hk]
    refine q12 (ih n (k+1) d1 hk (.inl hlt) (by rw[Nat.add_right_comm f 1 k]at hf;exact hf)) λ met e m=>?_;exact⟨met,e,m.before on (λ a b ho hna=>nx_in hna) (.inr ⟨rfl,Nat.lt_succ_self k⟩) ne hd⟩
   ·rw[zvJ hk]
    refine q12 (ih (n+1) 0 d1 (Nat.zero_le _) ((Nat.lt_or_eq_of_le hlt).imp id λ q=>⟨q,rfl⟩) (gm2 l9 hf)) λ met e m=>?_;exact⟨met,e,m.before on (λ a b ho hna=>ypP (Nat.le_of_not_lt hk) (λ q=>by subst q;exact ho) hna) (.inl (Nat.lt_succ_self n)) ne hd⟩
  have irr:¬ zbM n k n k:=zbM.irrefl;rw[yjO];rw[show (P t.mask h n k d).j=at' t.mask h n k from rfl];cases hs:t.slot (at' t.mask h n k) with
  | empty=>exact⟨_,rfl,.empty n k d on hs irr (λ a b _ h1 h2=>absurd h2 h1) (.inl rfl)⟩
  | dummy=>exact step (some (at' t.mask h n k)) ⟨by rw[hs];exact (λ q=>by cases q),λ i e=>by rw[hs]at e;cases e⟩ (.inr ⟨rfl,hs⟩)
  | live i=>
   dsimp only
   by_cases hh:hashAt i=h
   ·rw[if_pos (by rw[hh];exact beq_self_eq_true _)]
    exact⟨_,rfl,.cand n k i _ on hs hh irr (λ a b _ h1 h2=>absurd h2 h1)⟩
   ·rw[if_neg (by intro q;exact hh (eq_of_beq q))]
    exact step d ⟨by rw[hs];exact (λ q=>by cases q),λ i' e=>by rw[hs]at e;cases e;exact hh⟩ (.inl rfl)
theorem znP {t:SetTable}{hashAt:Nat->Int}{h:Int}(g:zfO t.mask){e:Nat}(he:e<=t.mask)(hs:t.slot e=.empty):
  ∃ met,t.probe hashAt h (t.probeStart h)=some met/\zsU t hashAt h 0 0 none met:=by
 refine q12 (zpB g h he) λ N hN eN=>?_;rw[zsG];unfold SetTable.probe SetTable.turns;refine yeP (N:=N) (by rw[eN];exact hs) _ 0 0 none (Nat.zero_le _) (by lia) (by lia)
end Tab
namespace Tab
theorem nodup_le {α:Type}[DecidableEq α]:∀ (l l':List α),l.Nodup->(∀ a∈l,a∈l')->l.length<=l'.length:=by
 intro l
 induction l with
 | nil=>intro _ _ _;exact Nat.zero_le _
 | cons a l ih=>
  intro l' hn hs;have ha:a∈l':=hs a (List.mem_cons.mpr (Or.inl rfl));have hn':=List.nodup_cons.mp hn;have h1:=ih (l'.erase a) hn'.2 λ b hb=>by
   have hne:b≠a:=λ e=>hn'.1 (e▸hb);exact (List.mem_erase_of_ne hne).mpr (hs b (List.mem_cons.mpr (Or.inr hb)))
  have h2:=List.length_erase_of_mem ha;have h3:0<l'.length:=List.length_pos_of_mem ha;rw[List.length_cons];lia
theorem yoZ (l:List Nat)(m:Nat)(h:l.length<=m):∃ e,e<=m/\e∉l:=by
 cases hq:(List.range (m+1)).find? (λ e=>decide (e∉l)) with
 | some e=>
  have h1:=List.mem_range.mp (List.mem_of_find?_eq_some hq);have h2:=List.find?_some hq;exact⟨e,by lia,by simpa using h2⟩
 | none=>
  exfalso
  have:=List.find?_eq_none.mp hq;have h2:=nodup_le (List.range (m+1)) l List.nodup_range λ a ha=>by
   have:=this a ha
   simpa using this
  rw[List.length_range]at h2;lia
noncomputable def Reached (t:SetTable)(h:Int)(j:Nat):Prop:=
 ∃ n k,On t.mask h n k/\at' t.mask h n k=j/\∀ a b,On t.mask h a b->zbM a b n k->t.slot (at' t.mask h a b)≠.empty
structure Inv0 (t:SetTable)(hs:List Int):Prop extends Ok t where
 size:t.place.size=hs.length
 mask:zfO t.mask
 nodup:hs.Nodup
 reach:∀ (i j:Nat) (h:Int),t.place[i]?=some j->hs[i]?=some h->Reached t h j
structure Inv (t:SetTable)(hs:List Int):Prop extends Inv0 t hs where
 room:t.fill*5<t.mask*3
theorem Inv0.free {t:SetTable}{hs:List Int}(_:Inv0 t hs)(hf:t.fill<=t.mask):∃ e,e<=t.mask/\e∉t.place.toList/\e∉t.dummies.toList:=by
 refine q12 (yoZ (t.place.toList++t.dummies.toList) t.mask (by
  rw[List.length_append,Array.length_toList,Array.length_toList];exact hf)) λ e he hn=>?_
 rw[List.mem_append,not_or]at hn;exact⟨e,he,hn⟩
noncomputable def hashIn (hs:List Int)(i:Nat):Int:=(hs[i]?).getD 0
theorem Inv.fillLe {t:SetTable}{hs:List Int}(I:Inv t hs):t.fill<=t.mask:=by
 have:=I.room;lia
theorem search_there {t:SetTable}{hs:List Int}(I:Inv t hs){i:Nat}{h:Int}(hi:hs[i]?=some h):
  ∃ j next,t.probe (hashIn hs) h (t.probeStart h)=some (.candidate j i next)/\t.place[i]?=some j:=by
 refine q12 (I.toInv0.free I.fillLe) λ e he hn=>?_;refine q12 (znP (hashAt:=hashIn hs) (h:=h) I.mask he ((zdJ I.toOk).mpr hn)) λ met hm M=>?_;have hlt:i<t.place.size:=by rw[I.size];exact (List.getElem?_eq_some_iff.mp hi).1
 refine q23 (I.reach i t.place[i] h (Array.getElem?_eq_getElem hlt) hi) λ n0 k0 on0 a0 b0=>?_;have hl0:t.slot (at' t.mask h n0 k0)=.live i:=by rw[a0];exact (slot_live I.toOk).mpr (Array.getElem?_eq_getElem hlt)
 cases M with
 | empty n' k' d' on e' ge bef dum=>
  exfalso
  rcases Nat.lt_trichotomy n' n0 with q|q|q
  ·exact b0 n' k' on (.inl q) e'
  ·subst q
   rcases Nat.lt_trichotomy k' k0 with q|q|q
   ·exact b0 n' k' on (.inr ⟨rfl,q⟩) e'
   ·subst q;rw[hl0]at e';cases e'
   ·exact (bef n' k0 on0 (by unfold zbM;lia) (.inr ⟨rfl,q⟩)).2 i hl0 (by simp[hashIn,hi])
  ·exact (bef n0 k0 on0 (by unfold zbM;lia) (.inl q)).2 i hl0 (by simp[hashIn,hi])
 | cand n' k' i' next on e' hh ge bef=>
  have hp:=(slot_live I.toOk).mp e';have hlt':i'<hs.length:=by rw[<- I.size];exact (Array.getElem?_eq_some_iff.mp hp).1
  have:i'=i:=by
   have h1:hs[i']?=some h:=by
    have:=hh;unfold hashIn at this;rw[List.getElem?_eq_getElem hlt']at this ⊢;exact congrArg some this
   exact (List.getElem?_inj hlt' I.nodup).mp (h1.trans hi.symm)
  subst this;exact⟨_,next,hm,hp⟩
structure FreeAt (t:SetTable)(h:Int)(s:Nat)(wd:Bool):Prop where
 slot:t.slot s=if wd then .dummy else .empty
 le:s<=t.mask
 reach:Reached t h s
theorem search_absent {t:SetTable}{hs:List Int}(I:Inv t hs){h:Int}(hn:h∉hs):
  ∃ j d,t.probe (hashIn hs) h (t.probeStart h)=some (.empty j d)/\FreeAt t h (d.getD j) d.isSome:=by
 refine q12 (I.toInv0.free I.fillLe) λ e he hn'=>?_;refine q12 (znP (hashAt:=hashIn hs) (h:=h) I.mask he ((zdJ I.toOk).mpr hn')) λ met hm M=>?_;cases M with
 | empty n' k' d' on e' ge bef dum=>
  refine⟨_,d',hm,?_⟩;rcases dum with rfl|⟨a,b,x1,x2,x3,rfl,x5⟩
  ·exact⟨e',ygA (zuA _ _ _) on,n',k',on,rfl,λ a b ho ha=>(bef a b ho (by unfold zbM;lia) ha).1⟩
  ·exact⟨x5,ygA (zuA _ _ _) x1,a,b,x1,rfl,λ a' b' ho ha=>(bef a' b' ho (by unfold zbM;lia) (by unfold zbM at *;lia)).1⟩
 | cand n' k' i' next on e' hh ge bef=>
  exfalso
  have hp:=(slot_live I.toOk).mp e';have hlt':i'<hs.length:=by rw[<- I.size];exact (Array.getElem?_eq_some_iff.mp hp).1
  unfold hashIn at hh;rw[List.getElem?_eq_getElem hlt']at hh;exact hn (hh▸List.getElem_mem hlt')
theorem Reached.mono {t t':SetTable}{h:Int}{j:Nat}(hm:t'.mask=t.mask)(k:∀ x,t.slot x≠.empty->t'.slot x≠.empty)(r:Reached t h j):Reached t' h j:=by
 refine q23 r λ n kk on e b=>?_;unfold Reached;rw[hm];exact⟨n,kk,on,e,λ a c ho ha=>k _ (b a c ho ha)⟩
theorem getElem?_insert {α:Type}(l:List α)(p:Nat)(x:α)(hp:p<=l.length)(i:Nat):
  (l.take p++x::l.drop p)[i]?=if i<p then l[i]? else if i=p then some x else l[i-1]?:=by
 have hlen:(l.take p).length=p:=by rw[List.length_take];lia
 rw[List.getElem?_append,hlen]
 by_cases h:i<p
 ·simp only[h,if_true];rw[List.getElem?_take];simp[h]
 ·simp only[h,if_false]
  by_cases h2:i=p
  ·subst h2;simp
  ·simp only[h2,if_false]
   rw[List.getElem?_cons];rw[if_neg (by lia),List.getElem?_drop]
   congr 1;lia
theorem zfI (t:SetTable)(s:Nat):t.put s=({ t with place:=SetTable.insertAt t.place (SetTable.below t.place s) s,dummies:=if SetTable.has t.dummies s then SetTable.eraseAt t.dummies (SetTable.below t.dummies s) else t.dummies },SetTable.below t.place s):=rfl
theorem znW {xs:Array Nat}(hs:xs.toList.Pairwise (· < ·)){j:Nat}(hj:j∈xs.toList)(y:Nat):
  y∈(SetTable.eraseAt xs (SetTable.below xs j)).toList↔y∈xs.toList/\y≠j:=by
 rw[toList_eraseAt];obtain⟨i,hi⟩:=Array.getElem?_of_mem (Array.mem_toList_iff.mp hj);rw[ziU hs hi];have hnd:xs.toList.Nodup:=hs.imp (λ h=>Nat.ne_of_lt h);have hi':xs.toList[i]?=some j:=by simpa using hi
 constructor
 ·intro h
  refine⟨List.mem_of_mem_eraseIdx h,λ e=>?_⟩;subst e;rw[List.mem_eraseIdx_iff_getElem?]at h;refine q12 h λ k hk e=>?_;exact hk ((List.getElem?_inj (List.getElem?_eq_some_iff.mp e).1 hnd).mp (e.trans hi'.symm))
 ·intro ⟨h1,h2⟩
  rw[List.mem_eraseIdx_iff_getElem?];obtain⟨k,hk⟩:=List.mem_iff_getElem?.mp h1;refine⟨k,λ e=>h2 ?_,hk⟩;subst e;rw[hi']at hk;exact (Option.some.inj hk).symm
theorem zkT {xs:Array Nat}(p j y:Nat):y∈(SetTable.insertAt xs p j).toList↔y=j\/y∈xs.toList:=by
 have:=(SetTable.insertAt_perm xs p j).mem_iff (a:=y);rw[this]
 simp[or_comm]
theorem put_inv {t:SetTable}{hs:List Int}(I:Inv t hs){h:Int}(hn:h∉hs){s:Nat}{wd:Bool}(F:FreeAt t h s wd):
  Inv0 (t.put s).1 (hs.take (t.put s).2++h::hs.drop (t.put s).2)/\(t.put s).1.fill=(if wd then t.fill else t.fill+1)/\(t.put s).2<=hs.length/\(t.put s).1.mask=t.mask /\
   (t.put s).1.led=t.led/\(t.put s).1.plain=t.plain:=by
 have hsp:s∉t.place.toList:=by
  intro hm;obtain⟨i,hi⟩:=Array.getElem?_of_mem (Array.mem_toList_iff.mp hm);have:=F.slot;rw[(slot_live I.toOk).mpr hi]at this;cases wd <;> cases this
 have hbl:=(below_spec I.sp s).1;have hple:SetTable.below t.place s<=hs.length:=by rw[<- I.size];exact hbl
 have hdm:∀ y,y∈(t.put s).1.dummies.toList↔y∈t.dummies.toList/\y≠s:=by
  intro y;rw[zfI];dsimp only
  by_cases q:SetTable.has t.dummies s=true
  ·rw[if_pos q];exact znW I.sd ((zkH I.sd s).mp q) y
  ·rw[if_neg q]
   refine⟨λ h=>⟨h,λ e=>q ((zkH I.sd s).mpr (e▸h))⟩,λ h=>h.1⟩
 have hpm:∀ y,y∈(t.put s).1.place.toList↔y=s\/y∈t.place.toList:=λ y=>by rw[zfI];exact zkT _ _ _
 have ok':Ok (t.put s).1:=by
  refine⟨?_,?_,?_,?_,?_⟩
  ·rw[zfI];exact zeE I.sp hsp
  ·rw[zfI];dsimp only
   split
   ·rw[toList_eraseAt];exact I.sd.sublist (List.eraseIdx_sublist _ _)
   ·exact I.sd
  ·intro j hj
   rcases (hpm j).mp hj with rfl|q
   ·exact F.le
   ·exact I.bp j q
  ·intro j hj;exact I.bd j ((hdm j).mp hj).1
  ·intro j hj hd
   obtain⟨d1,d2⟩:=(hdm j).mp hd;rcases (hpm j).mp hj with q|q
   ·exact d2 q
   ·exact I.dj j q d1
 have ne':∀ x,t.slot x≠.empty->(t.put s).1.slot x≠.empty:=by
  intro x hx he;obtain⟨e1,e2⟩:=(zdJ ok').mp he;refine hx ((zdJ I.toOk).mpr ⟨λ q=>e1 ((hpm x).mpr (.inr q)),λ q=>?_⟩)
  by_cases hxs:x=s
  ·exact e1 ((hpm x).mpr (.inl hxs))
  ·exact e2 ((hdm x).mpr ⟨q,hxs⟩)
 have hgp:∀ i,(t.put s).1.place[i]?=if i<(t.put s).2 then t.place[i]? else if i=(t.put s).2 then some s else t.place[i-1]?:=by
  intro i;have h1:(t.put s).1.place[i]?=(t.place.toList.take (t.put s).2++s::t.place.toList.drop (t.put s).2)[i]?:=by
   have:(t.put s).1.place.toList=t.place.toList.take (t.put s).2++s::t.place.toList.drop (t.put s).2:=by
    rw[zfI];exact SetTable.toList_insertAt _ _ _
   rw[<- this];simp
  rw[h1,getElem?_insert _ _ _ (by rw[Array.length_toList];exact hbl)]
  simp
 refine⟨⟨ok',?_,I.mask,?_,?_⟩,?_,hple,rfl,rfl,rfl⟩
 ·have h1:(t.put s).1.place.size=t.place.size+1:=by
   have:=(SetTable.insertAt_perm t.place (SetTable.below t.place s) s).length_eq;rw[zfI];simpa using this
  rw[h1,I.size];have:(t.put s).2<=hs.length:=hple;simp only[List.length_append,List.length_take,List.length_cons,List.length_drop];lia
 ·have hp:(hs.take (t.put s).2++h::hs.drop (t.put s).2).Perm (h::hs):=by
   refine List.perm_middle.trans ?_;rw[List.take_append_drop]
  exact hp.nodup_iff.mpr (List.nodup_cons.mpr ⟨hn,I.nodup⟩)
 ·intro i j h' hj hh
  rw[hgp]at hj;rw[getElem?_insert _ _ _ (show (t.put s).2<=hs.length from hple)]at hh
  by_cases q:i<(t.put s).2
  ·rw[if_pos q]at hj hh
   exact Reached.mono (t:=t) (t':=(t.put s).1) rfl ne' (I.reach i j h' hj hh)
  ·rw[if_neg q]at hj hh
   by_cases q2:i=(t.put s).2
   ·rw[if_pos q2]at hj hh
    cases hj;cases hh;exact Reached.mono (t:=t) (t':=(t.put s).1) rfl ne' F.reach
   ·rw[if_neg q2]at hj hh
    exact Reached.mono (t:=t) (t':=(t.put s).1) rfl ne' (I.reach _ j h' hj hh)
 ·have h1:(t.put s).1.place.size=t.place.size+1:=by
   have:=(SetTable.insertAt_perm t.place (SetTable.below t.place s) s).length_eq;rw[zfI];simpa using this
  unfold SetTable.fill;rw[h1];cases wd with
  | true=>
   have hsd:s∈t.dummies.toList:=(zkK I.toOk).mp F.slot;have:(t.put s).1.dummies.size=t.dummies.size-1:=by
    rw[zfI];dsimp only;rw[if_pos ((zkH I.sd s).mpr hsd),<- Array.length_toList,toList_eraseAt,List.length_eraseIdx];obtain⟨i,hi⟩:=Array.getElem?_of_mem (Array.mem_toList_iff.mp hsd);rw[ziU I.sd hi,if_pos (by simpa using (Array.getElem?_eq_some_iff.mp hi).1)]
    simp
   have hpos:0<t.dummies.size:=by
    rw[<- Array.length_toList];exact List.length_pos_of_mem hsd
   simp only[if_true];rw[this];lia
  | false=>
   have hsd:s∉t.dummies.toList:=((zdJ I.toOk).mp F.slot).2;have:(t.put s).1.dummies=t.dummies:=by
    rw[zfI];dsimp only;rw[if_neg (λ q=>hsd ((zkH I.sd s).mp q))]
   rw[this];simp only[Bool.false_eq_true,if_false];lia
theorem drop_inv {t:SetTable}{hs:List Int}(I:Inv t hs){i:Nat}(hi:i<hs.length):
  Inv (t.drop i) (hs.eraseIdx i)/\(t.drop i).mask=t.mask/\(t.drop i).fill=t.fill/\(t.drop i).led=t.led/\(t.drop i).plain=t.plain:=by
 have hlt:i<t.place.size:=by rw[I.size];exact hi
 have hpj:t.place[i]?=some t.place[i]:=Array.getElem?_eq_getElem hlt;have hde:t.drop i={ t with place:=SetTable.eraseAt t.place i,dummies:=SetTable.insertAt t.dummies (SetTable.below t.dummies t.place[i]) t.place[i] }:=by
  unfold SetTable.drop;rw[hpj]
 have hjd:t.place[i]∉t.dummies.toList:=I.dj _ (by simp);have hdm:∀ y,y∈(t.drop i).dummies.toList↔y=t.place[i]\/y∈t.dummies.toList:=λ y=>by rw[hde];exact zkT _ _ _
 have hpm:∀ y,y∈(t.drop i).place.toList↔y∈t.place.toList/\y≠t.place[i]:=λ y=>by
  have:=znW I.sp (j:=t.place[i]) (by simp) y;rw[ziU I.sp hpj]at this;rw[hde];exact this
 have ok':Ok (t.drop i):=by
  refine⟨?_,?_,?_,?_,?_⟩
  ·rw[hde];dsimp only;rw[toList_eraseAt];exact I.sp.sublist (List.eraseIdx_sublist _ _)
  ·rw[hde];exact zeE I.sd hjd
  ·intro j hj;rw[hde];exact I.bp j ((hpm j).mp hj).1
  ·intro j hj
   rw[hde];rcases (hdm j).mp hj with rfl|q
   ·exact I.bp _ (by simp)
   ·exact I.bd j q
  ·intro j hj hd
   obtain⟨p1,p2⟩:=(hpm j).mp hj;rcases (hdm j).mp hd with q|q
   ·exact p2 q
   ·exact I.dj j p1 q
 have ne':∀ x,t.slot x≠.empty->(t.drop i).slot x≠.empty:=by
  intro x hx he;obtain⟨e1,e2⟩:=(zdJ ok').mp he;refine hx ((zdJ I.toOk).mpr ⟨λ q=>?_,λ q=>e2 ((hdm x).mpr (.inr q))⟩)
  by_cases hxs:x=t.place[i]
  ·exact e2 ((hdm x).mpr (.inl hxs))
  ·exact e1 ((hpm x).mpr ⟨q,hxs⟩)
 have hmk:(t.drop i).mask=t.mask:=by rw[hde]
 have hfl:(t.drop i).fill=t.fill:=by
  unfold SetTable.fill;have h1:(t.drop i).place.size=t.place.size-1:=by
   rw[hde];dsimp only;rw[<- Array.length_toList,toList_eraseAt,List.length_eraseIdx,if_pos (by simpa using hlt)];simp
  have h2:(t.drop i).dummies.size=t.dummies.size+1:=by
   have:=(SetTable.insertAt_perm t.dummies (SetTable.below t.dummies t.place[i]) t.place[i]).length_eq;rw[hde];simpa using this
  lia
 refine⟨⟨⟨ok',?_,by rw[hmk];exact I.mask,?_,?_⟩,by rw[hmk,hfl];exact I.room⟩,hmk,hfl,by rw[hde],by rw[hde]⟩
 ·rw[hde];dsimp only
  rw[<- Array.length_toList,toList_eraseAt,List.length_eraseIdx,List.length_eraseIdx,if_pos (by simpa using hlt),if_pos hi,Array.length_toList,I.size]
 ·exact I.nodup.sublist (List.eraseIdx_sublist _ _)
 ·intro q j h' hj hh
  have hj':(t.place.toList.eraseIdx i)[q]?=some j:=by
   rw[<- toList_eraseAt];rw[hde]at hj
   simpa using hj
  rw[List.getElem?_eraseIdx]at hj' hh;have hq:∀ z:Nat,t.place.toList[z]?=t.place[z]?:=λ z=>Array.getElem?_toList;split at hj'
  ·rename_i c
   rw[if_pos c]at hh;rw[hq]at hj';exact (I.reach q j h' hj' hh).mono hmk ne'
  ·rename_i c
   rw[if_neg c]at hh;rw[hq]at hj';exact (I.reach _ j h' hj' hh).mono hmk ne'
end Tab
namespace Tab
noncomputable abbrev zoM:=Array (Option Nat)
noncomputable def occ (ow:zoM)(j:Nat):Prop:=∃ k,ow[j]?=some (some k)
structure zyJ (m:Nat)(hs:List Int)(ow:zoM)(k:Nat):Prop where
 size:ow.size=m+1
 lt:∀ (j i:Nat),ow[j]?=some (some i)->i<k
 inj:∀ (j j' i:Nat),ow[j]?=some (some i)->ow[j']?=some (some i)->j=j'
 all:∀ i:Nat,i<k->∃ j:Nat,ow[j]?=some (some i)
 reach:∀ (j i:Nat) (h:Int),ow[j]?=some (some i)->hs[i]?=some h->∃ n b,On m h n b/\at' m h n b=j/\∀ a c,On m h a c->zbM a c n b->occ ow (at' m h a c)
theorem yhR {m:Nat}{h:Int}{ow:zoM}(hsz:ow.size=m+1){n c:Nat}(hc:c<=len m (blk m h n).1):(ow.getD ((blk m h n).1+c) (some 0)).isNone=true\/occ ow (at' m h n c):=by
 have hlt:(blk m h n).1+c<ow.size:=by rw[hsz];exact Nat.lt_succ_of_le (ygA (zuA m h n) hc)
 rw[show ow.getD ((blk m h n).1+c) (some 0)=ow[(blk m h n).1+c] from dif_pos hlt];cases q:ow[(blk m h n).1+c] with
 | none=>exact .inl rfl
 | some k=>exact .inr ⟨k,by unfold at';rw[Array.getElem?_eq_getElem hlt,q]⟩
theorem yiZ (m a:Nat):SetTable.runEnd m a+1-a=len m a+1:=by
 unfold len SetTable.runEnd;split <;> lia
theorem ycX {m f i p:Nat}{ow:zoM}:SetTable.layClean.free m ow (f+1) i p=SetTable.drop.match_1 (λ _=>Option Nat) ((List.range (SetTable.runEnd m i+1-i)).find? (λ k=>(ow.getD (i+k) (some 0)).isNone)) (λ k=>some (i+k)) (λ _=>SetTable.advance.match_1 (λ _=>Option Nat) (SetTable.leap m i p) λ i p=>SetTable.layClean.free m ow f i p):=rfl
theorem ybH {m:Nat}{h:Int}{ow:zoM}(hsz:ow.size=m+1){N:Nat}(hN:¬ occ ow (blk m h N).1)(f:Nat):
  ∀ (n:Nat),n<=N->N<f+n->(∀ a c,On m h a c->a<n->occ ow (at' m h a c)) ->
   ∃ j,SetTable.layClean.free m ow f (blk m h n).1 (blk m h n).2=some j/\j<=m/\ow[j]?=some none /\
    ∃ n' b,On m h n' b/\at' m h n' b=j/\∀ a c,On m h a c->zbM a c n' b->occ ow (at' m h a c):=by
 induction f with
 | zero=>exact λ n hn hf _=>absurd (Nat.zero_add n▸hf) (Nat.not_lt.mpr hn)
 | succ f ih=>
  intro n hn hf hb;rw[ycX,yiZ];cases hfd:(List.range (len m (blk m h n).1+1)).find? (λ k=>(ow.getD ((blk m h n).1+k) (some 0)).isNone) with
  | some c=>
   have hc:c<=len m (blk m h n).1:=Nat.le_of_lt_succ (List.mem_range.mp (List.mem_of_find?_eq_some hfd));have h2:=List.find?_some hfd;have hle:=ygA (zuA m h n) hc;have hlt:(blk m h n).1+c<ow.size:=by rw[hsz];exact Nat.lt_succ_of_le hle
   refine⟨_,rfl,hle,?_,n,c,hc,rfl,λ a c' ho ha=>ha.elim (hb a c' ho) λ q=>?_⟩
   ·rw[show ow.getD ((blk m h n).1+c) (some 0)=ow[(blk m h n).1+c] from dif_pos hlt,Option.isNone_iff_eq_none]at h2
    rw[Array.getElem?_eq_getElem hlt,h2]
   ·obtain⟨rfl,hlc⟩:=q
    refine (yhR hsz (Nat.le_trans (Nat.le_of_lt hlc) hc)).elim (λ q=>?_) id;refine q02 (List.find?_eq_some_iff_getElem.mp hfd) λ _ u8=>q11 u8 λ i u8=>q12 u8 λ hi' e hbef=>?_;rw[List.getElem_range]at e;subst e;have:=hbef c' hlc;rw[List.getElem_range,q]at this;cases this
  | none=>
   have hno:=List.find?_eq_none.mp hfd;have hall:∀ c,c<=len m (blk m h n).1->occ ow (at' m h n c):=λ c hc=>
    (yhR hsz hc).elim (λ q=>absurd q (hno c (List.mem_range.mpr (Nat.lt_succ_of_le hc)))) id
   have hlt:n<N:=(Nat.lt_or_eq_of_le hn).elim id λ q=>by subst q;exact absurd (hall 0 (Nat.zero_le _)) hN
   exact ih (n+1) hlt (by rw[Nat.add_right_comm]at hf;exact hf) λ a c ho ha=>(Nat.lt_or_eq_of_le (Nat.le_of_lt_succ ha)).elim (hb a c ho) λ q=>by subst q;exact hall c ho
noncomputable def zrN (m:Nat)(acc:Option (zoM×Nat))(h:Int):Option (zoM×Nat):=do
 let (owner,k) <- acc
 let j <- SetTable.layClean.free m owner (SetTable.turns m) (SetTable.bits h % (m+1)) (SetTable.bits h)
 pure (owner.setIfInBounds j (some k),k+1)
theorem zvY (m:Nat)(hashes:Array Int):SetTable.layClean m hashes=(hashes.toList.foldl (zrN m) (some (Array.replicate (m+1) none,0))).map (·.1):=by
 unfold SetTable.layClean;rw[<- Array.foldl_toList]
 rfl
theorem zyJ.free_slot {m:Nat}{hs:List Int}{ow:zoM}{k:Nat}(L:zyJ m hs ow k)(hk:k<=m):∃ e,e<=m/\¬ occ ow e:=by
 by_cases hq:∃ e,e<=m/\¬ occ ow e
 ·exact hq
 ·exfalso
  let g:Nat->Nat:=λ e=>((ow[e]?).getD none).getD 0
  have hg:∀ e,e<m+1->ow[e]?=some (some (g e)):=λ e he=>by
   obtain⟨i,hi⟩:occ ow e:=Classical.byContradiction λ h=>hq ⟨e,Nat.le_of_lt_succ he,h⟩
   show _=some (some (((ow[e]?).getD none).getD 0))
   rw[hi];rfl
  have hnd:((List.range (m+1)).map g).Nodup:=by
   unfold List.Nodup;rw[List.pairwise_map];refine List.Pairwise.imp_of_mem ?_ (List.nodup_range (n:=m+1));intro a b ha hb hab e;have h1:=hg a (List.mem_range.mp ha);have h2:=hg b (List.mem_range.mp hb);rw[<- e]at h2;exact hab (L.inj _ _ _ h1 h2)
  have:=nodup_le _ (List.range k) hnd λ x hx=>by
   refine q12 (List.mem_map.mp hx) λ e he u0=>?_;subst u0;exact List.mem_range.mpr (L.lt _ _ (hg e (List.mem_range.mp he)))
  simp at this
  lia
theorem zyJ.step {m:Nat}(g:zfO m){hs:List Int}{ow:zoM}{k:Nat}(L:zyJ m hs ow k)(hk:k<=m){h:Int}(hh:hs[k]?=some h):
  ∃ ow',zrN m (some (ow,k)) h=some (ow',k+1)/\zyJ m hs ow' (k+1):=by
 refine q12 (L.free_slot hk) λ e he hne=>?_;refine q12 (zpB g h he) λ N hN eN=>?_;refine q14 (ybH (h:=h) L.size (N:=N) (by rw[eN];exact hne) (SetTable.turns m) 0 (Nat.zero_le _) (by unfold SetTable.turns;omega) (λ a c _ ha=>by omega)) λ j hj hjm hjn hr=>?_;refine⟨ow.setIfInBounds j (some k),?_,?_⟩
 ·unfold zrN
  have:SetTable.layClean.free m ow (SetTable.turns m) (SetTable.bits h % (m+1)) (SetTable.bits h)=some j:=hj;simp only[Option.bind_eq_bind,Option.bind_some,this,Option.pure_def]
 ·have hjs:j<ow.size:=by rw[L.size];lia
  have hget:∀ x:Nat,(ow.setIfInBounds j (some k))[x]?=if j=x then some (some k) else ow[x]?:=by
   intro x;rw[Array.getElem?_setIfInBounds];split
   ·first|rfl|rw[if_pos hjs]
   ·rfl
  have hocc:∀ x,occ ow x->occ (ow.setIfInBounds j (some k)) x:=λ x u9=>q11 u9 λ i hi=>by
   by_cases q:j=x
   ·exact⟨k,by rw[hget,if_pos q]⟩
   ·exact⟨i,by rw[hget,if_neg q];exact hi⟩
  refine⟨by rw[Array.size_setIfInBounds];exact L.size,?_,?_,?_,?_⟩
  ·intro x i hx
   rw[hget]at hx;split at hx
   ·cases hx;lia
   ·have:=L.lt x i hx;lia
  ·intro x y i hx hy
   rw[hget]at hx hy;split at hx <;> split at hy
   ·rename_i a b;lia
   ·cases hx;have:=L.lt y _ hy;lia
   ·cases hy;have:=L.lt x _ hx;lia
   ·exact L.inj x y i hx hy
  ·intro i hi
   rcases Nat.lt_or_eq_of_le (Nat.le_of_lt_succ hi) with q|rfl
   ·obtain⟨x,hx⟩:=L.all i q
    refine⟨x,?_⟩;rw[hget,if_neg]
    ·exact hx
    ·intro e';subst e';rw[hjn]at hx;cases hx
   ·exact⟨j,by rw[hget,if_pos rfl]⟩
  ·intro x i h' hx hi
   rw[hget]at hx;split at hx
   ·rename_i e'
    cases hx;subst e';rw[hh]at hi;cases hi;refine q23 hr λ n b o1 o2 o3=>?_;exact⟨n,b,o1,o2,λ a c ho ha=>hocc _ (o3 a c ho ha)⟩
   ·refine q23 (L.reach x i h' hx hi) λ n b o1 o2 o3=>?_
    exact⟨n,b,o1,o2,λ a c ho ha=>hocc _ (o3 a c ho ha)⟩
theorem zyJ.run {m:Nat}(g:zfO m)(hs rest:List Int):∀ (k:Nat) (ow:zoM),zyJ m hs ow k->hs.drop k=rest->k+rest.length<=m ->
  ∃ ow',rest.foldl (zrN m) (some (ow,k))=some (ow',k+rest.length)/\zyJ m hs ow' (k+rest.length):=by
 induction rest with
 | nil=>exact λ k ow L _ _=>⟨ow,rfl,L⟩
 | cons h rest ih=>
  intro k ow L hd hl;have hh:hs[k]?=some h:=by rw[<- Nat.add_zero k,<- List.getElem?_drop,hd];rfl
  have e:k+(h::rest).length=k+1+rest.length:=(Nat.add_right_comm k 1 rest.length).symm;rw[e]at hl ⊢;refine q12 (L.step g (Nat.le_trans (Nat.le_add_right k 1) (Nat.le_trans (Nat.le_add_right _ _) hl)) hh) λ ow1 e1 L1=>?_;refine q12 (ih (k+1) ow1 L1 (by rw[<- List.drop_drop,hd];rfl) hl) λ ow2 e2 L2=>?_;exact⟨ow2,by rw[List.foldl_cons,e1,e2],L2⟩
theorem zyJ.start (m:Nat)(hs:List Int):zyJ m hs (Array.replicate (m+1) none) 0:=by
 have hno:∀ (j i:Nat),(Array.replicate (m+1) (none:Option Nat))[j]?≠some (some i):=by
  intro j i e;rw[Array.getElem?_replicate]at e;split at e <;> simp at e
 refine⟨by simp,?_,?_,?_,?_⟩
 ·intro j i h;exact absurd h (hno j i)
 ·intro j j' i h;exact absurd h (hno j i)
 ·intro i h;lia
 ·intro j i h e;exact absurd e (hno j i)
end Tab
namespace Tab
theorem filterMap_all_some {α β:Type}(f:α->Option β)(l:List α):(∀ a∈l,(f a).isSome=true)->∀ q:Nat,(l.filterMap f)[q]?=(l[q]?).bind f:=by
 induction l with
 | nil=>exact λ _ _=>rfl
 | cons a l ih=>
  intro h q;obtain⟨b,hb⟩:=Option.isSome_iff_exists.mp (h a (.head _));rw[List.filterMap_cons_some hb];cases q with
  | zero=>exact hb.symm
  | succ q=>exact ih (λ x hx=>h x (.tail _ hx)) q
theorem laid_ok {m:Nat}(finger moves:Nat)(led plain:Bool){hashes:Array Int}(g:zfO m)(hn:hashes.toList.Nodup)(hroom:hashes.size<=m):
  ∃ t order,SetTable.laid m finger moves led plain hashes=some (t,order)/\order.toList.Perm (List.range hashes.size)/\t.mask=m/\t.led=led/\t.plain=plain/\t.dummies=#[] /\
   t.fill=hashes.size/\Inv0 t (order.toList.filterMap λ i=>hashes.toList[i]?):=by
 refine q12 (zyJ.run g hashes.toList hashes.toList 0 _ (zyJ.start m hashes.toList) rfl (by simpa using hroom)) λ ow e L=>?_;have L:zyJ m hashes.toList ow hashes.size:=by simpa using L
 have hlc:SetTable.layClean m hashes=some ow:=by rw[zvY,e];rfl
 let live:=(List.range (m+1)).filterMap λ j=>(ow.getD j none).map (j,·)
 have hmem:∀ j i,(j,i)∈live↔ow[j]?=some (some i):=by
  intro j i
  show (j,i)∈(List.range (m+1)).filterMap _↔_
  rw[List.mem_filterMap];constructor
  ·intro uu;refine q12 uu λ x hx hy=>?_
   have hlt:x<ow.size:=by rw[L.size];exact List.mem_range.mp hx
   cases q:ow[x] with
   | none=>simp[Array.getD,hlt,q]at hy
   | some k=>
    simp[Array.getD,hlt,q]at hy
    obtain⟨rfl,rfl⟩:=hy;rw[Array.getElem?_eq_getElem hlt,q]
  ·intro h
   have hlt:=(Array.getElem?_eq_some_iff.mp h).1;refine⟨j,List.mem_range.mpr (by rw[L.size]at hlt;exact hlt),?_⟩
   simp[Array.getD,hlt]
   exact (Array.getElem?_eq_some_iff.mp h).2
 have hsorted:(live.map (·.1)).Pairwise (· < ·):=by
  rw[List.pairwise_map]
  show ((List.range (m+1)).filterMap _).Pairwise _
  rw[List.pairwise_filterMap];refine List.Pairwise.imp ?_ (List.pairwise_lt_range (n:=m+1));intro a b hab x hx y hy;refine q12 (Option.map_eq_some_iff.mp hx) λ i _ u0=>?_;subst u0;refine q12 (Option.map_eq_some_iff.mp hy) λ i' _ u0=>?_;subst u0;exact hab
 have hordnd:(live.map (·.2)).Nodup:=by
  unfold List.Nodup;rw[List.pairwise_map];rw[List.pairwise_map]at hsorted;refine List.Pairwise.imp_of_mem ?_ hsorted;intro a b ha hb hab e';obtain⟨a1,a2⟩:=a;obtain⟨b1,b2⟩:=b;have e':a2=b2:=e';subst e';exact Nat.ne_of_lt hab (L.inj _ _ _ ((hmem _ _).mp ha) ((hmem _ _).mp hb))
 have hperm:(live.map (·.2)).Perm (List.range hashes.size):=by
  refine (List.perm_ext_iff_of_nodup hordnd List.nodup_range).mpr λ i=>?_;rw[List.mem_map,List.mem_range];constructor
  ·rintro⟨⟨j,i'⟩,h,rfl⟩
   exact L.lt _ _ ((hmem _ _).mp h)
  ·intro h
   obtain⟨j,hj⟩:=L.all i h;exact⟨(j,i),(hmem _ _).mpr hj,rfl⟩
 have hlen:live.length=hashes.size:=by
  have:=hperm.length_eq
  simpa using this
 refine⟨{ mask:=m,place:=(live.map (·.1)).toArray,dummies:=#[],finger,led,moves,plain },(live.map (·.2)).toArray,?_,by simpa using hperm,rfl,rfl,rfl,rfl,?_,?_⟩
 ·unfold SetTable.laid
  rw[hlc]
  rfl
 ·show (live.map (·.1)).toArray.size+0=_
  simpa using hlen
 ·have hok:Ok { mask:=m,place:=(live.map (·.1)).toArray,dummies:=#[],finger:=finger,led:=led,moves:=moves,plain:=plain }:=by
   refine⟨hsorted,by simp,?_,by simp,by simp⟩;intro j hj;refine q12 (List.mem_map.mp hj) λ u0 h u1=>?_;obtain⟨j',i⟩:=u0;subst u1;have:=(Array.getElem?_eq_some_iff.mp ((hmem _ _).mp h)).1;rw[L.size]at this;exact Nat.le_of_lt_succ this
  have hall:∀ i∈live.map (·.2),(hashes.toList[i]?).isSome=true:=by
   intro i hi;have:=List.mem_range.mp (hperm.mem_iff.mp hi);rw[List.getElem?_eq_getElem (by simpa using this)];rfl
  refine⟨hok,?_,g,?_,?_⟩
  ·have h1:((live.map (·.2)).filterMap λ i=>hashes.toList[i]?).Perm ((List.range hashes.size).filterMap λ i=>hashes.toList[i]?):=hperm.filterMap _
   have h2:=List.filterMap_getElem?_range_length hashes.toList;rw[Array.length_toList]at h2;rw[h2]at h1;have:=h1.length_eq;simp only[List.size_toArray,List.length_map,Array.length_toList]at this ⊢;rw[hlen];exact this.symm
  ·have h1:((live.map (·.2)).filterMap λ i=>hashes.toList[i]?).Perm ((List.range hashes.size).filterMap λ i=>hashes.toList[i]?):=hperm.filterMap _
   have h2:=List.filterMap_getElem?_range_length hashes.toList;rw[Array.length_toList]at h2;rw[h2]at h1;exact h1.nodup_iff.mpr hn
  ·intro q j h hj hh
   have hj':(live.map (·.1))[q]?=some j:=by simpa using hj
   have hh':((live.map (·.2)).filterMap λ i=>hashes.toList[i]?)[q]?=some h:=hh;rw[filterMap_all_some _ _ hall]at hh';rw[List.getElem?_map]at hj' hh';refine q12 (Option.map_eq_some_iff.mp hj') λ u0 hx u1=>?_;obtain⟨j',i⟩:=u0;subst u1;rw[hx]at hh';have hh2:hashes.toList[i]?=some h:=by simpa using hh'
   refine q23 (L.reach _ i h ((hmem _ _).mp (List.mem_of_getElem? hx)) hh2) λ n b o1 o2 o3=>?_;refine⟨n,b,o1,o2,λ a c ho ha he=>?_⟩;obtain⟨i',hi'⟩:=o3 a c ho ha;have:=((zdJ hok).mp he).1;exact this (List.mem_map.mpr ⟨_,(hmem _ _).mpr hi',rfl⟩)
theorem sizeAbove_ok:∀ n,n<128->zfO (SetTable.sizeAbove n-1)/\n<SetTable.sizeAbove n:=by
 have h:(List.range 128).all (λ n=>(SetTable.sizeAbove n-1==7||SetTable.sizeAbove n-1==15||SetTable.sizeAbove n-1==31||SetTable.sizeAbove n-1==63||SetTable.sizeAbove n-1==127)&&decide (n<SetTable.sizeAbove n))=true:=by decide +kernel
 intro n hn;have:=List.all_eq_true.mp h n (List.mem_range.mpr hn);obtain⟨h1,h2⟩:=Bool.and_eq_true_iff.mp this;refine⟨?_,of_decide_eq_true h2⟩;generalize SetTable.sizeAbove n-1=m at h1;rcases (Bool.or_eq_true _ _).mp h1 with h1|h1
 ·rcases (Bool.or_eq_true _ _).mp h1 with h1|h1
  ·rcases (Bool.or_eq_true _ _).mp h1 with h1|h1
   ·rcases (Bool.or_eq_true _ _).mp h1 with h1|h1
    ·exact .inl (eq_of_beq h1)
    ·exact .inr (.inl (eq_of_beq h1))
   ·exact .inr (.inr (.inl (eq_of_beq h1)))
  ·exact .inr (.inr (.inr (.inl (eq_of_beq h1))))
 ·exact .inr (.inr (.inr (.inr (eq_of_beq h1))))
theorem sizeAbove_line:∀ n,n<128->¬ SetTable.sizeAbove n>sizeLine:=by
 have h:(List.range 128).all (λ n=>decide (SetTable.sizeAbove n<=128))=true:=by decide +kernel
 intro n hn;have:=List.all_eq_true.mp h n (List.mem_range.mpr hn);have h1:SetTable.sizeAbove n<=128:=of_decide_eq_true this;have h2:sizeLine=2 ^ 24:=rfl;have h3:(2:Nat) ^ 24=16777216:=by decide
 lia
end Tab
noncomputable abbrev Pt:=Int×Int
noncomputable def zeL (p:Pt):Prop:=0<=p.1/\p.1<5/\0<=p.2/\p.2<5
noncomputable def zaN (p:Pt):Int:=reduceHash (Builtin.Tuple.tupleHashOf [hashInt p.1,hashInt p.2])
noncomputable def zuI:List Pt:=[0,1,2,3,4].flatMap λ r=>[0,1,2,3,4].map λ c=>((r:Int),(c:Int))
theorem zkF {p:Pt}(h:zeL p):p∈zuI:=by
 obtain⟨r,c⟩:=p;refine q04 h λ h1 h2 h3 h4=>?_;simp only at h1 h2 h3 h4;obtain⟨i,rfl⟩:=Int.eq_ofNat_of_zero_le h1;obtain⟨j,rfl⟩:=Int.eq_ofNat_of_zero_le h3;have k:∀ i<5,((i:Nat):Int)∈([0,1,2,3,4]:List Int):=by decide +kernel
 exact List.mem_flatMap.mpr ⟨_,k i (Int.ofNat_lt.mp h2),List.mem_map.mpr ⟨_,k j (Int.ofNat_lt.mp h4),rfl⟩⟩
theorem zvK:(zuI.map zaN).Nodup:=by decide +kernel
theorem zqM {p q:Pt}(hp:zeL p)(hq:zeL q)(h:zaN p=zaN q):p=q:=by
 obtain⟨i,hi⟩:=List.mem_iff_getElem?.mp (zkF hp);obtain⟨j,hj⟩:=List.mem_iff_getElem?.mp (zkF hq);have h1:(zuI.map zaN)[i]?=some (zaN p):=by rw[List.getElem?_map,hi];rfl
 have h2:(zuI.map zaN)[j]?=some (zaN p):=by rw[List.getElem?_map,hj,h];rfl
 have:=(List.getElem?_inj (List.getElem?_eq_some_iff.mp h1).1 zvK).mp (h1.trans h2.symm);subst this;rw[hi]at hj;exact Option.some.inj hj
noncomputable def zhJ (h:Heap)(p:Pt)(v:Value):Prop:=
 ∃ a o n t u,v=.ref a/\h.get? a=some o/\o.cls=.type "tuple" /\ o.dict=none/\o.data=.seq #[.int p.1 t,.int p.2 u] n
theorem zhJ.key {prog:Program}{w:World}{h:Heap}{p:Pt}{v:Value}(x:zhJ h p v):∃ a,v=.ref a/\IsTupleKey (intKind prog w) h [p.1,p.2] a:=by
 refine q55 x ?_;clear x;intro a o n t u u0;subst u0;intro ho hc _ hd;refine⟨a,rfl,o,_,n,ho,hc,hd,?_⟩;exact .cons (by simp[intKind,Value.isInt]) (.cons (by simp[intKind,Value.isInt]) .nil)
theorem zhJ.keep {h h':Heap}{p:Pt}{v:Value}(x:zhJ h p v)(k:∀ b o,h.get? b=some o->o.cls=.type "tuple" -> (∃ vs n,o.data=.seq vs n)->∃ sl,h'.get? b=some { o with slots:=sl }):zhJ h' p v:=by
 refine q55 x ?_;clear x;intro a o n t u u0;subst u0;intro ho hc hd hs;obtain⟨sl,e⟩:=k a o ho hc ⟨_,_,hs⟩;exact⟨a,_,n,t,u,rfl,e,hc,hd,hs⟩
structure Els (h:Heap)(l:List Pt)(es:List (Int×Value)):Prop where
 hash:es.map (·.1)=l.map zaN
 pts:∀ (i:Nat) (p:Pt) (e:Int×Value),l[i]?=some p->es[i]?=some e->zhJ h p e.2
theorem Els.length {h:Heap}{l:List Pt}{es:List (Int×Value)}(x:Els h l es):es.length=l.length:=by
 have:=congrArg List.length x.hash
 simpa using this
theorem Els.at {h:Heap}{l:List Pt}{es:List (Int×Value)}(x:Els h l es){i:Nat}{p:Pt}(hi:l[i]?=some p):∃ v,es[i]?=some (zaN p,v)/\zhJ h p v:=by
 have hlt:=(List.getElem?_eq_some_iff.mp hi).1;have hlt':i<es.length:=by rw[x.length];exact hlt
 have h1:(es.map (·.1))[i]?=some (zaN p):=by rw[x.hash,List.getElem?_map,hi];rfl
 rw[List.getElem?_map,List.getElem?_eq_getElem hlt']at h1;have h2:es[i].1=zaN p:=by simpa using h1
 refine⟨es[i].2,?_,x.pts i p es[i] hi (List.getElem?_eq_getElem hlt')⟩;rw[List.getElem?_eq_getElem hlt',<- h2]
theorem Els.keep {h h':Heap}{l:List Pt}{es:List (Int×Value)}(x:Els h l es)(k:∀ b o,h.get? b=some o->o.cls=.type "tuple" -> (∃ vs n,o.data=.seq vs n)->∃ sl,h'.get? b=some { o with slots:=sl }):Els h' l es:=
 ⟨x.hash,λ i p e h1 h2=>(x.pts i p e h1 h2).keep k⟩
structure zfB (w:World)(h:Heap)(a:Addr)(l:List Pt):Prop where
 obj:∃ o es ep t,h.get? a=some o/\o.ExactSet/\o.data=.set es ep t/\Tab.Inv t (es.toList.map (·.1))/\(w.params.followText "set-order" = false->t.led=true/\t.plain=true)/\Els h l es.toList
 box:∀ p∈l,zeL p
theorem zfB.nodup {w:World}{h:Heap}{a:Addr}{l:List Pt}(S:zfB w h a l):l.Nodup:=by
 refine q46 S.obj λ o es ep t ho hx hd I hb E=>?_;have:=I.nodup;rw[E.hash]at this;unfold List.Nodup at this;rw[List.pairwise_map]at this;exact this.imp (λ hne e=>hne (congrArg zaN e))
theorem zfB.keep {w:World}{h h':Heap}{a:Addr}{l:List Pt}(S:zfB w h a l)(ha:h'.get? a=h.get? a)(k:∀ b o,h.get? b=some o->o.cls=.type "tuple" -> (∃ vs n,o.data=.seq vs n)->∃ sl,h'.get? b=some { o with slots:=sl }):zfB w h' a l:=by
 refine q46 S.obj λ o es ep t ho hx hd I hb E=>?_;exact⟨⟨o,es,ep,t,ha.trans ho,hx,hd,I,hb,E.keep k⟩,S.box⟩
theorem zfB.typeIs {w:World}{s:Shared}{a:Addr}{l:List Pt}(S:zfB w s.heap a l):s.TypeIs (.ref a) "set":=
 by refine q43 S.obj λ o _ _ _ ho hx _=>?_;exact⟨o,ho,hx.1⟩
theorem zfB.noDict {w:World}{h:Heap}{a:Addr}{l:List Pt}(S:zfB w h a l):∀ b,Value.ref a=.ref b->∃ ob,h.get? b=some ob/\ob.dict=none:=
 λ b e=>by injection e with e;subst e;refine q43 S.obj λ o _ _ _ ho hx _=>?_;exact⟨o,ho,hx.2.1⟩
theorem zdY {α:Type}{M:Model}{A:Around}{E:Value->Shared->Prop}{s:Shared}{c:Prop}[Decidable c]{a b:Sem α}{Q:α->Shared->Prop}(h:¬ c)(k:wpAny M A b Q E s):wpAny M A (if c then a else b) Q E s:=by rw[if_neg h];exact k
theorem zjK {α:Type}{M:Model}{A:Around}{E:Value->Shared->Prop}{s:Shared}{c:Prop}[Decidable c]{a b:Sem α}{Q:α->Shared->Prop}(h:c)(k:wpAny M A a Q E s):wpAny M A (if c then a else b) Q E s:=by rw[if_pos h];exact k
theorem wp_eq {α:Type}{M:Model}{A:Around}{E:Value->Shared->Prop}{s:Shared}{a b:Sem α}{Q:α->Shared->Prop}(h:a=b)(k:wpAny M A b Q E s):wpAny M A a Q E s:=h▸k
theorem zbI {t:SetTable}{es:Array (Int×Value)}(I:Tab.Inv t (es.toList.map (·.1))):t.fits es.size=true:=by
 unfold SetTable.fits;have h1:=I.size;have h2:=I.fillLe
 simp at h1
 simp[h1,h2]
theorem zpF {t:SetTable}{hs:List Int}(I:Tab.Inv t hs):t.gaveWay=false:=by
 unfold SetTable.gaveWay;rcases I.mask with h|h|h|h|h <;> rw[h] <;> rfl
section
variable {prog:Program}{w:World}{A:Around}{E:Value->Shared->Prop}{s:Shared}{a:Addr}{l:List Pt}{p:Pt}{x:Value}
theorem zuL {q:Pt}{y:Value}{Q:Bool->Shared->Prop}(hu:A.units<cLine)(hx:zhJ s.heap p x)(hy:zhJ s.heap q y)(h:Q (decide (p=q)) s):
  wpAny (model prog w) A (eqBool x y) Q E s:=by
 refine q12 (hx.key (prog:=prog) (w:=w)) ?_;intro b u0;subst u0;intro k1;refine q12 (hy.key (prog:=prog) (w:=w)) ?_;intro c u0;subst u0;intro k2;refine wpAny_eqBool_tuple hu k1 k2 ?_;have:decide ([p.1,p.2]=[q.1,q.2])=decide (p=q):=by
  apply decide_eq_decide.mpr
  simp[Prod.ext_iff]
 rw[this];exact h
theorem zkL {Q:Int->Shared->Prop}(hu:A.units<cLine)(hx:zhJ s.heap p x)(h:Q (zaN p) { s with toks:=s.toks+3 }):
  wpAny (model prog w) A (pyHash x) Q E s:=by
 refine q12 (hx.key (prog:=prog) (w:=w)) ?_;intro b u0;subst u0;intro k1;exact wpAny_pyHash_tuple hu k1 h
theorem zhG {Q:Bool->Shared->Prop}(hx:zhJ s.heap p x)(h:Q true s):wpAny (model prog w) A (eqIsQuiet 8 x) Q E s:=by
 refine q12 (hx.key (prog:=prog) (w:=w)) ?_;intro b u0;subst u0;intro k1;exact wpAny_eqIsQuiet_tuple k1 h
theorem ziB {Q:Bool->Shared->Prop}(hx:zhJ s.heap p x)(h:Q false s):wpAny (model prog w) A (ofAClassStatement 8 x) Q E s:=by
 refine q55 hx ?_;clear hx;intro b o n t u u0;subst u0;intro ho hc _ hd;have hT:s.TypeIs (.ref b) "tuple" := ⟨o,ho,hc⟩
 delta ofAClassStatement
 refine wpAny_bind (m:=typeOf (.ref b)) (wpAny_typeOf hT ?_);dsimp only;refine wpAny_bind ?_;refine wpAny_pure ?_;rw[if_neg (by decide)];refine wpAny_bind (wpAny_seqItems ho hd ?_);dsimp only;refine wpAny_bind ?_;exact wpAny_of_eq (a:=((none,()):Option Bool×Unit)) rfl (wpAny_pure h)
theorem zmH {ys:List Value}{Q:Bool->Shared->Prop}(hx:zhJ s.heap p x)(hys:∀ y∈ys,∃ q,zhJ s.heap q y)(h:Q false s):wpAny (model prog w) A (searchCouldBeSeen x ys) Q E s:=by
 unfold searchCouldBeSeen;refine wpAny_bind ?_;refine wpAny_forIn_list (s:=s) _ (λ rest b s'=>s'=s/\b=((none,()):Option Bool×Unit)/\∀ y∈rest,∃ q,zhJ s.heap q y) _ ?_ ?_ ys _ ⟨rfl,rfl,hys⟩
 ·intro y rest b s' ⟨e1,e2,hr⟩
  subst e1;obtain⟨q,hq⟩:=hr y (List.mem_cons.mpr (.inl rfl));have hrest:∀ y∈rest,∃ q,zhJ s'.heap q y:=λ z hz=>hr z (List.mem_cons.mpr (.inr hz));dsimp only;refine wpAny_ite ?_;generalize (_||(carriedByValue x&&carriedByValue y))=cnd;cases cnd with
  | true=>rw[if_pos rfl];exact wpAny_pure ⟨rfl,rfl,hrest⟩
  | false=>
   rw[if_neg (by decide)];refine wpAny_bind (zhG hx ?_);rw[if_neg (by decide)];refine wpAny_bind (zhG hq ?_);rw[if_neg (by decide)];refine wpAny_bind (ziB hx ?_);rw[if_neg (by decide)];refine wpAny_bind (ziB hq ?_);rw[if_neg (by decide)];exact wpAny_pure ⟨rfl,rfl,hrest⟩
 ·intro b s' ⟨e1,e2,_⟩
  subst e1 e2;exact wpAny_pure h
end
section
variable {prog:Program}{w:World}{A:Around}{E:Value->Shared->Prop}{s:Shared}{a:Addr}{l:List Pt}{p:Pt}{x:Value}
variable {o:Obj}{es:Array (Int×Value)}{ep:Nat}{t:SetTable}
theorem ymF {α:Type}{M:Model}{c:Prop}[Decidable c]{X:Sem Bool}{U:Sem Unit}{jp:Unit->Sem α}{Q:α->Shared->Prop}
  (hX:c->∀ {Q':Bool->Shared->Prop},Q' false s->wpAny M A X Q' E s) (k:wpAny M A (jp ()) Q E s):
  wpAny M A (if c then (X >>= λ r=>if r=true then (U >>= λ x=>jp x) else jp ()) else jp ()) Q E s:=by
 by_cases h:c
 ·exact zjK h (wpAny_bind (hX h (zdY (by decide) k)))
 ·exact zdY h k
theorem zvR {f g:Nat->Int}(h:∀ i,f i=g i)(t:SetTable)(k:Int)(q:SetTable.Probe):t.probe f k q=t.probe g k q:=by
 have:f=g:=funext h;rw[this]
theorem ydJ (es:Array (Int×Value))(i:Nat):(es[i]?.map (·.1)).getD 0=Tab.hashIn (es.toList.map (·.1)) i:=by
 unfold Tab.hashIn;rw[List.getElem?_map,Array.getElem?_toList]
theorem zkP {adding:Bool}{Q:SetFound->Shared->Prop}(hu:A.units<cLine)(ho:s.heap.get? a=some o)(hd:o.data=.set es ep t)
  (I:Tab.Inv t (es.toList.map (·.1))) (El:Els s.heap l es.toList) (hbox:∀ q∈l,zeL q) (hx:zhJ s.heap p x) (hb:zeL p)
  (h1:∀ i:Nat,l[i]?=some p->Q (.there (if adding then none else some i)) s)
  (h2:p∉l->∀ slot wd,Tab.FreeAt t (zaN p) slot wd->Q (.free slot wd) s):
  wpAny (model prog w) A (setSearch a x (zaN p) adding) Q E s:=by
 have hf:=zbI I;have hpc:t.probe (λ i=>(es[i]?.map (·.1)).getD 0) (zaN p) ((none:Option SetTable.Probe).getD (t.probeStart (zaN p)))=t.probe (Tab.hashIn (es.toList.map (·.1))) (zaN p) (t.probeStart (zaN p)):=
  zvR (ydJ es) _ _ _
 by_cases hm:p∈l
 ·obtain⟨i,hi⟩:=List.mem_iff_getElem?.mp hm
  refine q12 (El.at hi) λ v hv hpt=>?_;refine q22 (Tab.search_there I (i:=i) (h:=zaN p) (by rw[List.getElem?_map,hv];rfl)) λ j next hp hj=>?_;have hpr:=hpc.trans hp;have hv':es[i]?=some (zaN p,v):=by rw[<- Array.getElem?_toList];exact hv
  have hslot:t.slot j=.live i:=(Tab.slot_live I.toOk).mpr hj;have hyy:∀ y∈((es.filter (·.1==zaN p)).toList.map (·.2)),∃ q,zhJ s.heap q y:=by
   intro y hy;refine q12 (List.mem_map.mp hy) λ e he u0=>?_;subst u0;have he':e∈es.toList:=Array.mem_toList_iff.mpr (Array.mem_filter.mp (Array.mem_toList_iff.mp he)).1;obtain⟨k,hk⟩:=List.mem_iff_getElem?.mp he';have hkl:k<l.length:=by rw[<- El.length];exact (List.getElem?_eq_some_iff.mp hk).1
   exact⟨_,El.pts k _ e (List.getElem?_eq_getElem hkl) hk⟩
  have same:isSame v v=pure true:=by
   refine q51 hpt ?_;clear hpt;intro b _ _ _ _ u8;refine q02 u8 ?_;clear u8;intro u0;subst u0;intro _;unfold isSame
   simp
  have hmem:t.sameMemory t.moves t.mask=some true:=by simp[SetTable.sameMemory]
  have:=h1 i hi;refine wpAny_bind (m:=setState a) (wpAny_setState_of ho hd hf ?_);refine zdY (by rw[zpF I];decide) ?_;split
  ·rename_i met hmet
   obtain rfl:met=.candidate j i next:=Option.some.inj (hmet.symm.trans hpr);refine ymF (λ _ _ h=>zmH hx hyy h) ?_;rw[hv'];refine wpAny_bind (wpAny_holding (zuL hu hpt hx ?_));refine wpAny_bind (wpAny_setState_of ho hd hf ?_);cases adding with
   | true=>exact zjK (by simp) (wpAny_pure this)
   | false=>
    refine zdY (by simp) ?_;rw[hmem,hslot];dsimp only;rw[if_pos rfl];dsimp only;rw[hv'];refine wpAny_bind (wp_eq same (wpAny_pure ?_));exact wpAny_bind (wpAny_pure (zjK (decide_eq_true rfl) (wpAny_pure this)))
  ·rename_i hno
   exact absurd hpr (λ e=>hno _ e)
 ·refine q22 (Tab.search_absent I (h:=zaN p) (by
   rw[El.hash];intro hmem;refine q12 (List.mem_map.mp hmem) λ q hq e=>?_;exact hm (zqM (hbox q hq) hb e▸hq))) λ j d hp hF=>?_
  have hpr:=hpc.trans hp;refine wpAny_bind (m:=setState a) (wpAny_setState_of ho hd hf ?_);refine zdY (by rw[zpF I];decide) ?_;split
  ·rename_i met hmet
   obtain rfl:met=.empty j d:=Option.some.inj (hmet.symm.trans hpr);cases d with
   | none=>exact wpAny_pure (h2 hm _ _ hF)
   | some d=>
    refine zdY ?_ (wpAny_pure (h2 hm _ _ hF));have:=hF.slot;simp only[Option.getD_some,Option.isSome_some,if_true]at this;rw[this];cases adding <;> decide
  ·rename_i hno
   exact absurd hpr (λ e=>hno _ e)
theorem zhJ.notScan {h:Heap}(hx:zhJ h p x)(es:Array (Int×Value)):byScan x es=false:=by
 refine q51 hx ?_;clear hx;intro b _ _ _ _ u8;refine q02 u8 ?_;clear u8;intro u0;subst u0;intro _
 rfl
theorem zyL {Q:Option Nat->Shared->Prop}(hu:A.units<cLine)(S:zfB w s.heap a l)(hx:zhJ s.heap p x)(hb:zeL p)
  (h:∀ r:Option Nat,r.isSome=decide (p∈l)->Q r s):wpAny (model prog w) A (setFind a x (zaN p)) Q E s:=by
 refine q46 S.obj λ o es ep t ho hxs hd I hbt El=>?_;refine wpAny_bind (m:=setState a) (wpAny_setState_of ho hd (zbI I) ?_);dsimp only;rw[hx.notScan];rw[if_neg (by decide)];refine wpAny_bind (zkP (adding:=false) hu ho hd I El S.box hx hb (λ i hi=>?_) (λ hn slot wd hF=>?_))
 ·exact wpAny_pure (h _ (by simp[List.mem_of_getElem? hi]))
 ·exact wpAny_pure (h _ (by simp[hn]))
theorem zoT {Q:Bool->Shared->Prop}(hu:A.units<cLine)(S:zfB w s.heap a l)(hx:zhJ s.heap p x)(hb:zeL p)
  (h:∀ tk,Q (decide (p∈l)) { s with toks:=tk }):wpAny (model prog w) A (setContains a x) Q E s:=by
 unfold setContains;refine wpAny_holding ?_;refine wpAny_bind (zkL hu hx ?_);refine wpAny_bind (zyL (s:={ s with toks:=s.toks+3 }) hu S hx hb λ r hr=>?_);refine wpAny_pure ?_;rw[hr];exact h _
theorem zoZ {Q:Bool->Shared->Prop}(hx:zhJ s.heap p x)(h:Q true s):wpAny (model prog w) A (hashByValue 8 x) Q E s:=by
 refine q55 hx ?_;clear hx;intro b o n t u u0;subst u0;intro ho hc _ hd;have hT:s.TypeIs (.ref b) "tuple" := ⟨o,ho,hc⟩
 unfold hashByValue;refine wpAny_bind (wpAny_specialOf hT F.slot_tuple_hash.lookup ?_);dsimp only;refine wpAny_bind (wpAny_seqItems ho hd ?_);refine wpAny_bind ?_;refine wpAny_of_eq (a:=((none,()):Option Bool×Unit)) ?_ (wpAny_pure h);have:∀ (i:Int) (t:Tok),hashByValue 7 (.int i t)=pure true:=λ i t=>by unfold hashByValue;rfl
 simp[this]
end
section
variable {prog:Program}{w:World}{A:Around}{E:Value->Shared->Prop}{s:Shared}{a:Addr}{l:List Pt}{p:Pt}{x:Value}
variable {o:Obj}{es:Array (Int×Value)}{ep:Nat}{t:SetTable}
theorem zcE {h h':Heap}{a:Addr}{o:Obj}(hs:Heap.SameBut a h h')(ho:h.get? a=some o)(hc:o.cls≠.type "tuple"):
  ∀ b ob,h.get? b=some ob->ob.cls=.type "tuple" -> (∃ vs n,ob.data=.seq vs n)->∃ sl,h'.get? b=some { ob with slots:=sl }:=by
 intro b ob hb hcb _;have hne:b≠a:=λ e=>by subst e;rw[ho]at hb;cases hb;exact hc hcb
 exact⟨ob.slots,(hs.2 b hne).trans hb⟩
theorem zcD (hx:o.ExactSet):o.cls≠.type "tuple" := by rw[hx.1];decide
theorem znM (ho:s.heap.get? a=some o)(hd:o.data=.set es ep t)(es':Array (Int×Value))(t':SetTable):
  (s.heap.update a (Obj.putSet es' t')).get? a=some { o with data:=.set es' (ep+1) t' }:=by
 have e:=putSet_of es' t' hd;rw[Heap.get?_update_self (Obj.putSet es' t') ho (by rw[e];rfl),e]
theorem zgC {l':List Pt}{es':Array (Int×Value)}{t':SetTable}(ho:s.heap.get? a=some o)(hx:o.ExactSet)(hd:o.data=.set es ep t)(I:Tab.Inv t' (es'.toList.map (·.1)))
  (hbt:w.params.followText "set-order" = false->t'.led=true/\t'.plain=true) (El:Els s.heap l' es'.toList) (hbox:∀ q∈l',zeL q):
  zfB w (s.heap.update a (Obj.putSet es' t')) a l':=by
 refine⟨⟨_,es',ep+1,t',znM ho hd es' t',hx,rfl,I,hbt,El.keep ?_⟩,hbox⟩;exact zcE (Heap.SameBut.update ..) ho (zcD hx)
theorem zxU {h:Heap}{esl:List (Int×Value)}(El:Els h l esl)(hx:zhJ h p x){q:Nat}(hq:q<=l.length):
  Els h (l.take q++p::l.drop q) (esl.take q++(zaN p,x)::esl.drop q):=by
 refine⟨?_,?_⟩
 ·rw[List.map_append,List.map_cons,List.map_append,List.map_cons,List.map_take,List.map_drop,List.map_take,List.map_drop,El.hash]
 ·intro i r e h1 h2
  rw[Tab.getElem?_insert _ _ _ hq]at h1;rw[Tab.getElem?_insert _ _ _ (by rw[El.length];exact hq)]at h2
  by_cases c:i<q
  ·rw[if_pos c]at h1 h2;exact El.pts i r e h1 h2
  ·rw[if_neg c]at h1 h2
   by_cases c2:i=q
   ·rw[if_pos c2]at h1 h2;cases h1;cases h2;exact hx
   ·rw[if_neg c2]at h1 h2;exact El.pts _ r e h1 h2
theorem ydN {h:Heap}{esl:List (Int×Value)}(El:Els h l esl)(i:Nat):Els h (l.eraseIdx i) (esl.eraseIdx i):=by
 refine⟨?_,?_⟩
 ·rw[List.eraseIdx_eq_take_drop_succ,List.eraseIdx_eq_take_drop_succ,List.map_append,List.map_append,List.map_take,List.map_drop,List.map_take,List.map_drop,El.hash]
 ·intro k r e h1 h2
  rw[List.getElem?_eraseIdx]at h1 h2;split at h1
  ·rename_i c;rw[if_pos c]at h2;exact El.pts k r e h1 h2
  ·rename_i c;rw[if_neg c]at h2;exact El.pts _ r e h1 h2
theorem ydI {h:Heap}{esl:List (Int×Value)}(El:Els h l esl){order:List Nat}(ho:∀ i∈order,i<l.length):
  Els h (order.filterMap λ i=>l[i]?) (order.filterMap λ i=>esl[i]?):=by
 have a1:∀ i∈order,((λ i=>l[i]?) i).isSome=true:=λ i hi=>by
  show (l[i]?).isSome=true
  rw[List.getElem?_eq_getElem (ho i hi)];rfl
 have a2:∀ i∈order,((λ i=>esl[i]?) i).isSome=true:=λ i hi=>by
  show (esl[i]?).isSome=true
  rw[List.getElem?_eq_getElem (by rw[El.length];exact ho i hi)];rfl
 refine⟨?_,?_⟩
 ·rw[List.map_filterMap,List.map_filterMap]
  congr 1
  funext i
  rw[<- List.getElem?_map,<- List.getElem?_map,El.hash]
 ·intro k r e h1 h2
  rw[Tab.filterMap_all_some _ _ a1]at h1;rw[Tab.filterMap_all_some _ _ a2]at h2;cases hk:order[k]? with
  | none=>rw[hk]at h1;cases h1
  | some i=>rw[hk]at h1 h2;exact El.pts i r e h1 h2
theorem zqE {α:Type}(l:List α){order:List Nat}(h:order.Perm (List.range l.length)):(order.filterMap λ i=>l[i]?).Perm l:=by
 have:=h.filterMap λ i=>l[i]?;rw[List.filterMap_getElem?_range_length]at this;exact this
theorem relaid {h:Heap}(El:Els h l es.toList){order:Array Nat}(hp:order.toList.Perm (List.range es.size)):
  (order.filterMap (es[·]?)).size=es.size/\((order.filterMap (es[·]?)).toList.map (·.1)=order.toList.filterMap λ i=>(es.map (·.1)).toList[i]?)/\Els h (order.toList.filterMap λ i=>l[i]?) (order.filterMap (es[·]?)).toList/\(order.toList.filterMap λ i=>l[i]?).Perm l:=by
 have hlen:es.toList.length=l.length:=El.length;have hsz:es.size=l.length:=by rw[<- hlen,Array.length_toList]
 have hes':(order.filterMap (es[·]?)).toList=order.toList.filterMap λ i=>es.toList[i]?:=by
  rw[Array.toList_filterMap]
  congr 1
  funext i
  exact Array.getElem?_toList.symm
 have hperm:(order.toList.filterMap λ i=>es.toList[i]?).Perm es.toList:=zqE es.toList (by rw[Array.length_toList];exact hp);refine⟨by rw[<- Array.length_toList,hes',hperm.length_eq,Array.length_toList],?_,?_,zqE l (hsz▸hp)⟩
 ·rw[hes',List.map_filterMap]
  congr 1
  funext i
  rw[<- List.getElem?_map,Array.toList_map]
 ·rw[hes']
  exact ydI El λ i hi=>hsz▸List.mem_range.mp (hp.mem_iff.mp hi)
theorem zoI {wanted:Nat}{Q:Unit->Shared->Prop}(ho:s.heap.get? a=some o)(hx:o.ExactSet)(hd:o.data=.set es ep t)(hf:t.fits es.size=true)
  (hnd:(es.toList.map (·.1)).Nodup) (El:Els s.heap l es.toList) (hw:wanted<128) (hroom:es.size*5<(SetTable.sizeAbove wanted-1)*3)
  (hbt:w.params.followText "set-order" = false->t.led=true/\t.plain=true) (hbox:∀ q∈l,zeL q)
  (h:∀ h' l' es' t',Heap.SameBut a s.heap h'->l'.Perm l->h'.get? a=some { o with data:=.set es' (ep+1) t' }->Tab.Inv t' (es'.toList.map (·.1))->Els h' l' es'.toList ->
   t'.led=t.led->t'.plain=t.plain->t'.mask=SetTable.sizeAbove wanted-1->t'.fill=es.size->zfB w h' a l'->Q () { s with heap:=h' }):wpAny (model prog w) A (setRelay a wanted) Q E s:=by
 unfold setRelay;refine wpAny_bind (wpAny_setState_of ho hd hf ?_);dsimp only;refine zdY (Tab.sizeAbove_line wanted hw) ?_;obtain⟨g,_⟩:=Tab.sizeAbove_ok wanted hw;refine q21 (Tab.laid_ok t.finger (t.movedTo (SetTable.sizeAbove wanted-1)) t.led t.plain (hashes:=es.map (·.1)) g (by simpa using hnd) (by simp;lia)) λ t' order u8=>q08 u8 λ e hp hm hl hpl hdm hfl I0=>?_;have hsz:(es.map (·.1)).size=es.size:=by simp
 rw[hsz]at hp hfl;refine q04 (relaid El hp) λ hsize hmap El' hpl=>?_;have I':Tab.Inv t' ((order.filterMap (es[·]?)).toList.map (·.1)):=by
  rw[hmap];exact⟨I0,by rw[hfl,hm];exact hroom⟩
 have e':t.relaid (es.map (·.1)) wanted=some (t',order):=e;rw[e'];refine wpAny_bind ?_
 show wpAny _ _ (if ((order.filterMap (es[·]?)).size != es.size)=true then _ else _) _ _ _
 refine zdY (by rw[hsize];simp) (wpAny_pure ?_);refine wpAny_storeSet_of ho hd ?_ (by rw[hsize];exact yaM hroom (Tab.sizeAbove_line wanted hw));refine h _ (order.toList.filterMap λ i=>l[i]?) (order.filterMap (es[·]?)) t' (Heap.SameBut.update ..) hpl (znM ho hd _ _) I' (El'.keep (zcE (Heap.SameBut.update ..) ho (zcD hx))) hl (by assumption) hm hfl ?_;refine zgC ho hx hd I' ?_ El' ?_
 ·intro q
  have:=hbt q;refine⟨hl.trans this.1,?_⟩;have h5:t'.plain=t.plain:=by assumption
  exact h5.trans this.2
 ·intro q hq
  exact hbox q (hpl.mem_iff.mp hq)
theorem zoS {q:Nat}(c:Pt):c∈l.take q++p::l.drop q↔c=p\/c∈l:=by
 have h:(l.take q++p::l.drop q).Perm (p::l):=by
  refine List.perm_middle.trans ?_;rw[List.take_append_drop]
 rw[h.mem_iff,List.mem_cons]
theorem zhI {Q:Bool->Shared->Prop}(hu:A.units<cLine)(S:zfB w s.heap a l)(hx:zhJ s.heap p x)(hb:zeL p)(hlen:l.length<31)
  (h1:p∈l->Q false s)
  (h2:p∉l->∀ h' l',Heap.SameBut a s.heap h'->l'.Perm (p::l)->zfB w h' a l'->Q true { s with heap:=h' }):
  wpAny (model prog w) A (setAddHashed a x (zaN p)) Q E s:=by
 refine q46 S.obj λ o es ep t ho hxs hd I hbt El=>?_;unfold setAddHashed;refine wpAny_holding ?_;refine wpAny_bind (m:=setState a) (wpAny_setState_of ho hd (zbI I) ?_);dsimp only;rw[hx.notScan,if_neg (by decide)];refine wpAny_bind (zkP (adding:=true) hu ho hd I El S.box hx hb (λ i hi=>wpAny_pure (h1 (List.mem_of_getElem? hi))) (λ hn slot wd hF=>?_));dsimp only;refine wpAny_bind (wpAny_setState_of ho hd (zbI I) ?_);dsimp only;have hes:es.size=l.length:=by rw[<- Array.length_toList];exact El.length
 have hnh:zaN p∉es.toList.map (·.1):=by
  rw[El.hash];intro hmem;refine q12 (List.mem_map.mp hmem) λ q hq e=>?_;exact hn (zqM (S.box q hq) hb e▸hq)
 refine q06 (Tab.put_inv I hnh hF) λ I0 hfill hple hmk hled hpl=>?_;have hpl':(t.put slot).2<=l.length:=by
  have:=hple;rw[List.length_map,El.length]at this;exact this
 have key:∀ t2:SetTable,t2=(t.put slot).1->wpAny (model prog w) A (do
   storeSet a (SetTable.insertAt es (t.put slot).2 (zaN p,x)) t2
   if (!wd&&t2.tooFull)=true then do setRelay a (SetTable.grown (es.size+1));pure true else pure true) Q E s:=by
  intro t2 e2;subst e2;have hins:(SetTable.insertAt es (t.put slot).2 (zaN p,x)).toList=es.toList.take (t.put slot).2++(zaN p,x)::es.toList.drop (t.put slot).2:=SetTable.toList_insertAt _ _ _;have hinsz:(SetTable.insertAt es (t.put slot).2 (zaN p,x)).size=es.size+1:=by
   have:=(SetTable.insertAt_perm es (t.put slot).2 (zaN p,x)).length_eq
   simpa using this
  have hE':Els s.heap (l.take (t.put slot).2++p::l.drop (t.put slot).2) (SetTable.insertAt es (t.put slot).2 (zaN p,x)).toList:=by
   rw[hins];exact zxU El hx hpl'
  have hmap:(SetTable.insertAt es (t.put slot).2 (zaN p,x)).toList.map (·.1)=(es.toList.map (·.1)).take (t.put slot).2++zaN p::(es.toList.map (·.1)).drop (t.put slot).2:=by
   rw[hins,List.map_append,List.map_cons,List.map_take,List.map_drop]
  have hbox':∀ q∈l.take (t.put slot).2++p::l.drop (t.put slot).2,zeL q:=λ q hq=>by
   rcases (zoS q).mp hq with rfl|q'
   ·exact hb
   ·exact S.box q q'
  have hperm:(l.take (t.put slot).2++p::l.drop (t.put slot).2).Perm (p::l):=by
   refine List.perm_middle.trans ?_;rw[List.take_append_drop]
  have hsl:(SetTable.insertAt es (t.put slot).2 (zaN p,x)).size<=sizeLine:=by
   rw[hinsz];have h2:sizeLine=2 ^ 24:=rfl;have h3:(2:Nat) ^ 24=16777216:=by decide
   lia
  refine wpAny_bind (wpAny_storeSet_of ho hd ?_ hsl)
  by_cases hfull:(!wd&&(t.put slot).1.tooFull)=true
  ·refine zjK hfull ?_
   have hget:=znM ho hd (SetTable.insertAt es (t.put slot).2 (zaN p,x)) (t.put slot).1;have hgr:SetTable.grown (es.size+1)=(es.size+1)*4:=by unfold SetTable.grown;rw[if_neg (by lia)]
   refine wpAny_bind (zoI (l:=l.take (t.put slot).2++p::l.drop (t.put slot).2) hget hxs rfl ?_ ?_ ?_ (by rw[hgr,hes];lia) ?_ (by rw[hled,hpl];exact hbt) hbox' ?_)
   ·unfold SetTable.fits
    have hz:=I0.size;have:(t.put slot).1.place.size=(SetTable.insertAt es (t.put slot).2 (zaN p,x)).size:=by
     rw[hz,hinsz];have:=congrArg List.length hmap;simp only[List.length_map]at this;rw[<- this,Array.length_toList,hinsz]
    have hr:=I.room;have hfl2:(t.put slot).1.fill<=(t.put slot).1.mask:=by
     rw[hfill,hmk];rcases I.mask with q|q|q|q|q <;> rw[q]at hr ⊢ <;> split <;> lia
    rw[this]
    simp[hfl2]
   ·rw[hmap];exact I0.nodup
   ·exact hE'.keep (zcE (Heap.SameBut.update ..) ho (zcD hxs))
   ·have:=(Tab.sizeAbove_ok ((es.size+1)*4) (by rw[hes];lia)).2
    rw[hgr,hinsz];exact yjF (Nat.lt_of_le_of_lt (Nat.mul_le_mul_left _ (by decide)) this) (Nat.succ_pos _)
   ·intro h' l' es' t' hsb hp' _ _ _ _ _ _ _ P'
    refine wpAny_pure (h2 hn h' l' ?_ (hp'.trans hperm) P');exact (Heap.SameBut.update ..).trans hsb
  ·refine zdY hfull ?_
   refine wpAny_pure (h2 hn _ _ (Heap.SameBut.update ..) hperm ?_);refine zgC ho hxs hd ?_ (by rw[hled,hpl];exact hbt) hE' hbox';rw[hmap];refine⟨I0,?_⟩;rw[hmk];cases wd with
   | true=>rw[hfill];exact I.room
   | false=>
    have:(t.put slot).1.tooFull=false:=by simpa using hfull
    unfold SetTable.tooFull at this;have:=of_decide_eq_false this;rw[hmk]at this;lia
 by_cases hplain:(t.put slot).1.plain=true
 ·refine zjK hplain ?_
  refine wpAny_bind (zoZ hx ?_);simp only[if_true];exact key _ rfl
 ·refine zdY hplain ?_
  refine wpAny_bind (wpAny_pure ?_);simp only[if_true];exact key _ rfl
theorem yaO {Q:Bool->Shared->Prop}(hu:A.units<cLine)(S:zfB w s.heap a l)(hx:zhJ s.heap p x)(hb:zeL p)(hlen:l.length<31)
  (h1:p∈l->∀ tk,Q false { s with toks:=tk })
  (h2:p∉l->∀ h' l' tk,Heap.SameBut a s.heap h'->l'.Perm (p::l)->zfB w h' a l'->Q true { s with heap:=h',toks:=tk }):
  wpAny (model prog w) A (setAdd a x) Q E s:=by
 unfold setAdd;refine wpAny_holding (wpAny_bind (zkL hu hx ?_));exact zhI (s:={ s with toks:=s.toks+3 }) hu S hx hb hlen (λ h=>h1 h _) (λ h h' l' a b c=>h2 h h' l' _ a b c)
end
theorem zsM {prog:Program}{w:World}{A:Around}{E:Value->Shared->Prop}{s:Shared}{src:Source}{n:Nat}{Q:Nat->Shared->Prop}(hn:n≠0)
  (h:∀ i d,i<n->Q i { s with drawn:=d }):wpAny (model prog w) A (choose src n) Q E s:=λ Γ p _=>by
 show Sem.wp _ _ (Sem.choose src n Sem.pure) _ _ _ _
 rw[Sem.wp_choose];refine⟨hn,?_⟩;rw[Sem.wp_pure];exact h _ _ (Nat.mod_lt _ (Nat.pos_of_ne_zero hn))
section
variable {prog:Program}{w:World}{A:Around}{E:Value->Shared->Prop}{s:Shared}{a:Addr}{l:List Pt}{p:Pt}{x:Value}
variable {o:Obj}{es:Array (Int×Value)}{ep:Nat}{t:SetTable}
theorem zfB.length_le {h:Heap}(S:zfB w h a l):l.length<=25:=
 Tab.nodup_le l zuI S.nodup λ q hq=>zkF (S.box q hq)
theorem zbJ {Q:Bool->Shared->Prop}(h:Q (w.params.followText "set-order") s):wpAny (model prog w) A setsByText Q E s:=by
 unfold setsByText;exact wpAny_bind (wpAny_askSetting (wpAny_pure h))
theorem zvC {hs:List Int}(I:Tab.Inv t hs)(hne:hs≠[]):∃ i,t.popPlace=some i/\i<hs.length:=by
 have hpos:0<hs.length:=List.length_pos_iff.mpr hne;have hsz:=I.size;unfold SetTable.popPlace;rw[if_neg (by intro q;have:=Array.isEmpty_iff_size_eq_zero.mp q;lia)];dsimp only;refine⟨_,rfl,?_⟩;split
 ·exact lq32 hsz (by assumption)
 ·exact hpos
theorem ycZ {Q:Option Value->Shared->Prop}(S:zfB w s.heap a l)(hne:l≠[])
  (h:∀ (i:Nat) (p:Pt) (v:Value) (h':Heap) (d:Drawn),l[i]?=some p->Heap.SameBut a s.heap h'->zfB w h' a (l.eraseIdx i)->zhJ h' p v->Q (some v) { s with heap:=h',drawn:=d }):
  wpAny (model prog w) A (setPop a) Q E s:=by
 refine q46 S.obj λ o es ep t ho hxs hd I hbt El=>?_;have hes:es.size=l.length:=by rw[<- Array.length_toList];exact El.length
 have hpos:0<l.length:=List.length_pos_iff.mpr hne;refine q12 (zvC I (by intro e;have:=congrArg List.length e;rw[List.length_map,El.length]at this;simp at this;exact hne this)) λ i0 hpp hi0=>?_;have hi0:i0<l.length:=by simpa [El.length] using hi0
 have fin:∀ (i:Nat) (d:Drawn),i<l.length->wpAny (model prog w) A (match es[i]? with
   | some (_,x)=>do storeSet a (SetTable.eraseAt es i) (t.popped i);pure (some x)
   | _=>unsupported "internal:set.pop") Q E { s with drawn:=d }:=by
  intro i d hi;refine q12 (El.at (List.getElem?_eq_getElem hi)) λ v hv hpt=>?_;have hv':es[i]?=some (zaN l[i],v):=by rw[<- Array.getElem?_toList];exact hv
  rw[hv'];dsimp only;have herz:(SetTable.eraseAt es i).toList=es.toList.eraseIdx i:=Tab.toList_eraseAt es i;have hsz:(SetTable.eraseAt es i).size<=sizeLine:=by
   rw[<- Array.length_toList,herz];have h0:=List.length_eraseIdx_le es.toList i;have h1:=S.length_le;have h2:sizeLine=2 ^ 24:=rfl;have h3:(2:Nat) ^ 24=16777216:=by decide
   have h4:=El.length;lia
  refine wpAny_bind (wpAny_storeSet_of (s:={ s with drawn:=d }) ho hd ?_ hsz);refine wpAny_pure (h i l[i] v _ d (List.getElem?_eq_getElem hi) (Heap.SameBut.update ..) ?_ ?_)
  ·refine q05 (Tab.drop_inv I (i:=i) (by simpa [El.length] using hi)) λ I' hmk hfl hl' hpl'=>?_
   refine zgC ho hxs hd ?_ ?_ ?_ ?_
   ·rw[herz]
    have:(es.toList.eraseIdx i).map (·.1)=(es.toList.map (·.1)).eraseIdx i:=by
     rw[List.eraseIdx_eq_take_drop_succ,List.eraseIdx_eq_take_drop_succ,List.map_append,List.map_take,List.map_drop]
    rw[this];exact⟨⟨⟨I'.sp,I'.sd,I'.bp,I'.bd,I'.dj⟩,I'.size,I'.mask,I'.nodup,I'.reach⟩,I'.room⟩
   ·intro q
    have:=hbt q;exact⟨hl'.trans this.1,hpl'.trans this.2⟩
   ·rw[herz];exact ydN El i
   ·exact λ q hq=>S.box q (List.mem_of_mem_eraseIdx hq)
  ·exact hpt.keep (zcE (Heap.SameBut.update ..) ho (zcD hxs))
 unfold setPop;refine wpAny_bind (wpAny_setState_of ho hd (zbI I) ?_);dsimp only;rw[hpp];refine wpAny_bind (zbJ ?_);cases hbt':w.params.followText "set-order" with
 | true=>
  rw[Bool.true_or,if_pos rfl];refine wpAny_bind (zsM (by lia) λ i d hi=>?_);exact fin i d (by exact lq32 hes hi)
 | false=>
  obtain⟨hl,hp⟩:=hbt hbt';have:(!t.plain&&decide (es.size>1))=false:=by rw[hp];rfl
  show wpAny _ _ (if (false||(!t.plain&&decide (es.size>1)))=true then _ else _) _ _ _
  rw[this,Bool.false_or,if_neg (by decide)];refine wpAny_bind ?_
  show wpAny _ _ (if (!t.led&&decide (es.size>1))=true then _ else _) _ _ _
  rw[hl];refine zdY (by simp) ?_;refine wpAny_pure ?_;refine wpAny_bind (wpAny_pure ?_);exact fin i0 s.drawn hi0
end
theorem zfQ {α:Type}(l:List α)(i:Nat)(h:i<l.length):(([l[i]]:List α)++l.eraseIdx i).Perm l:=by
 have e:l=l.take i++l[i]::l.drop (i+1):=by
  rw[<- List.drop_eq_getElem_cons h,List.take_append_drop]
 rw[List.eraseIdx_eq_take_drop_succ];refine List.Perm.trans ?_ (List.Perm.of_eq e.symm)
 show (l[i]::(l.take i++l.drop (i+1))).Perm _
 exact List.perm_middle.symm
theorem zoP {α:Type}{next:Nat->Nat}{f k:Nat}{l:List α}{out:Array α}:pickOrder.go next (f+1) k l out=pickOrder.go.match_1 (λ _=>Array α) (l[next k % l.length]?) (λ x=>pickOrder.go next f (k+1) (l.eraseIdx (next k % l.length)) (out.push x)) (λ _=>out):=rfl
theorem ztY {α:Type}(next:Nat->Nat)(fuel:Nat):∀ (k:Nat) (left:List α) (out:Array α),left.length<=fuel->(pickOrder.go next fuel k left out).toList.Perm (out.toList++left):=by
 induction fuel with
 | zero=>
  intro k left out h;cases List.length_eq_zero_iff.mp (Nat.le_zero.mp h);exact .of_eq (List.append_nil _).symm
 | succ fuel ih=>
  intro k left out h;rw[zoP];cases left with
  | nil=>exact .of_eq (List.append_nil _).symm
  | cons y ys=>
   have hlt:next k % (y::ys).length<(y::ys).length:=Nat.mod_lt _ (by simp);rw[List.getElem?_eq_getElem hlt];refine (ih (k+1) _ _ (by rw[List.length_eraseIdx,if_pos hlt];exact Nat.le_of_succ_le_succ h)).trans ?_;rw[Array.toList_push,List.append_assoc];refine List.Perm.append_left _ ?_;exact zfQ _ _ hlt
theorem zfX {α:Type}(next:Nat->Nat)(xs:Array α):(pickOrder next xs).toList.Perm xs.toList:=by
 have:=ztY next xs.size 0 xs.toList #[] (by simp)
 simpa [pickOrder] using this
section
variable {prog:Program}{w:World}{A:Around}{E:Value->Shared->Prop}{s:Shared}{a b:Addr}{l m:List Pt}{p:Pt}{x:Value}
variable {o:Obj}{es:Array (Int×Value)}{ep:Nat}{t:SetTable}
theorem zyQ {Q:Array (Int×Value)->Shared->Prop}(ho:s.heap.get? a=some o)(hd:o.data=.set es ep t)(I:Tab.Inv t (es.toList.map (·.1)))
  (hbt:w.params.followText "set-order" = false->t.led=true/\t.plain=true) (h:∀ es':Array (Int×Value),es'.toList.Perm es.toList->Q es' s):wpAny (model prog w) A (setWalk a) Q E s:=by
 unfold setWalk;refine wpAny_bind (wpAny_setState_of ho hd (zbI I) ?_);dsimp only;refine wpAny_bind (zbJ ?_);cases hb:w.params.followText "set-order" with
 | true=>
  refine zjK rfl ?_;refine wpAny_bind (wpAny_askSetting (wpAny_pure (h _ (zfX _ _))))
 | false=>
  obtain⟨hl,hp⟩:=hbt hb;refine zdY (by decide) ?_
  show wpAny _ _ (if (!t.plain&&decide (es.size>1))=true then _ else _) _ _ _
  rw[hp];refine zdY (by simp) ?_;refine wpAny_bind ?_
  show wpAny _ _ (if (!t.led&&decide (es.size>1))=true then _ else _) _ _ _
  rw[hl,if_neg (by simp)];exact wpAny_pure (wpAny_pure (h _ (List.Perm.refl _)))
theorem zmD {others:List Addr}{filled:Option Addr}{Q:Array (Int×Value)->Shared->Prop}(ho:s.heap.get? a=some o)(hd:o.data=.set es ep t)(I:Tab.Inv t (es.toList.map (·.1)))
  (hbt:w.params.followText "set-order" = false->t.led=true/\t.plain=true) (h:∀ es':Array (Int×Value),es'.toList.Perm es.toList->Q es' s):wpAny (model prog w) A (setWalkUnseen a others filled) Q E s:=by
 unfold setWalkUnseen;refine wpAny_bind (wpAny_setState_of ho hd (zbI I) ?_);dsimp only;refine wpAny_bind (zbJ ?_);have:(w.params.followText "set-order" || t.led&&t.plain||decide (es.size<=1))=true:=by
  cases hb:w.params.followText "set-order" with
  | true=>rfl
  | false=>obtain⟨hl,hp⟩:=hbt hb;rw[hl,hp];rfl
 refine zjK this ?_;exact zyQ ho hd I hbt h
theorem Els.cons {h:Heap}{esl:List (Int×Value)}(hp:zhJ h p x)(El:Els h l esl):Els h (p::l) ((zaN p,x)::esl):=by
 refine⟨by simp[El.hash],λ i q e h1 h2=>?_⟩;cases i with
 | zero=>simp at h1 h2;subst h1 h2;exact hp
 | succ i=>simp at h1 h2;exact El.pts i q e h1 h2
theorem Els.cons_inv {h:Heap}{e:Int×Value}{esl:List (Int×Value)}(El:Els h l (e::esl)):∃ p l',l=p::l'/\e=(zaN p,e.2)/\zhJ h p e.2/\Els h l' esl:=by
 cases l with
 | nil=>have:=El.hash;simp at this
 | cons p l'=>
  have h1:=El.hash
  simp at h1
  refine⟨p,l',rfl,by rw[<- h1.1],El.pts 0 p e rfl rfl,h1.2,λ i q e' h2 h3=>El.pts (i+1) q e' (by simpa using h2) (by simpa using h3)⟩
theorem Els.nil_inv {h:Heap}(El:Els h l []):l=[]:=by
 have:=El.hash;cases l with
 | nil=>rfl
 | cons=>simp at this
theorem zxN {h:Heap}{es' esl:List (Int×Value)}(hp:esl.Perm es'):∀ {l:List Pt},Els h l esl->∃ l',l'.Perm l/\Els h l' es':=by
 induction hp with
 | nil=>intro l El;exact⟨l,.refl _,El⟩
 | cons e _ ih=>
  intro l El;refine q24 El.cons_inv ?_;intro p l' u0;subst u0;intro he hpt El';refine q12 (ih El') λ l2 h1 h2=>?_;exact⟨p::l2,h1.cons _,he▸Els.cons hpt h2⟩
 | swap e1 e2 r=>
  intro l El;refine q24 El.cons_inv ?_;intro p l' u0;subst u0;intro he hpt El';refine q24 El'.cons_inv ?_;intro q l2 u0;subst u0;intro he2 hpt2 El2;exact⟨q::p::l2,List.Perm.swap _ _ _,he2▸Els.cons hpt2 (he▸Els.cons hpt El2)⟩
 | trans _ _ ih1 ih2=>
  intro l El;refine q12 (ih1 El) λ l1 h1 E1=>?_;refine q12 (ih2 E1) λ l2 h2 E2=>?_;exact⟨l2,h2.trans h1,E2⟩
theorem zrC {more:Nat}{Q:Unit->Shared->Prop}(ho:s.heap.get? a=some o)(hx:o.ExactSet)(hd:o.data=.set es ep t)(I:Tab.Inv t (es.toList.map (·.1)))
  (hbt:w.params.followText "set-order" = false->t.led=true/\t.plain=true) (El:Els s.heap l es.toList) (hbox:∀ q∈l,zeL q) (hm:more<=25) (hl:l.length<=25)
  (h:∀ h' l' es' ep' t',Heap.SameBut a s.heap h'->l'.Perm l->h'.get? a=some { o with data:=.set es' ep' t' }->Tab.Inv t' (es'.toList.map (·.1))->Els h' l' es'.toList ->
   (w.params.followText "set-order" = false->t'.led=true/\t'.plain=true)->(t'.fill+more)*5<t'.mask*3->Q () { s with heap:=h' }):wpAny (model prog w) A (setRoomFor a more) Q E s:=by
 unfold setRoomFor;refine wpAny_bind (wpAny_setState_of ho hd (zbI I) ?_);dsimp only;have hes:es.size=l.length:=by rw[<- Array.length_toList];exact El.length
 have hpl:t.place.size=es.size:=by have:=I.size;simpa using this
 unfold SetTable.roomFor
 by_cases hc:(t.fill+more)*5>=t.mask*3
 ·rw[if_pos hc]
  dsimp only;have hw:(t.place.size+more)*2<128:=by lia
  have hsa:=(Tab.sizeAbove_ok ((t.place.size+more)*2) hw).2;have hmore:0<t.place.size+more:=by
   rcases Nat.eq_zero_or_pos (t.place.size+more) with q|q
   ·exfalso
    have hr:=I.room;have:more=0:=by lia
    subst this;lia
   ·exact q
  refine zoI ho hx hd (zbI I) I.nodup El hw (Nat.lt_of_le_of_lt (Nat.mul_le_mul_right 5 (by rw[<- hpl];exact Nat.le_add_right _ _)) (yjF hsa hmore)) hbt hbox ?_;intro h' l' es' t' hsb hp hget I' El' hled hplain hmask hfill P';exact h h' l' es' (ep+1) t' hsb hp hget I' El' (λ q=>⟨hled.trans (hbt q).1,hplain.trans (hbt q).2⟩) (by rw[hmask,hfill,<- hpl];exact yjF hsa hmore)
 ·rw[if_neg hc]
  dsimp only;refine wpAny_pure ?_;refine h s.heap l es ep t (Heap.SameBut.refl ..) (.refl _) ?_ I El hbt (Nat.lt_of_not_le hc);rw[ho,<- hd]
end
section
variable {prog:Program}{w:World}{A:Around}{E:Value->Shared->Prop}{s:Shared}{a b:Addr}{l m:List Pt}{p:Pt}{x:Value}
variable {o:Obj}{es:Array (Int×Value)}{ep:Nat}{t:SetTable}
theorem ydP {t t':SetTable}{hs:List Int}(I:Tab.Inv t hs)(h1:t'.place=t.place)(h2:t'.dummies=t.dummies)(h3:t'.mask=t.mask):Tab.Inv t' hs:=by
 have hsl:∀ j,t'.slot j=t.slot j:=λ j=>by unfold SetTable.slot;rw[h1,h2]
 refine⟨⟨⟨h1▸I.sp,h2▸I.sd,?_,?_,?_⟩,by rw[h1];exact I.size,by rw[h3];exact I.mask,I.nodup,?_⟩,by unfold SetTable.fill;rw[h1,h2,h3];exact I.room⟩
 ·rw[h1,h3];exact I.bp
 ·rw[h2,h3];exact I.bd
 ·rw[h1,h2];exact I.dj
 ·intro i j h hi hh
  rw[h1]at hi;exact Tab.Reached.mono h3 (λ x hx=>by rw[hsl];exact hx) (I.reach i j h hi hh)
theorem zoB {n:Nat}(h:n<=1000):n<=sizeLine:=by
 have h2:sizeLine=2 ^ 24:=rfl;have h3:(2:Nat) ^ 24=16777216:=by decide
 exact lq2 h rfl
theorem ziD {h h':Heap}{c:Addr}(hs:Heap.SameBut a h h')(hne:c≠a):h'.get? c=h.get? c:=hs.2 c hne
theorem zpH {each:Sem Unit}{o2:Obj}{es2:Array (Int×Value)}{t2:SetTable}{ep2:Nat}{R:ForInStep PUnit->Shared->Prop}(hb2:s.heap.get? b=some o2)(hd2:o2.data=.set es2 ep2 t2)(I2:Tab.Inv t2 (es2.toList.map (·.1)))
  (heach:∀ R:Unit->Shared->Prop,R () s->wpAny (model prog w) A each R E s) (hR:R (.yield ⟨⟩) s):
  wpAny (model prog w) A (do each;let __x <- setState b;if (__x.2.1 != ep2)=true then do unsupported "set.changed-during-merge";pure (.yield ⟨⟩) else pure (ForInStep.yield PUnit.unit)) R E s:=
 wpAny_bind (heach _ (wpAny_bind (wpAny_setState_of hb2 hd2 (zbI I2) (zdY (by simp) (wpAny_pure hR)))))
noncomputable def ypQ (w:World)(s:Shared)(a:Addr)(l m:List Pt)(rest:List (Int×Value))(s':Shared):Prop:=
 ∃ h' l' m',s'={ s with heap:=h' }/\Heap.SameBut a s.heap h'/\zfB w h' a l'/\Els h' m' rest/\(∀ q,q∈l'\/q∈m'↔q∈l\/q∈m)/\(∀ q∈m',zeL q)
theorem ygJ {a b c:Prop}:(a\/b)\/c↔b\/(a\/c):=
 ⟨λ h=>h.elim (λ h=>h.elim (λ h=>.inr (.inl h)) .inl) λ h=>.inr (.inr h),λ h=>h.elim (λ h=>.inl (.inr h)) λ h=>h.elim (λ h=>.inl (.inl h)) .inr⟩
theorem zuP {each:Sem Unit}{Q:Unit->Shared->Prop}(hu:A.units<cLine)(S:zfB w s.heap a l)(So:zfB w s.heap b m)(hab:a≠b)
  (heach:∀ (s':Shared) (R:Unit->Shared->Prop),s'.heap.get? b=s.heap.get? b->R () s'->wpAny (model prog w) A each R E s')
  (h:∀ h' l',Heap.SameBut a s.heap h'->(∀ q,q∈l'↔q∈l\/q∈m)->zfB w h' a l'->Q () { s with heap:=h' }):wpAny (model prog w) A (setMerge a b each) Q E s:=by
 refine q46 S.obj λ o es ep t ho hxs hd I hbt El=>?_;refine q46 So.obj λ o2 es2 ep2 t2 ho2 hxs2 hd2 I2 hbt2 El2=>?_;have hm25:=So.length_le;have hl25:=S.length_le;have hes2:es2.size=m.length:=by rw[<- Array.length_toList];exact El2.length
 unfold setMerge;refine zdY (by simpa using hab) ?_;refine wpAny_bind (wpAny_setState_of ho2 hd2 (zbI I2) ?_);dsimp only
 by_cases hemp:es2.isEmpty=true
 ·refine zjK hemp ?_
  have hm0:m=[]:=by
   have:=Array.isEmpty_iff_size_eq_zero.mp hemp;exact List.length_eq_zero_iff.mp (by lia)
  refine wpAny_pure (h s.heap l (Heap.SameBut.refl ..) (λ q=>by simp[hm0]) S)
 ·refine zdY hemp ?_
  refine wpAny_bind (zrC ho hxs hd I hbt El S.box (by exact lq29 hes2 hm25 rfl) hl25 ?_);intro h1 l1 es1 ep1 t1 hsb1 hp1 hget1 I1 El1 hbt1 hroom1;have hb1:h1.get? b=some o2:=(ziD hsb1 (Ne.symm hab)).trans ho2;have hbox1:∀ q∈l1,zeL q:=λ q hq=>S.box q (hp1.mem_iff.mp hq);refine wpAny_bind (wpAny_setState_of (s:={ s with heap:=h1 }) hget1 rfl (zbI I1) ?_);dsimp only;have hE2:Els h1 m es2.toList:=El2.keep (zcE hsb1 ho (zcD hxs));unfold SetTable.road
  by_cases hfill:(t1.fill != 0)=true
  ·rw[if_pos hfill]
   dsimp only;refine wpAny_bind (zmD (s:={ s with heap:=h1 }) hb1 hd2 I2 hbt2 λ es3 hp3=>?_);refine q12 (zxN hp3.symm hE2) λ m3 hm3 El3=>?_;have P1:zfB w h1 a l1:=⟨⟨_,es1,ep1,t1,hget1,hxs,rfl,I1,hbt1,El1⟩,hbox1⟩
   refine wpAny_bind ?_;rw[<- Array.forIn_toList];refine wpAny_forIn_list (s:={ s with heap:=h1 }) _ (λ rest _ s'=>ypQ w s a l m rest s') _ ?_ ?_ es3.toList _
    ⟨h1,l1,m3,rfl,hsb1,P1,El3,λ q=>by rw[hp1.mem_iff,hm3.mem_iff],λ q hq=>So.box q (hm3.mem_iff.mp hq)⟩
   ·rintro⟨hh,v⟩ rest u s' ⟨h',l',m',rfl,hsb,P',El',hmem,hbx⟩
    refine q24 El'.cons_inv ?_;intro p m'' u0;subst u0;intro he hpt El'';simp only[Prod.mk.injEq]at he;obtain⟨rfl,_⟩:=he;have hpb:zeL p:=hbx p (List.mem_cons.mpr (.inl rfl));have hbx':∀ q∈m'',zeL q:=λ q hq=>hbx q (List.mem_cons.mpr (.inr hq));refine wpAny_bind (wpAny_holding (zhI (s:={ s with heap:=h' }) hu P' hpt hpb (Nat.lt_of_le_of_lt P'.length_le (by decide)) (λ hin=>?_) (λ hn h2 l2 hsb2 hp2 P2=>?_)))
    ·have hb':h'.get? b=some o2:=(ziD hsb (Ne.symm hab)).trans ho2
     refine zpH (s:={ s with heap:=h' }) hb' hd2 I2 (heach _ · (hb'.trans ho2.symm)) ⟨h',l',m'',rfl,hsb,P',El'',λ q=>?_,hbx'⟩;rw[<- hmem q,List.mem_cons];exact⟨λ h=>h.elim .inl λ h=>.inr (.inr h),λ h=>h.elim .inl λ h=>h.elim (λ e=>.inl (e▸hin)) .inr⟩
    ·have hb2:h2.get? b=some o2:=(ziD (hsb.trans hsb2) (Ne.symm hab)).trans ho2
     refine q43 P'.obj λ oo _ _ _ hoo hxx _=>?_;refine zpH (s:={ s with heap:=h2 }) hb2 hd2 I2 (heach _ · (hb2.trans ho2.symm)) ⟨h2,l2,m'',rfl,hsb.trans hsb2,P2,El''.keep (zcE hsb2 hoo (zcD hxx)),λ q=>?_,hbx'⟩;rw[<- hmem q,hp2.mem_iff,List.mem_cons,List.mem_cons];exact ygJ
   ·intro u s' uu;refine q31 uu ?_;clear uu;intro h' l' m' u8;refine q06 u8 ?_;clear u8;intro u0;subst u0;intro hsb P' El' hmem hbx
    have:m'=[]:=El'.nil_inv;subst this;exact wpAny_pure (h h' l' hsb (λ q=>by rw[<- hmem q];simp) P')
  ·rw[if_neg hfill]
   have hf0:t1.fill=0:=by simpa using hfill
   have hl1:l1=[]:=by
    have h1:=I1.size;have h2:=El1.length;unfold SetTable.fill at hf0;rw[List.length_map,h2]at h1;exact List.length_eq_zero_iff.mp (by lia)
   have hl0:l=[]:=by rw[hl1]at hp1;exact hp1.symm.eq_nil
   have hmem:∀ q,q∈m↔q∈l\/q∈m:=λ q=>by rw[hl0];simp
   by_cases hmk:(t1.mask==t2.mask&&t2.dummies.isEmpty)=true
   ·rw[if_pos hmk]
    dsimp only;refine wpAny_storeSet_of (s:={ s with heap:=h1 }) hget1 rfl ?_ (zoB (by exact lq29 hes2 hm25 rfl));refine h _ m (hsb1.trans (Heap.SameBut.update ..)) hmem ?_;refine zgC (s:={ s with heap:=h1 }) hget1 hxs rfl (ydP I2 rfl rfl rfl) ?_ hE2 So.box;intro q;obtain⟨q1,q2⟩:=hbt1 q;obtain⟨q3,q4⟩:=hbt2 q
    simp[q1,q2,q3,q4]
   ·rw[if_neg hmk]
    dsimp only;refine q21 (Tab.laid_ok t1.finger t1.moves (t1.led&&t2.led) (t1.plain&&t2.plain) (hashes:=es2.map (·.1)) I1.mask (by simpa using I2.nodup) (by simp;lia)) λ t' order u8=>q08 u8 λ e hp hm hl hpl hdm hfl I0=>?_;have hsz:(es2.map (·.1)).size=es2.size:=by simp
    rw[hsz]at hp hfl;refine q04 (relaid hE2 hp) λ hsize hmap El' hpm=>?_;rw[e];refine wpAny_bind ?_
    show wpAny _ _ (if ((order.filterMap (es2[·]?)).size != es2.size)=true then _ else _) _ _ _
    refine zdY (by rw[hsize];simp) (wpAny_pure ?_);refine wpAny_storeSet_of (s:={ s with heap:=h1 }) hget1 rfl ?_ (zoB (by rw[hsize];exact lq29 hes2 hm25 rfl));refine h _ (order.toList.filterMap λ i=>m[i]?) (hsb1.trans (Heap.SameBut.update ..)) (λ q=>by rw[hpm.mem_iff];exact hmem q) ?_;refine zgC (s:={ s with heap:=h1 }) hget1 hxs rfl (by rw[hmap];exact⟨I0,by rw[hfl,hm];lia⟩) ?_ El' λ q hq=>So.box q (hpm.mem_iff.mp hq);intro q;obtain⟨q1,q2⟩:=hbt1 q;obtain⟨q3,q4⟩:=hbt2 q;rw[hl,hpl]
    simp[q1,q2,q3,q4]
end
open PySem.Calls
section
variable {prog:Program}{w:World}{A:Around}{E:Value->Shared->Prop}{s:Shared}{a b:Addr}{l m:List Pt}{p:Pt}{x:Value}
noncomputable abbrev zfS (w:World):Obj:={ cls:=.type "set",dict:=none,data:=.set #[] 0 (.fresh 0 0 (!w.params.followText "set-order")) }
theorem zvN {Q1:Value->Shared->Prop}(h:Q1 (.ref s.heap.objs.size) { s with heap:=s.heap.push (zfS w) }):
  codeAny (model prog w) A (.call (.builtin "set.__new__") ⟨[.type "set"],[]⟩) (wants Q1 E) s:=by
 refine codeAny_of_tree ?_
 show wpAny _ A.in1 (do checkBuiltinCall "set.__new__" ⟨[.type "set"],[]⟩;again (.builtin "set.__new__" ⟨[.type "set"],[]⟩)) _ _ s
 refine wpAny_bind (wpAny_of_eq F.newCall_set_0 (wpAny_pure ⟨plainId_quiet F.plain_set_new _,codeAny_builtin F.entry_set_new ?_⟩));rw[Around.under_plainId F.plain_set_new _];unfold Builtin.«set.__new__» Builtin.Frozenset.newClass;have hsub:=sub_set_self;obtain⟨hp,g,d,tk,os⟩:=s;dsimp only
 wp_walk
 refine wpAny_askSetting (wpAny_pure ?_);dsimp only;simp only[newObj];refine wpAny_bind (wpAny_alloc (wpAny_pure ?_));exact wpAny_pure h
set_option maxHeartbeats 1000000 in
theorem ztL {Q:Value->Shared->Prop}(h:zfB w (s.heap.push (zfS w)) s.heap.objs.size []->Q (.ref s.heap.objs.size) { s with heap:=s.heap.push (zfS w) }):
  wpAny (model prog w) A (call (.type "set") []) Q E s:=by
 have hP:zfB w (s.heap.push (zfS w)) s.heap.objs.size []:=by
  refine⟨⟨_,#[],0,_,Heap.get?_push_size _ rfl,⟨rfl,rfl,rfl⟩,rfl,?_,?_,⟨rfl,λ i p e h1=>by simp at h1⟩⟩,λ p hp=>by simp at hp⟩
  ·refine⟨⟨⟨?_,?_,?_,?_,?_⟩,?_,?_,?_,?_⟩,?_⟩ <;> simp[SetTable.fresh,SetTable.fill]
   ·exact .inl rfl
  ·intro e;rw[e];exact⟨rfl,rfl⟩
 have h:=h hP;clear hP;refine q21 F.called_set.mro λ c tl hmro=>?_;have hmade:=F.called_set.made;have hsub:=F.called_set.sub;refine wpAny_call (codeAny_of_tree ?_)
 show wpAny _ _ (callAny (.type "set") _) _ _ _
 refine wpAny_pure ⟨Code.quiet_builtin _ (by decide +kernel),codeAny_builtin F.entry_type_call ?_⟩;rw[Around.under_plain (weight_type_call_type "set" [] []) rfl];have h1:=F.called_set.notType;have h2:=F.called_set.canCreate;have hct:=F.typeCall_set_0
 repeat (any_goals (first|assumption|wp_step))
 refine codeAny_mono (zvN (E:=E) (Q1:=λ obj s1=>obj=.ref s.heap.objs.size/\s1={ s with heap:=s.heap.push (zfS w) }) ⟨rfl,rfl⟩) λ r s1 hr=>?_;cases r with
 | error e=>exact hr
 | ok fl=>
  cases fl with
  | ret obj=>
   obtain⟨rfl,rfl⟩:=hr;have hS:(s.heap.push (zfS w)).get? s.heap.objs.size=some (zfS w):=Heap.get?_push_size _ rfl;have hT:Shared.TypeIs { s with heap:=s.heap.push (zfS w) } (.ref s.heap.objs.size) "set" := ⟨_,hS,rfl⟩
   have hli:=F.called_set.init.lookup;have hbi:=F.called_set.init.bind (.ref s.heap.objs.size)
   repeat (any_goals (first|assumption|wp_step))
   refine codeAny_mono (codeAny_call_builtin (R:=wants (λ r s2=>r=.none/\Q (.ref s.heap.objs.size) s2) E) F.called_set.init.plain F.entry_set_init (check_set_init hT ?_)) λ r2 s2 hr2=>?_
   ·unfold Builtin.«set.__init__» noKeywords
    wp_walk
    exact⟨rfl,h⟩
   ·cases r2 with
    | error e=>exact hr2
    | ok fl2=>
     cases fl2 with
     | ret r=>
      obtain⟨rfl,hq⟩:=hr2
      repeat (any_goals (first|assumption|wp_step))
     | _=>exact hr2.elim
  | _=>exact hr.elim
theorem yoB {Q:Value->Shared->Prop}(hu:A.units+5<cLine)(S:zfB w s.heap a l)(hx:zhJ s.heap p x)(hb:zeL p)
  (h:∀ tk,Q (.bool (decide (p∈l))) { s with toks:=tk }):wpAny (model prog w) A (compareOp .In x (.ref a)) Q E s:=by
 show wpAny _ _ (do return .bool (<- contains (.ref a) x)) Q E s
 refine wpAny_bind ?_;unfold contains
 try with_reducible refine wpAny_holding ?_
 refine wpAny_bind (wpAny_specialOf S.typeIs F.slot_set_contains.lookup ?_)
 show wpAny _ _ (if (some (Value.builtin "set.__contains__")==some Value.none)=true then _ else _) _ E s
 rw[if_neg (by rw[beq_builtin_none];exact Bool.false_ne_true)];refine wpAny_bind (wpAny_callSpecialUnlessNone?_slot (name:=Str.ofString "__contains__") S.typeIs F.slot_set_contains
  (wpAny_call_entry F.slot_set_contains S.typeIs entry_set_contains ?_ (F.args_set_contains_2 _ _)))
 delta Builtin.«frozenset.__contains__»
 refine wpAny_bind (wpAny_of_eq (a:=(a,x)) rfl ?_);refine wpAny_bind (m:=Sem.tryCatch _ _) (wpAny_tryCatch ?_);refine zoT (A:=A.in1) (by show A.units+1<cLine;exact lq7 hu rfl) S hx hb λ tk=>?_;exact wpAny_pure ⟨_,rfl,wpAny_truthy_bool (wpAny_pure (h _))⟩
theorem zoV {pl:Sem Bool}{Q:Value×List Value->Shared->Prop}(S:zfB w s.heap a l)(h:Q (.builtin "set.add",[.ref a]) s):
  wpAny (model prog w) A (getMethod (.ref a) "add" pl) Q E s:=
 getMethod_builtin S.typeIs F.plainAttrs_set F.slot_set_add F.type_set_add S.noDict h
theorem zrJ {Q:Value->Shared->Prop}(hu:A.units+5<cLine)(S:zfB w s.heap a l)(hx:zhJ s.heap p x)(hb:zeL p)
  (h1:p∈l->∀ tk,Q .none { s with toks:=tk })
  (h2:p∉l->∀ h' l' tk,Heap.SameBut a s.heap h'->l'.Perm (p::l)->zfB w h' a l'->Q .none { s with heap:=h',toks:=tk }):
  wpAny (model prog w) A (call (.builtin "set.add") [.ref a,x]) Q E s:=by
 refine wpAny_call_entry F.slot_set_add S.typeIs F.entry_set_add ?_ (F.args_set_add_2 _ _)
 delta Builtin.«set.add»
 refine wpAny_bind (wpAny_of_eq (a:=(a,x)) rfl ?_);refine wpAny_bind (m:=setAdd a x) ?_;refine yaO (A:=A.in1) (by show A.units+1<cLine;exact lq7 hu rfl) S hx hb (by have:=S.length_le;exact lq3 this rfl) (λ h tk=>?_) (λ h h' l' tk a1 a2 a3=>?_)
 ·exact wpAny_pure ⟨_,rfl,h1 h tk⟩
 ·exact wpAny_pure ⟨_,rfl,h2 h h' l' tk a1 a2 a3⟩
end
section
variable {prog:Program}{w:World}{A:Around}{E:Value->Shared->Prop}{s:Shared}{a b:Addr}{l m:List Pt}{p:Pt}{x:Value}
theorem zoY {pl:Sem Bool}{Q:Value×List Value->Shared->Prop}(S:zfB w s.heap a l)(h:Q (.builtin "set.pop",[.ref a]) s):
  wpAny (model prog w) A (getMethod (.ref a) "pop" pl) Q E s:=
 getMethod_builtin S.typeIs F.plainAttrs_set F.slot_set_pop F.type_set_pop S.noDict h
theorem zkA {pl:Sem Bool}{Q:Value×List Value->Shared->Prop}(S:zfB w s.heap a l)(h:Q (.builtin "set.update",[.ref a]) s):
  wpAny (model prog w) A (getMethod (.ref a) "update" pl) Q E s:=
 getMethod_builtin S.typeIs F.plainAttrs_set F.slot_set_update F.type_set_update S.noDict h
theorem zrA {Q:Value->Shared->Prop}(S:zfB w s.heap a l)(hne:l≠[])
  (h:∀ (i:Nat) (p:Pt) (v:Value) (h':Heap) (d:Drawn),l[i]?=some p->Heap.SameBut a s.heap h'->zfB w h' a (l.eraseIdx i)->zhJ h' p v->Q v { s with heap:=h',drawn:=d }):
  wpAny (model prog w) A (call (.builtin "set.pop") [.ref a]) Q E s:=by
 refine wpAny_call_entry F.slot_set_pop S.typeIs F.entry_set_pop ?_ (F.args_set_pop_1 _)
 delta Builtin.«set.pop»
 refine wpAny_bind (wpAny_of_eq (a:=a) rfl ?_);refine wpAny_bind (ycZ S hne λ i p v h' d h1 h2 h3 h4=>?_);exact wpAny_pure ⟨_,rfl,h i p v h' d h1 h2 h3 h4⟩
theorem zmB {Q:Value->Shared->Prop}(hu:A.units+5<cLine)(S:zfB w s.heap a l)(So:zfB w s.heap b m)(hab:a≠b)
  (h:∀ h' l',Heap.SameBut a s.heap h'->(∀ q,q∈l'↔q∈l\/q∈m)->zfB w h' a l'->Q .none { s with heap:=h' }):
  wpAny (model prog w) A (call (.builtin "set.update") [.ref a,.ref b]) Q E s:=by
 refine wpAny_call_entry F.slot_set_update S.typeIs F.entry_set_update ?_ (F.args_set_update_2 _ _)
 delta Builtin.«set.update»
 refine wpAny_bind (wpAny_of_eq (a:=(a,[.ref b])) rfl ?_);dsimp only;refine wpAny_bind ?_;rw[List.forIn_cons];refine wpAny_bind (wpAny_bind ?_);unfold Builtin.Frozenset.updateFrom Builtin.Frozenset.isAnySet;refine wpAny_bind (wpAny_bind (wpAny_isInstance So.typeIs sub_set_self ?_));refine wpAny_pure ?_;rw[if_pos rfl];unfold Builtin.Frozenset.addrOf;refine wpAny_bind (wpAny_pure ?_);unfold Builtin.Frozenset.merge;refine q46 (id So.obj) λ o2 es2 ep2 t2 ho2 hxs2 hd2 I2 hbt2 El2=>?_;have hep:∀ (s':Shared) (R:Nat->Shared->Prop),s'.heap.get? b=s.heap.get? b->R ep2 s'->wpAny (model prog w) A.in1 (setEpoch b) R E s':=λ s' R e r=>by
  unfold setEpoch;exact wpAny_bind (wpAny_setState_of (e.trans ho2) hd2 (zbI I2) (wpAny_pure r))
 refine wpAny_bind (hep s _ rfl ?_);refine zuP (A:=A.in1) (by show A.units+1<cLine;exact lq7 hu rfl) S So hab (λ s' R e r=>?_) λ h' l' h1 h2 h3=>?_
 ·unfold Builtin.Frozenset.unchanged
  refine wpAny_bind (hep s' _ e ?_);refine zdY (by simp) ?_;exact wpAny_pure r
 ·refine wpAny_pure ?_
  dsimp only;rw[List.forIn_nil];exact wpAny_pure (wpAny_pure ⟨_,rfl,h h' l' h1 h2 h3⟩)
end
namespace SF
theorem slot_next:Slot "set_iterator" "__next__" "set_iterator.__next__":=
 .of (owner := "set_iterator") (n := "__next__") (by rw[typeLookup_type,builtinLookup_eq_fast];kernel_rfl) (by decide +kernel) (by decide +kernel) (by decide +kernel)
  (by first|exact .inl (by decide +kernel) | exact .inr (by decide +kernel)) (by rw[isSubtype_type];kernel_rfl)
theorem entry_next:entryFor table "set_iterator.__next__" = some Builtin.«set_iterator.__next__»:=entryFor_of_tree (by kernel_rfl)
theorem args_next (a:Value):argsOk "set_iterator.__next__" ⟨[a],[]⟩:=by unfold argsOk;kernel_rfl
theorem entry_iter:entryFor table "set.__iter__" = some Builtin.«frozenset.__iter__»:=
 entryFor_alias (id' := "frozenset.__iter__") (by kernel_rfl) rfl (by decide +kernel) (by kernel_rfl)
end SF
noncomputable def zkZ (w:World)(a:Addr)(es:Array (Int×Value))(ep:Nat):Array (Int×Value):=if w.params.followText "set-order" then pickOrder (w.params.setOrder a ep) es else es
theorem zvM (w:World)(a:Addr)(es:Array (Int×Value))(ep:Nat):(zkZ w a es ep).toList.Perm es.toList:=by
 unfold zkZ;split
 ·exact zfX _ _
 ·exact List.Perm.refl _
noncomputable def zcS (w:World)(t:SetTable)(i:Nat):Nat:=if w.params.followText "set-order" then 0 else if i=0 then 0 else t.place.getD (i-1) 0+1
noncomputable abbrev zbA (slot i:Nat)(a:Addr)(n ep:Nat):Obj:={ cls:=.type "set_iterator",data:=.fields #[rawInt slot,rawInt i,.ref a,rawInt n,rawInt ep] }
section
variable {prog:Program}{w:World}{A:Around}{E:Value->Shared->Prop}{s:Shared}{a it:Addr}{l m:List Pt}{p:Pt}{x:Value}
variable {o:Obj}{es:Array (Int×Value)}{ep:Nat}{t:SetTable}
theorem zjA {Q:Value->Shared->Prop}(ho:s.heap.get? a=some o)(hx:o.ExactSet)(hd:o.data=.set es ep t)(I:Tab.Inv t (es.toList.map (·.1)))
  (hbt:w.params.followText "set-order" = false->t.led=true/\t.plain=true)
  (h:Q (.ref s.heap.objs.size) { s with heap:=s.heap.push (zbA 0 0 a es.size ep) }):wpAny (model prog w) A (pyIter (.ref a)) Q E s:=by
 have hT:s.TypeIs (.ref a) "set" := ⟨o,ho,hx.1⟩
 have hf:=zbI I;refine wpAny_pyIter_slot hT F.slot_set_iter (wpAny_call_entry F.slot_set_iter hT SF.entry_iter ?_ (F.args_set_iter_1 _))
 delta Builtin.«frozenset.__iter__»
 refine wpAny_bind (wpAny_of_eq (a:=a) rfl ?_);unfold Builtin.Frozenset.sizeOf;refine wpAny_bind (wpAny_bind (wpAny_setEntries_of ho hd hf (wpAny_pure ?_)));unfold setDrawn;refine wpAny_bind (wpAny_bind (wpAny_setState_of ho hd hf ?_));refine wpAny_bind (zbJ (wpAny_pure ?_));have e0:(!w.params.followText "set-order" && (!t.plain&&decide (es.size>1)))=false:=by
  cases hb:w.params.followText "set-order" with
  | true=>rfl
  | false=>rw[(hbt hb).2];rfl
 show wpAny _ _ (if (!w.params.followText "set-order" && (!t.plain&&decide (es.size>1)))=true then _ else _) _ _ _
 rw[e0,if_neg (by decide)];refine wpAny_bind ?_;refine wpAny_pure ?_;unfold setEpoch;refine wpAny_bind (wpAny_bind (wpAny_setState_of ho hd hf (wpAny_pure ?_)));exact wpAny_bind (wpAny_newObj_type (wpAny_pure ⟨_,rfl, "set_iterator",_,⟨_,Heap.get?_push_size _ rfl,rfl⟩,SF.slot_next.lookup,h⟩))
theorem zqF (I:Tab.Inv t (es.toList.map (·.1))){i:Nat}(hi:i<=es.size):SetTable.below t.place (if i=0 then 0 else t.place.getD (i-1) 0+1)=i:=by
 have hsz:t.place.size=es.size:=by rw[I.size];simp
 have hs:=I.sp;rw[<- hsz]at hi;refine q03 (Tab.below_spec hs (if i=0 then 0 else t.place.getD (i-1) 0+1)) λ h1 h2 h3=>?_;cases i with
 | zero=>
  rw[if_pos rfl]at h1 h2 ⊢;exact Nat.eq_zero_of_not_pos λ hp=>Nat.not_lt_zero _ (h2 0 (Nat.lt_of_lt_of_le hp h1) hp)
 | succ k=>
  rw[if_neg (Nat.succ_ne_zero k),show t.place.getD (k+1-1) 0=t.place[k] from dif_pos hi]at h1 h2 h3 ⊢;exact Nat.le_antisymm (Nat.le_of_not_lt λ hlt=>absurd (List.pairwise_iff_getElem.mp hs k (k+1) hi (Nat.lt_of_lt_of_le hlt h1) (Nat.lt_succ_self k)) (Nat.not_lt.mpr (Nat.le_of_lt_succ (h2 (k+1) (Nat.lt_of_lt_of_le hlt h1) hlt)))) (Nat.le_of_not_lt λ hlt=>Nat.not_succ_le_self _ (h3 k hi (Nat.le_of_lt_succ hlt)))
theorem zfP {i:Nat}{x:Int×Value}{Q:Option Value->Shared->Prop}(hit:s.heap.get? it=some (zbA (zcS w t i) i a es.size ep))(ho:s.heap.get? a=some o)(hx:o.ExactSet)(hd:o.data=.set es ep t)(I:Tab.Inv t (es.toList.map (·.1)))
  (hbt:w.params.followText "set-order" = false->t.led=true/\t.plain=true) (he:(zkZ w a es ep)[i]?=some x)
  (h:∀ h',h'.get? it=some (zbA (zcS w t (i+1)) (i+1) a es.size ep)->Heap.SameBut it s.heap h'->Q (some x.2) { s with heap:=h' }):wpAny (model prog w) A (pyNext (.ref it)) Q E s:=by
 have hT:s.TypeIs (.ref it) "set_iterator" := ⟨_,hit,rfl⟩
 have hf:=zbI I;unfold pyNext;refine wpAny_bind (wpAny_attempt (wpAny_callSpecial?_slot (name:=Str.ofString "__next__") hT SF.slot_next
  (wpAny_call_entry SF.slot_next hT SF.entry_next ?_ (SF.args_next _))))
 delta Builtin.«set_iterator.__next__»
 refine wpAny_bind (wpAny_of_eq (a:=(.ref it,[])) rfl ?_);dsimp only;refine wpAny_bind (wpAny_fieldsOf hit rfl ?_)
 show wpAny _ _ (setEntries a >>= _) _ _ _
 refine wpAny_bind (wpAny_setEntries_of ho hd hf ?_);rw[if_neg (by simp)]
 show wpAny _ _ (setNext a (zcS w t i:Int).toNat (i:Int).toNat (ep:Int).toNat >>= _) _ _ _
 refine wpAny_bind (m:=setNext a (zcS w t i) i ep) ?_;have key:wpAny (model prog w) A.in1 (setNext a (zcS w t i) i ep) (λ r s'=>r=some (x.2,zcS w t (i+1))/\s'=s) (λ _ _=>False) s:=by
  unfold setNext;refine wpAny_bind (wpAny_setState_of ho hd hf ?_);refine wpAny_bind (zbJ ?_);cases hb:w.params.followText "set-order" with
  | true=>
   rw[if_pos rfl];dsimp only;rw[if_neg (by simp)];unfold setWalk;refine wpAny_bind (wpAny_bind (wpAny_setState_of ho hd hf ?_));refine wpAny_bind (zbJ ?_);rw[hb,if_pos rfl];refine wpAny_bind (wpAny_askSetting (wpAny_pure (wpAny_pure ?_)));have hw:zkZ w a es ep=pickOrder (w.params.setOrder a ep) es:=by unfold zkZ;rw[hb];rfl
   rw[hw]at he;refine⟨?_,rfl⟩
   show Option.map _ ((pickOrder (w.params.setOrder a ep) es)[i]?)=_
   rw[he]
   simp[zcS,hb]
  | false=>
   obtain⟨hl,hp⟩:=hbt hb;rw[if_neg (by decide)]
   show wpAny _ _ (if (!t.plain&&decide (es.size>1))=true then _ else _) _ _ _
   rw[hp,if_neg (by simp)];refine wpAny_bind ?_
   show wpAny _ _ (if (!t.led&&!es.isEmpty)=true then _ else _) _ _ _
   rw[hl,if_neg (by simp)];refine wpAny_pure (wpAny_pure ?_);have hw:zkZ w a es ep=es:=by unfold zkZ;rw[hb];rfl
   rw[hw]at he;have hlt:i<es.size:=(Array.getElem?_eq_some_iff.mp he).1;have hsz:t.place.size=es.size:=by rw[I.size];simp
   have hbel:=zqF I (i:=i) (by lia);have hsl:zcS w t i=if i=0 then 0 else t.place.getD (i-1) 0+1:=by unfold zcS;rw[hb];rfl
   refine⟨?_,rfl⟩;rw[hsl,hbel,he,Array.getElem?_eq_getElem (by exact lq28 hsz hlt:i<t.place.size)]
   simp[zcS,hb,Array.getD,(by exact lq28 hsz hlt:i<t.place.size)]
 refine wpAny_mono key (λ r s' hr=>?_) λ _ _ e=>e.elim;obtain⟨rfl,rfl⟩:=hr;dsimp only;refine wpAny_bind (wpAny_setField hit rfl (by simp) ?_);refine wpAny_bind (wpAny_setField (Heap.get?_update_self _ hit rfl) rfl (by simp) (wpAny_pure ⟨x.2,rfl,wpAny_pure (h _ ?_ ((Heap.SameBut.update ..).trans (Heap.SameBut.update ..)))⟩));refine (Heap.get?_update_self _ (Heap.get?_update_self _ hit rfl) rfl).trans ?_
 rfl
theorem zgE {i:Nat}{Q:Option Value->Shared->Prop}(hh:A.handled=none)(hit:s.heap.get? it=some (zbA (zcS w t i) i a es.size ep))(ho:s.heap.get? a=some o)(hx:o.ExactSet)(hd:o.data=.set es ep t)(I:Tab.Inv t (es.toList.map (·.1)))
  (hbt:w.params.followText "set-order" = false->t.led=true/\t.plain=true) (hi:i=es.size)
  (h:∀ h',Heap.ExtBut it s.heap h'->Q none { s with heap:=h' }):wpAny (model prog w) A (pyNext (.ref it)) Q E s:=by
 have hT:s.TypeIs (.ref it) "set_iterator" := ⟨_,hit,rfl⟩
 have hf:=zbI I;unfold pyNext;refine wpAny_bind (wpAny_attempt (wpAny_callSpecial?_slot (name:=Str.ofString "__next__") hT SF.slot_next
  (wpAny_call_entry SF.slot_next hT SF.entry_next ?_ (SF.args_next _))))
 delta Builtin.«set_iterator.__next__»
 refine wpAny_bind (wpAny_of_eq (a:=(.ref it,[])) rfl ?_);dsimp only;refine wpAny_bind (wpAny_fieldsOf hit rfl ?_)
 show wpAny _ _ (setEntries a >>= _) _ _ _
 refine wpAny_bind (wpAny_setEntries_of ho hd hf ?_);rw[if_neg (by simp)]
 show wpAny _ _ (setNext a (zcS w t i:Int).toNat (i:Int).toNat (ep:Int).toNat >>= _) _ _ _
 simp only[Int.toNat_natCast];refine wpAny_bind ?_;have key:wpAny (model prog w) A.in1 (setNext a (zcS w t i) i ep) (λ r s'=>r=none/\s'=s) (λ _ _=>False) s:=by
  unfold setNext;refine wpAny_bind (wpAny_setState_of ho hd hf ?_);refine wpAny_bind (zbJ ?_);cases hb:w.params.followText "set-order" with
  | true=>
   rw[if_pos rfl];dsimp only;rw[if_neg (by simp)];unfold setWalk;refine wpAny_bind (wpAny_bind (wpAny_setState_of ho hd hf ?_));refine wpAny_bind (zbJ ?_);rw[hb,if_pos rfl];refine wpAny_bind (wpAny_askSetting (wpAny_pure (wpAny_pure ?_)));refine⟨?_,rfl⟩;have hp:=(zfX (w.params.setOrder a ep) es).length_eq;simp only[Array.length_toList]at hp
   show Option.map _ ((pickOrder (w.params.setOrder a ep) es)[i]?)=_
   rw[Array.getElem?_eq_none (by lia)]
   rfl
  | false=>
   obtain⟨hl,hp⟩:=hbt hb;rw[if_neg (by decide)]
   show wpAny _ _ (if (!t.plain&&decide (es.size>1))=true then _ else _) _ _ _
   rw[hp,if_neg (by simp)];refine wpAny_bind ?_
   show wpAny _ _ (if (!t.led&&!es.isEmpty)=true then _ else _) _ _ _
   rw[hl,if_neg (by simp)];refine wpAny_pure (wpAny_pure ?_);have hbel:=zqF I (i:=i) (by lia);have hsl:zcS w t i=if i=0 then 0 else t.place.getD (i-1) 0+1:=by unfold zcS;rw[hb];rfl
   refine⟨?_,rfl⟩;rw[hsl,hbel,Array.getElem?_eq_none (by lia:es.size<=i)]
 refine wpAny_mono key (λ r s' hr=>?_) λ _ _ e=>e.elim;obtain⟨rfl,rfl⟩:=hr;dsimp only;refine wpAny_bind (wpAny_setField hit rfl (by simp) ?_)
 show wpAny _ _ (newExc (.type "StopIteration") [] >>= _) _ _ _
 refine wpAny_bind ?_;simp only[newExc,newTuple];refine wpAny_bind (wpAny_newObj_type ?_ (by size_fits));refine wpAny_bind (m:=firstArgMember _ _) (wpAny_of_eq (a:=Value.none) (by first|rfl | (simp only[firstArgMember];rfl)) ?_);refine wpAny_newObj_type ?_ (by size_fits)
 delta raiseNew
 dsimp only;refine wpAny_bind (wpAny_handled ?_);rw[show A.in1.handled=none from hh];refine wpAny_bind (wpAny_pure (wpAny_throw ?_));refine wpAny_bind (wpAny_isInstance (T := "StopIteration") (b:=true) ⟨_,Heap.get?_push_size _ rfl,rfl⟩ isSubtype_stop ?_);exact wpAny_pure (h _ (((Heap.SameBut.update ..).extBut.push _).push _))
end
noncomputable def zwA (o:Obj):Prop:=∃ vs,o.data=.fields vs/\vs[2]?=some .none
noncomputable def C2 (h:Heap)(e:Addr):Prop:=∃ o,h.get? e=some o/\zwA o
noncomputable def Kp2 (f:Obj->Obj):Prop:=∀ o,zwA o->zwA (f o)
inductive K2 {α:Type}:Sem α->Prop
 | pure (a:α):K2 (.pure a)
 | raise (e:Value):K2 (.raise e)
 | unsupported (w:String):K2 (.unsupported w)
 | load (a:Addr) (p:Option Value) (k:Obj->Sem α) (h:∀ x,K2 (k x)):K2 (.load a p k)
 | update (a:Addr) (p:Option Value) (f:Obj->Obj) (k:Unit->Sem α) (hf:Kp2 f) (h:∀ x,K2 (k x)):K2 (.update a p f k)
 | alloc (o:Obj) (k:Addr->Sem α) (h:∀ x,K2 (k x)):K2 (.alloc o k)
 | stack (k:List (Code×Pos)->Sem α) (h:∀ x,K2 (k x)):K2 (.stack k)
theorem C2.update {h:Heap}{e a:Addr}{f:Obj->Obj}(hc:C2 h e)(hf:Kp2 f):C2 (h.update a f) e:=by
 refine q12 hc λ o ho hx=>?_
 by_cases q:a=e
 ·subst q
  refine q12 (hf o hx) λ vs hd h2=>?_;exact⟨f o,Heap.get?_update_self f ho (Obj.isFreed_of_fields hd),vs,hd,h2⟩
 ·exact⟨o,(Heap.get?_update_other h f q).trans ho,hx⟩
theorem K2.wp {α:Type}{t:Sem α}(h:K2 t){M:Model}{Γ:Ctx}{Q:α->Pos->Shared->Prop}{E:Value->Pos->Shared->Prop}{e:Addr}:∀ {p:Pos} {s:Shared},Sem.wp M Γ t Q E p s->C2 s.heap e->Sem.wp M Γ t (λ a p s=>Q a p s/\C2 s.heap e) (λ v p s=>E v p s/\C2 s.heap e) p s:=by
 induction h with
 | pure a=>exact λ h c=>⟨h,c⟩
 | raise v=>exact λ h c=>⟨h,c⟩
 | unsupported w=>exact λ h c=>h
 | load a p k h ih=>exact λ u9 c=>q12 u9 λ o ho h=>⟨o,ho,ih o h c⟩
 | update a p f k hf h ih=>exact λ u9 c=>q02 u9 λ ho h=>⟨ho,ih () h (c.update hf)⟩
 | alloc o k h ih=>exact λ h c=>ih _ h (let ⟨x,hx,y⟩:=c;⟨x,Heap.get?_push_of_some _ hx,y⟩)
 | stack k h ih=>exact λ h c=>ih _ h c
theorem K2.keep {α:Type}{t:Sem α}(h:K2 t){M:Model}{A:Around}{Q:α->Shared->Prop}{E:Value->Shared->Prop}{e:Addr}{s:Shared}(hw:wpAny M A t Q E s)(c:C2 s.heap e):wpAny M A t (λ a s=>Q a s/\C2 s.heap e) (λ v s=>E v s/\C2 s.heap e) s:=
 λ Γ p hΓ=>h.wp (hw Γ p hΓ) c
theorem K2.bind {α β:Type}{m:Sem α}{f:α->Sem β}(h:K2 m)(hf:∀ a,K2 (f a)):K2 (m >>= f):=by
 show K2 (m.bind f)
 induction h with
 | pure a=>exact hf a
 | raise v=>exact .raise v
 | unsupported w=>exact .unsupported w
 | load a p k h ih=>exact .load a p _ ih
 | update a p g k hg h ih=>exact .update a p g _ hg ih
 | alloc o k h ih=>exact .alloc o _ ih
 | stack k h ih=>exact .stack _ ih
theorem K2.ite {α:Type}{c:Prop}[Decidable c]{a b:Sem α}(h:K2 a)(h':K2 b):K2 (if c then a else b):=by
 split
 ·exact h
 ·exact h'
theorem K2.ret {α:Type}(a:α):K2 (Pure.pure a:Sem α):=.pure a
theorem K2.no {α:Type}(w:String):K2 (PySem.unsupported w:Sem α):=.unsupported w
theorem K2.ld (a:Addr):K2 (PySem.load a):=.load a _ _ λ o=>.pure o
theorem K2.fieldsOf (v:Value):K2 (PySem.fieldsOf v):=by
 unfold PySem.fieldsOf;cases v with
 | ref a=>
  refine K2.bind (K2.ld a) λ o=>?_;cases o.data <;> first|exact K2.ret _ | exact K2.no _
 | _=>exact K2.no _
theorem K2.field (v:Value)(i:Nat):K2 (PySem.field v i):=by
 refine K2.bind (K2.fieldsOf v) λ vs=>?_;cases vs[i]? <;> first|exact K2.ret _ | exact K2.no _
theorem yaR {i:Nat}{v:Value}(h:i≠2):Kp2 (Obj.mapFields (·.setIfInBounds i v)):=λ o u9=>q12 u9 λ vs hd h2=>
 ⟨_,Obj.data_mapFields hd _,(Array.getElem?_setIfInBounds_ne h).trans h2⟩
theorem K2.setField (v:Value){i:Nat}(x:Value)(h:i≠2):K2 (PySem.setField v i x):=by
 cases v with
 | ref a=>
  show K2 (updateField a i x)
  refine K2.bind (K2.ld a) λ o=>?_;cases o.data with
  | fields vs=>exact K2.ite (.update a _ _ _ (yaR h) λ u=>.pure u) (K2.no _)
  | _=>exact K2.no _
 | _=>exact K2.no _
theorem K2.setFlight (e:Value)(f:Option Addr):K2 (PySem.setFlight e f):=
 K2.bind (K2.field e 1) λ tb=>K2.ite (K2.setField _ _ (by decide)) (K2.ret _)
theorem K2.behind (env:Env)(outer:List Env):K2 (behindIsImport env outer):=by
 unfold behindIsImport;refine K2.ite (K2.ret _) (K2.ite (K2.ret _) (K2.bind (K2.field _ _) λ _=>K2.ret _))
theorem K2.stk:K2 PySem.stack:=.stack _ λ x=>.pure x
theorem K2.back (env:Env)(i:Bool)(outer:List Env):K2 (keptBack env i outer):=by
 cases outer with
 | nil=>exact K2.ite (K2.ret _) (K2.bind (K2.bind K2.stk λ _=>K2.ret _) λ _=>K2.ret _)
 | cons a l=>exact K2.ret _
theorem K2.ready:∀ l:List Env,K2 (readyFrames l)
 | []=>K2.ret _
 | env::outer=>by
  unfold readyFrames;cases env.frame with
  | none=>exact K2.no _
  | some f=>
   refine K2.bind (K2.ld f) λ o=>K2.ite (K2.ret _) (K2.bind (K2.behind env outer) λ i=>K2.bind (K2.back env i outer) λ b=>K2.bind (.update f _ _ _ (λ o h=>h) λ u=>.pure u) λ _=>K2.ready outer)
theorem K2.frameOf (env:Env):K2 (PySem.frameOf env):=by
 refine K2.bind (K2.bind K2.stk λ _=>K2.ret _) λ l=>K2.bind ?_ λ o=>?_
 ·cases (l.dropWhile λ x=>x.frame != env.frame) with
  | nil=>exact K2.ret _
  | cons a r=>exact K2.bind (K2.ready _) λ _=>K2.ret _
 ·cases o with
  | none=>exact K2.no _
  | some f=>exact K2.ret _
theorem K2.place (f:Addr)(b:Bool):K2 (entryPlaceOf f b):=by
 refine K2.bind K2.stk λ acts=>?_;cases acts.find? (λ x=>x.1.env?.bind (·.frame)==some f) <;> exact K2.ret _
theorem K2.objAsIs (t:String)(d:Data):K2 (newObjAsIs (.type t) d):=.alloc _ _ λ a=>.pure _
theorem K2.newFields (t:String)(vs:List Value):K2 (newFields t vs):=by
 unfold PySem.newFields newObj;dsimp only;refine K2.ite ?_ (K2.objAsIs _ _);exact K2.bind (K2.no _) λ _=>K2.objAsIs _ _
theorem K2.note (e:Value)(env:Env):K2 (noteFrame e env):=by
 unfold noteFrame;cases env.frame with
 | none=>exact K2.no _
 | some f=>
  refine K2.bind (K2.field e 1) λ head=>?_;have last:K2 (do PySem.setField e 1 (<- EntryCells.newEntry head (<- PySem.frameOf env) .none (rawInt f) .none (<- entryPlaceOf f (head != .none)))):=
   K2.bind (K2.frameOf env) λ _=>K2.bind (K2.place _ _) λ _=>K2.bind (K2.newFields _ _) λ _=>K2.setField _ _ (by decide)
  refine K2.ite (K2.bind (K2.field head 3) λ x=>K2.ite (K2.ret _) (K2.bind (K2.setField _ _ (by decide)) λ _=>last)) last
theorem zrR:entryFor table "proto.unchain" = some Builtin.«proto.unchain»:=entryFor_of_fast (by kernel_rfl)
noncomputable def HdC (h:Heap)(A:Around):Prop:=∀ v,A.handled=some v->∃ b,v=.ref b/\C2 h b
section
variable {prog:Program}{w:World}{A:Around}{E:Value->Shared->Prop}{s:Shared}
theorem HdC.keep {h h':Heap}(x:HdC h A)(k:∀ b o,h.get? b=some o->h'.get? b=some o):HdC h' A:=λ v e=>let ⟨b,r,o,ho,c⟩:=x v e;⟨b,r,o,k b o ho,c⟩
theorem yhY {α:Type}{Q:α->Shared->Prop}{a:Addr}{o:Obj}{vs:Array Value}(hx:HdC s.heap A)(ha:∀ b,C2 s.heap b->A.handled=some (.ref b)->b≠a)(ho:s.heap.get? a=some o)(hd:o.data=.fields vs)(hz:2<vs.size)
  (hE:∀ h' o' vs',Heap.SameBut a s.heap h'->h'.get? a=some o'->o'.cls=o.cls->o'.data=.fields vs'->vs'.size=vs.size/\vs'[0]?=vs[0]?/\vs'[1]?=vs[1]?->E (.ref a) { s with heap:=h' }):wpAny (model prog w) A (raiseNew (.ref a):Sem α) Q E s:=by
 unfold raiseNew;refine wpAny_bind (wpAny_handled ?_);cases e:A.handled with
 | none=>exact wpAny_bind (wpAny_pure (wpAny_throw (hE s.heap o vs (Heap.SameBut.refl ..) ho rfl hd ⟨rfl,rfl,rfl⟩)))
 | some v=>
  refine q12 (hx v e) ?_;intro b u0;subst u0;intro hc;have hne:=ha b hc e;refine q12 hc λ ob hob u8=>q12 u8 λ us hdb h2=>?_;dsimp only;rw[if_pos (show (Value.ref b != Value.ref a)=true by rw[bne_iff_ne];intro q;cases q;exact hne rfl)];refine wpAny_bind (wpAny_holding (wpAny_runValue (codeAny_builtin zrR ?_)))
  show wpAny _ _ (PySem.field (.ref b) 2 >>= _) _ _ s
  refine wpAny_bind (wpAny_field hob hdb h2 ?_);rw[if_pos (by decide)];refine wpAny_bind (wpAny_pure (wpAny_pure ?_));have ho:=ho
  show wpAny _ _ (PySem.setField (.ref a) 2 (.ref b) >>= _) _ _ s
  refine wpAny_bind (wpAny_setField ho hd hz ?_);exact wpAny_throw (hE _ _ _ (Heap.SameBut.update ..) (Heap.get?_update_self _ ho (Obj.isFreed_of_fields (Obj.data_mapFields hd _))) (Obj.cls_mapFields ..) (Obj.data_mapFields hd _) ⟨Array.size_setIfInBounds ..,Array.getElem?_setIfInBounds_ne (by decide),Array.getElem?_setIfInBounds_ne (by decide)⟩)
theorem yiT {α:Type}{Q:α->Shared->Prop}(hx:HdC s.heap A)
  (hE:∀ h' a o,(∀ b o,s.heap.get? b=some o->h'.get? b=some o)->h'.get? a=some o->o.cls=.type "StopIteration" -> E (.ref a) { s with heap:=h' }):
  wpAny (model prog w) A (newExc (.type "StopIteration") [] >>= λ e=>(raiseNew e:Sem α)) Q E s:=by
 refine wpAny_bind ?_;simp only[newExc,newTuple];refine wpAny_bind (wpAny_newObj_type ?_ (by size_fits));refine wpAny_bind (m:=firstArgMember _ _) (wpAny_of_eq (a:=Value.none) (by first|rfl | (simp only[firstArgMember];rfl)) ?_);refine wpAny_newObj_type ?_ (by size_fits);generalize hh1:s.heap.push _=h1;have k1:∀ b o,s.heap.get? b=some o->h1.get? b=some o:=λ b o e=>hh1▸Heap.get?_push_of_some _ e;refine yhY (s:={ s with heap:=h1.push _ }) (hx.keep λ b o e=>Heap.get?_push_of_some _ (k1 b o e)) (λ b hb he q=>?_) (Heap.get?_push_size _ rfl) rfl (by simp;lia) λ h' o' _ sb ho' hc _ _=>hE h' _ o' (λ b o e=>(sb.2 b ?_).trans (Heap.get?_push_of_some _ (k1 b o e))) ho' hc
 ·refine q12 (hx _ he) λ b' e' u8=>q12 u8 λ o ho _=>?_
  cases e';exact absurd (Heap.lt_size (k1 _ _ ho)) (by rw[q];exact Nat.lt_irrefl _)
 ·exact Nat.ne_of_lt (Heap.lt_size (k1 b o e))
theorem ygE {it l:Addr}{i:Nat}{items}{Q:Option Value->Shared->Prop}(hx:HdC s.heap A)
  (hit:s.heap.IsListIter it l i) (hl:s.heap.IsList l items) (hi:items[i]?=none)
  (hQ:∀ h',Heap.ExtBut it s.heap h'->Q none { s with heap:=h' }):wpAny (model prog w) A (pyNext (.ref it)) Q E s:=by
 refine q13 (id hit) λ o ho hcl hd=>?_;refine q13 hl λ ol hol _ u8=>q11 u8 λ nl hdl=>?_;unfold pyNext;refine wpAny_bind (wpAny_attempt (wpAny_callSpecial?_slot (name:=Str.ofString "__next__") hit.typeIs slot_listiter_next
  (wpAny_call_entry slot_listiter_next hit.typeIs entry_listiter_next ?_ (args_listiter_next _))))
 show wpAny _ _ (PySem.field (.ref it) 0 >>= _) _ _ s
 refine wpAny_bind (wpAny_field ho hd (x:=.ref l) rfl ?_)
 show wpAny _ _ (if (Value.ref l==Value.none)=true then _ else _) _ _ s
 rw[if_neg (show ¬ ((Value.ref l==Value.none)=true) from Bool.false_ne_true)]
 show wpAny _ _ (PySem.field (.ref it) 1 >>= _) _ _ s
 refine wpAny_bind (wpAny_field ho hd (x:=.int i 0) rfl ?_)
 show wpAny _ _ (seqItems? (.ref l) >>= _) _ _ s
 refine wpAny_bind (wpAny_seqItems hol hdl ?_);dsimp only;rw[Int.toNat_natCast,hi];refine wpAny_bind (wpAny_rule (wpAny_bind (wpAny_setField ho hd (by simp) ?_)));have hk:∀ b,C2 s.heap b->C2 (s.heap.update it (Obj.mapFields λ x=>x.setIfInBounds 0 Value.none)) b:=λ b h=>h.update (yaR (by decide));refine yiT (s:={ s with heap:=_ }) (λ v e=>let ⟨b,r,c⟩:=hx v e;⟨b,r,hk b c⟩) λ h' a o' k ho' hcl'=>?_;refine wpAny_bind (wpAny_isInstance (s:={ s with heap:=h' }) (T := "StopIteration") (b:=true) ⟨_,ho',hcl'⟩ isSubtype_stop ?_);exact wpAny_pure (hQ _ λ b ob hb e=>k b ob ((Heap.SameBut.update ..).extBut b ob hb e))
open PyProof.Rows in
theorem ybS {it:Addr}{x left step:Int}{Q:Option Value->Shared->Prop}(hx:HdC s.heap A)(hit:IsRangeIter s.heap it x left step)(hl:left<=0)
  (hQ:∀ h',Heap.ExtBut it s.heap h'->Q none { s with heap:=h' }):wpAny (model prog w) A (pyNext (.ref it)) Q E s:=by
 have hT:s.TypeIs (.ref it) "range_iterator" := ⟨_,hit,rfl⟩
 unfold pyNext;refine wpAny_bind (wpAny_attempt (wpAny_callSpecial?_slot (name:=Str.ofString "__next__") hT F.slot_range_iterator_next
  (wpAny_call_entry F.slot_range_iterator_next hT F.entry_range_iterator_next ?_ (F.args_range_iterator_next_1 _))))
 show wpAny _ _ (PySem.field (.ref it) 0 >>= _) _ _ s
 refine wpAny_bind (wpAny_field hit rfl (x:=rawInt x) rfl ?_)
 show wpAny _ _ (PySem.field (.ref it) 1 >>= _) _ _ s
 refine wpAny_bind (wpAny_field hit rfl (x:=rawInt left) rfl ?_)
 show wpAny _ _ (PySem.field (.ref it) 2 >>= _) _ _ s
 refine wpAny_bind (wpAny_field hit rfl (x:=rawInt step) rfl ?_)
 show wpAny _ _ (if left<=0 then _ else _) _ _ s
 rw[if_pos hl];refine wpAny_bind (wpAny_rule ?_);refine wpAny_bind ?_;refine yiT hx λ h' a o' k ho' hcl'=>?_;refine wpAny_bind (wpAny_isInstance (s:={ s with heap:=h' }) (T := "StopIteration") (b:=true) ⟨_,ho',hcl'⟩ isSubtype_stop ?_);exact wpAny_pure (hQ _ λ b ob hb e=>k b ob e)
open PyProof.Rows in
theorem ycI {it t:Addr}{i:Nat}{items}{Q:Option Value->Shared->Prop}(hx:HdC s.heap A)
  (hit:IsTupIter s.heap it t i) (ht:IsTup s.heap t items) (hi:items[i]?=none)
  (hQ:∀ h',Heap.ExtBut it s.heap h'->Q none { s with heap:=h' }):wpAny (model prog w) A (pyNext (.ref it)) Q E s:=by
 refine q13 (id hit) λ o ho hc hd=>?_;refine q13 ht λ ol hol _ u8=>q11 u8 λ nl hdl=>?_;unfold pyNext;refine wpAny_bind (wpAny_attempt (wpAny_callSpecial?_slot (name:=Str.ofString "__next__") hit.typeIs slot_tupleiter_next
  (wpAny_call_entry slot_tupleiter_next hit.typeIs entry_tupleiter_next ?_ (args_tupleiter_next _))))
 show wpAny _ _ (PySem.field (.ref it) 0 >>= _) _ _ s
 refine wpAny_bind (wpAny_field ho hd (x:=.ref t) rfl ?_)
 show wpAny _ _ (if (Value.ref t==Value.none)=true then _ else _) _ _ s
 rw[if_neg (show ¬ ((Value.ref t==Value.none)=true) from Bool.false_ne_true)]
 show wpAny _ _ (PySem.field (.ref it) 1 >>= _) _ _ s
 refine wpAny_bind (wpAny_field ho hd (x:=.int i 0) rfl ?_)
 show wpAny _ _ (seqItems? (.ref t) >>= _) _ _ s
 refine wpAny_bind (wpAny_seqItems hol hdl ?_);dsimp only;rw[Int.toNat_natCast,hi];refine wpAny_bind (wpAny_rule (wpAny_bind (wpAny_setField ho hd (by simp) ?_)));have hk:∀ b,C2 s.heap b->C2 (s.heap.update it (Obj.mapFields λ x=>x.setIfInBounds 0 Value.none)) b:=λ b h=>h.update (yaR (by decide));refine yiT (s:={ s with heap:=_ }) (λ v e=>let ⟨b,r,c⟩:=hx v e;⟨b,r,hk b c⟩) λ h' a o' k ho' hcl'=>?_;refine wpAny_bind (wpAny_isInstance (s:={ s with heap:=h' }) (T := "StopIteration") (b:=true) ⟨_,ho',hcl'⟩ isSubtype_stop ?_);exact wpAny_pure (hQ _ λ b ob hb e=>k b ob ((Heap.SameBut.update ..).extBut b ob hb e))
open PyProof.Rows in
theorem zzK {env:Env}{elts:List Expr}{x1}{pos:Pos}{t:Addr}{items:Array Value}{Q:Unit->Shared->Prop}(hx:HdC s.heap A)(ht:IsTup s.heap t items)
  (hn:(assignEach elts env).length=items.size) (hstar:(assignEach elts env).findIdx? (·.1)=none)
  (h:∀ h',Heap.ExtBut s.heap.objs.size s.heap h'->wpAny (model prog w) A (assignInOrder ((assignEach elts env).map (·.2)) items.toList) Q E { s with heap:=h' }):
  wpAny (model prog w) A (assign (.Tuple elts x1 pos) env (.ref t)) Q E s:=by
 rw[assign_Tuple];refine wpAny_bind (wpAny_standAt ?_);unfold unpack;rw[hn,hstar];refine wpAny_bind (wpAny_holding ?_);have hlt:t≠s.heap.objs.size:=by refine q12 ht λ o ho _=>?_;exact Nat.ne_of_lt (Heap.lt_size ho)
 unfold unpackItems notIterableAtAll;refine wpAny_bind (wpAny_bind (wpAny_specialOf ht.typeIs slot_tuple_iter.lookup ?_));refine wpAny_pure ?_;simp only[Bool.false_eq_true,if_false];refine wpAny_bind (wpAny_holding (iter_tuple ht ?_));refine wpAny_bind (wpAny_holding (draw_tuple hlt items.size 0 _ _ ⟨_,Heap.get?_push_size _ rfl,rfl,rfl⟩ (ht.push _) (by lia) λ h1' hit1 hs1=>?_));have hall:List.take items.size (List.drop 0 items.toList)=items.toList:=by
  rw[List.drop_zero];exact List.take_of_length_le (by simp)
 rw[hall,if_neg (by simp)];have kp:∀ b o,s.heap.get? b=some o->h1'.get? b=some o:=λ b o e=>hs1.extBut b o (Nat.ne_of_lt (Heap.lt_size e)) (Heap.get?_push_of_some _ e);refine wpAny_bind (wpAny_holding (ycI (s:={ s with heap:=h1' }) (hx.keep kp) hit1 ((ht.push _).extBut hs1.extBut hlt) (by simp) λ h2 he2=>?_));simp only[Option.isSome_none,Bool.false_eq_true,if_false];exact wpAny_pure (h h2 λ b o hb e=>he2 b o hb (kp b o e))
open PyProof.Rows in
end
inductive PV where
 | none
 | bool (b:Bool)
 | int (i:Int)
 | str (s:Str)
 | tup (l:List PV)
 | ref (a:Addr)
 | ty (n:String)
 | bi (id:String)
mutual
noncomputable def PR (h:Heap):PV->Value->Prop
 | .none,v=>v=.none
 | .bool b,v=>v=.bool b
 | .int i,v=>∃ t,v=.int i t
 | .str x,v=>∃ t,v=.str x t
 | .tup l,v=>∃ a o vs n,v=.ref a/\h.get? a=some o/\o.cls=.type "tuple" /\ o.dict=Option.none/\o.data=.seq vs n/\PRs h l vs.toList
 | .ref a,v=>v=.ref a
 | .ty n,v=>v=.type n
 | .bi i,v=>v=.builtin i
noncomputable def PRs (h:Heap):List PV->List Value->Prop
 | [],vs=>vs=[]
 | p::ps,vs=>∃ v r,vs=v::r/\PR h p v/\PRs h ps r
end
theorem PR.int {h:Heap}{i:Int}{t:Tok}:PR h (.int i) (.int i t):=⟨t,rfl⟩
theorem PR.str {h:Heap}{i:Str}{t:Tok}:PR h (.str i) (.str i t):=⟨t,rfl⟩
theorem PR.none {h:Heap}:PR h .none .none:=rfl
theorem PR.bool {h:Heap}{b:Bool}:PR h (.bool b) (.bool b):=rfl
theorem PR.ref {h:Heap}{a:Addr}:PR h (.ref a) (.ref a):=rfl
theorem PR.ty {h:Heap}{a:String}:PR h (.ty a) (.type a):=rfl
theorem PR.bi {h:Heap}{a:String}:PR h (.bi a) (.builtin a):=rfl
theorem PR.ty_inv {h:Heap}{a:String}{v:Value}(x:PR h (.ty a) v):v=.type a:=x
theorem PR.bi_inv {h:Heap}{a:String}{v:Value}(x:PR h (.bi a) v):v=.builtin a:=x
theorem PRs.nil {h:Heap}:PRs h [] []:=rfl
theorem PRs.cons {h:Heap}{p:PV}{v:Value}{ps:List PV}{vs:List Value}(a:PR h p v)(b:PRs h ps vs):PRs h (p::ps) (v::vs):=⟨v,vs,rfl,a,b⟩
theorem PR.int_inv {h:Heap}{i:Int}{v:Value}(x:PR h (.int i) v):∃ t,v=.int i t:=x
theorem PR.str_inv {h:Heap}{i:Str}{v:Value}(x:PR h (.str i) v):∃ t,v=.str i t:=x
theorem PR.none_inv {h:Heap}{v:Value}(x:PR h .none v):v=.none:=x
theorem PR.bool_inv {h:Heap}{b:Bool}{v:Value}(x:PR h (.bool b) v):v=.bool b:=x
theorem PR.ref_inv {h:Heap}{a:Addr}{v:Value}(x:PR h (.ref a) v):v=.ref a:=x
theorem PR.tup_inv {h:Heap}{l:List PV}{v:Value}(x:PR h (.tup l) v):∃ a o vs n,v=.ref a/\h.get? a=some o/\o.cls=.type "tuple" /\ o.dict=Option.none/\o.data=.seq vs n/\PRs h l vs.toList:=x
theorem PRs.nil_inv {h:Heap}{vs:List Value}(x:PRs h [] vs):vs=[]:=x
theorem PRs.cons_inv {h:Heap}{p:PV}{ps:List PV}{vs:List Value}(x:PRs h (p::ps) vs):∃ v r,vs=v::r/\PR h p v/\PRs h ps r:=x
theorem PRs.length {h:Heap}{ps:List PV}:∀ {vs:List Value},PRs h ps vs->ps.length=vs.length:=by
 induction ps with
 | nil=>intro vs x;rw[x.nil_inv];rfl
 | cons p ps ih=>intro vs x;refine q23 x.cons_inv ?_;intro v r u0;subst u0;intro _ y;rw[List.length_cons,List.length_cons,ih y]
noncomputable def zaB (h h':Heap):Prop:=∀ b o,h.get? b=some o->o.cls=.type "tuple" -> (∃ vs n,o.data=.seq vs n)->h'.get? b=some o
theorem zaB.refl (h:Heap):zaB h h:=λ _ _ e _ _=>e
theorem zaB.trans {h1' h2 h3:Heap}(x:zaB h1' h2)(y:zaB h2 h3):zaB h1' h3:=λ b o e c d=>y b o (x b o e c d) c d
mutual
theorem PR.keep {h h':Heap}(k:zaB h h'):∀ (p:PV) {v:Value},PR h p v->PR h' p v
 | .none,v,x=>by rw[x.none_inv];exact PR.none
 | .bool b,v,x=>by rw[x.bool_inv];exact PR.bool
 | .int i,v,x=>by obtain⟨t,rfl⟩:=x.int_inv;exact PR.int
 | .str i,v,x=>by obtain⟨t,rfl⟩:=x.str_inv;exact PR.str
 | .ref a,v,x=>by rw[x.ref_inv];exact PR.ref
 | .ty a,v,x=>by rw[x.ty_inv];exact PR.ty
 | .bi a,v,x=>by rw[x.bi_inv];exact PR.bi
 | .tup l,v,x=>by
  refine q46 x.tup_inv ?_;intro a o vs n u0;subst u0;intro ho hc hd hs hr;exact⟨a,_,vs,n,rfl,k a o ho hc ⟨_,_,hs⟩,hc,hd,hs,PRs.keep k l hr⟩
theorem PRs.keep {h h':Heap}(k:zaB h h'):∀ (p:List PV) {v:List Value},PRs h p v->PRs h' p v
 | [],v,x=>by rw[x.nil_inv];exact PRs.nil
 | p::ps,v,x=>by refine q23 x.cons_inv ?_;intro v r u0;subst u0;intro y z;exact PRs.cons (PR.keep k p y) (PRs.keep k ps z)
end
theorem PRs.get {h:Heap}{ps:List PV}:∀ {vs:List Value} (i:Nat) {p:PV},PRs h ps vs->ps[i]?=some p->∃ v,vs[i]?=some v/\PR h p v:=by
 induction ps with
 | nil=>intro vs i p x e;rw[List.getElem?_nil]at e;cases e
 | cons p ps ih=>
  intro vs i q x e;refine q23 x.cons_inv ?_;intro v r u0;subst u0;intro y z;cases i with
  | zero=>cases e;exact⟨v,rfl,y⟩
  | succ i=>exact ih (vs:=r) i z e
theorem PRs.append {h:Heap}{ps:List PV}{qs:List PV}{ws:List Value}:∀ {vs:List Value},PRs h ps vs->PRs h qs ws->PRs h (ps++qs) (vs++ws):=by
 induction ps with
 | nil=>intro vs x y;rw[x.nil_inv];exact y
 | cons p ps ih=>intro vs x y;refine q23 x.cons_inv ?_;intro v r u0;subst u0;intro a b;exact PRs.cons a (ih b y)
theorem PRs.set {h:Heap}{ps:List PV}{p:PV}{v:Value}:∀ {vs:List Value} (i:Nat),PRs h ps vs->PR h p v->PRs h (ps.set i p) (vs.set i v):=by
 induction ps with
 | nil=>intro vs i x y;rw[x.nil_inv,List.set_nil,List.set_nil];exact PRs.nil
 | cons q ps ih=>
  intro vs i x y;refine q23 x.cons_inv ?_;intro w r u0;subst u0;intro a b;cases i with
  | zero=>exact PRs.cons y b
  | succ i=>exact PRs.cons a (ih i b y)
theorem PRs.replicate {h:Heap}{p:PV}{v:Value}(x:PR h p v):∀ n,PRs h (List.replicate n p) (List.replicate n v)
 | 0=>PRs.nil
 | n+1=>PRs.cons x (PRs.replicate x n)
noncomputable def pt (p:Pt):PV:=.tup [.int p.1,.int p.2]
theorem zpS {h:Heap}{p:Pt}{v:Value}(x:PR h (pt p) v):zhJ h p v:=by
 refine q46 x.tup_inv ?_;intro a o vs n u0;subst u0;intro ho hc hd hs hr;refine q23 hr.cons_inv λ v1 r1 e1 a1 b1=>?_;refine q23 b1.cons_inv λ v2 r2 e2 a2 b2=>?_;have:=b2.nil_inv;subst this;obtain⟨t,rfl⟩:=a1.int_inv;obtain⟨u,rfl⟩:=a2.int_inv;subst e2;refine⟨a,o,n,t,u,rfl,ho,hc,hd,?_⟩;rw[hs];congr 1;apply Array.toList_inj.mp;rw[e1]
theorem zjS {h:Heap}{p:Pt}{v:Value}(x:zhJ h p v):PR h (pt p) v:=by
 refine q55 x ?_;clear x;intro a o n t u u0;subst u0;intro ho hc hd hs;exact⟨a,o,_,n,rfl,ho,hc,hd,hs,PRs.cons PR.int (PRs.cons PR.int PRs.nil)⟩
set_option genCtorIdx true in
inductive AO where
 | list (l:List PV)
 | pset (l:List Pt)
 | inst (C d:Addr)
 | attrs (l:List (Str×PV))
 | range (a b:Int)
 | raw (o:Obj)
noncomputable abbrev zaA:=Addr->Option AO
noncomputable def upd (H:zaA)(a:Addr)(o:AO):zaA:=λ b=>if b=a then some o else H b
theorem zaC {H:zaA}{a:Addr}{o:AO}:upd H a o a=some o:=by simp[upd]
theorem zaD {H:zaA}{a b:Addr}{o:AO}(h:b≠a):upd H a o b=H b:=by simp[upd,h]
structure Cx where
 prog:Program
 w:World
 K:Frag
 h₀:Heap
 os:OsState
 view:Program
 loose:List Str
 mg:Str->Option Value
 mb:Str->Option Value
 scA:Addr
 scL:List PV
 /-- the class whose exceptions may tell of a context -/
 nc:String := ""
noncomputable abbrev Cx.M (C:Cx):Model:=model C.prog C.w
structure Cx.Ok (C:Cx):Prop where
 kin:C.K.In C.h₀
 top:TopRead C.view C.loose C.mg C.mb C.h₀
 sc:∃ vs n,IsL C.h₀ C.scA vs n/\PRs C.h₀ C.scL vs.toList
noncomputable def ptK (p:Pt):List Int:=[p.1,p.2]
noncomputable def zbR (o:Obj):Prop:=o.cls=.type "tuple" -> ¬ ∃ vs n,o.data=.seq vs n
theorem zbR.cls {o:Obj}(h:o.cls≠.type "tuple"):zbR o:=λ e=>absurd e h
theorem zbR.dict {o:Obj}{es ep}(h:o.data=.dict es ep):zbR o:=λ _ u9=>q21 u9 λ vs n e=>by rw[h]at e;cases e
theorem zbR.cell {o:Obj}{v}(h:o.data=.cell v):zbR o:=λ _ u9=>q21 u9 λ vs n e=>by rw[h]at e;cases e
noncomputable def zcZ (C:Cx)(h:Heap)(a:Addr):AO->Prop
 | .list l=>∃ vs n,IsL h a vs n/\PRs h l vs.toList
 | .pset l=>zfB C.w h a l
 | .inst c d=>∃ o,h.get? a=some o/\o.cls=.ref c/\o.dict=some d/\o.data=.plain/\d≠a
 | .attrs l=>∃ mv,h.Ns1 a mv/\(∀ x,l.lookup x=none->mv x=none)/\∀ x p,l.lookup x=some p->∃ v,mv x=some v/\PR h p v
 | .range x y=>∃ t u v,IsRange h a x y 1 t u v
 | .raw o=>h.get? a=some o/\zbR o
theorem zcZ.keep {C:Cx}{h h':Heap}{a:Addr}(k:zaB h h')(ha:∀ o,h.get? a=some o->h'.get? a=some o)(o:AO)(S:zcZ C h a o):zcZ C h' a o:=by
 cases o with
 | list l=>refine q22 S λ vs n il r=>?_;exact⟨vs,n,ha _ il,r.keep k⟩
 | pset l=>
  have S:zfB C.w h a l:=S;refine q42 S.obj λ o _ _ _ ho _=>?_;exact zfB.keep S ((ha o ho).trans ho.symm) λ b o e c d=>⟨o.slots,k b o e c d⟩
 | inst c d=>refine q12 S λ o ho r=>?_;exact⟨o,ha o ho,r⟩
 | attrs l=>refine q13 S λ mv N e r=>?_;exact⟨mv,N.at ha,e,λ x p e'=>(r x p e').imp λ v q=>⟨q.1,q.2.keep k⟩⟩
 | range x y=>refine q31 S λ t u v r=>?_;exact⟨t,u,v,ha _ r⟩
 | raw o=>exact⟨ha _ S.1,S.2⟩
theorem zcZ.there {C:Cx}{h:Heap}{a:Addr}{o:AO}(S:zcZ C h a o):∃ ob,h.get? a=some ob/\zbR ob:=by
 cases o with
 | list l=>refine q22 S λ vs n il _=>?_;exact⟨_,il,.cls (by show Value.type "list" ≠ Value.type "tuple";decide)⟩
 | pset l=>
  have S:zfB C.w h a l:=S;refine q43 S.obj λ o _ _ _ ho hx _=>?_;exact⟨o,ho,.cls (by rw[hx.1];decide)⟩
 | inst c d=>refine q13 S λ o ho hc _=>?_;exact⟨o,ho,.cls (by rw[hc];intro e;cases e)⟩
 | attrs l=>refine q12 S λ mv u0 _=>?_;obtain⟨o,es,ep,ho,hd,_⟩:=u0;exact⟨o,ho,.dict hd⟩
 | range x y=>refine q31 S λ t u v r=>?_;exact⟨_,r,.cls (by show Value.type "range" ≠ Value.type "tuple";decide)⟩
 | raw o=>exact⟨o,S⟩
set_option genCtorIdx true in
inductive FK where
 | fn
 | cp (own:List Addr)
structure FR where
 comp:FK
 env:Env
 ls:List (Str×PV)
set_option genCtorIdx true in
inductive AF where
 | fr (f:FR)
 | hid (a:Addr) (o:Obj)
 | gh (h:Heap)
noncomputable def yfA (c:FK)(env:Env):List Addr:=env.locals::match c with
 | .fn=>(env.cells.filter λ x=>env.kindOf x.1==some NameKind.cell).map (·.2)
 | .cp cs=>cs.filter λ a=>(env.cells.map (·.2)).contains a
noncomputable def zsJ (env:Env):List Addr:=env.locals::env.cells.map (·.2)
noncomputable def AF.owns:AF->List Addr
 | .fr f=>yfA f.comp f.env
 | .hid a _=>[a]
 | .gh _=>[]
noncomputable def AF.reads:AF->List Addr
 | .fr f=>zsJ f.env
 | .hid a _=>[a]
 | .gh _=>[]
noncomputable def AF.hids:AF->List Addr
 | .fr _=>[]
 | .hid a _=>[a]
 | .gh _=>[]
theorem owns_reads {c:FK}{env:Env}{a:Addr}(h:a∈yfA c env):a∈zsJ env:=by
 unfold yfA at h;unfold zsJ;rcases List.mem_cons.mp h with rfl|h
 ·exact List.mem_cons_self
 ·refine List.mem_cons_of_mem _ ?_
  cases c with
  | fn=>
   refine q12 (List.mem_map.mp h) λ x hx u0=>?_;subst u0;exact List.mem_map.mpr ⟨x,(List.mem_filter.mp hx).1,rfl⟩
  | cp cs=>simpa using (List.mem_filter.mp h).2
theorem AF.owns_reads:∀ {f:AF} {a:Addr},a∈f.owns->a∈f.reads
 | .fr f,a,h=>AM.Internal.owns_reads h
 | .hid _ _,a,h=>h
 | .gh _,a,h=>h
structure zpA (h:Heap)(f:FR):Prop where
 kind:f.env.scope.kind=.function
 globals:f.env.globals=mainGlobals
 builtins:f.env.builtins=builtinsNs
 ns:∃ m,h.Ns f.env.locals m/\∀ x p,f.ls.lookup x=some p->f.env.kindOf x=some .local->∃ v,m x=some v/\PR h p v
 cells:∀ x∈f.env.cells,∃ v,h.IsCell x.2 v
 cellv:∀ x p,f.ls.lookup x=some p->(f.env.kindOf x=some .cell\/f.env.kindOf x=some .free)->∃ c v,f.env.cells.lookup x=some c/\h.IsCell c (some v)/\PR h p v
 has:∀ x,f.env.kindOf x=some .cell\/f.env.kindOf x=some .free->∃ c,f.env.cells.lookup x=some c
 apart:f.env.cells.Pairwise λ x y=>x.2≠y.2
 locals:∀ x∈f.env.cells,x.2≠f.env.locals
 frame:f.comp=.fn->f.env.frame=some f.env.locals
noncomputable def yeV (h:Heap):AF->Prop
 | .fr f=>zpA h f
 | .hid a o=>h.get? a=some o/\zbR o
 | .gh g=>zaB g h
noncomputable def yjG (f g:AF):Prop:=(∀ a∈f.owns,a∉g.reads)/\∀ a∈g.hids,a∉f.reads
noncomputable def yjJ (C:Cx)(a:Addr):Prop:=C.h₀.get? a=none/\sysModules<a
structure Rep (C:Cx)(Fs:List AF)(H:zaA)(s:Shared):Prop where
 ok:C.Ok
 keep:∀ b o,C.h₀.get? b=some o->s.heap.get? b=some o
 gens:s.gens=#[]
 os:s.os=C.os
 frs:∀ f∈Fs,yeV s.heap f/\∀ a∈f.reads,C.h₀.get? a=none
 apart:Fs.Pairwise yjG
 objs:∀ a o,H a=some o->zcZ C s.heap a o/\yjJ C a/\∀ f∈Fs,a∉f.reads
theorem zbY {h h':Heap}{c:Addr}{v:Option Value}(x:h.IsCell c v)(k:∀ o,h.get? c=some o->h'.get? c=some o):h'.IsCell c v:=
 let ⟨o,ho,hd⟩:=x;⟨o,k o ho,hd⟩
theorem ykJ {h h':Heap}{a:Addr}{m:Str->Option Value}(x:h.Ns a m)(k:∀ o,h.get? a=some o->h'.get? a=some o):h'.Ns a m:=
 let ⟨o,es,ep,ho,r⟩:=x;⟨o,es,ep,k o ho,r⟩
theorem zwO {l:List (Str×Addr)}(hp:l.Pairwise λ x y=>x.2≠y.2){x y:Str}{c d:Addr}(hx:(x,c)∈l)(hy:(y,d)∈l)(hne:x≠y):c≠d:=by
 induction l with
 | nil=>cases hx
 | cons z l ih=>
  obtain⟨h1,h2⟩:=List.pairwise_cons.mp hp;rcases List.mem_cons.mp hx with ex|hx'
  ·rcases List.mem_cons.mp hy with ey|hy'
   ·rw[<- ey]at ex;cases ex;exact absurd rfl hne
   ·have:=h1 _ hy';rw[<- ex]at this;exact this
  ·rcases List.mem_cons.mp hy with ey|hy'
   ·have:=h1 _ hx';rw[<- ey]at this;exact λ e=>this e.symm
   ·exact ih h2 hx' hy'
theorem yeV.keep {h h':Heap}(k:zaB h h'):∀ {f:AF},(∀ a∈f.reads,∀ o,h.get? a=some o->h'.get? a=some o)->yeV h f->yeV h' f
 | .fr f,ka,x=>by
  have kl:=ka f.env.locals List.mem_cons_self;have kc:∀ y∈f.env.cells,∀ o,h.get? y.2=some o->h'.get? y.2=some o:=λ y hy=>ka y.2 (List.mem_cons_of_mem _ (List.mem_map.mpr ⟨y,hy,rfl⟩));refine q12 x.ns λ m hm hv=>?_;refine⟨x.kind,x.globals,x.builtins,⟨m,ykJ hm kl,λ y p a b=>let ⟨v,e,r⟩:=hv y p a b;⟨v,e,r.keep k⟩⟩,λ y e=>let ⟨v,r⟩:=x.cells y e;⟨v,zbY r (kc y e)⟩,
   λ y p a b=>let ⟨c,v,e,r,q⟩:=x.cellv y p a b;⟨c,v,e,zbY r (kc (y,c) (mem_of_lookup e)),q.keep k⟩,x.has,x.apart,x.locals,x.frame⟩
 | .hid a o,ka,⟨x,y⟩=>⟨ka a List.mem_cons_self o x,y⟩
 | .gh g,ka,x=>zaB.trans x k
theorem yeV.there {h:Heap}:∀ {f:AF},yeV h f->∀ a∈f.reads,∃ o,h.get? a=some o/\zbR o
 | .fr f,x,a,ha=>by
  rcases List.mem_cons.mp ha with rfl|ha
  ·refine q12 x.ns λ m u0 _=>?_;obtain⟨o,es,ep,ho,hd,_⟩:=u0;exact⟨o,ho,.dict hd⟩
  ·refine q12 (List.mem_map.mp ha) λ y hy u0=>?_;subst u0
   refine q22 (x.cells y hy) λ v o ho hd=>?_;exact⟨o,ho,.cell hd⟩
 | .hid a o,⟨x,y⟩,b,hb=>by rw[List.mem_singleton.mp hb];exact⟨o,x,y⟩
 | .gh g,_,b,hb=>by cases hb
section
variable {C:Cx}{Fs:List AF}{H H':zaA}{s s':Shared}
theorem Rep.mono (R:Rep C Fs H s)(h:∀ a o,H' a=some o->H a=some o):Rep C Fs H' s:=
 ⟨R.ok,R.keep,R.gens,R.os,R.frs,R.apart,λ a o e=>R.objs a o (h a o e)⟩
theorem Rep.sub {Gs:List AF}(R:Rep C Fs H s)(h:Gs.Sublist Fs):Rep C Gs H s:=
 ⟨R.ok,R.keep,R.gens,R.os,λ f hf=>R.frs f (h.subset hf),R.apart.sublist h,λ a o e=>let ⟨x,y,z⟩:=R.objs a o e;⟨x,y,λ g hg=>z g (h.subset hg)⟩⟩
theorem Rep.pop {f:AF}(R:Rep C (f::Fs) H s):Rep C Fs H s:=R.sub (List.sublist_cons_self _ _)
theorem Rep.pop2 {f g:AF}(R:Rep C (f::g::Fs) H s):Rep C (f::Fs) H s:=R.sub (.cons_cons _ (List.sublist_cons_self _ _))
theorem Rep.to (R:Rep C Fs H s)(Z:Addr->Prop)(hk:∀ b o,¬ Z b->s.heap.get? b=some o->s'.heap.get? b=some o)(tk:zaB s.heap s'.heap)
  (hb:∀ b,Z b->C.h₀.get? b=none) (hf:∀ f∈Fs,∀ a∈f.reads,¬ Z a)
  (ho:∀ a o,H' a=some o->(H a=some o/\¬ Z a)\/(zcZ C s'.heap a o/\yjJ C a/\∀ f∈Fs,a∉f.reads))
  (hg:s'.gens=s.gens:=by rfl) (hos:s'.os=s.os:=by rfl):Rep C Fs H' s':=by
 refine⟨R.ok,λ b o e=>hk b o (λ z=>by rw[hb b z]at e;cases e) (R.keep b o e),hg.trans R.gens,hos.trans R.os,λ f hf'=>⟨yeV.keep tk (λ a ha o e=>hk a o (hf f hf' a ha) e) (R.frs f hf').1,(R.frs f hf').2⟩,R.apart,λ a o e=>?_⟩;rcases ho a o e with ⟨e1,nz⟩|x
 ·refine q03 (R.objs a o e1) λ x y z=>?_
  exact⟨zcZ.keep tk (λ ob eo=>hk a ob nz eo) o x,y,z⟩
 ·exact x
theorem Rep.ext (R:Rep C Fs H s)(hk:∀ b o,s.heap.get? b=some o->s'.heap.get? b=some o)(hg:s'.gens=s.gens:=by rfl)(hos:s'.os=s.os:=by rfl):Rep C Fs H s':=
 R.to (λ _=>False) (λ b o _ e=>hk b o e) (λ b o e _ _=>hk b o e) (λ _ h=>h.elim) (λ _ _ _ _ h=>h) (λ a o e=>.inl ⟨e,λ h=>h⟩) hg hos
theorem Rep.same (R:Rep C Fs H s)(hh:s'.heap=s.heap:=by rfl)(hg:s'.gens=s.gens:=by rfl)(hos:s'.os=s.os:=by rfl):Rep C Fs H s':=R.ext (λ b o e=>hh▸e) hg hos
theorem zaB.of_keep {h h':Heap}(hk:∀ b o,h.get? b=some o->h'.get? b=some o):zaB h h':=λ b o e _ _=>hk b o e
theorem zaB.of_ext {h h':Heap}{a:Addr}(hk:Heap.ExtBut a h h')(ha:∀ o,h.get? a=some o->zbR o):zaB h h':=λ b o e c d=>by
 by_cases hb:b=a
 ·subst hb;exact absurd d (ha o e c)
 ·exact hk b o hb e
theorem Rep.lt (R:Rep C Fs H s){a:Addr}{o:AO}(e:H a=some o):a<s.heap.objs.size:=let ⟨ob,h,_⟩:=(R.objs a o e).1.there;Heap.lt_size h
theorem Rep.fresh (R:Rep C Fs H s):H s.heap.objs.size=none:=by
 cases e:H s.heap.objs.size with
 | none=>rfl
 | some o=>exact absurd (R.lt e) (Nat.lt_irrefl _)
theorem Rep.fresh0 (R:Rep C Fs H s):C.h₀.get? s.heap.objs.size=none:=by
 cases e:C.h₀.get? s.heap.objs.size with
 | none=>rfl
 | some o=>exact absurd (Heap.lt_size (R.keep _ _ e)) (Nat.lt_irrefl _)
theorem Rep.freshF (R:Rep C Fs H s){f:AF}(hf:f∈Fs):s.heap.objs.size∉f.reads:=λ h=>by
 refine q12 ((R.frs f hf).1.there _ h) λ o e _=>?_;exact absurd (Heap.lt_size e) (Nat.lt_irrefl _)
theorem Rep.fresh_ge (R:Rep C Fs H s){n:Nat}(hn:s.heap.objs.size<=n):H n=none/\yjJ C n/\∀ f∈Fs,n∉f.reads:=by
 refine⟨?_,⟨?_,?_⟩,λ f hf h=>?_⟩
 ·cases e:H n with
  | none=>rfl
  | some o=>exact absurd (R.lt e) (Nat.not_lt.mpr hn)
 ·cases e:C.h₀.get? n with
  | none=>rfl
  | some o=>exact absurd (Heap.lt_size (R.keep _ _ e)) (Nat.not_lt.mpr hn)
 ·refine q32 R.ok.top.g λ o _ _ e _=>?_
  exact Nat.lt_of_lt_of_le (Nat.lt_of_le_of_lt (by decide) (Heap.lt_size (R.keep _ _ e))) hn
 ·refine q12 ((R.frs f hf).1.there _ h) λ o e _=>?_
  exact absurd (Heap.lt_size e) (Nat.not_lt.mpr hn)
noncomputable def LAt (C:Cx)(H:zaA)(a:Addr)(l:List PV):Prop:=H a=some (.list l)\/(a=C.scA/\l=C.scL)
theorem Rep.lat (R:Rep C Fs H s){a:Addr}{l:List PV}(e:LAt C H a l):∃ vs n,IsL s.heap a vs n/\PRs s.heap l vs.toList:=by
 rcases e with e|⟨rfl,rfl⟩
 ·exact (R.objs a _ e).1
 ·refine q22 R.ok.sc λ vs n il r=>?_
  exact⟨vs,n,R.keep _ _ il,PRs.keep (λ b o e _ _=>R.keep b o e) _ r⟩
theorem Rep.new (R:Rep C Fs H s){a:Addr}{o:AO}(hk:∀ b o,s.heap.get? b=some o->s'.heap.get? b=some o)(ha:s.heap.objs.size<=a)(hs:zcZ C s'.heap a o)
  (hg:s'.gens=s.gens:=by rfl) (hos:s'.os=s.os:=by rfl):Rep C Fs (upd H a o) s':=by
 refine q03 (R.fresh_ge ha) λ x y z=>?_;refine R.to (λ _=>False) (λ b o _ e=>hk b o e) (λ b o e _ _=>hk b o e) (λ _ h=>h.elim) (λ _ _ _ _ h=>h) (λ b ob e=>?_) hg hos;unfold upd at e;split at e
 ·cases e;rename_i q;subst q;exact .inr ⟨hs,y,z⟩
 ·exact .inl ⟨e,λ h=>h⟩
theorem Rep.turn (R:Rep C Fs H s){a:Addr}{o o':AO}(e:H a=some o)(hk:Heap.ExtBut a s.heap s'.heap)(hs:zcZ C s'.heap a o')
  (hg:s'.gens=s.gens:=by rfl) (hos:s'.os=s.os:=by rfl):Rep C Fs (upd H a o') s':=by
 refine q03 (R.objs a o e) λ x y z=>?_;refine q12 x.there λ ob hob hc=>?_;refine R.to (λ b=>b=a) (λ b o hb e=>hk b o hb e) (zaB.of_ext hk λ o' e'=>by rw[hob]at e';cases e';exact hc) (λ b h=>h▸y.1) (λ f hf b hb h=>z f hf (h▸hb)) (λ b ob e=>?_) hg hos;unfold upd at e;split at e
 ·cases e;rename_i q;subst q;exact .inr ⟨hs,y,z⟩
 ·rename_i q;exact .inl ⟨e,q⟩
theorem Rep.turnKeep (R:Rep C Fs H s){a:Addr}{o:AO}(e:H a=some o)(hk:Heap.ExtBut a s.heap s'.heap):zaB s.heap s'.heap:=by
 refine q12 ((R.objs a o e).1.there) λ ob hob hc=>?_;exact zaB.of_ext hk λ o' e'=>by rw[hob]at e';cases e';exact hc
theorem Rep.frame {f f':AF}(R:Rep C (f::Fs) H s){z:Addr}(hz:z∈f.owns)(hk:Heap.ExtBut z s.heap s'.heap)(tk:zaB s.heap s'.heap)(hf:yeV s'.heap f')(ho:f'.owns=f.owns)(hr:f'.reads=f.reads)(hh:f'.hids=f.hids)
  (hg:s'.gens=s.gens:=by rfl) (hos:s'.os=s.os:=by rfl):Rep C (f'::Fs) H s':=by
 obtain⟨a1,a2⟩:=List.pairwise_cons.mp R.apart;have hzb:=(R.frs f (.head _)).2 z (AF.owns_reads hz);have R':Rep C Fs H s':=R.pop.to (λ b=>b=z) (λ b o hb e=>hk b o hb e) tk (λ b h=>h▸hzb) (λ g hg a ha h=>(a1 g hg).1 z hz (h▸ha))
  (λ a o e=>.inl ⟨e,λ h=>(R.objs a o e).2.2 f (.head _) (h▸AF.owns_reads hz)⟩) hg hos
 refine⟨R.ok,R'.keep,R'.gens,R'.os,λ g hg=>?_,List.pairwise_cons.mpr ⟨λ g hg=>?_,a2⟩,λ a o e=>?_⟩
 ·rcases List.mem_cons.mp hg with rfl|hg
  ·exact⟨hf,λ a ha=>(R.frs f (.head _)).2 a (hr▸ha)⟩
  ·exact R'.frs g hg
 ·obtain⟨b1,b2⟩:=a1 g hg
  exact⟨λ a ha=>b1 a (ho▸ha),λ a ha=>hr▸b2 a ha⟩
 ·refine q03 (R'.objs a o e) λ x y z'=>?_
  refine⟨x,y,λ g hg=>?_⟩;rcases List.mem_cons.mp hg with rfl|hg
  ·rw[hr];exact (R.objs a o e).2.2 f (.head _)
  ·exact z' g hg
theorem Rep.hidden {pre post:List AF}{a:Addr}{o o':Obj}(R:Rep C (pre++.hid a o::post) H s)(hk:Heap.ExtBut a s.heap s'.heap)(ha:s'.heap.get? a=some o')(hc:zbR o')
  (hg:s'.gens=s.gens:=by rfl) (hos:s'.os=s.os:=by rfl):Rep C (pre++.hid a o'::post) H s'/\zaB s.heap s'.heap:=by
 refine q03 (List.pairwise_append.mp R.apart) λ p1 p2 p3=>?_;obtain⟨q1,q2⟩:=List.pairwise_cons.mp p2;obtain⟨⟨ho,hoc⟩,hb⟩:=R.frs (.hid a o) (by simp);have hb:=hb a List.mem_cons_self;have tk:zaB s.heap s'.heap:=zaB.of_ext hk λ o1 e=>by rw[ho]at e;cases e;exact hoc
 have nf:∀ f∈pre++post,a∉f.reads:=λ f hf=>by
  rcases List.mem_append.mp hf with hf|hf
  ·exact (p3 f hf _ (.head _)).2 a List.mem_cons_self
  ·exact (q1 f hf).1 a List.mem_cons_self
 have R':Rep C (pre++post) H s':=(R.sub (List.Sublist.append (List.Sublist.refl _) (List.sublist_cons_self _ _))).to (λ b=>b=a) (λ b o hb e=>hk b o hb e) tk (λ b h=>h▸hb) (λ g hg b hb h=>nf g hg (h▸hb))
  (λ b ob e=>.inl ⟨e,λ h=>(R.objs b ob e).2.2 (.hid a o) (by simp) (h▸List.mem_cons_self)⟩) hg hos
 refine⟨⟨R.ok,R'.keep,R'.gens,R'.os,λ g hg=>?_,?_,λ b ob e=>?_⟩,tk⟩
 ·rcases List.mem_append.mp hg with hg|hg
  ·exact R'.frs g (List.mem_append_left _ hg)
  ·rcases List.mem_cons.mp hg with rfl|hg
   ·exact⟨⟨ha,hc⟩,λ b hb'=>by rw[List.mem_singleton.mp hb'];exact hb⟩
   ·exact R'.frs g (List.mem_append_right _ hg)
 ·refine List.pairwise_append.mpr ⟨p1,List.pairwise_cons.mpr ⟨q1,q2⟩,λ f hf g hg=>?_⟩
  rcases List.mem_cons.mp hg with rfl|hg
  ·exact p3 f hf (.hid a o) (.head _)
  ·exact p3 f hf g (.tail _ hg)
 ·refine q03 (R'.objs b ob e) λ x y z=>?_
  refine⟨x,y,λ g hg=>?_⟩;rcases List.mem_append.mp hg with hg|hg
  ·exact z g (List.mem_append_left _ hg)
  ·rcases List.mem_cons.mp hg with rfl|hg
   ·exact (R.objs b ob e).2.2 (.hid a o) (by simp)
   ·exact z g (List.mem_append_right _ hg)
theorem Rep.push {f:AF}(R:Rep C Fs H s)(hf:yeV s.heap f)(hb:∀ a∈f.reads,C.h₀.get? a=none)(hH:∀ a∈f.reads,H a=none)(ho:∀ a∈f.owns,∀ g∈Fs,a∉g.reads)(hr:∀ g∈Fs,∀ a∈g.hids,a∉f.reads):Rep C (f::Fs) H s:=by
 refine⟨R.ok,R.keep,R.gens,R.os,λ g hg=>?_,List.pairwise_cons.mpr ⟨λ g hg=>⟨λ a ha=>ho a ha g hg,hr g hg⟩,R.apart⟩,λ a o e=>?_⟩
 ·rcases List.mem_cons.mp hg with rfl|hg
  ·exact⟨hf,hb⟩
  ·exact R.frs g hg
 ·refine q03 (R.objs a o e) λ x y z=>?_
  refine⟨x,y,λ g hg=>?_⟩;rcases List.mem_cons.mp hg with rfl|hg
  ·intro h;rw[hH a h]at e;cases e
  ·exact z g hg
theorem Rep.hide {a:Addr}{o:Obj}(R:Rep C Fs H s)(hk:∀ b o,s.heap.get? b=some o->s'.heap.get? b=some o)(ha:s.heap.objs.size<=a)(ho:s'.heap.get? a=some o)(hc:zbR o)
  (hg:s'.gens=s.gens:=by rfl) (hos:s'.os=s.os:=by rfl):Rep C (.hid a o::Fs) H s':=by
 refine q03 (R.fresh_ge ha) λ x y z=>?_;refine (R.ext hk hg hos).push ⟨ho,hc⟩ (λ b hb=>by rw[List.mem_singleton.mp hb];exact y.1) (λ b hb=>by rw[List.mem_singleton.mp hb];exact x) (λ b hb g hg=>by rw[List.mem_singleton.mp hb];exact z g hg) λ g hg b hb hb'=>?_;rw[List.mem_singleton.mp hb']at hb;have:a∈g.reads:=by cases g with|fr f=>cases hb|hid c o=>exact hb|gh _=>cases hb
 exact z g hg this
end
structure Tr where
 C:Cx
 n:Nat
 hd:Bool
 /-- frames that stand below the one at hand -/
 need:List FR:=[]
 /-- the code of the frame at hand -/
 code:Option Addr:=none
noncomputable def zbP:List AF->List Env
 | []=>[]
 | .fr ⟨.fn,env,_⟩::r=>env::zbP r
 | .fr ⟨.cp _,_,_⟩::r=>zbP r
 | .hid _ _::r=>zbP r
 | .gh _::r=>zbP r
noncomputable def zjL:List AF->List (Addr×Obj)
 | []=>[]
 | .fr _::r=>zjL r
 | .hid a o::r=>(a,o)::zjL r
 | .gh _::r=>zjL r
noncomputable def Tr.Look (T:Tr)(Fs:List AF):Prop:=(∀ f∈T.need,AF.fr f∈Fs.tail)/\∀ f r c,Fs=.fr f::r->f.comp=.fn->T.code=some c->f.env.code=.ref c/\f.env.qual = "law.<locals>."
theorem Tr.Look.head {T:Tr}{c:FK}{env:Env}{ls ls':List (Str×PV)}{r r':List AF}(h:T.Look (.fr ⟨c,env,ls⟩::r))(k:∀ f,AF.fr f∈r->AF.fr f∈r'):T.Look (.fr ⟨c,env,ls'⟩::r'):=
 ⟨λ f hf=>k f (h.1 f hf),λ f r c e hc q=>by cases e;exact h.2 ⟨_,env,ls⟩ _ c rfl hc q⟩
structure AOk (T:Tr)(Fs:List AF)(A:Around):Prop where
 frames:A.frames=some (zbP Fs)
 depth:A.depth+4*T.n+10<=1000
 units:A.units+20*T.n+100<=9900
 handled:T.hd=false->A.handled=none
 ctx:∀ v,A.handled=some v->∃ a o,v=.ref a/\(a,o)∈zjL Fs/\zwA o
 look:T.Look Fs
theorem zmZ {a:Addr}{o:Obj}{Fs:List AF}:(a,o)∈zjL Fs↔AF.hid a o∈Fs:=by
 induction Fs with
 | nil=>exact⟨nofun,nofun⟩
 | cons x r ih=>
  rw[List.mem_cons];cases x with
  | fr _=>exact ih.trans ⟨.inr,λ h=>h.elim nofun id⟩
  | gh _=>exact ih.trans ⟨.inr,λ h=>h.elim nofun id⟩
  | hid b o'=>
   show (a,o)∈(b,o')::zjL r↔_
   rw[List.mem_cons,ih];exact or_congr ⟨λ h=>by cases h;rfl,λ h=>by cases h;rfl⟩ Iff.rfl
theorem AOk.hdc {T:Tr}{Fs:List AF}{A:Around}{H:zaA}{s:Shared}(ok:AOk T Fs A)(R:Rep T.C Fs H s):HdC s.heap A:=λ v e=>
 let ⟨a,o,h,hm,c⟩:=ok.ctx v e;⟨a,h,o,(R.frs _ (zmZ.mp hm)).1.1,c⟩
theorem zrB {T:Tr}{Fs Fs':List AF}{A:Around}(ok:AOk T Fs A)(h:∀ x∈zjL Fs,x∈zjL Fs'):∀ v,A.handled=some v->∃ a o,v=.ref a/\(a,o)∈zjL Fs'/\zwA o:=λ v e=>
 let ⟨a,o,r,m,c⟩:=ok.ctx v e;⟨a,o,r,h _ m,c⟩
inductive ziO (T:Tr)(Fs:List AF)(s:Shared)(Q:PV->zaA->Prop)(v:Value)(s':Shared):Prop
 | mk (p:PV) (H':zaA) (pr:PR s'.heap p v) (R:Rep T.C Fs H' s') (k:zaB s.heap s'.heap) (q:Q p H'):ziO T Fs s Q v s'
inductive znF (T:Tr)(Fs:List AF)(s:Shared)(Q:Bool->zaA->Prop)(b:Bool)(s':Shared):Prop
 | mk (H':zaA) (R:Rep T.C Fs H' s') (k:zaB s.heap s'.heap) (q:Q b H'):znF T Fs s Q b s'
inductive yfF (T:Tr)(Fs:List AF)(s:Shared)(Q:Bool->zaA->Prop)(c:Value)(s':Shared):Prop
 | mk (b:Bool) (e:c=.bool b) (q:znF T Fs s Q b s'):yfF T Fs s Q c s'
inductive yeJ (T:Tr)(Fs:List AF)(s:Shared)(Q:List PV->zaA->Prop)(vs:List Value)(s':Shared):Prop
 | mk (ps:List PV) (H':zaA) (pr:PRs s'.heap ps vs) (R:Rep T.C Fs H' s') (k:zaB s.heap s'.heap) (q:Q ps H'):yeJ T Fs s Q vs s'
inductive zvL (T:Tr)(Fs:List AF)(s:Shared)(Q:zaA->Prop)(s':Shared):Prop
 | mk (H':zaA) (R:Rep T.C Fs H' s') (k:zaB s.heap s'.heap) (q:Q H'):zvL T Fs s Q s'
theorem ziO.elim {T:Tr}{Fs:List AF}{s:Shared}{Q:PV->zaA->Prop}{v:Value}{s':Shared}{P:Prop}(h:ziO T Fs s Q v s')(k:∀ (p:PV) (H':zaA),PR s'.heap p v->Rep T.C Fs H' s'->zaB s.heap s'.heap->Q p H'->P):P:=by cases h with|mk p H' a b c d=>exact k p H' a b c d
theorem znF.elim {T:Tr}{Fs:List AF}{s:Shared}{Q:Bool->zaA->Prop}{b:Bool}{s':Shared}{P:Prop}(h:znF T Fs s Q b s')(k:∀ (H':zaA),Rep T.C Fs H' s'->zaB s.heap s'.heap->Q b H'->P):P:=by cases h with|mk H' a b c=>exact k H' a b c
theorem yfF.elim {T:Tr}{Fs:List AF}{s:Shared}{Q:Bool->zaA->Prop}{c:Value}{s':Shared}{P:Prop}(h:yfF T Fs s Q c s')(k:∀ (b:Bool),c=.bool b->∀ (H':zaA),Rep T.C Fs H' s'->zaB s.heap s'.heap->Q b H'->P):P:=by cases h with|mk b e q=>exact q.elim (k b e)
theorem zvL.elim {T:Tr}{Fs:List AF}{s:Shared}{Q:zaA->Prop}{s':Shared}{P:Prop}(h:zvL T Fs s Q s')(k:∀ (H':zaA),Rep T.C Fs H' s'->zaB s.heap s'.heap->Q H'->P):P:=by cases h with|mk H' a b c=>exact k H' a b c
theorem yeJ.elim {T:Tr}{Fs:List AF}{s:Shared}{Q:List PV->zaA->Prop}{vs:List Value}{s':Shared}{P:Prop}(h:yeJ T Fs s Q vs s')(k:∀ (ps:List PV) (H':zaA),PRs s'.heap ps vs->Rep T.C Fs H' s'->zaB s.heap s'.heap->Q ps H'->P):P:=by cases h with|mk p H' a b c d=>exact k p H' a b c d
noncomputable def AE (T:Tr)(f:FR)(Fs:List AF)(H:zaA)(e:Expr)(Q:PV->zaA->Prop)(E:Value->Shared->Prop):Prop:=
 ∀ A s,AOk T (.fr f::Fs) A->Rep T.C (.fr f::Fs) H s->wpAny T.C.M A (eval e f.env) (ziO T (.fr f::Fs) s Q) E s
noncomputable def AT (T:Tr)(f:FR)(Fs:List AF)(H:zaA)(e:Expr)(Q:Bool->zaA->Prop)(E:Value->Shared->Prop):Prop:=
 ∀ A s,AOk T (.fr f::Fs) A->Rep T.C (.fr f::Fs) H s->wpAny T.C.M A (isTrue e f.env (eval e f.env)) (znF T (.fr f::Fs) s Q) E s
noncomputable def AL (T:Tr)(f:FR)(Fs:List AF)(H:zaA)(es:List Expr)(Q:List PV->zaA->Prop)(E:Value->Shared->Prop):Prop:=
 ∀ A s pos,AOk T (.fr f::Fs) A->Rep T.C (.fr f::Fs) H s->wpAny T.C.M A (spliced (backTo pos (starEach es f.env))) (yeJ T (.fr f::Fs) s Q) E s
noncomputable def zhL (T:Tr)(Fs:List AF)(H:zaA)(op:Value->Value->Sem Value)(p q:PV)(Q:PV->zaA->Prop)(E:Value->Shared->Prop):Prop:=
 ∀ A s v w,AOk T Fs A->Rep T.C Fs H s->PR s.heap p v->PR s.heap q w->wpAny T.C.M A (op v w) (ziO T Fs s Q) E s
noncomputable def AUn (T:Tr)(Fs:List AF)(H:zaA)(op:Value->Sem Value)(p:PV)(Q:PV->zaA->Prop)(E:Value->Shared->Prop):Prop:=
 ∀ A s v,AOk T Fs A->Rep T.C Fs H s->PR s.heap p v->wpAny T.C.M A (op v) (ziO T Fs s Q) E s
noncomputable def zdC (T:Tr)(Fs:List AF)(H:zaA)(op:CmpOp)(p q:PV)(Q:Bool->zaA->Prop)(E:Value->Shared->Prop):Prop:=
 ∀ A s v w,AOk T Fs A->Rep T.C Fs H s->PR s.heap p v->PR s.heap q w->wpAny T.C.M A (compareOp op v w) (yfF T Fs s Q) E s
noncomputable def ATr (T:Tr)(Fs:List AF)(H:zaA)(p:PV)(Q:Bool->zaA->Prop)(E:Value->Shared->Prop):Prop:=
 ∀ A s v,AOk T Fs A->Rep T.C Fs H s->PR s.heap p v->wpAny T.C.M A (truthy v) (znF T Fs s Q) E s
noncomputable def zbH (T:Tr)(Fs:List AF)(H:zaA)(g:PV)(ps:List PV)(Q:PV->zaA->Prop)(E:Value->Shared->Prop):Prop:=
 ∀ A s v vs,AOk T Fs A->Rep T.C Fs H s->PR s.heap g v->PRs s.heap ps vs->wpAny T.C.M A (call v vs) (ziO T Fs s Q) E s
noncomputable def zfW (T:Tr)(Fs:List AF)(H:zaA)(g:PV)(ps:List PV)(Q:PV->zaA->Prop)(E:Value->Shared->Prop):Prop:=
 ∀ A s v vs,AOk T Fs A->Rep T.C Fs H s->PR s.heap g v->PRs s.heap ps vs->codeAny T.C.M A (.call v ⟨vs,[]⟩) (λ r s'=>match r with | .ok (.ret u)=>ziO T Fs s Q u s' | .ok _=>False | .error e=>E e s') s
section
variable {T:Tr}{f:FR}{Fs:List AF}{H:zaA}{E:Value->Shared->Prop}{s:Shared}{A:Around}
theorem zfW.call {g:PV}{ps:List PV}{Q:PV->zaA->Prop}(h:zfW T Fs H g ps Q E):zbH T Fs H g ps Q E:=λ A s v vs ok R a b=>wpAny_call (h A s v vs ok R a b)
theorem zfW.mono {g:PV}{ps:List PV}{Q Q':PV->zaA->Prop}{E':Value->Shared->Prop}(h:zfW T Fs H g ps Q E)(hq:∀ p H,Q p H->Q' p H)(hE:∀ e s,E e s->E' e s):zfW T Fs H g ps Q' E':=
 λ A s v vs ok R a b=>codeAny_mono (h A s v vs ok R a b) λ r s' x=>by
  rcases r with e | (v | _ | _ | _)
  ·exact hE _ _ x
  all_goals first|exact x.elim | (obtain⟨p,H',a,b,c,d⟩:=x;exact⟨p,H',a,b,c,hq _ _ d⟩)
theorem zaJ {Q:PV->zaA->Prop}{p:PV}{v:Value}{s':Shared}(R:Rep T.C Fs H s)(hp:PR s.heap p v)(hq:Q p H)(hh:s'.heap=s.heap:=by rfl)(hg:s'.gens=s.gens:=by rfl)(hos:s'.os=s.os:=by rfl):ziO T Fs s Q v s':=
 ⟨p,H,hh▸hp,R.same hh hg hos,hh▸zaB.refl _,hq⟩
theorem zaP {Q:Bool->zaA->Prop}{b:Bool}{s':Shared}(R:Rep T.C Fs H s)(hq:Q b H)(hh:s'.heap=s.heap:=by rfl)(hg:s'.gens=s.gens:=by rfl)(hos:s'.os=s.os:=by rfl):znF T Fs s Q b s':=
 ⟨H,R.same hh hg hos,hh▸zaB.refl _,hq⟩
theorem AE.mono {e:Expr}{Q Q':PV->zaA->Prop}(h:AE T f Fs H e Q E)(hq:∀ p H,Q p H->Q' p H):AE T f Fs H e Q' E:=
 λ A s ok R=>wpAny_mono (h A s ok R) (λ v s' hh=>hh.elim λ p H' a b c d=>⟨p,H',a,b,c,hq _ _ d⟩) λ _ _ x=>x
theorem zbH.noE {g:PV}{ps:List PV}{Q:PV->zaA->Prop}(h:zbH T Fs H g ps Q λ _ _=>False):zbH T Fs H g ps Q E:=
 λ A s v vs ok R a b=>wpAny_mono (h A s v vs ok R a b) (λ _ _ x=>x) λ _ _ x=>x.elim
theorem zbH.mono {g:PV}{ps:List PV}{Q Q':PV->zaA->Prop}(h:zbH T Fs H g ps Q E)(hq:∀ p H,Q p H->Q' p H):zbH T Fs H g ps Q' E:=
 λ A s v vs ok R a b=>wpAny_mono (h A s v vs ok R a b) (λ v s' hh=>hh.elim λ p H' a b c d=>⟨p,H',a,b,c,hq _ _ d⟩) λ _ _ x=>x
theorem AE.int {i:Int}{k:Nat}{pos:Pos}{Q:PV->zaA->Prop}(h:Q (.int i) H):AE T f Fs H (.Constant (.int i) k pos) Q E:=
 λ A s ok R=>wpAny_Constant_int (zaJ R PR.int h)
theorem AE.str {x:Str}{k:Nat}{pos:Pos}{Q:PV->zaA->Prop}(h:Q (.str x) H):AE T f Fs H (.Constant (.str x) k pos) Q E:=
 λ A s ok R=>wpAny_Constant_str (zaJ R PR.str h)
theorem AE.none {k:Nat}{pos:Pos}{Q:PV->zaA->Prop}(h:Q .none H):AE T f Fs H (.Constant .none k pos) Q E:=
 λ A s ok R=>wpAny_Constant_none (zaJ R PR.none h)
theorem AE.bool {b:Bool}{k:Nat}{pos:Pos}{Q:PV->zaA->Prop}(h:Q (.bool b) H):AE T f Fs H (.Constant (.bool b) k pos) Q E:=
 λ A s ok R=>wpAny_Constant_bool (zaJ R PR.bool h)
noncomputable def yaE:Option NameKind->Bool
 | some .local=>true
 | some .cell=>true
 | some .free=>true
 | _=>false
theorem zsP {x:Str}{p:PV}{Q:PV->zaA->Prop}(R:Rep T.C (.fr f::Fs) H s)(hk:yaE (f.env.kindOf x)=true)(hl:f.ls.lookup x=some p)(h:Q p H)(hc:(x==("__classdict__" : Str))=false):
  wpAny T.C.M A (loadName f.env x) (ziO T (.fr f::Fs) s Q) E s:=by
 have F:zpA s.heap f:=(R.frs _ (.head _)).1;have hcase:f.env.kindOf x=some .local\/f.env.kindOf x=some .cell\/f.env.kindOf x=some .free:=by
  revert hk;generalize f.env.kindOf x=o;intro hk
  rcases o with _ | k
  ·cases hk
  ·cases k <;> first|exact .inl rfl|exact .inr (.inl rfl) | exact .inr (.inr rfl) | cases hk
 rcases hcase with hk|hk|hk
 ·refine q12 F.ns λ m hm hv=>?_
  refine q12 (hv x p hl hk) λ v e pr=>?_;exact wpAny_loadName_local F.kind hk hm e (zaJ R pr h)
 ·refine q23 (F.cellv x p hl (.inl hk)) λ c v e ic pr=>?_
  exact wpAny_loadName_cell F.kind hk e ic (zaJ R pr h)
 ·refine q23 (F.cellv x p hl (.inr hk)) λ c v e ic pr=>?_
  exact wpAny_loadName_free F.kind hk e ic (zaJ R pr h) hc
theorem AE.name {x:Str}{pos:Pos}{p:PV}{nm:List (Str×NameKind)}{Q:PV->zaA->Prop}(hn:f.env.scope.names=nm)(hk:yaE (nm.lookup x)=true)(hl:f.ls.lookup x=some p)(h:Q p H)
  (hd:(x==("__debug__" : Str))=false:=by decide) (hc:(x==("__classdict__" : Str))=false:=by decide):AE T f Fs H (.Name x pos) Q E:=
 λ A s ok R=>wpAny_Name (zsP R (by rw[show f.env.kindOf x=f.env.scope.names.lookup x from rfl,hn];exact hk) hl h hc) hd
theorem AE.glob {x:Str}{pos:Pos}{a:Addr}{nm:List (Str×NameKind)}{Q:PV->zaA->Prop}(hn:f.env.scope.names=nm)(hk:nm.lookup x=some .globalImplicit)(he:nsIn T.C.K mainGlobals x=some (some (.ref a)))(h:Q (.ref a) H)
  (hd:(x==("__debug__" : Str))=false:=by decide):AE T f Fs H (.Name x pos) Q E:=λ A s ok R=>by
 have F:zpA s.heap f:=(R.frs _ (.head _)).1;refine Name_function_global F.kind (by rw[show f.env.kindOf x=f.env.scope.names.lookup x from rfl,hn];exact hk) (loadGlobal_global (env:=f.env) ?_ (mg_of R.ok.kin R.ok.top.g he) (zaJ R PR.ref h)) hd;rw[F.globals];exact R.ok.top.g.keeps R.keep
theorem zdP {x:Str}{pos:Pos}{v:Value}{Q:Value->Shared->Prop}(R:Rep T.C (.fr f::Fs) H s)(hk:f.env.kindOf x=some .globalImplicit)
  (hv:bootBuiltins x=some v) (hmiss:T.C.mg x=Option.none) (hnn:x ≠ "__name__") (h:Q v s) (hd:(x==("__debug__" : Str))=false):wpAny T.C.M A (eval (.Name x pos) f.env) Q E s:=by
 have F:zpA s.heap f:=(R.frs _ (.head _)).1;refine Name_function_global F.kind hk (loadGlobal_builtin (env:=f.env) (mg:=T.C.mg) (mb:=T.C.mb) ?_ hmiss ?_ ((R.ok.top.builtins x hnn).trans hv) h) hd
 ·rw[F.globals];exact R.ok.top.g.keeps R.keep
 ·rw[F.builtins];exact R.ok.top.b.keeps R.keep
theorem AE.ty {x:Str}{pos:Pos}{n:String}{nm:List (Str×NameKind)}{Q:PV->zaA->Prop}(hmiss:T.C.mg x=Option.none)(hn:f.env.scope.names=nm)(hk:nm.lookup x=some .globalImplicit)(hv:bootBuiltins x=some (.type n))(h:Q (.ty n) H)
  (hnn:x ≠ "__name__" := by decide +kernel) (hd:(x==("__debug__" : Str))=false:=by decide):AE T f Fs H (.Name x pos) Q E:=λ A s ok R=>
 zdP R (by rw[show f.env.kindOf x=f.env.scope.names.lookup x from rfl,hn];exact hk) hv hmiss hnn (zaJ R PR.ty h) hd
theorem AE.bi {x:Str}{pos:Pos}{n:String}{nm:List (Str×NameKind)}{Q:PV->zaA->Prop}(hmiss:T.C.mg x=Option.none)(hn:f.env.scope.names=nm)(hk:nm.lookup x=some .globalImplicit)(hv:bootBuiltins x=some (.builtin n))(h:Q (.bi n) H)
  (hnn:x ≠ "__name__" := by decide +kernel) (hd:(x==("__debug__" : Str))=false:=by decide):AE T f Fs H (.Name x pos) Q E:=λ A s ok R=>
 zdP R (by rw[show f.env.kindOf x=f.env.scope.names.lookup x from rfl,hn];exact hk) hv hmiss hnn (zaJ R PR.bi h) hd
theorem AE.binop {l r:Expr}{op:Operator}{pos:Pos}{Q:PV->zaA->Prop}(h:AE T f Fs H l (λ p H1'=>AE T f Fs H1' r (λ q H2'=>zhL T (.fr f::Fs) H2' (binaryOp op) p q Q E) E) E):AE T f Fs H (.BinOp l op r pos) Q E:=
 λ A s ok R=>wpAny_BinOp (wpAny_mono (h A s ok R) (λ v s1 hh=>hh.elim λ p H1' pr R1 k1 h1'=>wpAny_mono (h1' A s1 ok R1) (λ w s2 hh=>hh.elim λ q H2' qr R2 k2 h2=>
  wpAny_mono (h2 A s2 v w ok R2 (pr.keep k2) qr) (λ u s3 hh=>hh.elim λ p' H' pr' R' k' hq=>⟨p',H',pr',R',k1.trans (k2.trans k'),hq⟩) λ _ _ x=>x) λ _ _ x=>x) λ _ _ x=>x)
theorem AE.unop {l:Expr}{op:UnaryOp}{pos:Pos}{Q:PV->zaA->Prop}(h:AE T f Fs H l (λ p H1'=>AUn T (.fr f::Fs) H1' (unaryOp op) p Q E) E):AE T f Fs H (.UnaryOp op l pos) Q E:=
 λ A s ok R=>wpAny_UnaryOp (wpAny_mono (h A s ok R) (λ v s1 hh=>hh.elim λ p H1' pr R1 k1 h1'=>
  wpAny_mono (h1' A s1 v ok R1 pr) (λ u s3 hh=>hh.elim λ p' H' pr' R' k' hq=>⟨p',H',pr',R',k1.trans k',hq⟩) λ _ _ x=>x) λ _ _ x=>x)
theorem zhL.ofInt {op:Value->Value->Sem Value}{a b:Int}{c:Int}{Q:PV->zaA->Prop}(h:Q (.int c) H)
  (hop:∀ A s t u (Q:Value->Shared->Prop),Q (.int c s.toks) { s with toks:=s.toks+1 }->wpAny T.C.M A (op (.int a t) (.int b u)) Q E s):zhL T Fs H op (.int a) (.int b) Q E:=λ A s v w ok R pv pw=>by
 obtain⟨t,rfl⟩:=pv.int_inv;obtain⟨u,rfl⟩:=pw.int_inv;exact hop A s t u _ (zaJ R PR.int h)
theorem zhL.add {a b:Int}{Q:PV->zaA->Prop}(h:Q (.int (a+b)) H):zhL T Fs H (binaryOp .Add) (.int a) (.int b) Q E:=.ofInt h λ _ _ _ _ _ h=>P.add_int h
theorem zhL.sub {a b:Int}{Q:PV->zaA->Prop}(h:Q (.int (a-b)) H):zhL T Fs H (binaryOp .Sub) (.int a) (.int b) Q E:=.ofInt h λ _ _ _ _ _ h=>P.sub_int h
theorem zhL.mul {a b:Int}{Q:PV->zaA->Prop}(hm:IntMulOk a b)(h:Q (.int (a*b)) H):zhL T Fs H (binaryOp .Mult) (.int a) (.int b) Q E:=.ofInt h λ _ _ _ _ _ h=>P.mul_int h hm
theorem zhL.mod {a b:Int}{Q:PV->zaA->Prop}(hb:b≠0)(h:Q (.int (a.fmod b)) H):zhL T Fs H (binaryOp .Mod) (.int a) (.int b) Q E:=.ofInt h λ _ _ _ _ _ h=>mod_int' hb h
theorem zhL.div {a b:Int}{Q:PV->zaA->Prop}(hb:b≠0)(hp:Builtin.divisionGoesByPylong a b=false)(h:Q (.int (a.fdiv b)) H):zhL T Fs H (binaryOp .FloorDiv) (.int a) (.int b) Q E:=.ofInt h λ _ _ _ _ _ h=>floordiv_int hb h (.inl hp)
theorem zhL.pow {a b:Int}{Q:PV->zaA->Prop}(hb:0<=b)(hp:(Builtin.Int.intBits a:Int)*b<=2 ^ 27)(h:Q (.int (a ^ b.toNat)) H):zhL T Fs H (binaryOp .Pow) (.int a) (.int b) Q E:=.ofInt h λ _ _ _ _ _ h=>pow_int hb hp h
theorem AUn.neg {a:Int}{Q:PV->zaA->Prop}(h:Q (.int (-a)) H):AUn T Fs H (unaryOp .USub) (.int a) Q E:=λ A s v ok R pv=>by
 obtain⟨t,rfl⟩:=pv.int_inv;exact P.neg_int (zaJ R PR.int h)
theorem AUn.not {p:PV}{Q:PV->zaA->Prop}(h:ATr T Fs H p (λ b H1'=>Q (.bool (!b)) H1') E):AUn T Fs H (unaryOp .Not) p Q E:=λ A s v ok R pv=>
 not_value (wpAny_mono (h A s v ok R pv) (λ b s' hh=>hh.elim λ H' R' k q=>⟨_,H',PR.bool,R',k,q⟩) λ _ _ x=>x)
theorem zdC.ofInt {op:CmpOp}{a b:Int}{c:Bool}{Q:Bool->zaA->Prop}(h:Q c H)
  (hop:∀ A s t u (Q:Value->Shared->Prop),Q (.bool c) s->wpAny T.C.M A (compareOp op (.int a t) (.int b u)) Q E s):zdC T Fs H op (.int a) (.int b) Q E:=λ A s v w ok R pv pw=>by
 obtain⟨t,rfl⟩:=pv.int_inv;obtain⟨u,rfl⟩:=pw.int_inv;exact hop A s t u _ ⟨_,rfl,zaP R h⟩
theorem zdC.lt {a b:Int}{Q:Bool->zaA->Prop}(h:Q (decide (a<b)) H):zdC T Fs H .Lt (.int a) (.int b) Q E:=.ofInt h λ _ _ _ _ _ h=>P.lt_int h
theorem zdC.le {a b:Int}{Q:Bool->zaA->Prop}(h:Q (decide (a<=b)) H):zdC T Fs H .LtE (.int a) (.int b) Q E:=.ofInt h λ _ _ _ _ _ h=>P.le_int h
theorem zdC.gt {a b:Int}{Q:Bool->zaA->Prop}(h:Q (decide (b<a)) H):zdC T Fs H .Gt (.int a) (.int b) Q E:=.ofInt h λ _ _ _ _ _ h=>P.gt_int h
theorem zdC.ge {a b:Int}{Q:Bool->zaA->Prop}(h:Q (decide (b<=a)) H):zdC T Fs H .GtE (.int a) (.int b) Q E:=.ofInt h λ _ _ _ _ _ h=>P.ge_int h
theorem zdC.eqInt {a b:Int}{Q:Bool->zaA->Prop}(h:Q (decide (a=b)) H):zdC T Fs H .Eq (.int a) (.int b) Q E:=.ofInt h λ _ _ _ _ _ h=>P.eq_int (by rw[show (a==b)=decide (a=b) from rfl];exact h)
theorem zdC.neInt {a b:Int}{Q:Bool->zaA->Prop}(h:Q (!decide (a=b)) H):zdC T Fs H .NotEq (.int a) (.int b) Q E:=.ofInt h λ _ _ _ _ _ h=>P.ne_int (by rw[show (a != b)=!decide (a=b) from rfl];exact h)
theorem zdC.eqStr {a b:Str}{Q:Bool->zaA->Prop}(h:Q (a==b) H):zdC T Fs H .Eq (.str a) (.str b) Q E:=λ A s v w ok R pv pw=>by
 obtain⟨t,rfl⟩:=pv.str_inv;obtain⟨u,rfl⟩:=pw.str_inv;exact PyProof.Rows.eq_str ⟨_,rfl,zaP R h⟩
theorem zdC.neStr {a b:Str}{Q:Bool->zaA->Prop}(h:Q (a != b) H):zdC T Fs H .NotEq (.str a) (.str b) Q E:=λ A s v w ok R pv pw=>by
 obtain⟨t,rfl⟩:=pv.str_inv;obtain⟨u,rfl⟩:=pw.str_inv;exact PyProof.Rows.ne_str ⟨_,rfl,zaP R h⟩
noncomputable def PV.isNone:PV->Bool
 | .none=>true
 | _=>false
theorem PR.isNone {h:Heap}{p:PV}{v:Value}(x:PR h p v):(v==.none)=p.isNone:=by
 cases p with
 | none=>rw[x.none_inv];rfl
 | bool=>rw[x.bool_inv];rfl
 | int=>obtain⟨t,rfl⟩:=x.int_inv;rfl
 | str=>obtain⟨t,rfl⟩:=x.str_inv;rfl
 | tup=>refine q42 x.tup_inv ?_;intro a o vs n u0;subst u0;intro _;rfl
 | ref=>rw[x.ref_inv];rfl
 | ty=>rw[x.ty_inv];rfl
 | bi=>rw[x.bi_inv];rfl
theorem zdC.isNone {p:PV}{Q:Bool->zaA->Prop}(h:Q p.isNone H):zdC T Fs H .Is p .none Q E:=λ A s v w ok R pv pw=>by
 rw[pw.none_inv];exact is_none ⟨_,rfl,by rw[pv.isNone];exact zaP R h⟩
theorem zdC.isNotNone {p:PV}{Q:Bool->zaA->Prop}(h:Q (!p.isNone) H):zdC T Fs H .IsNot p .none Q E:=λ A s v w ok R pv pw=>by
 rw[pw.none_inv];exact isNot_none ⟨_,rfl,by rw[pv.isNone];exact zaP R h⟩
theorem ziK {M:Model}{vs keep:List Value}{Q:Unit->Shared->Prop}(h:Q () s):wpAny M A (release vs keep) Q E s:=λ Γ p hΓ=>by rw[Sem.wp_release];exact h
theorem zvI {M:Model}{vs:List Value}{m:Sem Value}{Q:Value->Shared->Prop}(h:wpAny M A m Q E s):wpAny M A (operate vs m) Q E s:=λ Γ p hΓ=>by rw[Sem.wp_operate];exact h Γ p hΓ
theorem AE.cmp {l r:Expr}{op:CmpOp}{pos:Pos}{Q:PV->zaA->Prop}(h:AE T f Fs H l (λ p H1'=>AE T f Fs H1' r (λ q H2'=>zdC T (.fr f::Fs) H2' op p q (λ b H3=>Q (.bool b) H3) E) E) E)
  (hm:behindInMarks op r=false:=by with_unfolding_all rfl):AE T f Fs H (.Compare l [op] [r] pos) Q E:=
 λ A s ok R=>wpAny_Compare1 (wpAny_mono (h A s ok R) (λ v s1 hh=>hh.elim λ p H1' pr R1 k1 h1'=>wpAny_mono (h1' A s1 ok R1) (λ w s2 hh=>hh.elim λ q H2' qr R2 k2 h2=>
  wpAny_mono (h2 A s2 v w ok R2 (pr.keep k2) qr) (λ u s3 hh=>hh.elim λ b eb H' R' k' hq=>⟨.bool b,H',eb▸PR.bool,R',k1.trans (k2.trans k'),hq⟩) λ _ _ x=>x) λ _ _ x=>x) λ _ _ x=>x) hm
theorem AT.cmp {l r:Expr}{op:CmpOp}{pos:Pos}{Q:Bool->zaA->Prop}(h:AE T f Fs H l (λ p H1'=>AE T f Fs H1' r (λ q H2'=>zdC T (.fr f::Fs) H2' op p q Q E) E) E)
  (hm:behindInMarks op r=false:=by with_unfolding_all rfl):AT T f Fs H (.Compare l [op] [r] pos) Q E:=
 λ A s ok R=>wpAny_isTrue_Compare1 (wpAny_mono (h A s ok R) (λ v s1 hh=>hh.elim λ p H1' pr R1 k1 h1'=>wpAny_mono (h1' A s1 ok R1) (λ w s2 hh=>hh.elim λ q H2' qr R2 k2 h2=>
  wpAny_mono (h2 A s2 v w ok R2 (pr.keep k2) qr) (λ u s3 hh=>hh.elim λ b eb H' R' k' hq=>eb▸wpAny_truthy_bool ⟨H',R',k1.trans (k2.trans k'),hq⟩) λ _ _ x=>x) λ _ _ x=>x) λ _ _ x=>x) hm
theorem AT.cmp2 {l r r':Expr}{op op':CmpOp}{pos:Pos}{Q:Bool->zaA->Prop}
  (h:AE T f Fs H l (λ p H1'=>AE T f Fs H1' r (λ q H2'=>zdC T (.fr f::Fs) H2' op p q (λ b H3=>if b then AE T f Fs H3 r' (λ q' H4=>zdC T (.fr f::Fs) H4 op' q q' Q E) E else Q false H3) E) E) E)
  (hm:behindInMarks op' r'=false:=by with_unfolding_all rfl):AT T f Fs H (.Compare l [op,op'] [r,r'] pos) Q E:=λ A s ok R=>by
 show wpAny _ _ (do testChain pos (<- eval l f.env) [op,op'] [eval r f.env,markedBehindIn op' r' (eval r' f.env)]) _ _ _
 refine wpAny_bind (wpAny_mono (h A s ok R) (λ v s1 hh=>hh.elim λ p H1' pr R1 k1 h1'=>?_) λ _ _ x=>x);refine wpAny_bind (m:=holding _ _) (wpAny_holding (wpAny_mono (h1' A s1 ok R1) (λ w s2 hh=>hh.elim λ q H2' qr R2 k2 h2=>wpAny_bind (wpAny_standAt ?_)) λ _ _ x=>x));refine wpAny_bind (wpAny_holding (wpAny_mono (h2 A s2 v w ok R2 (pr.keep k2) qr) (λ u s3 hh=>hh.elim λ b eb H3 R3 k3 h3=>?_) λ _ _ x=>x));subst eb;refine wpAny_bind (ziK (wpAny_bind (wpAny_holding (wpAny_truthy_bool ?_))));cases b with
 | false=>exact wpAny_pure ⟨H3,R3,k1.trans (k2.trans k3),h3⟩
 | true=>
  simp only[if_true]at h3 ⊢;rw[markedBehindIn_of_false hm];refine wpAny_bind (m:=holding _ _) (wpAny_holding (wpAny_mono (h3 A s3 ok R3) (λ w' s4 hh=>hh.elim λ q' H4 qr' R4 k4 h4=>wpAny_bind (wpAny_standAt ?_)) λ _ _ x=>x));refine wpAny_bind (zvI (wpAny_mono (h4 A s4 w w' ok R4 (qr.keep (k3.trans k4)) qr') (λ u s5 hh=>hh.elim λ b eb H5 R5 k5 h5=>?_) (λ _ _ x=>x)));subst eb;exact wpAny_holding (wpAny_truthy_bool ⟨H5,R5,k1.trans (k2.trans (k3.trans (k4.trans k5))),h5⟩)
theorem AT.not {e:Expr}{pos:Pos}{Q:Bool->zaA->Prop}(h:AT T f Fs H e (λ b H1'=>Q (!b) H1') E):AT T f Fs H (.UnaryOp .Not e pos) Q E:=
 λ A s ok R=>wpAny_isTrue_Not (wpAny_mono (h A s ok R) (λ b s1 hh=>hh.elim λ H1' R1 k1 q=>⟨H1',R1,k1,q⟩) λ _ _ x=>x)
noncomputable def zsW (T:Tr)(f:FR)(Fs:List AF)(H:zaA)(op:BoolOp)(es:List Expr)(Q:Bool->zaA->Prop)(E:Value->Shared->Prop):Prop:=
 ∀ A s,AOk T (.fr f::Fs) A->Rep T.C (.fr f::Fs) H s->wpAny T.C.M A (allTrue op es f.env) (znF T (.fr f::Fs) s Q) E s
theorem AT.boolop {op:BoolOp}{es:List Expr}{pos:Pos}{Q:Bool->zaA->Prop}(h:zsW T f Fs H op es Q E):AT T f Fs H (.BoolOp op es pos) Q E:=λ A s ok R=>wpAny_isTrue_BoolOp (h A s ok R)
theorem zsW.and_nil {Q:Bool->zaA->Prop}(h:Q true H):zsW T f Fs H .And [] Q E:=λ A s ok R=>wpAny_allTrue_And_nil (zaP R h)
theorem zsW.or_nil {Q:Bool->zaA->Prop}(h:Q false H):zsW T f Fs H .Or [] Q E:=λ A s ok R=>wpAny_allTrue_Or_nil (zaP R h)
theorem zsW.and {e:Expr}{es:List Expr}{Q:Bool->zaA->Prop}(h:AT T f Fs H e (λ b H1'=>if b then zsW T f Fs H1' .And es Q E else Q false H1') E):zsW T f Fs H .And (e::es) Q E:=λ A s ok R=>
 wpAny_allTrue_And_cons (wpAny_mono (h A s ok R) (λ b s1 hh=>hh.elim λ H1' R1 k1 h1'=>by
  cases b with
  | false=>exact⟨H1',R1,k1,h1'⟩
  | true=>exact wpAny_mono (h1' A s1 ok R1) (λ b s2 hh=>hh.elim λ H2' R2 k2 h2=>⟨H2',R2,k1.trans k2,h2⟩) λ _ _ x=>x) λ _ _ x=>x)
theorem zsW.or {e:Expr}{es:List Expr}{Q:Bool->zaA->Prop}(h:AT T f Fs H e (λ b H1'=>if b then Q true H1' else zsW T f Fs H1' .Or es Q E) E):zsW T f Fs H .Or (e::es) Q E:=λ A s ok R=>
 wpAny_allTrue_Or_cons (wpAny_mono (h A s ok R) (λ b s1 hh=>hh.elim λ H1' R1 k1 h1'=>by
  cases b with
  | true=>exact⟨H1',R1,k1,h1'⟩
  | false=>exact wpAny_mono (h1' A s1 ok R1) (λ b s2 hh=>hh.elim λ H2' R2 k2 h2=>⟨H2',R2,k1.trans k2,h2⟩) λ _ _ x=>x) λ _ _ x=>x)
theorem AT.value {e:Expr}{Q:Bool->zaA->Prop}(h:AE T f Fs H e (λ p H1'=>ATr T (.fr f::Fs) H1' p Q E) E)
  (he:isTrue e f.env (eval e f.env)=(do let v <- eval e f.env;standAt e.pos;holding [v] (truthy v)):=by rfl):AT T f Fs H e Q E:=λ A s ok R=>
 wpAny_isTrue_value (wpAny_mono (h A s ok R) (λ v s1 hh=>hh.elim λ p H1' pr R1 k1 h1'=>wpAny_mono (h1' A s1 v ok R1 pr) (λ b s2 hh=>hh.elim λ H2' R2 k2 h2=>⟨H2',R2,k1.trans k2,h2⟩) λ _ _ x=>x) λ _ _ x=>x) he
theorem ATr.bool {b:Bool}{Q:Bool->zaA->Prop}(h:Q b H):ATr T Fs H (.bool b) Q E:=λ A s v ok R pv=>by rw[pv.bool_inv];exact wpAny_truthy_bool (zaP R h)
theorem ATr.int {i:Int}{Q:Bool->zaA->Prop}(h:Q (!decide (i=0)) H):ATr T Fs H (.int i) Q E:=λ A s v ok R pv=>by
 obtain⟨t,rfl⟩:=pv.int_inv;exact P.truthy_int (zaP R (by rw[show (i != 0)=!decide (i=0) from rfl];exact h))
theorem AE.ifexp {t a b:Expr}{pos:Pos}{Q:PV->zaA->Prop}(h:AT T f Fs H t (λ c H1'=>if c then AE T f Fs H1' a Q E else AE T f Fs H1' b Q E) E):AE T f Fs H (.IfExp t a b pos) Q E:=λ A s ok R=>
 wpAny_IfExp (wpAny_mono (h A s ok R) (λ c s1 hh=>hh.elim λ H1' R1 k1 h1'=>by
  have tail:∀ {e:Expr},AE T f Fs H1' e Q E->wpAny T.C.M A (eval e f.env) (ziO T (.fr f::Fs) s Q) E s1:=λ h=>wpAny_mono (h A s1 ok R1) (λ v s2 hh=>hh.elim λ p H2' pr R2 k2 h2=>⟨p,H2',pr,R2,k1.trans k2,h2⟩) λ _ _ x=>x;cases c with
  | true=>exact tail h1'
  | false=>exact tail h1') λ _ _ x=>x)
theorem AL.nil {Q:List PV->zaA->Prop}(h:Q [] H):AL T f Fs H [] Q E:=λ A s pos ok R=>wpAny_items_nil ⟨[],H,PRs.nil,R,zaB.refl _,h⟩
theorem AL.cons {e:Expr}{es:List Expr}{Q:List PV->zaA->Prop}(h:AE T f Fs H e (λ p H1'=>AL T f Fs H1' es (λ ps H2'=>Q (p::ps) H2') E) E)
  (he:starEach (e::es) f.env=(false,eval e f.env)::starEach es f.env:=by rfl):AL T f Fs H (e::es) Q E:=λ A s pos ok R=>
 wpAny_items_cons (wpAny_mono (h A s ok R) (λ v s1 hh=>hh.elim λ p H1' pr R1 k1 h1'=>wpAny_mono (h1' A s1 pos ok R1) (λ vs s2 hh=>hh.elim λ ps H2' prs R2 k2 h2=>
  ⟨p::ps,H2',PRs.cons (pr.keep k2) prs,R2,k1.trans k2,h2⟩) λ _ _ x=>x) λ _ _ x=>x) he
end
noncomputable abbrev Ls:=List (Str×PV)
inductive AFl where
 | next|brk|cont
 | ret (p:PV)
noncomputable def FlR (h:Heap):AFl->Flow->Prop
 | .next,.next=>True
 | .brk,.brk=>True
 | .cont,.cont=>True
 | .ret p,.ret v=>PR h p v
 | _,_=>False
inductive zqV (T:Tr)(env:Env)(Fs:List AF)(s:Shared)(Q:AFl->Ls->zaA->Prop)(fl:Flow)(s':Shared):Prop
 | mk (a:AFl) (ls':Ls) (H':zaA) (fr:FlR s'.heap a fl) (R:Rep T.C (.fr ⟨.fn,env,ls'⟩::Fs) H' s') (k:zaB s.heap s'.heap) (q:Q a ls' H'):zqV T env Fs s Q fl s'
inductive ydL (T:Tr)(f:FR)(Fs:List AF)(s:Shared)(Q:Ls->zaA->Prop)(s':Shared):Prop
 | mk (ls':Ls) (H':zaA) (R:Rep T.C (.fr { f with ls:=ls' }::Fs) H' s') (k:zaB s.heap s'.heap) (q:Q ls' H'):ydL T f Fs s Q s'
theorem zqV.elim {T:Tr}{env:Env}{Fs:List AF}{s:Shared}{Q:AFl->Ls->zaA->Prop}{fl:Flow}{s':Shared}{P:Prop}(h:zqV T env Fs s Q fl s')(k:∀ (a:AFl) (ls':Ls) (H':zaA),FlR s'.heap a fl->Rep T.C (.fr ⟨.fn,env,ls'⟩::Fs) H' s'->zaB s.heap s'.heap->Q a ls' H'->P):P:=by cases h with|mk a ls' H' x y z w=>exact k a ls' H' x y z w
theorem ydL.elim {T:Tr}{f:FR}{Fs:List AF}{s:Shared}{Q:Ls->zaA->Prop}{s':Shared}{P:Prop}(h:ydL T f Fs s Q s')(k:∀ (ls':Ls) (H':zaA),Rep T.C (.fr { f with ls:=ls' }::Fs) H' s'->zaB s.heap s'.heap->Q ls' H'->P):P:=by cases h with|mk ls' H' x y z=>exact k ls' H' x y z
noncomputable def AX (T:Tr)(env:Env)(Fs:List AF)(ls:Ls)(H:zaA)(ss:List Stmt)(Q:AFl->Ls->zaA->Prop)(E:Value->Shared->Prop):Prop:=
 ∀ A s,AOk T (.fr ⟨.fn,env,ls⟩::Fs) A->Rep T.C (.fr ⟨.fn,env,ls⟩::Fs) H s->wpAny T.C.M A (execs ss env) (zqV T env Fs s Q) E s
noncomputable def AS (T:Tr)(env:Env)(Fs:List AF)(ls:Ls)(H:zaA)(st:Stmt)(Q:AFl->Ls->zaA->Prop)(E:Value->Shared->Prop):Prop:=
 ∀ A s,AOk T (.fr ⟨.fn,env,ls⟩::Fs) A->Rep T.C (.fr ⟨.fn,env,ls⟩::Fs) H s->wpAny T.C.M A (exec st env) (zqV T env Fs s Q) E s
noncomputable def AA (T:Tr)(f:FR)(Fs:List AF)(H:zaA)(t:Expr)(p:PV)(Q:Ls->zaA->Prop)(E:Value->Shared->Prop):Prop:=
 ∀ A s v,AOk T (.fr f::Fs) A->Rep T.C (.fr f::Fs) H s->PR s.heap p v->wpAny T.C.M A (assign t f.env v) (λ _ s'=>ydL T f Fs s Q s') E s
noncomputable def Then (T:Tr)(env:Env)(Fs:List AF)(rest:List Stmt)(Q:AFl->Ls->zaA->Prop)(E:Value->Shared->Prop)(a:AFl)(ls:Ls)(H:zaA):Prop:=match a with
 | .next=>AX T env Fs ls H rest Q E
 | a=>Q a ls H
section
variable {T:Tr}{f:FR}{env:Env}{ls:Ls}{Fs:List AF}{H:zaA}{E:Value->Shared->Prop}{s:Shared}{A:Around}
theorem AOk.any {c:FK}{ls ls':Ls}(ok:AOk T (.fr ⟨c,env,ls⟩::Fs) A):AOk T (.fr ⟨c,env,ls'⟩::Fs) A:=by
 cases c <;> exact⟨ok.frames,ok.depth,ok.units,ok.handled,ok.ctx,ok.look.head λ f h=>h⟩
theorem AX.cons {st:Stmt}{rest:List Stmt}{Q:AFl->Ls->zaA->Prop}(h:AS T env Fs ls H st (Then T env Fs rest Q E) E):AX T env Fs ls H (st::rest) Q E:=λ A s ok R=>by
 refine wpAny_execs_cons (wpAny_mono (h A s ok R) (λ fl s1 hh=>hh.elim λ a ls1 H1' fr R1 k1 h1'=>?_) λ _ _ x=>x);cases a <;> cases fl <;> first|exact fr.elim|skip
 ·exact wpAny_mono (h1' A s1 ok.any R1) (λ fl s2 hh=>hh.elim λ a ls2 H2' fr R2 k2 h2=>⟨a,ls2,H2',fr,R2,k1.trans k2,h2⟩) λ _ _ x=>x
 ·exact⟨_,ls1,H1',fr,R1,k1,h1'⟩
 ·exact⟨_,ls1,H1',fr,R1,k1,h1'⟩
 ·exact⟨_,ls1,H1',fr,R1,k1,h1'⟩
theorem AX.nil {Q:AFl->Ls->zaA->Prop}(h:Q .next ls H):AX T env Fs ls H [] Q E:=λ A s ok R=>wpAny_execs_nil ⟨.next,ls,H,trivial,R,zaB.refl _,h⟩
theorem AX.mono {ss:List Stmt}{Q Q':AFl->Ls->zaA->Prop}(h:AX T env Fs ls H ss Q E)(hq:∀ a ls H,Q a ls H->Q' a ls H):AX T env Fs ls H ss Q' E:=
 λ A s ok R=>wpAny_mono (h A s ok R) (λ v s' hh=>hh.elim λ a ls' H' x y z q=>⟨a,ls',H',x,y,z,hq _ _ _ q⟩) λ _ _ x=>x
theorem ydK {h:Heap}{c:FK}{ls ls':Ls}(x:zpA h ⟨c,env,ls⟩)(hl:∀ y p,ls'.lookup y=some p->ls.lookup y=some p):zpA h ⟨c,env,ls'⟩:=
 ⟨x.kind,x.globals,x.builtins,let ⟨m,a,b⟩:=x.ns;⟨m,a,λ y p e k=>b y p (hl y p e) k⟩,x.cells,λ y p e k=>x.cellv y p (hl y p e) k,x.has,x.apart,x.locals,x.frame⟩
theorem Rep.weak {C:Cx}{c:FK}{ls ls':Ls}{H H':zaA}(R:Rep C (.fr ⟨c,env,ls⟩::Fs) H s)(hl:∀ y p,ls'.lookup y=some p->ls.lookup y=some p)(hH:∀ a o,H' a=some o->H a=some o):Rep C (.fr ⟨c,env,ls'⟩::Fs) H' s:=by
 refine⟨R.ok,R.keep,R.gens,R.os,λ g hg=>?_,?_,λ a o e=>?_⟩
 ·rcases List.mem_cons.mp hg with rfl|hg
  ·exact⟨ydK (R.frs _ (.head _)).1 hl,(R.frs _ (.head _)).2⟩
  ·exact R.frs g (.tail _ hg)
 ·exact List.pairwise_cons.mpr ⟨(List.pairwise_cons.mp R.apart).1,(List.pairwise_cons.mp R.apart).2⟩
 ·refine q03 (R.objs a o (hH a o e)) λ x y z=>?_
  refine⟨x,y,λ g hg=>?_⟩;rcases List.mem_cons.mp hg with rfl|hg
  ·exact z (.fr ⟨c,env,ls⟩) (.head _)
  ·exact z g (.tail _ hg)
noncomputable def zvT (c:FK)(env:Env)(x:Str):Prop:=match c with
 | .fn=>True
 | .cp cs=>∃ d,d∈cs/\env.cells.lookup x=some d
theorem zgH {x:Str}{p:PV}{v:Value}{c:FK}{Q:Unit->Shared->Prop}(R:Rep T.C (.fr ⟨c,env,ls⟩::Fs) H s)(hk:env.kindOf x=some .local\/(env.kindOf x=some .cell/\zvT c env x))(hp:PR s.heap p v)
  (h:∀ s',Rep T.C (.fr ⟨c,env,(x,p)::ls⟩::Fs) H s'->zaB s.heap s'.heap->Q () s'):wpAny T.C.M A (storeName env x v) Q E s:=by
 have F:zpA s.heap ⟨c,env,ls⟩:=(R.frs _ (.head _)).1;have lk:∀ y q,((x,p)::ls).lookup y=some q->(y=x/\q=p)\/(y≠x/\ls.lookup y=some q):=λ y q e=>by
  rw[List.lookup_cons]at e
  by_cases hy:y=x
  ·subst hy;simp at e;exact .inl ⟨rfl,e.symm⟩
  ·have:(y==x)=false:=beq_eq_false_iff_ne.mpr hy
   rw[this]at e;exact .inr ⟨hy,e⟩
 refine q12 F.ns λ m hm hv=>?_;rcases hk with hk|hk
 ·have F1:=F.kind
  refine wpAny_storeName_local hk hm (λ h' hn' sb=>?_) (by rw[show env.scope.kind=.function from F1];rfl);have tk:zaB s.heap h':=zaB.of_ext sb.extBut λ o e=>by
   refine q31 hm λ o' es ep u8=>q03 u8 λ ho' hd _=>?_;rw[ho']at e;cases e;exact .dict hd
  refine h _ (R.frame (z:=env.locals) (s':={ s with heap:=h',toks:=s.toks+1 }) List.mem_cons_self sb.extBut tk ?_ rfl rfl rfl) tk;have kc:∀ y∈env.cells,∀ o,s.heap.get? y.2=some o->h'.get? y.2=some o:=λ y hy o e=>(sb.2 y.2 (F.locals y hy)).trans e;refine⟨F.kind,F.globals,F.builtins,⟨_,hn',λ y q e k=>?_⟩,λ y hy=>let ⟨v,r⟩:=F.cells y hy;⟨v,zbY r (kc y hy)⟩,λ y q e k=>?_,F.has,F.apart,F.locals,F.frame⟩
  ·rcases lk y q e with ⟨rfl,rfl⟩|⟨hy,e⟩
   ·exact⟨v,by simp,hp.keep tk⟩
   ·refine q12 (hv y q e k) λ u e1 r=>?_
    exact⟨u,by simp[hy,e1],r.keep tk⟩
  ·rcases lk y q e with ⟨rfl,rfl⟩|⟨hy,e⟩
   ·have k:env.kindOf y=some .cell\/env.kindOf y=some .free:=k
    rw[hk]at k;rcases k with k|k <;> cases k
   ·refine q23 (F.cellv y q e k) λ d u e1 r pr=>?_
    exact⟨d,u,e1,zbY r (kc (y,d) (mem_of_lookup e1)),pr.keep tk⟩
 ·obtain⟨hk,hoc⟩:=hk
  obtain⟨d,hd⟩:=F.has x (.inl hk);have hmem:=mem_of_lookup hd;obtain⟨v0,ic⟩:=F.cells (x,d) hmem;refine wpAny_storeName_cell F.kind hk hd ic λ h' ic' sb=>?_;have tk:zaB s.heap h':=zaB.of_ext sb.extBut λ o e=>by
   refine q12 ic λ o' ho' hd'=>?_;rw[ho']at e;cases e;exact .cell hd'
  have hdo:d∈yfA c env:=by
   refine List.mem_cons_of_mem _ ?_;cases c with
   | fn=>exact List.mem_map.mpr ⟨(x,d),List.mem_filter.mpr ⟨hmem,by simp[hk]⟩,rfl⟩
   | cp cs=>
    refine q12 hoc λ d' h1 h2=>?_;rw[hd]at h2;cases h2;exact List.mem_filter.mpr ⟨h1,by simpa using ⟨x,hmem⟩⟩
  refine h _ (R.frame (z:=d) (s':={ s with heap:=h' }) hdo sb.extBut tk ?_ rfl rfl rfl) tk;have hLd:env.locals≠d:=λ e=>F.locals (x,d) hmem e.symm;refine⟨F.kind,F.globals,F.builtins,⟨m,ykJ hm (λ o e=>(sb.2 _ hLd).trans e),λ y q e k=>?_⟩,λ y hy=>?_,λ y q e k=>?_,F.has,F.apart,F.locals,F.frame⟩
  ·rcases lk y q e with ⟨rfl,rfl⟩|⟨hy,e⟩
   ·have k:env.kindOf y=some .local:=k
    rw[hk]at k;cases k
   ·refine q12 (hv y q e k) λ u e1 r=>?_
    exact⟨u,e1,r.keep tk⟩
  ·by_cases hyd:y.2=d
   ·exact⟨_,hyd▸ic'⟩
   ·obtain⟨u,r⟩:=F.cells y hy
    exact⟨u,zbY r λ o e=>(sb.2 _ hyd).trans e⟩
  ·rcases lk y q e with ⟨rfl,rfl⟩|⟨hy,e⟩
   ·exact⟨d,v,hd,ic',hp.keep tk⟩
   ·refine q23 (F.cellv y q e k) λ d' u e1 r pr=>?_
    have:d'≠d:=zwO F.apart (mem_of_lookup e1) hmem hy;exact⟨d',u,e1,zbY r (λ o e=>(sb.2 _ this).trans e),pr.keep tk⟩
noncomputable def zgO:Option NameKind->Bool
 | some .local=>true
 | some .cell=>true
 | _=>false
theorem zkM {x:Str}{nm:List (Str×NameKind)}(hn:env.scope.names=nm)(hk:zgO (nm.lookup x)=true):env.kindOf x=some .local\/env.kindOf x=some .cell:=by
 rw[show env.kindOf x=env.scope.names.lookup x from rfl,hn]
 revert hk;generalize nm.lookup x=o;intro hk
 rcases o with _ | k
 ·cases hk
 ·cases k <;> first|exact .inl rfl|exact .inr rfl|cases hk
theorem ziG {x:Str}{nm:List (Str×NameKind)}(hn:env.scope.names=nm)(hk:zgO (nm.lookup x)=true):env.kindOf x=some .local\/(env.kindOf x=some .cell/\zvT .fn env x):=by
 rcases zkM hn hk with h|h
 ·exact .inl h
 ·exact .inr ⟨h,trivial⟩
theorem AA.name {x:Str}{pos:Pos}{p:PV}{nm:List (Str×NameKind)}{Q:Ls->zaA->Prop}(hn:env.scope.names=nm)(hk:zgO (nm.lookup x)=true)(h:Q ((x,p)::ls) H):AA T ⟨.fn,env,ls⟩ Fs H (.Name x pos) p Q E:=
 λ A s v ok R hp=>wpAny_assign_Name (zgH R (ziG hn hk) hp λ s' R' tk=>⟨_,H,R',tk,h⟩)
theorem AS.assign1 {t value:Expr}{pos:Pos}{Q:AFl->Ls->zaA->Prop}(hs:swapsWithSole [t] value pos.line env=pure false)(hw:swappedStores [t] value env=pure none)(he:assignEach [t] env=[(false,assign t env)])
  (h:AE T ⟨.fn,env,ls⟩ Fs H value (λ p H1'=>AA T ⟨.fn,env,ls⟩ Fs H1' t p (λ ls' H2'=>Q .next ls' H2') E) E):AS T env Fs ls H (.Assign [t] value pos) Q E:=λ A s ok R=>by
 show wpAny T.C.M A (do
  standAt pos
  if <- swapsWithSole [t] value pos.line env then do
   evalThenUse value env λ v=>assignAll v ((assignEach [t] env).map (·.2))
   pure .next
  else do
   let v <- eval value env
   assignStores env v (<- swappedStores [t] value env) ((assignEach [t] env).map (·.2))) _ _ _
 rw[hs,hw,he];refine wpAny_bind (wpAny_standAt (wpAny_bind (wpAny_pure ?_)));simp only[Bool.false_eq_true,if_false];refine wpAny_bind (wpAny_mono (h A s ok R) (λ v s1 hh=>hh.elim λ p H1' pr R1 k1 h1'=>?_) λ _ _ x=>x);refine wpAny_bind (wpAny_pure ?_);unfold assignStores;refine wpAny_bind ?_
 show wpAny _ _ (assign t env v) _ _ _
 exact wpAny_mono (h1' A s1 v ok R1 pr) (λ _ s2 hh=>hh.elim λ ls' H2' R2 k2 h2=>wpAny_pure ⟨.next,ls',H2',trivial,R2,k1.trans k2,h2⟩) λ _ _ x=>x
theorem AS.ite {test:Expr}{body orelse:List Stmt}{pos:Pos}{Q:AFl->Ls->zaA->Prop}(h:AT T ⟨.fn,env,ls⟩ Fs H test (λ b H1'=>if b then AX T env Fs ls H1' body Q E else AX T env Fs ls H1' orelse Q E) E):AS T env Fs ls H (.If test body orelse pos) Q E:=λ A s ok R=>
 wpAny_If (wpAny_mono (h A s ok R) (λ b s1 hh=>hh.elim λ H1' R1 k1 h1'=>by
  have tail:∀ {ss:List Stmt},AX T env Fs ls H1' ss Q E->wpAny T.C.M A (execs ss env) (zqV T env Fs s Q) E s1:=λ h=>wpAny_mono (h A s1 ok R1) (λ v s2 hh=>hh.elim λ a ls2 H2' pr R2 k2 h2=>⟨a,ls2,H2',pr,R2,k1.trans k2,h2⟩) λ _ _ x=>x;cases b with
  | true=>exact tail h1'
  | false=>exact tail h1') λ _ _ x=>x)
theorem AS.ret {e:Expr}{pos:Pos}{Q:AFl->Ls->zaA->Prop}(h:AE T ⟨.fn,env,ls⟩ Fs H e (λ p H1'=>Q (.ret p) ls H1') E):AS T env Fs ls H (.Return (some e) pos) Q E:=λ A s ok R=>
 wpAny_Return_some (wpAny_mono (h A s ok R) (λ v s1 hh=>hh.elim λ p H1' pr R1 k1 h1'=>⟨.ret p,ls,H1',pr,R1,k1,h1'⟩) λ _ _ x=>x)
theorem AS.brk {pos:Pos}{Q:AFl->Ls->zaA->Prop}(h:Q .brk ls H):AS T env Fs ls H (.Break pos) Q E:=λ A s ok R=>wpAny_Break ⟨.brk,ls,H,trivial,R,zaB.refl _,h⟩
theorem AS.cont {pos:Pos}{Q:AFl->Ls->zaA->Prop}(h:Q .cont ls H):AS T env Fs ls H (.Continue pos) Q E:=λ A s ok R=>wpAny_Continue ⟨.cont,ls,H,trivial,R,zaB.refl _,h⟩
theorem AS.aug {x:Str}{p' pos:Pos}{op:Operator}{value:Expr}{old:PV}{nm:List (Str×NameKind)}{Q:AFl->Ls->zaA->Prop}(hn:env.scope.names=nm)(hk:zgO (nm.lookup x)=true)(hl:ls.lookup x=some old)
  (h:AE T ⟨.fn,env,ls⟩ Fs H value (λ p H1'=>zhL T (.fr ⟨.fn,env,ls⟩::Fs) H1' (inplaceOp op) old p (λ r H2'=>Q .next ((x,r)::ls) H2') E) E) (hc:(x==("__classdict__" : Str))=false:=by decide):AS T env Fs ls H (.AugAssign (.Name x p') op value pos) Q E:=λ A s ok R=>by
 have hk':yaE (env.kindOf x)=true:=by
  rcases zkM hn hk with e|e <;> rw[e] <;> rfl
 refine wpAny_AugAssign_Name (wpAny_mono (zsP (f:=⟨.fn,env,ls⟩) (Q:=λ p H'=>p=old/\H'=H) R hk' hl ⟨rfl,rfl⟩ hc) (λ v s0 hh=>hh.elim λ p0 H0 pr0 R0 k0 h₀=>?_) λ _ _ x=>x);obtain⟨rfl,rfl⟩:=h₀;refine wpAny_mono (h A s0 ok R0) (λ w s1 hh=>hh.elim λ p H1' pr R1 k1 h1'=>?_) λ _ _ x=>x;refine wpAny_mono (h1' A s1 v w ok R1 (pr0.keep k1) pr) (λ u s2 hh=>hh.elim λ r H2' pr2 R2 k2 h2=>?_) λ _ _ x=>x;exact zgH R2 (ziG hn hk) pr2 λ s' R' tk=>⟨.next,_,H2',trivial,R',k0.trans (k1.trans (k2.trans tk)),h2⟩
theorem zaH {h:Heap}{o:Obj}:∀ b ob,h.get? b=some ob->(h.push o).get? b=some ob:=λ b ob e=>Heap.get?_push_of_some _ e
theorem AE.tuple {es:List Expr}{k:Nat}{pos:Pos}{Q:PV->zaA->Prop}(h:AL T f Fs H es (λ ps H1'=>ps.length<=1000/\Q (.tup ps) H1') E):AE T f Fs H (.Tuple es k pos) Q E:=λ A s ok R=>by
 refine wpAny_Tuple (wpAny_mono (h A s pos ok R) (λ vs s1 hh=>hh.elim λ ps H1' prs R1 k1 hq=>?_) λ _ _ x=>x);have hz:=hq.1;have h1':=hq.2;refine⟨by rw[<- prs.length];exact Nat.le_trans hz (by decide),.tup ps,H1',?_,R1.ext zaH,k1.trans (zaB.of_keep zaH),h1'⟩;exact⟨_,_,_,_,rfl,Heap.get?_push_size _ rfl,rfl,rfl,rfl,PRs.keep (zaB.of_keep zaH) _ prs⟩
theorem zoQ {C:Cx}{h:Heap}{ps:List PV}{vs:List Value}(prs:PRs h ps vs):zcZ C (h.push { cls:=.type "list",data:=.seq vs.toArray }) h.objs.size (.list ps):=
 ⟨_,_,Heap.get?_push_size _ rfl,PRs.keep (zaB.of_keep zaH) _ prs⟩
theorem AE.list {es:List Expr}{pos:Pos}{Q:PV->zaA->Prop}(h:AL T f Fs H es (λ ps H1'=>ps.length<=1000/\∀ a,H1' a=Option.none->Q (.ref a) (upd H1' a (.list ps))) E):AE T f Fs H (.List es pos) Q E:=λ A s ok R=>by
 refine wpAny_List (wpAny_mono (h A s pos ok R) (λ vs s1 hh=>hh.elim λ ps H1' prs R1 k1 hq=>?_) λ _ _ x=>x);have hz:=hq.1;have h1':=hq.2;exact⟨by rw[<- prs.length];exact Nat.le_trans hz (by decide),_,_,PR.ref,R1.new zaH (Nat.le_refl _) (zoQ prs),k1.trans (zaB.of_keep zaH),h1' _ R1.fresh⟩
end
structure zsF (K:Frag)(c:Addr):Prop where
 ga:findIn K (.ref c) "__getattribute__" = some (some (.builtin "object.__getattribute__"))
 gattr:findIn K (.ref c) "__getattr__" = some none
 sa:findIn K (.ref c) "__setattr__" = some (some (.builtin "object.__setattr__"))
 cd:(clsIn K c).any (·.hasDict)=true
 plain:plainOver K c=true
noncomputable def yiI (T:Tr)(Fs:List AF)(H:zaA)(name:Str)(p:PV)(Q:PV->zaA->Prop)(E:Value->Shared->Prop):Prop:=
 ∀ A s v,AOk T Fs A->Rep T.C Fs H s->PR s.heap p v->wpAny T.C.M A (getAttr v name true) (ziO T Fs s Q) E s
noncomputable def zfY (T:Tr)(Fs:List AF)(H:zaA)(name:Str)(p:PV)(g:PV):Prop:=
 ∀ A s v pl (Q:Value×List Value->Shared->Prop) E,AOk T Fs A->Rep T.C Fs H s->PR s.heap p v->(∀ u,PR s.heap g u->Q (u,[v]) s)->wpAny T.C.M A (getMethod v name pl) Q E s
noncomputable def zkO (T:Tr)(Fs:List AF)(H:zaA)(value slice:Expr)(p q:PV)(Q:PV->zaA->Prop)(E:Value->Shared->Prop):Prop:=
 ∀ A s v w,AOk T Fs A->Rep T.C Fs H s->PR s.heap p v->PR s.heap q w->wpAny T.C.M A (subscriptTail value slice v w) (ziO T Fs s Q) E s
noncomputable def zhW (T:Tr)(Fs:List AF)(H:zaA)(p i q:PV)(Q:zaA->Prop)(E:Value->Shared->Prop):Prop:=
 ∀ A s v w u,AOk T Fs A->Rep T.C Fs H s->PR s.heap p v->PR s.heap i w->PR s.heap q u->wpAny T.C.M A (setItem v w u) (λ _ s'=>zvL T Fs s Q s') E s
noncomputable def zjM (T:Tr)(Fs:List AF)(H:zaA)(name:Str)(p q:PV)(Q:zaA->Prop)(E:Value->Shared->Prop):Prop:=
 ∀ A s v u,AOk T Fs A->Rep T.C Fs H s->PR s.heap p v->PR s.heap q u->wpAny T.C.M A (setAttr v name u) (λ _ s'=>zvL T Fs s Q s') E s
section
variable {T:Tr}{f:FR}{env:Env}{ls:Ls}{Fs:List AF}{H:zaA}{E:Value->Shared->Prop}{s:Shared}{A:Around}
theorem Rep.kin {C:Cx}(R:Rep C Fs H s):C.K.In s.heap:=R.ok.kin.keeps R.keep
theorem zyM {h:Heap}{a:Addr}{m:Str->Option Value}(n:h.Ns1 a m)(name:Str):∃ o,h.get? a=some o/\lookIn name o=some (m name):=by
 refine q31 n λ o es ep u8=>q05 u8 λ ho hd hk _ hm=>?_;refine⟨o,ho,?_⟩;unfold lookIn;rw[hd];dsimp only;have:=hm name;unfold nsFind findBy at this;rw[<- Array.find?_toList]at this;cases e:es.toList.find? (·.key.isStr name) with
 | some en=>rw[e]at this;simp at this;simp[this]
 | none=>
  rw[e]at this;simp at this;have hr:es.toList.any (·.refKey)=false:=by
   rw[List.any_eq_false];intro x hx;refine q21 (hk x (by simpa using hx)) λ n t q=>?_
   simp[DictEntry.refKey,q]
  simp[hr,this]
theorem znR {C:Cx}{x c d:Addr}{l:Ls}(R:Rep C Fs H s)(hx:H x=some (.inst c d))(hd:H d=some (.attrs l))(name:Str):
  ∃ ox od,InstAt s.heap x ox c (some od)/\ox.dict=some d/\s.heap.get? d=some od/\(∀ p,l.lookup name=some p->∃ v,lookIn name od=some (some v)/\PR s.heap p v)/\(l.lookup name=none->lookIn name od=some none):=by
 obtain⟨⟨ox,hox,hc,hdict,hdata,_⟩,_⟩:=R.objs x _ hx;obtain⟨⟨m,n,h1,h2⟩,_⟩:=R.objs d _ hd;refine q12 (zyM n name) λ od hod hl=>?_;refine⟨ox,od,⟨hox,hc,by unfold notCls;rw[hdata],by rw[hdict];exact hod⟩,hdict,hod,λ p e=>?_,λ e=>?_⟩
 ·refine q12 (h2 name p e) λ v e1 pr=>?_
  exact⟨v,by rw[hl,e1],pr⟩
 ·rw[hl,h1 name e]
theorem zrE {K:Frag}{c:Addr}{od:Obj}{name:Str}{v:Value}(hc:(clsIn K c).any (·.hasDict)=true)(hn:findIn K (.ref c) name=some none)(hl:lookIn name od=some (some v)):findObj K c (some od) name=some (.value v):=by
 refine q12 (any_some hc) λ cd h1 h2=>?_
 delta findObj
 rw[h1,Option.bind_some,hn,Option.bind_some];dsimp only;have e:W.ownOf cd (some od) name=some (some v):=by simp[W.ownOf,h2,hl]
 refine Eq.trans (b:=(W.ownOf cd (some od) name).bind _) rfl ?_;rw[e];rfl
noncomputable def PV.handed:PV->Bool
 | .bi _=>false
 | _=>true
theorem PR.handed {h:Heap}{p:PV}{v:Value}(x:PR h p v)(hp:p.handed=true):handedIn v=true:=by
 cases p with
 | none=>rw[x.none_inv];rfl
 | bool=>rw[x.bool_inv];rfl
 | int=>obtain⟨t,rfl⟩:=x.int_inv;rfl
 | str=>obtain⟨t,rfl⟩:=x.str_inv;rfl
 | tup=>refine q42 x.tup_inv ?_;intro a o vs n u0;subst u0;intro _;rfl
 | ref=>rw[x.ref_inv];rfl
 | ty=>rw[x.ty_inv];rfl
 | bi=>cases hp
theorem yiI.inst {x c d:Addr}{l:Ls}{name:Str}{p:PV}{Q:PV->zaA->Prop}(hc:zsF T.C.K c)(hn:findIn T.C.K (.ref c) name=some none)(hx:H x=some (.inst c d))(hd:H d=some (.attrs l))(hl:l.lookup name=some p)(hp:p.handed=true)(h:Q p H):
  yiI T Fs H name (.ref x) Q E:=λ A s v ok R pv=>by
 rw[pv.ref_inv];refine q21 (znR R hx hd name) λ ox od u8=>q05 u8 λ I _ _ h1 _=>?_;refine q12 (h1 p hl) λ u e pr=>?_;exact get_value R.kin I hc.ga (zrE hc.cd hn e) (pr.handed hp) (zaJ R pr h)
theorem zfY.own {x c d g:Addr}{l:Ls}{name:Str}(hc:zsF T.C.K c)(hf:findIn T.C.K (.ref c) name=some (some (.ref g)))(ht:typeIn T.C.K (.ref g)=some (.type "function"))(hx:H x=some (.inst c d))(hd:H d=some (.attrs l))(hl:l.lookup name=none):
  zfY T Fs H name (.ref x) (.ref g):=λ A s v pl Q E ok R pv h=>by
 rw[pv.ref_inv]at h ⊢;refine q21 (znR R hx hd name) λ ox od u8=>q05 u8 λ I _ _ _ h2=>?_;exact method_fn R.kin I hc.ga hc.gattr hf ht (by unfold shadowIn;dsimp only;rw[h2 hl];rfl) (h _ PR.ref)
theorem AE.attr {value:Expr}{attr:Str}{pos:Pos}{Q:PV->zaA->Prop}(hb:attributeBase value attr f.env (eval value f.env)=eval value f.env)(h:AE T f Fs H value (λ p H1'=>yiI T (.fr f::Fs) H1' attr p Q E) E):AE T f Fs H (.Attribute value attr pos) Q E:=λ A s ok R=>by
 rw[arm_eval_Attribute,hb];refine wpAny_bind (wpAny_mono (h A s ok R) (λ v s1 hh=>hh.elim λ p H1' pr R1 k1 h1'=>wpAny_bind (wpAny_standAt (wpAny_bind (wpAny_holding (wpAny_mono (h1' A s1 v ok R1 pr) (λ u s2 hh=>hh.elim λ q H2' qr R2 k2 h2=>?_) λ _ _ x=>x))))) λ _ _ x=>x);exact wpAny_bind (wpAny_letTemporaryGo (wpAny_pure ⟨q,H2',qr,R2,k1.trans k2,h2⟩))
theorem AE.sub {value slice:Expr}{pos:Pos}{Q:PV->zaA->Prop}(h:AE T f Fs H value (λ p H1'=>AE T f Fs H1' slice (λ q H2'=>zkO T (.fr f::Fs) H2' value slice p q Q E) E) E):AE T f Fs H (.Subscript value slice pos) Q E:=λ A s ok R=>
 Subscript_ (wpAny_mono (h A s ok R) (λ v s1 hh=>hh.elim λ p H1' pr R1 k1 h1'=>wpAny_mono (h1' A s1 ok R1) (λ w s2 hh=>hh.elim λ q H2' qr R2 k2 h2=>
  wpAny_mono (h2 A s2 v w ok R2 (pr.keep k2) qr) (λ u s3 hh=>hh.elim λ p' H' pr' R' k' hq=>⟨p',H',pr',R',k1.trans (k2.trans k'),hq⟩) λ _ _ x=>x) λ _ _ x=>x) λ _ _ x=>x)
theorem zjD {C:Cx}{h:Heap}{a:Addr}{l:List PV}(S:zcZ C h a (.list l)):∃ vs,h.IsList a vs/\PRs h l vs.toList:=by
 refine q22 S λ vs n il r=>?_;exact⟨vs,il.isList,r⟩
theorem zuV {h:Heap}{l:List PV}{vs:Array Value}(r:PRs h l vs.toList){i:Nat}{p:PV}(e:l[i]?=some p):∃ v,vs[i]?=some v/\PR h p v:=by
 refine q12 (r.get i e) λ v e' pr=>?_;exact⟨v,by rw[<- Array.getElem?_toList];exact e',pr⟩
theorem zkO.list {value slice:Expr}{a:Addr}{l:List PV}{k:Int}{p:PV}{Q:PV->zaA->Prop}(hH:H a=some (.list l))(h0:0<=k)(hk:k<2 ^ 63)(hx:l[k.toNat]?=some p)(h:Q p H)
  (hs:∀ u,subscripted slice false (.ref a) (.int k u)=operate [.ref a,.int k u] (getItem (.ref a) (.int k u)):=by intro _;rfl):zkO T Fs H value slice (.ref a) (.int k) Q E:=λ A s v w ok R pv pw=>by
 rw[pv.ref_inv];obtain⟨t,rfl⟩:=pw.int_inv;refine q12 (zjD (R.objs a _ hH).1) λ vs il r=>?_;refine q12 (zuV r hx) λ u e pr=>?_;exact tail_any il.typeIs slot_list_getitem.lookup (wpAny_getItem_list il h0 hk e (zaJ R pr h)) (hs t)
theorem zkO.tup {value slice:Expr}{l:List PV}{k:Int}{p:PV}{Q:PV->zaA->Prop}(h0:0<=k)(hk:k<2 ^ 63)(hx:l[k.toNat]?=some p)(h:Q p H)
  (hs:∀ a u,subscripted slice false (.ref a) (.int k u)=operate [.ref a,.int k u] (getItem (.ref a) (.int k u)):=by intro _ _;rfl):zkO T Fs H value slice (.tup l) (.int k) Q E:=λ A s v w ok R pv pw=>by
 refine q46 pv.tup_inv ?_;intro a o vs n u0;subst u0;intro ho hc hd hsq r;obtain⟨t,rfl⟩:=pw.int_inv;refine q12 (zuV r hx) λ u e pr=>?_;have it:IsTup s.heap a vs:=⟨o,ho,hc,n,hsq⟩
 refine tail_any it.typeIs slot_tuple_getitem.lookup (getItem_tuple (j:=k.toNat) it (Int.le_trans (by decide) h0) hk ?_ e (zaJ R pr h)) (hs a t);have hlt:k.toNat<vs.size:=by
  have:=(List.getElem?_eq_some_iff.mp hx).1;have hl:=r.length
  simp at hl;exact lq32 hl this
 have h1:¬ k<0:=by exact lqb h0
 have h2:k<vs.size:=by lia
 simp[seqIndex?,h1,h0,h2]
end
section
variable {T:Tr}{f:FR}{env:Env}{ls:Ls}{Fs:List AF}{H:zaA}{E:Value->Shared->Prop}{s:Shared}{A:Around}
theorem AOk.cl (ok:AOk T Fs A):A.units+100<=cLine:=by have:=ok.units;have:cLine=9900:=rfl;lia
theorem zuU {v w:Value}{Q:Value->Shared->Prop}{M:Model}(h:wpAny M A (compareOp .In v w) (λ c s'=>∃ b,c=.bool b/\Q (.bool (!b)) s') E s):wpAny M A (compareOp .NotIn v w) Q E s:=by
 have h:wpAny M A (contains w v >>= λ b=>pure (Value.bool b)) (λ c s'=>∃ b,c=.bool b/\Q (.bool (!b)) s') E s:=h
 show wpAny M A (contains w v >>= λ b=>pure (Value.bool (!b))) Q E s
 intro Γ p hΓ;have:=h Γ p hΓ;rw[Sem.wp_bind']at this ⊢;refine Sem.wp_mono M Γ _ (λ b p' s' hb=>?_) (λ _ _ _ x=>x) _ _ this;obtain⟨b',e,q⟩:∃ b',Value.bool b=.bool b'/\Q (.bool (!b')) s':=hb;cases e;exact q
theorem zdC.notIn {p q:PV}{Q:Bool->zaA->Prop}(h:zdC T Fs H .In p q (λ b H1'=>Q (!b) H1') E):zdC T Fs H .NotIn p q Q E:=λ A s v w ok R pv pw=>
 zuU (wpAny_mono (h A s v w ok R pv pw) (λ c s' ⟨b,e,⟨H1',R1,k1,q1⟩⟩=>⟨b,e,_,rfl,⟨H1',R1,k1,q1⟩⟩) λ _ _ x=>x)
end
noncomputable def NoE:Value->Shared->Prop:=λ _ _=>False
theorem zeI {α:Type}{l:List α}{n:Nat}(h:l.length=n+1):∃ a r,l=a::r/\r.length=n:=by
 cases l with
 | nil=>cases h
 | cons a r=>exact⟨a,r,rfl,Nat.succ.inj h⟩
theorem zgV {fd:FuncData}{x:Str}(h:∀ a,bindArgs fd ⟨[a],[]⟩=pure [(x,a)])(vs:List Value)(hl:vs.length=[x].length):bindArgs fd ⟨vs,[]⟩=pure ([x].zip vs):=by
 refine q22 (zeI hl) λ a r1 e1 h1=>?_;subst e1;cases List.eq_nil_of_length_eq_zero h1;exact h a
theorem zqW {fd:FuncData}{x y:Str}(h:∀ a b,bindArgs fd ⟨[a,b],[]⟩=pure [(x,a),(y,b)])(vs:List Value)(hl:vs.length=[x,y].length):bindArgs fd ⟨vs,[]⟩=pure ([x,y].zip vs):=by
 refine q22 (zeI hl) λ a r1 e1 h1=>?_;subst e1;refine q22 (zeI h1) λ b r2 e2 h2=>?_;subst e2;cases List.eq_nil_of_length_eq_zero h2;exact h a b
theorem zmN {fd:FuncData}{x y z:Str}(h:∀ a b c,bindArgs fd ⟨[a,b,c],[]⟩=pure [(x,a),(y,b),(z,c)])(vs:List Value)(hl:vs.length=[x,y,z].length):bindArgs fd ⟨vs,[]⟩=pure ([x,y,z].zip vs):=by
 refine q22 (zeI hl) λ a r1 e1 h1=>?_;subst e1;refine q22 (zeI h1) λ b r2 e2 h2=>?_;subst e2;refine q22 (zeI h2) λ c r3 e3 h3=>?_;subst e3;cases List.eq_nil_of_length_eq_zero h3;exact h a b c
theorem zgT {fd:FuncData}{x y z u:Str}(h:∀ a b c d,bindArgs fd ⟨[a,b,c,d],[]⟩=pure [(x,a),(y,b),(z,c),(u,d)])(vs:List Value)(hl:vs.length=[x,y,z,u].length):bindArgs fd ⟨vs,[]⟩=pure ([x,y,z,u].zip vs):=by
 refine q22 (zeI hl) λ a r1 e1 h1=>?_;subst e1;refine q22 (zeI h1) λ b r2 e2 h2=>?_;subst e2;refine q22 (zeI h2) λ c r3 e3 h3=>?_;subst e3;refine q22 (zeI h3) λ d r4 e4 h4=>?_;subst e4;cases List.eq_nil_of_length_eq_zero h4;exact h a b c d
theorem zdR {α:Type}{x:Str}{p:α}{l:List (Str×α)}:((x,p)::l).lookup x=some p:=by rw[List.lookup_cons,beq_self_eq_true]
theorem zbB {α:Type}{x y:Str}{p q:α}{l:List (Str×α)}(h:(x==y)=false)(e:l.lookup x=some p):((y,q)::l).lookup x=some p:=by rw[List.lookup_cons,h];exact e
theorem zjE {α:Type}{l:List (Str×α)}{n:Str}{c:α}(hn:(l.map (·.1)).Nodup)(hm:(n,c)∈l):l.lookup n=some c:=by
 induction l with
 | nil=>cases hm
 | cons a r ih=>
  obtain⟨h1,h2⟩:=List.nodup_cons.mp hn;refine (List.mem_cons.mp hm).elim (λ e=>?_) λ hm=>?_
  ·subst e;exact zdR
  ·exact zbB (beq_eq_false_iff_ne.mpr λ e=>h1 (List.mem_map.mpr ⟨(n,c),hm,e⟩)) (ih h2 hm)
theorem zhY {x:Str}{k:NameKind}{r:List (Str×NameKind)}{n:Nat}{acc:List (Str×Addr)}:cellsFrom n ((x,k)::r) acc=if (k==.cell)=true then cellsFrom (n+1) r ((x,n)::acc) else cellsFrom n r acc:=rfl
theorem znH (names:List (Str×NameKind)):∀ (n:Nat) (acc:List (Str×Addr)),(acc.map (·.1)++names.map (·.1)).Nodup->((cellsFrom n names acc).map (·.1)).Nodup:=by
 induction names with
 | nil=>exact λ n acc h=>(List.append_nil (acc.map (·.1)))▸h
 | cons a r ih=>
  obtain⟨x,k⟩:=a;intro n acc h;rw[zhY];split
  ·exact ih (n+1) _ (List.perm_middle.nodup_iff.mp h)
  ·exact ih n acc (h.sublist (List.Sublist.append (List.Sublist.refl _) (List.sublist_cons_self _ _)))
theorem zoR {x:Str}(names:List (Str×NameKind)):∀ (n:Nat) (acc:List (Str×Addr)),(acc.lookup x).isSome=true->((cellsFrom n names acc).lookup x).isSome=true:=by
 induction names with
 | nil=>exact λ _ _ h=>h
 | cons a r ih=>
  obtain⟨y,k⟩:=a;intro n acc h;rw[zhY];split
  ·refine ih (n+1) _ ?_
   rw[List.lookup_cons];cases x==y
   ·exact h
   ·rfl
  ·exact ih n acc h
theorem zeS {x:Str}(names:List (Str×NameKind)):∀ (n:Nat) (acc:List (Str×Addr)),names.lookup x=some .cell->((cellsFrom n names acc).lookup x).isSome=true:=by
 induction names with
 | nil=>exact λ _ _ h=>nomatch h
 | cons a r ih=>
  obtain⟨y,k⟩:=a;intro n acc h;rw[List.lookup_cons]at h;rw[zhY];cases e:x==y with
  | true=>
   rw[e]at h;cases h;exact zoR r _ _ (by rw[List.lookup_cons,e];rfl)
  | false=>
   rw[e]at h;split
   ·exact ih _ _ h
   ·exact ih _ _ h
theorem zwS {B:List (Str×Value)->(Str->Option Value)->Str->Option Value}{P:Str->Prop}[DecidablePred P](h0:∀ m,B [] m=m)(h1:∀ n v r m,B ((n,v)::r) m=B r (if P n then λ y=>if y=n then some v else m y else m)){x:Str}(hk:P x)(binds:List (Str×Value)):∀ (m:Str->Option Value),(binds.map (·.1)).Nodup->B binds m x=match binds.lookup x with|some v=>some v|none=>m x:=by
 induction binds with
 | nil=>exact λ m _=>congrFun (h0 m) x
 | cons a r ih=>
  obtain⟨n,v⟩:=a;intro m hn;obtain⟨q1,q2⟩:=List.nodup_cons.mp hn;rw[h1,ih _ q2,List.lookup_cons]
  by_cases e:x=n
  ·subst e
   have:r.lookup x=none:=by
    cases q:r.lookup x with
    | none=>rfl
    | some v=>exact absurd (List.mem_map.mpr ⟨_,mem_of_lookup q,rfl⟩) q1
   rw[this,beq_self_eq_true,if_pos hk];exact if_pos rfl
  ·rw[beq_eq_false_iff_ne.mpr e]
   cases r.lookup x with
   | some v=>rfl
   | none=>
    dsimp only;split
    ·exact if_neg e
    ·rfl
theorem ybC {kindOf:Str->Option NameKind}{x:Str}(hk:kindOf x=some .local)(binds:List (Str×Value))(m:Str->Option Value)(hn:(binds.map (·.1)).Nodup):bindL kindOf binds m x=match binds.lookup x with|some v=>some v|none=>m x:=
 zwS (P:=λ n=>kindOf n=some .local) (λ _=>rfl) (λ _ _ _ _=>rfl) hk binds m hn
theorem ycP {kindOf:Str->Option NameKind}{x:Str}(hk:kindOf x≠some .local)(binds:List (Str×Value))(m:Str->Option Value)(hn:(binds.map (·.1)).Nodup):bindC kindOf binds m x=match binds.lookup x with|some v=>some v|none=>m x:=
 zwS (P:=λ n=>kindOf n≠some .local) (λ _=>rfl) (λ _ _ r _=>congrArg (bindC kindOf r) (ite_not ..).symm) hk binds m hn
theorem zpU {h:Heap}{nms:List Str}:∀ {ps:List PV} {vs:List Value} {x:Str} {p:PV},PRs h ps vs->(nms.zip ps).lookup x=some p->∃ v,(nms.zip vs).lookup x=some v/\PR h p v:=by
 induction nms with
 | nil=>exact λ _ e=>nomatch e
 | cons n nms ih=>
  intro ps vs x p r e;cases ps with
  | nil=>cases e
  | cons q ps=>
   refine q23 r.cons_inv ?_;intro v rr u0;subst u0;intro pr r;rw[List.zip_cons_cons,List.lookup_cons]at e ⊢;cases hb:x==n with
   | true=>rw[hb]at e;cases e;exact⟨v,rfl,pr⟩
   | false=>rw[hb]at e;exact ih r e
structure zeM (K:Frag)(g:Addr)(fd:FuncData)(nms:List Str)(body:List Stmt):Prop where
 obj:∃ oc od osl,K.lookup g=some ⟨oc,od,.func fd,osl⟩
 body:fd.body=.stmts body
 clo:fd.closure=[]
 code:codeIn K fd.code fd.qualname=true
 globals:fd.globals=mainGlobals
 builtins:fd.builtins=builtinsNs
 bind:∀ vs:List Value,vs.length=nms.length->bindArgs fd ⟨vs,[]⟩=pure (nms.zip vs)
 kinds:nms.all (λ x=>zgO (fd.scope.names.lookup x))=true
 nodup:nms.Nodup
 names:(fd.scope.names.map (·.1)).Nodup
 nofree:fd.scope.names.all (λ x=>x.2 != .free)=true
 coro:fd.scope.isCoroutine=false
 gen:fd.scope.isGenerator=false
 kind:fd.scope.kind=.function
section
variable {T:Tr}{f:FR}{env:Env}{ls:Ls}{Fs:List AF}{H:zaA}{E:Value->Shared->Prop}{s:Shared}{A:Around}
noncomputable def Tr.down (T:Tr):Tr:={ T with n:=T.n-1,code:=none }
theorem zwR {d a c n k m:Nat}(h1:1<=n)(h:d+c*n+k<=m)(e:a<=c):d+a+c*(n-1)+k<=m:=by
 cases n with
 | zero=>cases h1
 | succ n=>
  refine Nat.le_trans (Nat.add_le_add_right ?_ k) h;rw[Nat.mul_succ,Nat.add_assoc,Nat.add_comm a];exact Nat.add_le_add_left (Nat.add_le_add_left e _) d
theorem AOk.deeper {env:Env}{ls:Ls}(ok:AOk T Fs A)(hn:1<=T.n):AOk T.down (.fr ⟨.fn,env,ls⟩::Fs) (A.deeper env):=by
 refine⟨?_,?_,?_,λ h=>ok.handled h,ok.ctx,λ f hf=>List.mem_of_mem_tail (ok.look.1 f hf),λ f r c e hc q=>nomatch q⟩
 ·show A.frames.map (env::·)=_;rw[ok.frames];rfl
 ·have:=ok.depth;show A.depth+1+4*(T.n-1)+10<=1000;exact zwR hn this (by decide)
 ·have:=ok.units;show A.units+3+20*(T.n-1)+100<=9900;exact zwR hn this (by decide)
theorem zuW {fd:FuncData}{g:Addr}{nms:List Str}{body:List Stmt}{ps:List PV}{vs:List Value}{s1:Shared}(D:zeM T.C.K g fd nms body)(hlen:ps.length=nms.length)(R:Rep T.C Fs H s)(prs:PRs s.heap ps vs)
  (x:InCallC s (callEnvC fd s.heap.objs.size g).locals (bindL (callEnvC fd s.heap.objs.size g).kindOf (nms.zip vs) λ _=>none) (callEnvC fd s.heap.objs.size g).cells (bindC (callEnvC fd s.heap.objs.size g).kindOf (nms.zip vs) λ _=>none) s1):
  Rep T.C (.fr ⟨.fn,callEnvC fd s.heap.objs.size g,nms.zip ps⟩::Fs) H s1/\zaB s.heap s1.heap:=by
 obtain⟨⟨h1',tk,rfl⟩,ns,keep,fresh⟩:=x.toInCall;have hk:zaB s.heap h1':=zaB.of_keep keep;have nd:((callEnvC fd s.heap.objs.size g).cells.map (·.1)).Nodup:=znH _ _ _ (by simpa using D.names);have hvl:vs.length=nms.length:=by rw[<- prs.length];exact hlen
 have nb:((nms.zip vs).map (·.1)).Nodup:=by rw[List.map_fst_zip (by lia)];exact D.nodup
 refine⟨(R.ext (s':={ s with heap:=h1',toks:=tk }) keep).push ?_ ?_ ?_ ?_ ?_,hk⟩
 ·refine⟨D.kind,D.globals,D.builtins,⟨_,ns,λ y p e k=>?_⟩,λ y hy=>⟨_,x.cell y.1 y.2 (zjE nd hy)⟩,λ y p e k=>?_,λ y k=>?_,x.apart,λ y hy=>Nat.ne_of_gt (x.above y.1 y.2 hy),λ _=>rfl⟩
  ·refine q12 (zpU prs e) λ v e1 pr=>?_
   exact⟨v,by rw[ybC k _ _ nb,e1],pr.keep hk⟩
  ·refine q12 (zpU prs e) λ v e1 pr=>?_
   have k:(callEnvC fd s.heap.objs.size g).kindOf y=some .cell\/(callEnvC fd s.heap.objs.size g).kindOf y=some .free:=k;have kl:(callEnvC fd s.heap.objs.size g).kindOf y≠some .local:=by rcases k with k|k <;> rw[k] <;> intro q <;> cases q
   have kc:fd.scope.names.lookup y=some .cell:=by
    rcases k with k|k
    ·exact k
    ·have hm:y∈nms:=(List.of_mem_zip (mem_of_lookup e)).1
     have:=List.all_eq_true.mp D.kinds y hm;have k:fd.scope.names.lookup y=some .free:=k;rw[k]at this;cases this
   obtain⟨c,hc⟩:=Option.isSome_iff_exists.mp (zeS (x:=y) fd.scope.names (s.heap.objs.size+1) [] kc);refine⟨c,v,hc,?_,pr.keep hk⟩;have:=x.cell y c hc;rw[ycP kl _ _ nb,e1]at this;exact this
  ·rcases k with k|k
   ·exact Option.isSome_iff_exists.mp (zeS fd.scope.names _ _ k)
   ·have k:fd.scope.names.lookup y=some .free:=k
    have:=List.all_eq_true.mp D.nofree _ (mem_of_lookup k)
    simp at this
 all_goals
  have big:∀ a∈(AF.fr ⟨.fn,callEnvC fd s.heap.objs.size g,nms.zip ps⟩).reads,s.heap.objs.size<=a:=λ a ha=>by
   rcases List.mem_cons.mp ha with rfl|ha
   ·exact Nat.le_refl _
   ·refine q12 (List.mem_map.mp ha) λ y hy u0=>?_;subst u0
    exact Nat.le_of_lt (x.above y.1 y.2 hy)
 ·exact λ a ha=>(R.fresh_ge (big a ha)).2.1.1
 ·exact λ a ha=>(R.fresh_ge (big a ha)).1
 ·exact λ a ha k hk=>(R.fresh_ge (big a (AF.owns_reads ha))).2.2 k hk
 ·intro k hk a ha hb
  refine (R.fresh_ge (big a hb)).2.2 k hk ?_;cases k with
  | fr f=>cases ha
  | hid c o=>exact ha
  | gh _=>cases ha
theorem zzC {fd:FuncData}{g:Addr}{nms:List Str}{body:List Stmt}{ps:List PV}{vs:List Value}{R':Result->Shared->Prop}(D:zeM T.C.K g fd nms body)(hlen:ps.length=nms.length)(hn:1<=T.n)(ok:AOk T Fs A)(R:Rep T.C Fs H s)(prs:PRs s.heap ps vs)
  (h:∀ env s1,env.scope=fd.scope->AOk T.down (.fr ⟨.fn,env,nms.zip ps⟩::Fs) (A.deeper env)->Rep T.C (.fr ⟨.fn,env,nms.zip ps⟩::Fs) H s1->zaB s.heap s1.heap ->
   wpAny T.C.M (A.deeper env) (execs body env) (λ f s'=>R' (.ok (.ret (match f with | .ret v=>v | _=>.none))) s')
    (λ e s'=>wpAny T.C.M (A.deeper env) (leaving env e) (λ _ s''=>R' (.error e) s'') (λ e' s''=>R' (.error e') s'') s') s1):
  codeAny T.C.M A (.call (.ref g) ⟨vs,[]⟩) R' s:=by
 refine q31 D.obj λ oc od osl ho=>?_;refine codeAny_call_cells (fd:=fd) (by have:=ok.depth;show A.depth<1000;lia) (R.kin g _ ho) rfl (R.ok.top.nolimit.keeps R.keep) (codeRec_of R.kin D.code) D.body (D.bind vs (by rw[<- prs.length];exact hlen)) D.clo (λ x hx=>?_) (λ s1 x=>?_) D.coro D.gen D.kind
 ·have hm:=(List.of_mem_zip hx).1
  have:=List.all_eq_true.mp D.kinds x.1 hm
  revert this
  cases e:fd.scope.names.lookup x.1 with
  | none=>intro q;cases q
  | some k=>
   intro q;cases k <;> first|exact .inl rfl|exact .inr ⟨rfl,zeS _ _ _ e⟩|cases q
 ·obtain⟨R1,tk⟩:=zuW D hlen R prs x
  exact h _ s1 rfl (ok.deeper hn) R1 tk
noncomputable def RetQ (Q:PV->zaA->Prop)(a:AFl)(_:Ls)(H:zaA):Prop:=match a with
 | .ret p=>Q p H
 | .next=>Q .none H
 | _=>False
end
noncomputable def zdM:List Expr->Bool
 | []=>true
 | e::r=>cond (Nat.beq e.ctorIdx 22) false (zdM r)
theorem zbF {e:Expr}{es:List Expr}{env:Env}(h:zdM (e::es)=true):starEach (e::es) env=(false,eval e env)::starEach es env/\zdM es=true:=by
 cases e <;> first|exact⟨rfl,h⟩|cases h
theorem zhZ {pos:Pos}{env:Env}:∀ {es:List Expr},zdM es=true->(backTo pos (starEach es env)).any (·.1)=false
 | [],_=>rfl
 | e::es,h=>by
  obtain⟨h1,h2⟩:=zbF (env:=env) h;rw[h1]
  show (false||(backTo pos (starEach es env)).any (·.1))=false
  rw[zhZ h2];rfl
noncomputable def ybU (K:Frag)(a:Addr):Option Obj->Bool
 | some ⟨_,_,.func _,_⟩=>true
 | some ⟨_,_,.cls _,_⟩=>makesIn K a
 | _=>false
noncomputable def zhK (K:Frag):PV->Bool
 | .bi _=>true
 | .ty _=>true
 | .ref a=>ybU K a (K.lookup a)
 | _=>false
section
variable {T:Tr}{f:FR}{env:Env}{ls:Ls}{Fs:List AF}{H:zaA}{E:Value->Shared->Prop}{s:Shared}{A:Around}
theorem zfF {M:Model}{g:Value}{pos:Pos}{es:List Expr}{Q:Args->Shared->Prop}(hs:zdM es=true)(h:wpAny M A (spliced (backTo pos (starEach es env))) (λ vs s'=>Q ⟨vs,[]⟩ s') E s):
  wpAny M A (evalArgs g true (backTo pos (starEach es env)) []) Q E s:=by
 cases es with
 | nil=>
  unfold evalArgs
  show wpAny M A (spliced [] >>= _) Q E s
  refine wpAny_bind (wpAny_mono h (λ vs s' h'=>?_) λ _ _ x=>x);refine wpAny_holding ?_;exact wpAny_bind (wpAny_pure (wpAny_bind (wpAny_pure (wpAny_pure h'))))
 | cons e es=>
  obtain⟨h1,h2⟩:=zbF (env:=env) hs;rw[h1]at h ⊢;exact evalArgs_plain h
theorem znU {g:PV}{v:Value}{first:List Value}{pos:Pos}{es:List Expr}{Q:Value->Shared->Prop}(hs:zdM es=true)(R:Rep T.C Fs H s)(hg:zhK T.C.K g=true)(pv:PR s.heap g v)
  (h:wpAny T.C.M A (spliced (backTo pos (starEach es env))) (λ vs s1=>(∃ H1',Rep T.C Fs H1' s1)/\wpAny T.C.M A (call v (first++vs)) Q E s1) E s):
  wpAny T.C.M A (callWith pos v first (backTo pos (starEach es env)) []) Q E s:=by
 have tail:∀ {t:Sem Value} {s1:Shared},wpAny T.C.M A t Q E s1->wpAny T.C.M A (t >>= λ r=>holding [r] point >>= λ _=>pure r) Q E s1:=
  λ ht=>wpAny_bind (wpAny_mono ht (λ r s2 hr=>wpAny_bind (wpAny_holding (wpAny_point (wpAny_pure hr)))) λ _ _ x=>x)
 cases g with
 | bi i=>
  rw[pv.bi_inv]at h ⊢;exact callWith_builtin (zhZ hs) (zfF hs (wpAny_mono h (λ vs s1 h1'=>h1'.2) λ _ _ x=>x))
 | ty n=>
  rw[pv.ty_inv]at h ⊢;exact PySem.callWith_type (zhZ hs) (zfF hs (wpAny_mono h (λ vs s1 h1'=>h1'.2) λ _ _ x=>x))
 | ref a=>
  rw[pv.ref_inv]at h ⊢;have hg:ybU T.C.K a (T.C.K.lookup a)=true:=hg;cases ho:T.C.K.lookup a with
  | none=>rw[ho]at hg;cases hg
  | some o=>
  rw[ho]at hg;obtain⟨c,d,data,ex⟩:=o;cases data with
  | func fd=>
   refine callWith_function (zfF hs (wpAny_mono h (λ vs s1 ⟨⟨H1',R1⟩,h1'⟩=>⟨⟨R1.kin a _ ho,rfl⟩,h1'⟩) λ _ _ x=>x))
  | cls cd=>
   delta callWith
   refine wpAny_bind (wpAny_holding (zfF hs (wpAny_mono h (λ vs s1 ⟨⟨H1',R1⟩,h1'⟩=>wpAny_bind (wpAny_standAt ?_)) λ _ _ x=>x)));rw[zhZ hs];refine wpAny_bind (m:=keeperOf (.ref a)) ?_;unfold keeperOf;refine wpAny_bind (wpAny_load (R1.kin a _ ho) ?_);refine wpAny_bind ((makes_of (M:=T.C.M) R1.kin hg).call.here (wpAny_pure ?_));rw[if_pos (by simp)];exact tail h1'
  | _=>cases hg
 | _=>cases hg
theorem AE.call {func:Expr}{args:List Expr}{pos:Pos}{Q:PV->zaA->Prop}(hf:∀ env,eval (.Call func args [] pos) env=(do callWith pos (<- eval func env) [] (backTo pos (starEach args env)) (backToKw pos (keywordEach [] env))))(hs:zdM args=true)
  (h:AE T f Fs H func (λ g H1'=>zhK T.C.K g=true/\AL T f Fs H1' args (λ ps H2'=>zbH T (.fr f::Fs) H2' g ps Q E) E) E):AE T f Fs H (.Call func args [] pos) Q E:=λ A s ok R=>by
 rw[hf];refine wpAny_bind (wpAny_mono (h A s ok R) (λ v s1 hh=>hh.elim λ g H1' pr R1 k1 hq=>?_) λ _ _ x=>x);have hg:=hq.1;have h1':=hq.2;refine znU hs R1 hg pr (wpAny_mono (h1' A s1 pos ok R1) (λ vs s2 ⟨ps,H2',prs,R2,k2,h2⟩=>⟨⟨_,R2⟩,?_⟩) λ _ _ x=>x);exact wpAny_mono (h2 A s2 v vs ok R2 (pr.keep k2) prs) (λ u s3 ⟨p',H',pr',R',k',hq⟩=>⟨p',H',pr',R',k1.trans (k2.trans k'),hq⟩) λ _ _ x=>x
theorem ycE (o:Expr)(name:Str)(apos pos:Pos)(args:List Expr)(env:Env):eval (.Call (.Attribute o name apos) args [] pos) env=(do
  let ov <- attributeBase o name env (eval o env)
  standAt apos.atName
  methodCall o name apos pos env ov (args.length+0) (backTo pos (starEach args env)) (backToKw pos (keywordEach [] env))):=rfl
theorem zzF {pos:Pos}{env:Env}{es:List Expr}(h:zdM es=true):(backTo pos (starEach es env)).all (!·.1)=true:=by
 induction es with
 | nil=>rfl
 | cons e es ih=>
  obtain⟨h1,h2⟩:=zbF (env:=env) h;rw[h1];exact ih h2
theorem AE.meth {o:Expr}{name:Str}{apos pos:Pos}{args:List Expr}{Q:PV->zaA->Prop}(hb:attributeBase o name f.env (eval o f.env)=eval o f.env)(hs:zdM args=true)(hl:args.length<30)(hp:(apos.endLine==pos.line)=true)
  (h:AE T f Fs H o (λ p H1'=>∃ g,zhK T.C.K g=true/\zfY T (.fr f::Fs) H1' name p g/\AL T f Fs H1' args (λ ps H2'=>zbH T (.fr f::Fs) H2' g (p::ps) Q E) E) E):AE T f Fs H (.Call (.Attribute o name apos) args [] pos) Q E:=λ A s ok R=>by
 rw[ycE,hb];refine wpAny_bind (wpAny_mono (h A s ok R) (λ v s1 hh=>hh.elim λ p H1' pr R1 k1 hq=>?_) λ _ _ x=>x);refine q13 hq λ g hg hm h1'=>?_;refine wpAny_bind (wpAny_standAt ?_);have hform:methodCallForm (args.length+0) (backTo pos (starEach args f.env)) (backToKw pos (keywordEach [] f.env))=true:=by
  unfold methodCallForm;rw[zzF hs];have e:backToKw pos (keywordEach [] f.env)=[]:=rfl;rw[e];exact decide_eq_true hl
 unfold methodCall;rw[hform];have hc:calleeOf true o f.env v name=getMethod v name (importBound o f.env >>= λ b=>pure (b.getD true)):=if_pos rfl;have hp':methodCallPos true o f.env apos pos=pure pos:=if_pos hp;rw[hc,hp'];refine wpAny_bind (wpAny_holding (hm A s1 v _ _ _ ok R1 pr λ u pu=>?_));refine wpAny_bind (wpAny_pure ?_);refine znU hs R1 hg pu (wpAny_mono (h1' A s1 pos ok R1) (λ vs s2 hh=>hh.elim λ ps H2' prs R2 k2 h2=>⟨⟨_,R2⟩,?_⟩) λ _ _ x=>x);exact wpAny_mono (h2 A s2 u (v::vs) ok R2 (pu.keep k2) (PRs.cons (pr.keep k2) prs)) (λ u s3 hh=>hh.elim λ p' H' pr' R' k' hq=>⟨p',H',pr',R',k1.trans (k2.trans k'),hq⟩) λ _ _ x=>x
end
section
variable {T:Tr}{f:FR}{env:Env}{ls:Ls}{Fs:List AF}{H:zaA}{E:Value->Shared->Prop}{s:Shared}{A:Around}
theorem znN {C:Cx}{h:Heap}{c:Addr}:zcZ C ((h.push emptyDict).push (instObj c h.objs.size)) (h.objs.size+1) (.inst c h.objs.size):=
 ⟨_,by rw[show h.objs.size+1=(h.push emptyDict).objs.size from (Heap.size_push ..).symm];exact Heap.get?_push_size _ rfl,rfl,rfl,rfl,Nat.ne_of_lt (Nat.lt_succ_self _)⟩
theorem ziR {C:Cx}{h:Heap}{o:Obj}:zcZ C ((h.push emptyDict).push o) h.objs.size (.attrs []):=by
 refine⟨λ _=>none,⟨emptyDict,#[],0,Heap.get?_push_of_some _ (Heap.get?_push_size _ rfl),rfl,?_,?_,λ _=>rfl⟩,λ _ _=>rfl,λ x p e=>by cases e⟩
 ·intro e he;simp at he
 ·exact List.Pairwise.nil
theorem yfY {c:Addr}{rest:List Value}:(Code.builtin "type.__call__" ⟨.ref c::rest,[]⟩).weight=1/\(Code.builtin "type.__call__" ⟨.ref c::rest,[]⟩).cUnits=1/\(Code.builtin "type.__call__" ⟨.ref c::rest,[]⟩).envs=[]:=⟨rfl,rfl,rfl⟩
theorem AOk.creation {c:Addr}{rest:List Value}(ok:AOk T Fs A)(hn:1<=T.n):AOk T.down Fs (A.under (.builtin "type.__call__" ⟨.ref c::rest,[]⟩)):=by
 refine q03 (yfY (c:=c) (rest:=rest)) λ h1 h2 h3=>?_;refine⟨?_,?_,?_,λ h=>ok.handled h,ok.ctx,ok.look.1,λ f r c e hc q=>nomatch q⟩
 ·show pushEnvs (Code.builtin "type.__call__" ⟨.ref c::rest,[]⟩).envs A.frames=_;rw[h3];exact ok.frames
 ·have:=ok.depth;show A.depth+(Code.builtin "type.__call__" ⟨.ref c::rest,[]⟩).weight+4*(T.n-1)+10<=1000;rw[h1];exact zwR hn this (by decide)
 ·have:=ok.units;show A.units+(Code.builtin "type.__call__" ⟨.ref c::rest,[]⟩).cUnits+20*(T.n-1)+100<=9900;rw[h2];exact zwR hn this (by decide)
theorem ydE {C:Cx}{h':Heap}{a b:Addr}{o o':AO}{s':Shared}(R:Rep C Fs H s)(hk:∀ b o,s.heap.get? b=some o->s'.heap.get? b=some o)(ha:s.heap.objs.size<=a)(hb:s.heap.objs.size<=b)(h1:zcZ C s'.heap a o)(h2:zcZ C s'.heap b o')
  (hg:s'.gens=s.gens:=by rfl) (hos:s'.os=s.os:=by rfl):Rep C Fs (upd (upd H a o) b o') s':=by
 refine q03 (R.fresh_ge ha) λ x y z=>?_;refine q03 (R.fresh_ge hb) λ x' y' z'=>?_;refine R.to (λ _=>False) (λ b o _ e=>hk b o e) (λ b o e _ _=>hk b o e) (λ _ h=>h.elim) (λ _ _ _ _ h=>h) (λ c ob e=>?_) hg hos;unfold upd at e;split at e
 ·cases e;rename_i q;subst q;exact .inr ⟨h2,y',z'⟩
 ·split at e
  ·cases e;rename_i q;subst q;exact .inr ⟨h1,y,z⟩
  ·exact .inl ⟨e,λ h=>h⟩
theorem zfW.cls {c fI:Addr}{ps:List PV}{Q:PV->zaA->Prop}(hm:makesIn T.C.K c=true)(hi:findIn T.C.K (.ref c) "__init__" = some (some (.ref fI)))(ht:typeIn T.C.K (.ref fI)=some (.type "function"))(hn:1<=T.n)
  (h:∀ x d,x≠d->H x=Option.none->H d=Option.none->zfW T.down Fs (upd (upd H d (.attrs [])) x (.inst c d)) (.ref fI) (.ref x::ps) (λ p H'=>p=.none/\Q (.ref x) H') E):zfW T Fs H (.ref c) ps Q E:=λ A s v vs ok R pv prs=>by
 rw[pv.ref_inv];obtain⟨hh,g,d,t,os⟩:=s;have Y:=makes_of (M:=T.C.M) R.kin hm;have k:∀ b o,hh.get? b=some o->((hh.push emptyDict).push (instObj c hh.objs.size)).get? b=some o:=λ b o e=>Heap.get?_push_of_some _ (Heap.get?_push_of_some _ e);refine make_core Y (looks_findIn R.kin hi) (λ self=>bind_fn R.kin self ht) (.inl rfl) ?_;have h1:=h (hh.objs.size+1) hh.objs.size (Nat.ne_of_gt (Nat.lt_succ_self _)) (R.fresh_ge (Nat.le_succ _)).1 R.fresh;have R1:Rep T.C Fs (upd (upd H hh.objs.size (.attrs [])) (hh.objs.size+1) (.inst c hh.objs.size)) ⟨(hh.push emptyDict).push (instObj c hh.objs.size),g,d,t,os⟩:=
  ydE (h':=hh) R k (Nat.le_refl _) (Nat.le_succ _) ziR znN
 have h2:=h1 _ _ (.ref fI) (.ref (hh.objs.size+1)::vs) (ok.creation (c:=c) (rest:=vs) hn) R1 PR.ref (PRs.cons PR.ref (PRs.keep (zaB.of_keep k) _ prs));refine codeAny_mono h2 λ r s' x=>?_;rcases r with e | (u | _ | _ | _)
 ·exact x
 all_goals first|exact x.elim|skip
 obtain⟨p,H',pr,R',k',rfl,hq⟩:=x;exact⟨pr.none_inv,_,H',PR.ref,R',(zaB.of_keep k).trans k',hq⟩
theorem zfW.cls0 {c:Addr}{Q:PV->zaA->Prop}(hm:makesIn T.C.K c=true)(hi:findIn T.C.K (.ref c) "__init__" = some (some (.builtin "object.__init__")))
  (h:∀ x d,x≠d->H x=Option.none->H d=Option.none->Q (.ref x) (upd (upd H d (.attrs [])) x (.inst c d))):zfW T Fs H (.ref c) [] Q E:=λ A s v vs ok R pv prs=>by
 rw[pv.ref_inv,prs.nil_inv];obtain⟨hh,g,d,t,os⟩:=s;have Y:=makes_of (M:=T.C.M) R.kin hm;have k:∀ b o,hh.get? b=some o->((hh.push emptyDict).push (instObj c hh.objs.size)).get? b=some o:=λ b o e=>Heap.get?_push_of_some _ (Heap.get?_push_of_some _ e);have R1:Rep T.C Fs (upd (upd H hh.objs.size (.attrs [])) (hh.objs.size+1) (.inst c hh.objs.size)) ⟨(hh.push emptyDict).push (instObj c hh.objs.size),g,d,t,os⟩:=
  ydE (h':=hh) R k (Nat.le_refl _) (Nat.le_succ _) ziR znN
 have hx:((hh.push emptyDict).push (instObj c hh.objs.size)).get? (hh.objs.size+1)=some (instObj c hh.objs.size):=by
  rw[show hh.objs.size+1=(hh.push emptyDict).objs.size from (Heap.size_push ..).symm];exact Heap.get?_push_size _ rfl
 refine make_core Y (looks_findIn R.kin hi) (λ self=>Looks.of_pure (oi_bind self)) (.inr ⟨rfl,rfl⟩) ?_;have t1:Looks T.C.M ((hh.push emptyDict).push (instObj c hh.objs.size)) (typeOf (.ref (hh.objs.size+1))) (.ref c):=(Looks.ld hx).andThen .now;have t2:Looks T.C.M ((hh.push emptyDict).push (instObj c hh.objs.size)) (isInstance (.ref (hh.objs.size+1)) (.type "object")) true:=t1.andThen (Y.top.keeps k);refine codeAny_call_builtin oi_plain entry_oi (@check_slot T.C.M _ _ _ "object.__init__" "object" "__init__" (.ref (hh.objs.size+1)) [] [] _ oi_kind oi_split t2 (oi_args (.ref (hh.objs.size+1))) ?_);rw[oi_run];exact wpAny_pure (And.intro rfl ⟨_,_,PR.ref,R1,zaB.of_keep k,h _ _ (Nat.ne_of_gt (Nat.lt_succ_self _)) (R.fresh_ge (Nat.le_succ _)).1 R.fresh⟩)
theorem zuS {C:Cx}{h h':Heap}{d:Addr}{l:Ls}{name:Str}{p:PV}{v:Value}{m:Str->Option Value}(tk:zaB h h')(hn:∀ x,l.lookup x=none->m x=none)(hs:∀ x p,l.lookup x=some p->∃ v,m x=some v/\PR h p v)
  (n':h'.Ns1 d (λ y=>if y=name then some v else m y)) (hp:PR h p v):zcZ C h' d (.attrs ((name,p)::l)):=by
 refine⟨_,n',λ x e=>?_,λ x q e=>?_⟩
 ·rw[List.lookup_cons]at e
  by_cases hx:x=name
  ·subst hx;simp at e
  ·rw[beq_eq_false_iff_ne.mpr hx]at e;simp[hx,hn x e]
 ·rw[List.lookup_cons]at e
  by_cases hx:x=name
  ·subst hx;simp at e;subst e;exact⟨v,by simp,hp.keep tk⟩
  ·rw[beq_eq_false_iff_ne.mpr hx]at e
   refine q12 (hs x q e) λ u e1 pr=>?_;exact⟨u,by simp[hx,e1],pr.keep tk⟩
theorem zjM.inst {x c d:Addr}{l:Ls}{name:Str}{p:PV}{Q:zaA->Prop}(hc:zsF T.C.K c)(hn:findIn T.C.K (.ref c) name=some none)(hx:H x=some (.inst c d))(hd:H d=some (.attrs l))(hz:l.length<=10000)(h:Q (upd H d (.attrs ((name,p)::l)))):
  zjM T Fs H name (.ref x) p Q E:=λ A s v u ok R pv pu=>by
 rw[pv.ref_inv];refine q21 (znR R hx hd name) λ ox od u8=>q05 u8 λ I hdict hod _ _=>?_;obtain⟨⟨m,n1,h1,h2⟩,_⟩:=R.objs d _ hd;refine set_plain R.kin I hc.sa ?_;have ht:takerIn T.C.K c name=some none:=by unfold takerIn;rw[hn];rfl
 refine osa_open (s:={ s with toks:=s.toks+1 }) R.kin I hc.plain ht λ b=>?_;refine q12 (any_some hc.cd) λ cd hcd hd'=>?_;obtain⟨hx',hcl,hno,-⟩:=I;obtain⟨oc,odi,oda,osl⟩:=ox;dsimp only at hcl hdict;subst hcl hdict;refine wpAny_bind (wpAny_pure (wpAny_bind (wpAny_bind (wpAny_loadPart hx' (wpAny_bind (looks_clsIn R.kin hcd _ _ _ _ (λ _ _ e=>e) ?_))))));rw[hd'];refine wpAny_pure (a:=some d) (wpAny_bind (wpAny_pure (wpAny_bind ?_)));refine wpAny_nsSet1 (s:={ s with toks:=s.toks+1 }) n1 λ h' n' sb=>?_;have tk:zaB s.heap h':=R.turnKeep (s':={ s with heap:=h',toks:=s.toks+1+1 }) hd sb.extBut;have hw:PySem.Within m (l.map (·.1)):=λ y hy=>by
  cases e:l.lookup y with
  | none=>exact absurd (h1 y e) hy
  | some q=>exact List.mem_map.mpr ⟨_,mem_of_lookup e,rfl⟩
 refine q31 (n'.count (PySem.Within.cons name u hw)) λ oD esD epD u8=>q03 u8 λ hoD hdD hcD=>?_;refine wpAny_bind (wpAny_lookBehind hoD (by rw[hdD];exact pastItsLine_dict (Nat.le_trans hcD (by rw[List.length_cons,List.length_map];exact Nat.le_trans (Nat.succ_le_succ hz) (by decide)))) ?_);refine wpAny_pure ?_
 show zvL T Fs s Q _
 exact⟨_,R.turn (o':=.attrs ((name,p)::l)) hd sb.extBut (zuS tk h1 h2 n' pu),tk,h⟩
theorem AA.attr {o:Expr}{attr:Str}{pos:Pos}{p:PV}{Q:Ls->zaA->Prop}(h:AE T f Fs H o (λ q H1'=>zjM T (.fr f::Fs) H1' attr q p (λ H2'=>Q f.ls H2') E) E):AA T f Fs H (.Attribute o attr pos) p Q E:=λ A s v ok R pv=>by
 rw[arm_assign_Attribute];refine wpAny_bind (wpAny_holding (wpAny_mono (h A s ok R) (λ w s1 hh=>hh.elim λ q H1' qr R1 k1 h1'=>?_) λ _ _ x=>x));refine wpAny_bind (wpAny_standAt (wpAny_bind (wpAny_holding (wpAny_mono (h1' A s1 w v ok R1 qr (pv.keep k1)) (λ _ s2 hh=>hh.elim λ H2' R2 k2 h2=>ziK ⟨f.ls,H2',R2,k1.trans k2,h2⟩) λ _ _ x=>x))))
theorem AA.sub {o i:Expr}{pos:Pos}{p:PV}{Q:Ls->zaA->Prop}(h:AE T f Fs H o (λ q H1'=>AE T f Fs H1' i (λ j H2'=>zhW T (.fr f::Fs) H2' q j p (λ H3=>Q f.ls H3) E) E) E):AA T f Fs H (.Subscript o i pos) p Q E:=λ A s v ok R pv=>by
 rw[arm_assign_Subscript];refine wpAny_bind (wpAny_holding (wpAny_mono (h A s ok R) (λ w s1 hh=>hh.elim λ q H1' qr R1 k1 h1'=>?_) λ _ _ x=>x));refine wpAny_bind (wpAny_holding (wpAny_mono (h1' A s1 ok R1) (λ u s2 hh=>hh.elim λ j H2' jr R2 k2 h2=>?_) λ _ _ x=>x));refine wpAny_bind (wpAny_standAt (wpAny_bind (wpAny_holding (wpAny_mono (h2 A s2 w u v ok R2 (qr.keep k2) jr (pv.keep (k1.trans k2))) (λ _ s3 hh=>hh.elim λ H3 R3 k3 h3=>?_) λ _ _ x=>x))));exact ziK ⟨f.ls,H3,R3,k1.trans (k2.trans k3),h3⟩
noncomputable def AAs (T:Tr)(f:FR)(Fs:List AF)(H:zaA)(ts:List Expr)(ps:List PV)(Q:Ls->zaA->Prop)(E:Value->Shared->Prop):Prop:=
 ∀ A s vs,AOk T (.fr f::Fs) A->Rep T.C (.fr f::Fs) H s->PRs s.heap ps vs->wpAny T.C.M A (assignInOrder ((assignEach ts f.env).map (·.2)) vs) (λ _ s'=>ydL T f Fs s Q s') E s
theorem AAs.nil {Q:Ls->zaA->Prop}(h:Q f.ls H):AAs T f Fs H [] [] Q E:=λ A s vs ok R pv=>by
 rw[pv.nil_inv];exact wpAny_pure ⟨f.ls,H,R,zaB.refl _,h⟩
theorem AAs.cons {t:Expr}{ts:List Expr}{p:PV}{ps:List PV}{Q:Ls->zaA->Prop}(he:assignEach (t::ts) f.env=(false,assign t f.env)::assignEach ts f.env)
  (h:AA T f Fs H t p (λ ls' H1'=>AAs T { f with ls:=ls' } Fs H1' ts ps Q E) E):AAs T f Fs H (t::ts) (p::ps) Q E:=λ A s vs ok R pv=>by
 refine q23 pv.cons_inv ?_;intro v r u0;subst u0;intro pr prs;rw[he]
 show wpAny T.C.M A (holding r (assign t f.env v) >>= λ _=>assignInOrder ((assignEach ts f.env).map (·.2)) r) _ _ _
 refine wpAny_bind (wpAny_holding (wpAny_mono (h A s v ok R pr) (λ _ s1 hh=>hh.elim λ ls' H1' R1 k1 h1'=>?_) λ _ _ x=>x));exact wpAny_mono (h1' A s1 r (AOk.any ok) R1 (PRs.keep k1 _ prs)) (λ _ s2 hh=>hh.elim λ ls'' H2' R2 k2 h2=>⟨ls'',H2',R2,k1.trans k2,h2⟩) λ _ _ x=>x
theorem AA.tup {es:List Expr}{k:Nat}{pos:Pos}{ps:List PV}{Q:Ls->zaA->Prop}(hn:(assignEach es f.env).length=ps.length)(hst:(assignEach es f.env).findIdx? (·.1)=none)
  (h:AAs T f Fs H es ps Q E):AA T f Fs H (.Tuple es k pos) (.tup ps) Q E:=λ A s v ok R pv=>by
 refine q46 pv.tup_inv ?_;intro a o vs n u0;subst u0;intro ho hc hd hs r;have it:IsTup s.heap a vs:=⟨o,ho,hc,n,hs⟩
 refine zzK (ok.hdc R) it (by rw[hn,r.length,Array.length_toList]) hst λ h' ext=>?_;have kp:∀ b o,s.heap.get? b=some o->h'.get? b=some o:=λ b o e=>ext b o (Nat.ne_of_lt (Heap.lt_size e)) e;exact wpAny_mono (h A { s with heap:=h' } vs.toList ok (R.ext kp) (PRs.keep (zaB.of_keep kp) _ r)) (λ _ s2 hh=>hh.elim λ ls'' H2' R2 k2 h2=>⟨ls'',H2',R2,(zaB.of_keep kp).trans k2,h2⟩) λ _ _ x=>x
end
inductive AIt where
 | list (a:Addr) (i:Nat)
 | range (x left:Int)
noncomputable def zvS (o:Obj):AIt->Prop
 | .list a i=>o.cls=.type "list_iterator" /\ o.data=.fields #[.ref a,.int i 0]
 | .range x left=>o={ cls:=.type "range_iterator",dict:=none,data:=.fields #[rawInt x,rawInt left,rawInt 1],slots:=#[] }
theorem zvS.nc {o:Obj}{x:AIt}(h:zvS o x):¬ zwA o:=λ u9=>q12 u9 λ vs hd h2=>by
 cases x with
 | list a i=>rw[h.2]at hd;cases hd;cases h2
 | range x left=>rw[show o=_ from h]at hd;cases hd;cases h2
theorem zvS.notTup {o:Obj}:∀ {x:AIt},zvS o x->zbR o
 | .list a i,⟨h,_⟩=>.cls (by rw[h];decide)
 | .range _ _,h=>.cls (by rw[show o=_ from h];show Value.type "range_iterator" ≠ Value.type "tuple";decide)
noncomputable def zgL (H:zaA)(x:AIt)(K:PV->AIt->Prop)(D:Prop):Prop:=match x with
 | .list a i=>∃ l,H a=some (.list l)/\(∀ p,l[i]?=some p->K p (.list a (i+1)))/\(l[i]?=none->D)
 | .range x left=>(0<left->K (.int x) (.range (x+1) (left-1)))/\(left<=0->D)
section
variable {T:Tr}{f:FR}{env:Env}{ls:Ls}{Fs:List AF}{H:zaA}{E:Value->Shared->Prop}{s:Shared}{A:Around}
theorem Rep.unhide {C:Cx}{pre post:List AF}{a:Addr}{o:Obj}{s':Shared}(R:Rep C (pre++.hid a o::post) H s)(hk:Heap.ExtBut a s.heap s'.heap)
  (hg:s'.gens=s.gens:=by rfl) (hos:s'.os=s.os:=by rfl):Rep C (pre++post) H s'/\zaB s.heap s'.heap:=by
 refine q03 (List.pairwise_append.mp R.apart) λ p1 p2 p3=>?_;obtain⟨q1,q2⟩:=List.pairwise_cons.mp p2;obtain⟨⟨ho,hoc⟩,hb⟩:=R.frs (.hid a o) (by simp);have hb:=hb a List.mem_cons_self;have tk:zaB s.heap s'.heap:=zaB.of_ext hk λ o1 e=>by rw[ho]at e;cases e;exact hoc
 have nf:∀ f∈pre++post,a∉f.reads:=λ f hf=>by
  rcases List.mem_append.mp hf with hf|hf
  ·exact (p3 f hf _ (.head _)).2 a List.mem_cons_self
  ·exact (q1 f hf).1 a List.mem_cons_self
 exact⟨(R.sub (List.Sublist.append (List.Sublist.refl _) (List.sublist_cons_self _ _))).to (λ b=>b=a) (λ b o hb e=>hk b o hb e) tk (λ b h=>h▸hb) (λ g hg b hb h=>nf g hg (h▸hb))
  (λ b ob e=>.inl ⟨e,λ h=>(R.objs b ob e).2.2 (.hid a o) (by simp) (h▸List.mem_cons_self)⟩) hg hos,tk⟩
theorem Rep.swap {C:Cx}{a:Addr}{o:Obj}{g:AF}(R:Rep C (.hid a o::g::Fs) H s):Rep C (g::.hid a o::Fs) H s:=by
 obtain⟨a1,a2⟩:=List.pairwise_cons.mp R.apart;obtain⟨b1,b2⟩:=List.pairwise_cons.mp a2;have h:=a1 g (.head _);have ha:a∉g.reads:=h.1 a List.mem_cons_self;refine⟨R.ok,R.keep,R.gens,R.os,λ x hx=>R.frs x (by simp only[List.mem_cons]at hx ⊢;rcases hx with h|h|h <;> simp[h]),List.pairwise_cons.mpr ⟨λ x hx=>?_,List.pairwise_cons.mpr ⟨λ x hx=>a1 x (.tail _ hx),b2⟩⟩,λ b ob e=>?_⟩
 ·rcases List.mem_cons.mp hx with rfl|hx
  ·exact⟨λ b hb hb'=>ha (by rw[<- List.mem_singleton.mp hb'];exact AF.owns_reads hb),λ b hb=>by rw[List.mem_singleton.mp hb];exact ha⟩
  ·exact b1 x hx
 ·refine q03 (R.objs b ob e) λ x y z=>?_
  exact⟨x,y,λ k hk=>z k (by simp only[List.mem_cons]at hk ⊢;rcases hk with h|h|h <;> simp[h])⟩
theorem AOk.hid {c:FK}{ls ls':Ls}{a:Addr}{o:Obj}(ok:AOk T (.fr ⟨c,env,ls⟩::Fs) A):AOk T (.fr ⟨c,env,ls'⟩::.hid a o::Fs) A:=by
 cases c <;> exact⟨ok.frames,ok.depth,ok.units,ok.handled,zrB ok (λ x h=>.tail _ h),ok.look.head λ f h=>.tail _ h⟩
theorem zzZ {pre post:List AF}{it:Addr}{o:Obj}{x:AIt}{K:PV->AIt->Prop}{D:Prop}{Q:Option Value->Shared->Prop}(hx:HdC s.heap A)(R:Rep T.C (pre++.hid it o::post) H s)(hi:zvS o x)(ht:zgL H x K D)
  (hK:∀ p x' v o' s',K p x'->zvS o' x'->PR s'.heap p v->Rep T.C (pre++.hid it o'::post) H s'->zaB s.heap s'.heap->Q (some v) s')
  (hD:∀ s',D->Rep T.C (pre++post) H s'->zaB s.heap s'.heap->Q none s'):wpAny T.C.M A (pyNext (.ref it)) Q E s:=by
 obtain⟨⟨ho,_⟩,_⟩:=R.frs (.hid it o) (by simp);cases x with
 | list a i=>
  refine q13 ht λ l hl h1 h2=>?_;refine q12 (zjD (R.objs a _ hl).1) λ vs il r=>?_;have hit:s.heap.IsListIter it a i:=⟨o,ho,hi.1,hi.2⟩
  cases e:l[i]? with
  | some p=>
   refine q12 (zuV r e) λ v ev pr=>?_;refine wpAny_pyNext_list_item hit il ev λ h' hit' sb=>?_;refine q13 hit' λ o' ho' hc' hd'=>?_;obtain⟨R',tk⟩:=R.hidden (s':={ s with heap:=h' }) sb.extBut ho' (zvS.notTup (x:=.list a (i+1)) ⟨hc',hd'⟩);exact hK p _ v o' _ (h1 p e) ⟨hc',hd'⟩ (pr.keep tk) R' tk
  | none=>
   have ev:vs[i]?=none:=by
    rw[<- Array.getElem?_toList];have:=r.length;rw[List.getElem?_eq_none_iff]at e ⊢;lia
   refine ygE hx hit il ev λ h' ext=>?_;obtain⟨R',tk⟩:=R.unhide (s':={ s with heap:=h' }) ext;exact hD _ (h2 e) R' tk
 | range x left=>
  obtain⟨h1,h2⟩:=ht;have hit:IsRangeIter s.heap it x left 1:=by rw[show o=_ from hi]at ho;exact ho
  by_cases hl:0<left
  ·refine wpAny_pyNext_range_item hit hl λ h' hit' sb=>?_
   obtain⟨R',tk⟩:=R.hidden (s':={ s with heap:=h',toks:=s.toks+1 }) sb.extBut hit' (zvS.notTup (x:=.range (x+1) (left-1)) rfl);exact hK _ _ _ _ _ (h1 hl) rfl PR.int R' tk
  ·refine ybS hx hit (by exact lqd hl) λ h' ext=>?_
   obtain⟨R',tk⟩:=R.unhide (s':={ s with heap:=h' }) ext;exact hD _ (h2 (by exact lqd hl)) R' tk
noncomputable def zdU (T:Tr)(Fs:List AF)(H:zaA)(p:PV)(x:AIt):Prop:=
 ∀ A s v (Q:Value->Shared->Prop) E,AOk T Fs A->Rep T.C Fs H s->PR s.heap p v->(∀ it o s',zvS o x->Rep T.C (.hid it o::Fs) H s'->zaB s.heap s'.heap->Q (.ref it) s')->wpAny T.C.M A (pyIter v) Q E s
theorem zdU.list {a:Addr}{l:List PV}(hH:H a=some (.list l)):zdU T Fs H (.ref a) (.list a 0):=λ A s v Q E ok R pv h=>by
 rw[pv.ref_inv];refine q12 (zjD (R.objs a _ hH).1) λ vs il r=>?_;exact wpAny_pyIter_list il (h _ _ _ ⟨rfl,rfl⟩ (R.hide zaH (Nat.le_refl _) (Heap.get?_push_size _ rfl) (.cls (by show Value.type "list_iterator" ≠ Value.type "tuple";decide))) (zaB.of_keep zaH))
theorem zdU.range {a:Addr}{x y:Int}(hH:H a=some (.range x y))(hx:-(2 ^ 62)<=x)(hx':x<2 ^ 62)(hy:-(2 ^ 62)<=y)(hy':y<2 ^ 62):zdU T Fs H (.ref a) (.range x (if x<y then y-x else 0)):=λ A s v Q E ok R pv h=>by
 rw[pv.ref_inv];refine q31 ((R.objs a _ hH).1) λ t u w ir=>?_;refine wpAny_pyIter_range ir (small_one hx hx' hy hy') ?_;rw[rangeSize_one];exact (h _ _ _ rfl (R.hide zaH (Nat.le_refl _) (Heap.get?_push_size _ rfl) (.cls (by show Value.type "range_iterator" ≠ Value.type "tuple";decide))) (zaB.of_keep zaH))
theorem zoA {pre post:List AF}{it:Addr}{o:Obj}{x:AIt}{t:Expr}{v:Value}{C:Cx}{M:Model}{Q:Unit->Shared->Prop}(R:Rep C (pre++.hid it o::post) H s)(hi:zvS o x)(h:Q () s):wpAny M A (letOwnedTupleGo t (.ref it) v) Q E s:=by
 obtain⟨⟨ho,_⟩,_⟩:=R.frs (.hid it o) (by simp);have main:wpAny M A (do
  let (.ref r,.ref a):=(Value.ref it,v) | return
  let o <- load r
  match o.cls,o.data with
  | .type n,.fields vs=>
   if ["enumerate", "zip", "dict_itemiterator", "dict_reverseitemiterator", "odict_iterator", "itertools.zip_longest", "itertools.pairwise"].contains n&&vs[0]?==some (rawInt a) then
    rule "for.unpacks-the-owned-tuple"
    updateField r 0 .none
  | _,_=>pure ()) Q E s:=by
  cases v <;> first|exact wpAny_pure h|skip
  refine wpAny_bind (wpAny_load ho ?_);cases x with
  | list a i=>
   rw[hi.1,hi.2];dsimp only;exact wpAny_pure h
  | range x y=>
   rw[show o=_ from hi];dsimp only;exact wpAny_pure h
 cases t <;> first|exact wpAny_pure h|exact main
theorem AA.mono {t:Expr}{p:PV}{Q Q':Ls->zaA->Prop}(h:AA T f Fs H t p Q E)(hq:∀ ls H,Q ls H->Q' ls H):AA T f Fs H t p Q' E:=
 λ A s v ok R pv=>wpAny_mono (h A s v ok R pv) (λ _ s' hh=>hh.elim λ ls' H' a b c=>⟨ls',H',a,b,hq _ _ c⟩) λ _ _ x=>x
noncomputable def zjZ (next:Ls->zaA->Prop)(Q:AFl->Ls->zaA->Prop)(a:AFl)(ls:Ls)(H:zaA):Prop:=match a with
 | .next=>next ls H
 | .cont=>next ls H
 | .brk=>Q .next ls H
 | .ret p=>Q (.ret p) ls H
noncomputable def znA (T:Tr)(env:Env)(Fs:List AF)(ls:Ls)(target:Expr)(body:List Stmt)(Q:AFl->Ls->zaA->Prop)(E:Value->Shared->Prop)(p:PV)(H1':zaA):Prop:=
 ∀ A s s1 v,AOk T (.fr ⟨.fn,env,ls⟩::Fs) A->Rep T.C (.fr ⟨.fn,env,ls⟩::Fs) H1' s1->PR s1.heap p v->zaB s.heap s1.heap ->
  wpAny T.C.M A (pyIter v) (λ it s2=>codeAny T.C.M A (.forLoop target it body [] env) (λ r s'=>match r with | .ok f=>zqV T env Fs s Q f s' | .error e=>cameBackBy T.C.M A env E e s') s2) E s1
theorem AS.forTail {target iter:Expr}{body:List Stmt}{pos:Pos}{Q:AFl->Ls->zaA->Prop}(hs:∀ x,foldedSetIterable iter env x=pure x)(h:AE T ⟨.fn,env,ls⟩ Fs H iter (znA T env Fs ls target body Q E) E):
  AS T env Fs ls H (.For target iter body [] pos) Q E:=λ A s ok R=>
 wpAny_For (wpAny_mono (h A s ok R) (λ v s1 hh=>hh.elim λ p H1' pr R1 k1 h=>h A s s1 v ok R1 pr k1) λ _ _ e=>e) hs
theorem ztB {target:Expr}{body:List Stmt}{Q:AFl->Ls->zaA->Prop}{p:PV}{H1':zaA}{Eb:List AF->Value->Shared->Prop}
  (hE:∀ A it o e s,AOk T (.fr ⟨.fn,env,ls⟩::Fs) A->Eb (.hid it o::Fs) e s->notedBy T.C.M A env (λ e s'=>cameBackBy T.C.M A env E e s') e s)
  (h:∃ x,zdU T (.fr ⟨.fn,env,ls⟩::Fs) H1' p x/\∃ (I:Nat->AIt->Ls->zaA->Prop) (n:Nat),I n x ls H1' /\
   ∀ n x ls' H',I n x ls' H'->zgL H' x (λ p x'=>∀ Fs',AA T ⟨.fn,env,ls'⟩ Fs' H' target p (λ ls1 H1'=>AX T env Fs' ls1 H1' body (zjZ (λ ls2 H2'=>∃ m,m<n/\I m x' ls2 H2') Q) (Eb Fs')) NoE) (Q .next ls' H')):
  znA T env Fs ls target body Q E p H1':=λ A s s1 v ok R1 pr k1=>by
 refine q12 h λ x hx u8=>q22 u8 λ I n hI turn=>?_;refine hx A s1 v _ _ ok R1 pr λ it o s2 hi R2 k2=>?_;have R2:=R2.swap;refine codeAny_forLoop_any (λ n s'=>∃ x ls' H' o,zvS o x/\I n x ls' H'/\Rep T.C (.fr ⟨.fn,env,ls'⟩::.hid it o::Fs) H' s'/\zaB s.heap s'.heap) ?_ n ⟨x,ls,H1',o,hi,hI,R2,k1.trans k2⟩;intro n s3 uu;refine q41 uu λ x ls' H' o u8=>q04 u8 λ hi hI R3 k3=>?_
 refine zzZ (pre:=[.fr ⟨.fn,env,ls'⟩]) ((AOk.hid (ls:=ls) (ls':=ls') (a:=it) (o:=o) ok).hdc R3) R3 hi (turn n x ls' H' hI) (λ p x' v o' s4 hK hi' pv R4 k4=>?_) (λ s4 hD R4 k4=>?_)
 ·dsimp only
  refine zoA (pre:=[.fr ⟨.fn,env,ls'⟩]) R4 hi' ?_;refine wpAny_mono (hK (.hid it o'::Fs) A s4 v (AOk.hid ok) R4 pv) (λ _ s5 hh=>hh.elim λ ls1 H1'' R5 k5 hX=>?_) λ _ _ e=>e.elim;refine wpAny_mono (hX A s5 (AOk.hid ok) R5) (λ fl s6 hh=>hh.elim λ a ls2 H2'' fr R6 k6 hQ=>?_) λ e s h=>hE A it o' e s ok h;have kk:=k3.trans (k4.trans (k5.trans k6));rcases a with _ | _ | _ | p <;> cases fl <;> first|exact fr.elim|skip
  ·refine q12 hQ λ m hm hI'=>?_;exact⟨m,hm,x',ls2,H2'',o',hi',hI',R6,kk⟩
  ·exact⟨.next,ls2,H2'',trivial,R6.pop2,kk,hQ⟩
  ·refine q12 hQ λ m hm hI'=>?_;exact⟨m,hm,x',ls2,H2'',o',hi',hI',R6,kk⟩
  ·exact⟨.ret p,ls2,H2'',fr,R6.pop2,kk,hQ⟩
 ·exact wpAny_execs_nil ⟨.next,ls',H',trivial,R4,k3.trans k4,hD⟩
theorem zrU {target:Expr}{body:List Stmt}{Q:AFl->Ls->zaA->Prop}{p:PV}{H1':zaA}
  (h:∃ x,zdU T (.fr ⟨.fn,env,ls⟩::Fs) H1' p x/\∃ (I:Nat->AIt->Ls->zaA->Prop) (n:Nat),I n x ls H1' /\
   ∀ n x ls' H',I n x ls' H'->zgL H' x (λ p x'=>∀ Fs',AA T ⟨.fn,env,ls'⟩ Fs' H' target p (λ ls1 H1'=>AX T env Fs' ls1 H1' body (zjZ (λ ls2 H2'=>∃ m,m<n/\I m x' ls2 H2') Q) NoE) NoE) (Q .next ls' H')):
  znA T env Fs ls target body Q E p H1':=ztB (Eb:=λ _=>NoE) (λ _ _ _ _ _ _ h=>h.elim) h
theorem ydD {target:Expr}{body:List Stmt}{Q:AFl->Ls->zaA->Prop}{p:PV}{H1':zaA}{Eb:List AF->Value->Shared->Prop}
  {a:Addr} {l:List PV} (e1:p=.ref a) (hl:H1' a=some (.list l)) (J:Nat->Ls->zaA->Prop) (h0:J 0 ls H1')
   (h1:∀ i ls' H',J i ls' H'->H' a=some (.list l))
   (h2:∀ i p ls' H' Fs',l[i]?=some p->J i ls' H'->AA T ⟨.fn,env,ls'⟩ Fs' H' target p (λ ls1 H1'=>AX T env Fs' ls1 H1' body (zjZ (J (i+1)) Q) (Eb Fs')) NoE) (h3:∀ ls' H',J l.length ls' H'->Q .next ls' H'):
  ∃ x,zdU T (.fr ⟨.fn,env,ls⟩::Fs) H1' p x/\∃ (I:Nat->AIt->Ls->zaA->Prop) (n:Nat),I n x ls H1' /\
   ∀ n x ls' H',I n x ls' H'->zgL H' x (λ p x'=>∀ Fs',AA T ⟨.fn,env,ls'⟩ Fs' H' target p (λ ls1 H1'=>AX T env Fs' ls1 H1' body (zjZ (λ ls2 H2'=>∃ m,m<n/\I m x' ls2 H2') Q) (Eb Fs')) NoE) (Q .next ls' H'):=by
 subst e1;refine⟨.list a 0,zdU.list hl,λ n x ls' H'=>∃ i,x=.list a i/\n=l.length-i/\i<=l.length/\J i ls' H',l.length,⟨0,rfl,rfl,Nat.zero_le _,h0⟩,?_⟩;intro n x ls' H' uu;refine q14 uu ?_;clear uu;intro i u0;subst u0;intro u1;subst u1;intro hle hJ;refine⟨l,h1 i ls' H' hJ,λ p e Fs'=>?_,λ e=>?_⟩
 ·have hlt:=(List.getElem?_eq_some_iff.mp e).1
  refine AA.mono (h2 i p ls' H' Fs' e hJ) λ ls1 H1' hX=>AX.mono hX λ a ls2 H2' hQ=>?_;cases a <;> first|exact hQ|exact⟨l.length-(i+1),zfV hlt,i+1,rfl,rfl,hlt,hQ⟩
 ·have:i=l.length:=Nat.le_antisymm hle (List.getElem?_eq_none_iff.mp e)
  subst this;exact h3 ls' H' hJ
theorem yjV {target:Expr}{body:List Stmt}{Q:AFl->Ls->zaA->Prop}{p:PV}{H1':zaA}
  {a:Addr} (e1:p=.ref a) (hl:∃ l,H1' a=some (.list l)) (J:Nat->Nat->Ls->zaA->Prop) (n:Nat) (h0:J n 0 ls H1')
   (h1:∀ n i ls' H',J n i ls' H'->∃ l,H' a=some (.list l)/\(∀ p Fs',l[i]?=some p->AA T ⟨.fn,env,ls'⟩ Fs' H' target p (λ ls1 H1'=>AX T env Fs' ls1 H1' body (zjZ (λ ls2 H2'=>∃ m,m<n/\J m (i+1) ls2 H2') Q) NoE) NoE) /\
    (l.length<=i->Q .next ls' H')):
  ∃ x,zdU T (.fr ⟨.fn,env,ls⟩::Fs) H1' p x/\∃ (I:Nat->AIt->Ls->zaA->Prop) (n:Nat),I n x ls H1' /\
   ∀ n x ls' H',I n x ls' H'->zgL H' x (λ p x'=>∀ Fs',AA T ⟨.fn,env,ls'⟩ Fs' H' target p (λ ls1 H1'=>AX T env Fs' ls1 H1' body (zjZ (λ ls2 H2'=>∃ m,m<n/\I m x' ls2 H2') Q) NoE) NoE) (Q .next ls' H'):=by
 subst e1;obtain⟨l,hl⟩:=hl;refine⟨.list a 0,zdU.list hl,λ n x ls' H'=>∃ i,x=.list a i/\J n i ls' H',n,⟨0,rfl,h0⟩,?_⟩;intro n x ls' H' uu;refine q12 uu ?_;clear uu;intro i u0;subst u0;intro hJ;refine q13 (h1 n i ls' H' hJ) λ l hl h2 h3=>?_;refine⟨l,hl,λ p e Fs'=>?_,λ e=>h3 (List.getElem?_eq_none_iff.mp e)⟩;refine AA.mono (h2 p Fs' e) λ ls1 H1' hX=>AX.mono hX λ a ls2 H2' hQ=>?_;cases a <;> first|exact hQ | (refine q12 hQ λ m hm hJ'=>?_;exact⟨m,hm,i+1,rfl,hJ'⟩)
theorem yeX {target:Expr}{body:List Stmt}{Q:AFl->Ls->zaA->Prop}{p:PV}{H1':zaA}
  {a:Addr} {n:Nat} (e1:p=.ref a) (hl:H1' a=some (.range 0 n)) (hz:n<2 ^ 62) (J:Nat->Ls->zaA->Prop) (h0:J 0 ls H1')
   (h2:∀ i ls' H' Fs',i<n->J i ls' H'->AA T ⟨.fn,env,ls'⟩ Fs' H' target (.int i) (λ ls1 H1'=>AX T env Fs' ls1 H1' body (zjZ (J (i+1)) Q) NoE) NoE) (h3:∀ ls' H',J n ls' H'->Q .next ls' H'):
  ∃ x,zdU T (.fr ⟨.fn,env,ls⟩::Fs) H1' p x/\∃ (I:Nat->AIt->Ls->zaA->Prop) (n:Nat),I n x ls H1' /\
   ∀ n x ls' H',I n x ls' H'->zgL H' x (λ p x'=>∀ Fs',AA T ⟨.fn,env,ls'⟩ Fs' H' target p (λ ls1 H1'=>AX T env Fs' ls1 H1' body (zjZ (λ ls2 H2'=>∃ m,m<n/\I m x' ls2 H2') Q) NoE) NoE) (Q .next ls' H'):=by
 subst e1;refine⟨_,zdU.range hl (by decide) (by decide) (by lia) (by exact_mod_cast hz),λ k x ls' H'=>∃ i:Nat,x=.range i (n-i)/\k=n-i/\i<=n/\J i ls' H',n,⟨0,?_,rfl,Nat.zero_le _,h0⟩,?_⟩
 ·congr 1
  split <;> lia
 intro k x ls' H' uu;refine q14 uu ?_;clear uu;intro i u0;subst u0;intro u1;subst u1;intro hle hJ;refine⟨λ hp Fs'=>?_,λ e=>?_⟩
 ·refine AA.mono (h2 i ls' H' Fs' (by lia) hJ) λ ls1 H1' hX=>AX.mono hX λ a ls2 H2' hQ=>?_
  cases a <;> first|exact hQ|exact⟨n-(i+1),by lia,i+1,by congr 1;push_cast;lia,rfl,by lia,hQ⟩
 ·have:i=n:=by lia
  subst this;exact h3 ls' H' hJ
theorem AS.while_ {test:Expr}{body:List Stmt}{pos:Pos}{Q:AFl->Ls->zaA->Prop}(I:Nat->Ls->zaA->Prop)(n:Nat)(h0:I n ls H)
  (turn:∀ n ls' H',I n ls' H'->AT T ⟨.fn,env,ls'⟩ Fs H' test (λ b H1'=>if b then AX T env Fs ls' H1' body (zjZ (λ ls2 H2'=>∃ m,m<n/\I m ls2 H2') Q) NoE else Q .next ls' H1') NoE):
  AS T env Fs ls H (.While test body [] pos) Q E:=λ A s ok R=>by
 refine wpAny_While (codeAny_whileLoop (λ n s'=>∃ ls' H',I n ls' H'/\Rep T.C (.fr ⟨.fn,env,ls'⟩::Fs) H' s'/\zaB s.heap s'.heap) ?_ n ⟨ls,H,h0,R,zaB.refl _⟩);intro n s1 uu;refine q23 uu λ ls' H' hI R1 k1=>?_
 refine wpAny_mono (turn n ls' H' hI A s1 (AOk.any ok) R1) (λ b s2 hh=>hh.elim λ H2' R2 k2 hb=>?_) λ _ _ e=>e.elim;cases b with
 | false=>exact wpAny_execs_nil ⟨.next,ls',H2',trivial,R2,k1.trans k2,hb⟩
 | true=>
  refine wpAny_mono (hb A s2 (AOk.any ok) R2) (λ fl s3 hh=>hh.elim λ a ls3 H3 fr R3 k3 hQ=>?_) λ _ _ e=>e.elim;have kk:=k1.trans (k2.trans k3);rcases a with _ | _ | _ | p <;> cases fl <;> first|exact fr.elim|skip
  ·refine q12 hQ λ m hm hI'=>?_;exact⟨m,hm,ls3,H3,hI',R3,kk⟩
  ·exact⟨.next,ls3,H3,trivial,R3,kk,hQ⟩
  ·refine q12 hQ λ m hm hI'=>?_;exact⟨m,hm,ls3,H3,hI',R3,kk⟩
  ·exact⟨.ret p,ls3,H3,fr,R3,kk,hQ⟩
end
noncomputable def zjR {α β:Type}(R:α->β->Prop):List α->List β->Prop
 | [],bs=>bs=[]
 | a::as,bs=>∃ b r,bs=b::r/\R a b/\zjR R as r
noncomputable def HD (C:Cx)(H:zaA):Nat->PV->Dat->Prop
 | _,.none,d=>d=.none
 | _,.int i,d=>d=.int i
 | _,.str x,d=>d=.str x/\PyData.strOk x=true
 | n+1,.tup l,d=>∃ ds,d=.tuple ds/\zjR (HD C H n) l ds
 | n+1,.ref a,d=>∃ l ds,LAt C H a l/\d=.list ds/\zjR (HD C H n) l ds
 | _,_,_=>False
theorem zjR.mk {α β:Type}{R:α->β->Prop}{a:α}{b:β}{l:List α}{m:List β}(h:R a b)(t:zjR R l m):zjR R (a::l) (b::m):=⟨b,m,rfl,h,t⟩
theorem HD.none' {C:Cx}{H:zaA}{n:Nat}:HD C H (n+1) .none .none:=rfl
theorem HD.int' {C:Cx}{H:zaA}{n:Nat}{i:Int}:HD C H (n+1) (.int i) (.int i):=rfl
theorem HD.str' {C:Cx}{H:zaA}{n:Nat}{x:Str}(h:PyData.strOk x=true):HD C H (n+1) (.str x) (.str x):=⟨rfl,h⟩
theorem HD.tup' {C:Cx}{H:zaA}{n:Nat}{l:List PV}{ds:List Dat}(h:zjR (HD C H n) l ds):HD C H (n+1) (.tup l) (.tuple ds):=⟨ds,rfl,h⟩
theorem HD.list' {C:Cx}{H:zaA}{n:Nat}{a:Addr}{l:List PV}{ds:List Dat}(hl:LAt C H a l)(h:zjR (HD C H n) l ds):HD C H (n+1) (.ref a) (.list ds):=⟨l,ds,hl,rfl,h⟩
section
variable {T:Tr}{f:FR}{env:Env}{ls:Ls}{Fs:List AF}{H:zaA}{E:Value->Shared->Prop}{s:Shared}{A:Around}
theorem HD.okAll {C:Cx}{n:Nat}(ih:∀ p d,HD C H n p d->kqdOk n d=true)(l:List PV):∀ (ds:List Dat),zjR (HD C H n) l ds->∀ d∈ds,kqdOk n d=true:=by
 induction l with
 | nil=>intro ds h d hd;rw[show ds=[] from h]at hd;cases hd
 | cons p l il=>
  intro ds uu d hd;refine q23 uu λ b r e x y=>?_
  subst e;exact (List.mem_cons.mp hd).elim (λ e=>e▸ih p _ x) (il r y d)
theorem HD.ok {C:Cx}(n:Nat):∀ (p:PV) (d:Dat),HD C H n p d->kqdOk n d=true:=by
 induction n with
 | zero=>
  intro p d h;cases p with
  | none=>cases (show d=.none from h);rfl
  | int i=>cases (show d=.int i from h);rfl
  | str x=>obtain⟨e,h⟩:d=.str x/\PyData.strOk x=true:=h;subst e;exact h
  | _=>exact False.elim h
 | succ n ih=>
  intro p d h;cases p with
  | none=>cases (show d=.none from h);rfl
  | int i=>cases (show d=.int i from h);rfl
  | str x=>obtain⟨e,h⟩:d=.str x/\PyData.strOk x=true:=h;subst e;exact h
  | tup l=>
   obtain⟨ds,e,h⟩:∃ ds,d=.tuple ds/\zjR (HD C H n) l ds:=h;subst e
   simpa [kqdOk] using HD.okAll ih l ds h
  | ref a=>
   obtain⟨l,ds,_,e,h⟩:∃ l ds,LAt C H a l/\d=.list ds/\zjR (HD C H n) l ds:=h;subst e
   simpa [kqdOk] using HD.okAll ih l ds h
  | _=>exact False.elim h
theorem HD.readsAll {C:Cx}{n:Nat}(ih:∀ p d v,HD C H n p d->PR s.heap p v->∃ as,Reads s.heap v (kqdP d) as)(l:List PV):∀ (ds:List Dat) (vs:List Value),zjR (HD C H n) l ds->PRs s.heap l vs->∃ as,ReadsAll s.heap vs (kqdPs ds) as:=by
 induction l with
 | nil=>intro ds vs h r;rw[show ds=[] from h,r.nil_inv];exact⟨_,ReadsAll.nil⟩
 | cons p l il=>
  intro ds vs uu r';refine q23 uu λ b r e x y=>?_
  subst e;refine q23 r'.cons_inv ?_;intro v vs u0;subst u0;intro pr r';obtain⟨as,q⟩:=ih p b v x pr;obtain⟨bs,q'⟩:=il r vs y r';exact⟨_,ReadsAll.cons q q'⟩
theorem HD.reads {C:Cx}(R:Rep C Fs H s)(n:Nat):∀ (p:PV) (d:Dat) (v:Value),HD C H n p d->PR s.heap p v->∃ as,Reads s.heap v (kqdP d) as:=by
 induction n with
 | zero=>
  intro p d v h r;cases p with
  | none=>cases (show d=.none from h);rw[r.none_inv];exact⟨_,Reads.none⟩
  | int i=>cases (show d=.int i from h);obtain⟨t,rfl⟩:=r.int_inv;exact⟨_,Reads.int i t⟩
  | str x=>cases (show d=.str x from h.1);obtain⟨t,rfl⟩:=r.str_inv;exact⟨_,Reads.str x t⟩
  | _=>exact False.elim h
 | succ n ih=>
  intro p d v h r;cases p with
  | none=>cases (show d=.none from h);rw[r.none_inv];exact⟨_,Reads.none⟩
  | int i=>cases (show d=.int i from h);obtain⟨t,rfl⟩:=r.int_inv;exact⟨_,Reads.int i t⟩
  | str x=>cases (show d=.str x from h.1);obtain⟨t,rfl⟩:=r.str_inv;exact⟨_,Reads.str x t⟩
  | tup l=>
   obtain⟨ds,e,h⟩:∃ ds,d=.tuple ds/\zjR (HD C H n) l ds:=h;subst e;refine q46 r.tup_inv ?_;intro a o vs k u0;subst u0;intro ho hc hd hs rr;exact (HD.readsAll ih l ds vs.toList h rr).elim λ as q=>⟨_,reads_tuple_at ho hc hs q⟩
  | ref a=>
   obtain⟨l,ds,hl,e,h⟩:∃ l ds,LAt C H a l/\d=.list ds/\zjR (HD C H n) l ds:=h;subst e;rw[r.ref_inv];refine q22 (R.lat hl) λ vs k il rr=>?_;exact (HD.readsAll ih l ds vs.toList h rr).elim λ as q=>⟨_,reads_list_at il rfl rfl q⟩
  | _=>exact False.elim h
theorem zjO {C:Cx}{n:Nat}{p:PV}{d:Dat}(hn:n<=9)(h:HD C H n p d):SeqAt.shaped (kqdP d)=true:=by
 have l:=kqd_lay n d (HD.ok n p d h);unfold SeqAt.shaped;rw[l.1,Bool.true_and];exact decide_eq_true (Nat.le_trans l.2 (by exact lq2 hn rfl))
theorem zdC.eqData {p q:PV}{d e:Dat}{Q:Bool->zaA->Prop}(hp:HD T.C H 9 p d)(hq:HD T.C H 9 q e)(h:∀ b,(b=true↔d=e)->Q b H):zdC T Fs H .Eq p q Q E:=λ A s v w ok R pv pw=>by
 obtain⟨as,ra⟩:=HD.reads R 9 p d v hp pv;obtain⟨bs,rb⟩:=HD.reads R 9 q e w hq pw;have:=ok.cl;exact eq_dataH ra rb (zjO (by decide) hp) (zjO (by decide) hq) (by exact lq6 this rfl) ⟨_,rfl,zaP R (h _ (kqd_eqv 9 d e 9 (HD.ok 9 _ _ hp) (HD.ok 9 _ _ hq)))⟩
theorem zdC.neData {p q:PV}{d e:Dat}{Q:Bool->zaA->Prop}(hp:HD T.C H 9 p d)(hq:HD T.C H 9 q e)(h:∀ b,(b=true↔d≠e)->Q b H):zdC T Fs H .NotEq p q Q E:=λ A s v w ok R pv pw=>by
 obtain⟨as,ra⟩:=HD.reads R 9 p d v hp pv;obtain⟨bs,rb⟩:=HD.reads R 9 q e w hq pw;have:=ok.cl;refine ne_dataH ra rb (zjO (by decide) hp) (zjO (by decide) hq) (by exact lq6 this rfl) ⟨_,rfl,zaP R (h _ ?_)⟩;have k:=kqd_eqv 9 d e 9 (HD.ok 9 _ _ hp) (HD.ok 9 _ _ hq);cases hb:PyData.eqv (kqdP d) (kqdP e)
 ·simp only[hb]at k ⊢;simp;intro hde;exact Bool.false_ne_true (k.mpr hde)
 ·simp only[hb]at k ⊢;simp;exact k.mp trivial
theorem zdC.inList {a:Addr}{l:List PV}{p:PV}{ds:List Dat}{d:Dat}{Q:Bool->zaA->Prop}(hl:LAt T.C H a l)(hds:zjR (HD T.C H 8) l ds)(hp:HD T.C H 8 p d)(h:∀ b,(b=true↔d∈ds)->Q b H):zdC T Fs H .In p (.ref a) Q E:=λ A s v w ok R pv pw=>by
 rw[pw.ref_inv];refine q22 (R.lat hl) λ vs k il rr=>?_;obtain⟨as,ra⟩:=HD.readsAll (λ p d v=>HD.reads R 8 p d v) l ds vs.toList hds rr;obtain⟨bs,rx⟩:=HD.reads R 8 p d v hp pv;have hok:=HD.okAll (λ p d=>HD.ok 8 p d) l ds hds;have hdk:=HD.ok 8 p d hp;have l1:=kqd_layL hok;have ld:=kqd_lay 8 d hdk;have l2:=ld.2;have:=ok.cl;refine SeqAt.in_list_reads (reads_list_at il rfl rfl ra) rx l1.1 ld.1 ?_ ⟨_,rfl,zaP R (h _ (kqd_any ds d hok hdk))⟩;have:=Nat.min_le_right (PyData.depthAll (kqdPs ds)) (kqdP d).depth;lia
theorem zdC.eqBool {a b:Bool}{Q:Bool->zaA->Prop}(h:Q (a==b) H):zdC T Fs H .Eq (.bool a) (.bool b) Q E:=λ A s v w ok R pv pw=>by
 rw[pv.bool_inv,pw.bool_inv];exact PyProof.Rows.eq_bool ⟨_,rfl,zaP R h⟩
theorem zoE {h:Heap}{a:Addr}{vs:Array Value}{n:Nat}(il:IsL h a vs n)(g:Array Value->Array Value):Heap.ExtBut a h (h.update a (Obj.mapSeq g)):=(Heap.SameBut.update ..).extBut
theorem zeH {h:Heap}{l:List PV}{vs:Array Value}(r:PRs h l vs.toList):vs.size=l.length:=by have:=r.length;simp at this;exact this.symm
theorem zfY.listAppend {a:Addr}{l:List PV}(hH:H a=some (.list l)):zfY T Fs H "append" (.ref a) (.bi "list.append"):=λ A s v pl Q E ok R pv h=>by
 rw[pv.ref_inv]at h ⊢;refine q22 ((R.objs a _ hH).1) λ vs n il r=>?_;exact getMethod_list_append il rfl rfl (h _ PR.bi)
theorem zbH.listAppend {a:Addr}{l:List PV}{p:PV}{Q:PV->zaA->Prop}(hH:H a=some (.list l))(hz:l.length<=100000)(h:Q .none (upd H a (.list (l++[p])))):zbH T Fs H (.bi "list.append") [.ref a,p] Q E:=λ A s v ws ok R pv prs=>by
 rw[pv.bi_inv];refine q23 prs.cons_inv ?_;intro w r1 u0;subst u0;intro pw prs;refine q23 prs.cons_inv ?_;intro u r2 u0;subst u0;intro pu prs;rw[prs.nil_inv,pw.ref_inv];refine q22 ((R.objs a _ hH).1) λ vs n il r=>?_;have hsz:vs.size<=sizeLine:=by rw[zeH r];exact Nat.le_trans hz (by decide)
 refine call_meets slot_list_append ⟨_,il,rfl⟩ entry_list_append (args_list_append _ _) (list_append a vs n u hsz) ⟨il,?_⟩;have tk:zaB s.heap (s.heap.update a (Obj.mapSeq λ x=>x.push u)):=R.turnKeep (s':={ s with heap:=s.heap.update a (Obj.mapSeq λ x=>x.push u) }) hH (zoE il _);refine⟨.none,_,PR.none,R.turn (o':=.list (l++[p])) hH (zoE il _) ⟨_,_,IsL.update il _,?_⟩,tk,h⟩;rw[Array.toList_push];exact (PRs.keep tk _ r).append (PRs.cons (pu.keep tk) PRs.nil)
theorem zhW.list {a:Addr}{l:List PV}{k:Int}{q:PV}{Q:zaA->Prop}(hH:H a=some (.list l))(h0:0<=k)(hk:k<l.length)(hz:l.length<=100000)(h:Q (upd H a (.list (l.set k.toNat q)))):zhW T Fs H (.ref a) (.int k) q Q E:=λ A s v w u ok R pv pw pu=>by
 rw[pv.ref_inv];obtain⟨t,rfl⟩:=pw.int_inv;refine q22 ((R.objs a _ hH).1) λ vs n il r=>?_;have hl:=il.isList;have hs:=zeH r;unfold setItem;refine wpAny_holding ?_;refine wpAny_bind (wpAny_sequenceKey hl.typeIs (by decide) ?_);refine wpAny_bind (wpAny_callSpecial?_slot (name:=Str.ofString "__setitem__") hl.typeIs slot_list_setitem
  (wpAny_call_entry slot_list_setitem hl.typeIs entry_list_setitem ?_ (args_list_setitem _ _ _)))
 show wpAny _ _ (Builtin.List.listSubscript? (.int k t) >>= _) _ _ s
 refine wpAny_bind (wpAny_listSubscript_int (fitsIndex_of h0 (by exact lq13 hk hz rfl)) ?_);obtain⟨j,rfl⟩:=Int.eq_ofNat_of_zero_le h0;have hj:j<vs.size:=by lia
 have hx':vs[j]?=some vs[j]:=Array.getElem?_eq_getElem hj
 show wpAny _ _ ((seqItemAt a j >>= λ r=>pure (r.map (j,·))) >>= _) _ _ s
 refine wpAny_bind (wpAny_bind (wpAny_seqItemAt il rfl (wpAny_pure ?_)));rw[hx']
 show wpAny _ _ (setSeqItemAt a j u >>= _) _ _ s
 have tk:zaB s.heap (s.heap.update a (Obj.mapSeq (·.setIfInBounds j u))):=R.turnKeep (s':={ s with heap:=s.heap.update a (Obj.mapSeq (·.setIfInBounds j u)) }) hH (zoE il _);have hfin:zvL T Fs s Q { s with heap:=s.heap.update a (Obj.mapSeq (·.setIfInBounds j u)) }:=by
  refine⟨_,R.turn (o':=.list (l.set j q)) hH (zoE il _) ⟨_,_,IsL.update il _,?_⟩,tk,h⟩;rw[Array.toList_setIfInBounds];exact (PRs.keep tk _ r).set j (pu.keep tk)
 refine wpAny_bind (wpAny_setSeqItemAt il rfl ?_);exact wpAny_pure ⟨.none,rfl,wpAny_pure hfin⟩
theorem zbH.lenList {a:Addr}{l:List PV}{Q:PV->zaA->Prop}(hH:LAt T.C H a l)(hz:l.length<=100000)(h:Q (.int l.length) H):zbH T Fs H (.bi "len") [.ref a] Q E:=λ A s v ws ok R pv prs=>by
 rw[pv.bi_inv];refine q23 prs.cons_inv ?_;intro w r1 u0;subst u0;intro pw prs;rw[prs.nil_inv,pw.ref_inv];refine q22 (R.lat hH) λ vs n il r=>?_;have hs:=zeH r;refine call_len_list il.isList (by rw[hs];exact lq16 hz rfl) ?_;rw[hs];exact zaJ R PR.int h
theorem ATr.list {a:Addr}{l:List PV}{Q:Bool->zaA->Prop}(hH:LAt T.C H a l)(hz:l.length<=100000)(h:Q (!l.isEmpty) H):ATr T Fs H (.ref a) Q E:=λ A s v ok R pv=>by
 rw[pv.ref_inv];refine q22 (R.lat hH) λ vs n il r=>?_;have hs:=zeH r;refine wpAny_truthy_list il.isList (by rw[hs];exact lq16 hz rfl) ?_;have:vs.isEmpty=l.isEmpty:=by
  cases l with
  | nil=>have:vs.size=0:=hs;simp[Array.isEmpty,this]
  | cons x l=>simp at hs;simp[Array.isEmpty,hs]
 rw[this];exact zaP R h
theorem zhL.addList {a b:Addr}{l m:List PV}{Q:PV->zaA->Prop}(hl:LAt T.C H a l)(hm:LAt T.C H b m)(hz:l.length+m.length<=100000)(h:∀ c,H c=Option.none->Q (.ref c) (upd H c (.list (l++m)))):zhL T Fs H (binaryOp .Add) (.ref a) (.ref b) Q E:=λ A s v w ok R pv pw=>by
 rw[pv.ref_inv,pw.ref_inv];refine q22 (R.lat hl) λ vs n il r=>?_;refine q22 (R.lat hm) λ ws n' im r'=>?_;have hs:=zeH r;have hs':=zeH r';refine P.add_list il im ⟨_,_,PR.ref,R.new (o:=.list (l++m)) zaH (Nat.le_refl _) ⟨_,_,IsL.new _ _,?_⟩,zaB.of_keep zaH,h _ R.fresh⟩ (by rw[hs,hs'];exact Nat.le_trans hz (by decide));rw[Array.toList_append];exact (PRs.keep (zaB.of_keep zaH) _ r).append (PRs.keep (zaB.of_keep zaH) _ r')
end
theorem yeD {H:zaA}{a:Addr}{o:AO}(h:H a=some o):upd H a o=H:=by
 funext b;unfold upd;split
 ·rename_i q;rw[q,h]
 ·rfl
section
variable {T:Tr}{f:FR}{env:Env}{ls:Ls}{Fs:List AF}{H:zaA}{E:Value->Shared->Prop}{s:Shared}{A:Around}
theorem Rep.pset {C:Cx}(R:Rep C Fs H s){a:Addr}{l:List Pt}(e:H a=some (.pset l)):zfB C.w s.heap a l:=(R.objs a _ e).1
theorem zbH.setNew {Q:PV->zaA->Prop}(h:∀ a,H a=Option.none->Q (.ref a) (upd H a (.pset []))):zbH T Fs H (.ty "set") [] Q E:=λ A s v ws ok R pv prs=>by
 rw[pv.ty_inv,prs.nil_inv];exact ztL λ S=>⟨_,_,PR.ref,R.new (o:=.pset []) zaH (Nat.le_refl _) S,zaB.of_keep zaH,h _ R.fresh⟩
theorem zfY.setAdd {a:Addr}{l:List Pt}(hH:H a=some (.pset l)):zfY T Fs H "add" (.ref a) (.bi "set.add"):=λ A s v pl Q E ok R pv h=>by
 rw[pv.ref_inv]at h ⊢;exact zoV (R.pset hH) (h _ PR.bi)
theorem zfY.setPop {a:Addr}{l:List Pt}(hH:H a=some (.pset l)):zfY T Fs H "pop" (.ref a) (.bi "set.pop"):=λ A s v pl Q E ok R pv h=>by
 rw[pv.ref_inv]at h ⊢;exact zoY (R.pset hH) (h _ PR.bi)
theorem zfY.setUpdate {a:Addr}{l:List Pt}(hH:H a=some (.pset l)):zfY T Fs H "update" (.ref a) (.bi "set.update"):=λ A s v pl Q E ok R pv h=>by
 rw[pv.ref_inv]at h ⊢;exact zkA (R.pset hH) (h _ PR.bi)
theorem zbH.setAdd {a:Addr}{l:List Pt}{p:Pt}{Q:PV->zaA->Prop}(hH:H a=some (.pset l))(hb:zeL p)(h:∀ l',l'.Nodup->(∀ q,q∈l'↔q=p\/q∈l)->Q .none (upd H a (.pset l'))):zbH T Fs H (.bi "set.add") [.ref a,pt p] Q E:=λ A s v ws ok R pv prs=>by
 rw[pv.bi_inv];refine q23 prs.cons_inv ?_;intro w r1 u0;subst u0;intro pw prs;refine q23 prs.cons_inv ?_;intro u r2 u0;subst u0;intro pu prs;rw[prs.nil_inv,pw.ref_inv];have S:=R.pset hH;have:=ok.cl;refine zrJ (by exact lq6 this rfl) S (zpS pu) hb (λ hm tk=>?_) λ hm h' l' tk sb hp S'=>?_
 ·have h1:=h l S.nodup (λ q=>⟨.inr,λ x=>by rcases x with rfl|x;exact hm;exact x⟩)
  rw[yeD hH]at h1;exact zaJ R PR.none h1
 ·exact⟨.none,_,PR.none,R.turn (o':=.pset l') (s':={ s with heap:=h',toks:=tk }) hH sb.extBut S',R.turnKeep (s':={ s with heap:=h',toks:=tk }) hH sb.extBut,h l' S'.nodup λ q=>by rw[hp.mem_iff,List.mem_cons]⟩
theorem zbH.setPop {a:Addr}{l:List Pt}{Q:PV->zaA->Prop}(hH:H a=some (.pset l))(hne:l≠[])(h:∀ p l',p∈l->l'.Nodup->(∀ q,q∈l'↔q∈l/\q≠p)->l'.length+1=l.length->Q (pt p) (upd H a (.pset l'))):zbH T Fs H (.bi "set.pop") [.ref a] Q E:=λ A s v ws ok R pv prs=>by
 rw[pv.bi_inv];refine q23 prs.cons_inv ?_;intro w r1 u0;subst u0;intro pw prs;rw[prs.nil_inv,pw.ref_inv];have S:=R.pset hH;refine zrA S hne λ i p v h' d hi sb S' hp=>?_;have hlt:=(List.getElem?_eq_some_iff.mp hi).1;refine⟨pt p,_,zjS hp,R.turn (o':=.pset (l.eraseIdx i)) (s':={ s with heap:=h',drawn:=d }) hH sb.extBut S',R.turnKeep (s':={ s with heap:=h',drawn:=d }) hH sb.extBut,h p _ (List.mem_of_getElem? hi) S'.nodup (λ q=>?_) ?_⟩
 ·have hpm:=zfQ l i hlt
  have e:l[i]=p:=(List.getElem?_eq_some_iff.mp hi).2;rw[e]at hpm;have nd:(p::l.eraseIdx i).Nodup:=hpm.nodup_iff.mpr S.nodup;have hn:=(List.nodup_cons.mp nd).1;rw[<- hpm.mem_iff];simp only[List.singleton_append,List.mem_cons];constructor
  ·intro hq;exact⟨.inr hq,λ e=>hn (e▸hq)⟩
  ·rintro⟨x|x,y⟩
   ·exact absurd x y
   ·exact x
 ·rw[List.length_eraseIdx,if_pos hlt];lia
theorem zbH.setUpdate {a b:Addr}{l m:List Pt}{Q:PV->zaA->Prop}(hH:H a=some (.pset l))(hb:H b=some (.pset m))(hne:a≠b)(h:∀ l',l'.Nodup->(∀ q,q∈l'↔q∈l\/q∈m)->Q .none (upd H a (.pset l'))):zbH T Fs H (.bi "set.update") [.ref a,.ref b] Q E:=λ A s v ws ok R pv prs=>by
 rw[pv.bi_inv];refine q23 prs.cons_inv ?_;intro w r1 u0;subst u0;intro pw prs;refine q23 prs.cons_inv ?_;intro u r2 u0;subst u0;intro pu prs;rw[prs.nil_inv,pw.ref_inv,pu.ref_inv];have:=ok.cl;exact zmB (by exact lq6 this rfl) (R.pset hH) (R.pset hb) hne λ h' l' sb hm S'=>
  ⟨.none,_,PR.none,R.turn (o':=.pset l') (s':={ s with heap:=h' }) hH sb.extBut S',R.turnKeep (s':={ s with heap:=h' }) hH sb.extBut,h l' S'.nodup hm⟩
theorem zdC.inSet {a:Addr}{l:List Pt}{p:Pt}{Q:Bool->zaA->Prop}(hH:H a=some (.pset l))(hb:zeL p)(h:Q (decide (p∈l)) H):zdC T Fs H .In (pt p) (.ref a) Q E:=λ A s v w ok R pv pw=>by
 rw[pw.ref_inv];have:=ok.cl;exact yoB (by exact lq6 this rfl) (R.pset hH) (zpS pv) hb λ tk=>⟨_,rfl,zaP R h⟩
theorem zfB.size_es {w:World}{h:Heap}{a:Addr}{l:List Pt}(S:zfB w h a l):∃ o es ep t,h.get? a=some o/\o.ExactSet/\o.data=.set es ep t/\t.fits es.size=true/\es.size=l.length:=by
 refine q46 S.obj λ o es ep t ho hx hd I hb El=>?_;exact⟨o,es,ep,t,ho,hx,hd,zbI I,by rw[<- Array.length_toList];exact El.length⟩
theorem zbH.lenSet {a:Addr}{l:List Pt}{Q:PV->zaA->Prop}(hH:H a=some (.pset l))(h:Q (.int l.length) H):zbH T Fs H (.bi "len") [.ref a] Q E:=λ A s v ws ok R pv prs=>by
 rw[pv.bi_inv];refine q23 prs.cons_inv ?_;intro w r1 u0;subst u0;intro pw prs;rw[prs.nil_inv,pw.ref_inv];have hl:=(R.pset hH).length_le;refine q41 ((R.pset hH).size_es) λ o es ep t u8=>q05 u8 λ ho hx hd hf hs=>?_;refine call_len_set ho hx hd hf (by rw[hs];exact lq16 hl rfl) ?_;rw[hs];exact zaJ R PR.int h
theorem zyK:typeLookup (.type "set") "__bool__" = pure none:=by rw[typeLookup_type,builtinLookup_eq_fast];kernel_rfl
theorem ATr.set {a:Addr}{l:List Pt}{Q:Bool->zaA->Prop}(hH:H a=some (.pset l))(h:Q (!l.isEmpty) H):ATr T Fs H (.ref a) Q E:=λ A s v ok R pv=>by
 rw[pv.ref_inv];have hl:=(R.pset hH).length_le;refine q41 ((R.pset hH).size_es) λ o es ep t u8=>q05 u8 λ ho hx hd hf hs=>?_;have hT:s.TypeIs (.ref a) "set" := ⟨o,ho,hx.1⟩
 have key:wpAny T.C.M A (runValue (.builtin "len" ⟨[.ref a],[]⟩)) (λ r s'=>r=.int l.length (s.toks+1)/\znF T Fs s Q (!l.isEmpty) s') E s:=by
  refine wpAny_runValue (codeAny_builtin entry_len ?_);rw[Around.under_plainId plain_len _];exact wpAny_mono (wpAny_len_body_set (Q:=λ r s'=>r=.int l.length (s.toks+1)/\znF T Fs s Q (!l.isEmpty) s') ho hx hd hf (by rw[hs];exact lq16 hl rfl) ⟨by rw[hs],zaP R h⟩)
   (λ fin s' h'=>by refine q12 h' ?_;clear h';intro r u0;subst u0;intro hq;exact hq) λ _ _ e=>e
 have hne:((l.length:Int) != 0)=!l.isEmpty:=by cases l <;> simp;lia
 unfold truthy;refine wpAny_bind (wpAny_callSpecial?_none (name:=Str.ofString "__bool__") hT zyK ?_);refine wpAny_bind (wpAny_specialOf (name:=Str.ofString "__len__") hT F.slot_set_len.lookup ?_);exact wpAny_bind (wpAny_mono key (λ r s' h'=>by obtain⟨rfl,hq⟩:=h';exact wpAny_pure (hne▸hq)) λ _ _ e=>e)
theorem ybN (x:Value)(n:Nat):∀ (acc:Array Value),(List.foldl (λ x1 x2=>x1++x2) acc (List.replicate n #[x])).toList=acc.toList++List.replicate n x:=by
 induction n with
 | zero=>exact λ acc=>(List.append_nil _).symm
 | succ n ih=>intro acc;rw[List.replicate_succ,List.foldl_cons,ih,List.replicate_succ,Array.toList_append];exact List.append_assoc ..
theorem zhL.mulList {a:Addr}{p:PV}{n:Int}{Q:PV->zaA->Prop}(hH:H a=some (.list [p]))(h0:0<=n)(hn:n<=100000)(h:∀ c,H c=Option.none->Q (.ref c) (upd H c (.list (List.replicate n.toNat p)))):zhL T Fs H (binaryOp .Mult) (.ref a) (.int n) Q E:=λ A s v w ok R pv pw=>by
 rw[pv.ref_inv];obtain⟨u,rfl⟩:=pw.int_inv;refine q22 ((R.objs a _ hH).1) λ vs k il r=>?_;refine q23 r.cons_inv λ x rr e px r2=>?_;rw[r2.nil_inv]at e;have hvs:vs=#[x]:=by apply Array.toList_inj.mp;rw[e]
 subst hvs;refine wpAny_binaryOp_repeat_ref (T := "list") (U := "int") (by decide) ⟨_,il,rfl⟩ (λ s'=>typeIs_int s' n u) noFill_list_mul F.fills_int_mul F.slot_int_rmul repeat_list F.slot_int_index.lookup
  (call_meets F.slot_int_rmul (typeIs_int s n u) F.entry_int_rmul (F.args_int_rmul_2 _ _) (int___rmul___int_list n u a #[x] k)
   ⟨il,rfl,⟨_,il,rfl⟩,call_meets F.slot_list_mul ⟨_,il,rfl⟩ F.entry_list_mul (F.args_list_mul_2 _ _)
    (AutoListH.list___mul___list_int_3 a #[x] k n u (by simp[Builtin.List.listFitsIndex];lia) (by simp;lia) (by simp[Builtin.List.listTooLong,sizeLine];lia)) ⟨il,?_⟩⟩)
 refine⟨_,_,PR.ref,R.new (o:=.list (List.replicate n.toNat p)) zaH (Nat.le_refl _) ⟨_,_,IsL.new _ _,?_⟩,zaB.of_keep zaH,h _ R.fresh⟩;rw[if_neg (by simp),ybN];exact PRs.replicate (px.keep (zaB.of_keep zaH)) _
theorem zbH.range1 {n:Int}{Q:PV->zaA->Prop}(h:∀ c,H c=Option.none->Q (.ref c) (upd H c (.range 0 n))):zbH T Fs H (.ty "range") [.int n] Q E:=λ A s v ws ok R pv prs=>by
 rw[pv.ty_inv];refine q23 prs.cons_inv ?_;intro w r1 u0;subst u0;intro pw prs;rw[prs.nil_inv];obtain⟨u,rfl⟩:=pw.int_inv;exact call_range_1 ⟨_,_,PR.ref,R.new (o:=.range 0 n) (s':={ s with heap:=_,toks:=_ }) zaH (Nat.le_refl _) ⟨_,_,_,IsRange.new _ _ _ _ _ _ _⟩,zaB.of_keep zaH,h _ R.fresh⟩
theorem zbH.range2 {m n:Int}{Q:PV->zaA->Prop}(h:∀ c,H c=Option.none->Q (.ref c) (upd H c (.range m n))):zbH T Fs H (.ty "range") [.int m,.int n] Q E:=λ A s v ws ok R pv prs=>by
 rw[pv.ty_inv];refine q23 prs.cons_inv ?_;intro w r1 u0;subst u0;intro pw prs;refine q23 prs.cons_inv ?_;intro x r2 u0;subst u0;intro px prs;rw[prs.nil_inv];obtain⟨u,rfl⟩:=pw.int_inv;obtain⟨t,rfl⟩:=px.int_inv;exact call_range_2 ⟨_,_,PR.ref,R.new (o:=.range m n) (s':={ s with heap:=_,toks:=_ }) zaH (Nat.le_refl _) ⟨_,_,_,IsRange.new _ _ _ _ _ _ _⟩,zaB.of_keep zaH,h _ R.fresh⟩
end
noncomputable def zgF (l:List PV)(lo hi:Option Int):List PV:=(sliceRange (sliceBounds lo hi none l.length).1 (sliceBounds lo hi none l.length).2.1 (sliceBounds lo hi none l.length).2.2).filterMap (λ k=>l[k]?)
theorem PRs.pick {h:Heap}{l:List PV}{vs:List Value}(r:PRs h l vs)(idx:List Nat):PRs h (idx.filterMap (λ k=>l[k]?)) (idx.filterMap (λ k=>vs[k]?)):=by
 induction idx with
 | nil=>exact PRs.nil
 | cons i idx ih=>
  cases e:l[i]? with
  | none=>
   have:vs[i]?=none:=by rw[List.getElem?_eq_none_iff]at e ⊢;rw[<- r.length];exact e
   rw[List.filterMap_cons_none e,List.filterMap_cons_none this];exact ih
  | some p=>
   refine q12 (r.get i e) λ v ev pr=>?_;rw[List.filterMap_cons_some e,List.filterMap_cons_some ev];exact PRs.cons pr ih
theorem ybP (l:List PV)(a k:Nat):((List.range k).map (a+·)).filterMap (λ i=>l[i]?)=(l.drop a).take k:=by
 induction k with
 | zero=>rfl
 | succ k ih=>
  rw[List.range_succ,List.map_append,List.filterMap_append,ih,List.take_add_one]
  congr 1
  simp only[List.map_cons,List.map_nil,List.getElem?_drop];cases h:l[a+k]? <;> simp[h]
theorem zhS (l:List PV)(a b:Nat)(hb:b<=l.length)(ha:a<=l.length):(sliceRange (a:Int) (b:Int) 1).filterMap (λ k=>l[k]?)=(l.drop a).take (b-a):=by
 rw[sliceRange_one,ybP]
theorem zxG (i:Int)(n:Nat):∃ a:Nat,max 0 (min (if i<0 then i+n else i) (n:Int))=(a:Int)/\a<=n/\(0<=i->a=min i.toNat n):=by
 by_cases h:i<0
 ·have h1:i+n<=n:=by lia
  rw[if_pos h,Int.min_eq_left h1];refine⟨(i+n).toNat,?_,Int.toNat_le.mpr h1,λ h0=>absurd h (Int.not_lt.mpr h0)⟩;rw[Int.ofNat_toNat,Int.max_comm]
 ·rw[if_neg h]
  obtain⟨k,rfl⟩:=Int.eq_ofNat_of_zero_le (Int.not_lt.mp h);rw[Int.toNat_natCast]
  by_cases hk:k<=n
  ·rw[Int.min_eq_left (Int.ofNat_le.mpr hk),Int.max_eq_right (Int.natCast_nonneg _),Nat.min_eq_left hk]
   exact⟨k,rfl,hk,λ _=>rfl⟩
  ·have hk:=Nat.le_of_lt (Nat.not_le.mp hk)
   rw[Int.min_eq_right (Int.ofNat_le.mpr hk),Int.max_eq_right (Int.natCast_nonneg _),Nat.min_eq_right hk];exact⟨n,rfl,Nat.le_refl _,λ _=>rfl⟩
theorem zdV (lo hi:Option Int)(n:Nat):∃ a b:Nat,sliceBounds lo hi none n=((a:Int),(b:Int),1)/\a<=n/\b<=n /\
  (lo=none->a=0)/\(∀ i,lo=some i->0<=i->a=min i.toNat n)/\(hi=none->b=n)/\(∀ i,hi=some i->0<=i->b=min i.toNat n):=by
 have hA:∃ a:Nat,(sliceBounds lo hi none n).1=(a:Int)/\a<=n/\(lo=none->a=0)/\(∀ i,lo=some i->0<=i->a=min i.toNat n):=by
  cases lo with
  | none=>exact⟨0,rfl,Nat.zero_le _,λ _=>rfl,λ i e=>by cases e⟩
  | some i=>refine q13 (zxG i n) λ a h1 h2 h3=>?_;exact⟨a,by simpa [sliceBounds] using h1,h2,(λ e=>by cases e),λ j e=>by cases e;exact h3⟩
 have hB:∃ b:Nat,(sliceBounds lo hi none n).2.1=(b:Int)/\b<=n/\(hi=none->b=n)/\(∀ i,hi=some i->0<=i->b=min i.toNat n):=by
  cases hi with
  | none=>exact⟨n,by simp[sliceBounds],Nat.le_refl _,λ _=>rfl,λ i e=>by cases e⟩
  | some i=>refine q13 (zxG i n) λ a h1 h2 h3=>?_;exact⟨a,by simpa [sliceBounds] using h1,h2,(λ e=>by cases e),λ j e=>by cases e;exact h3⟩
 refine q14 hA λ a a1 a2 a3 a4=>?_;refine q14 hB λ b b1 b2 b3 b4=>?_;refine⟨a,b,?_,a2,b2,a3,a4,b3,b4⟩;rw[<- a1,<- b1];rfl
theorem zwF (l:List PV){i j:Int}(hi:0<=i)(hj:0<=j):zgF l (some i) (some j)=(l.take j.toNat).drop i.toNat:=by
 refine q21 (zdV (some i) (some j) l.length) λ a b u8=>q07 u8 λ e ha hb _ a2 _ b2=>?_;unfold zgF;rw[e,zhS l a b hb ha,a2 i rfl hi,b2 j rfl hj,List.drop_take]
 by_cases h:i.toNat<=l.length
 ·rw[Nat.min_eq_left h,List.take_eq_take_iff,List.length_drop,Nat.sub_min_sub_right,Nat.sub_min_sub_right,Nat.min_assoc,Nat.min_self]
 ·have h:=Nat.le_of_lt (Nat.not_le.mp h)
  rw[Nat.min_eq_right h,List.drop_length,List.drop_of_length_le h,List.take_nil,List.take_nil]
theorem ztQ (l:List PV){j:Int}(hj:0<=j):zgF l none (some j)=l.take j.toNat:=by
 refine q21 (zdV none (some j) l.length) λ a b u8=>q07 u8 λ e ha hb a1 _ _ b2=>?_;unfold zgF;rw[e,zhS l a b hb ha,a1 rfl,b2 j rfl hj,List.drop_zero,Nat.sub_zero];rw[List.take_eq_take_iff,Nat.min_assoc,Nat.min_self]
theorem yaW (l:List PV){i:Int}(hi:0<=i):zgF l (some i) none=l.drop i.toNat:=by
 refine q21 (zdV (some i) none l.length) λ a b u8=>q07 u8 λ e ha hb _ a2 b1 _=>?_;unfold zgF;rw[e,zhS l a b hb ha,a2 i rfl hi,b1 rfl]
 by_cases h:i.toNat<=l.length
 ·rw[Nat.min_eq_left h,<- List.length_drop,List.take_length]
 ·rw[Nat.min_eq_right (by lia),Nat.sub_self,List.take_zero,List.drop_of_length_le (by lia)]
theorem zzG (l:List PV):zgF l none none=l:=by
 refine q21 (zdV none none l.length) λ a b u8=>q07 u8 λ e ha hb a1 _ b1 _=>?_;unfold zgF;rw[e,zhS l a b hb ha,a1 rfl,b1 rfl];simp
section
variable {T:Tr}{f:FR}{env:Env}{ls:Ls}{Fs:List AF}{H:zaA}{E:Value->Shared->Prop}{s:Shared}{A:Around}
noncomputable def zmC (T:Tr)(f:FR)(Fs:List AF)(H:zaA)(e:Option Expr)(Q:Option Int->zaA->Prop)(E:Value->Shared->Prop):Prop:=match e with
 | none=>Q none H
 | some e=>AE T f Fs H e (λ p H1'=>∃ i,p=.int i/\Q (some i) H1') E
theorem yaX {e:Option Expr}{Q:Option Int->zaA->Prop}(h:zmC T f Fs H e Q E)(ok:AOk T (.fr f::Fs) A)(R:Rep T.C (.fr f::Fs) H s):
  wpAny T.C.M A (evalPart e f.env) (λ v s'=>∃ i H',IsPart v i/\Rep T.C (.fr f::Fs) H' s'/\zaB s.heap s'.heap/\Q i H') E s:=by
 cases e with
 | none=>exact wpAny_pure ⟨none,H,.none,R,zaB.refl _,h⟩
 | some e=>exact wpAny_mono (h A s ok R) (λ v s' hh=>hh.elim λ p H' pr R' k hq=>by refine q12 hq ?_;clear hq;intro i u0;subst u0;intro q;obtain⟨t,rfl⟩:=pr.int_inv;exact⟨some i,H',.int i t,R',k,q⟩) λ _ _ x=>x
theorem ex2 {α β:Type}{P:α->β->Prop}{Q:Prop}(h:∃ a b,P a b)(k:∀ a b,P a b->Q):Q:=by refine q21 h ?_;clear h;intro a b h;exact k a b h
theorem AE.slice {value:Expr}{lo hi:Option Expr}{p pos:Pos}{Q:PV->zaA->Prop}
  (h:AE T f Fs H value (λ q H1'=>zmC T f Fs H1' lo (λ i H2'=>zmC T f Fs H2' hi (λ j H3=>∃ a l,q=.ref a/\LAt T.C H3 a l/\l.length<=100000/\∀ c,H3 c=Option.none->Q (.ref c) (upd H3 c (.list (zgF l i j)))) E) E) E):
  AE T f Fs H (.Subscript value (.Slice lo hi Option.none p) pos) Q E:=λ A s ok R=>by
 refine Subscript_ (wpAny_mono (h A s ok R) (λ v s1 hh=>hh.elim λ q H1' qr R1 k1 h1'=>?_) λ _ _ x=>x);refine wpAny_Slice (wpAny_mono (yaX h1' ok R1) (λ vl s2 hh=>ex2 hh λ i H2' hp=>?_) λ _ _ x=>x);have il:=hp.1;refine wpAny_mono (yaX hp.2.2.2 ok hp.2.1) (λ vu s3 hh=>ex2 hh λ j H3 hq=>?_) λ _ _ x=>x;have k2:=hp.2.2.1;have iu:=hq.1;have R3:=hq.2.1;have k3:=hq.2.2.1;refine q24 hq.2.2.2 λ a l e hl hz h3=>?_;subst e;rw[qr.ref_inv];refine wpAny_pure ?_;refine q22 (R3.lat hl) λ vs n isl r=>?_;have hs:=zeH r;have R4:Rep T.C (.fr f::Fs) H3 { s3 with heap:=s3.heap.push { cls:=.type "slice",data:=.fields #[vl,vu,.none] } }:=R3.ext zaH;have il':=isl.push { cls:=.type "slice",data:=.fields #[vl,vu,.none] };have k4:zaB s3.heap (s3.heap.push { cls:=.type "slice",data:=.fields #[vl,vu,.none] }):=zaB.of_keep zaH;refine tail_any (T := "list") il'.isList.typeIs slot_list_getitem.lookup (wpAny_getItem_list_slice (st:=Option.none) il'.isList (Heap.IsSliceOf.new _ _ _ _) il iu .none (by simp) ?_ (by rw[hs];exact Nat.le_trans hz (by decide))) rfl;refine⟨_,_,PR.ref,R4.new (o:=.list (zgF l i j)) zaH (Nat.le_refl _) ⟨_,_,IsL.new _ _,?_⟩,k1.trans (k2.trans (k3.trans (k4.trans (zaB.of_keep zaH)))),h3 _ R4.fresh⟩;have:=(PRs.keep (k4.trans (zaB.of_keep (zaH (o:={ cls:=.type "list",data:=.seq (slicePick vs i j Option.none) })))) _ r).pick (sliceRange (sliceBounds i j Option.none vs.size).1 (sliceBounds i j Option.none vs.size).2.1 (sliceBounds i j Option.none vs.size).2.2);have e1:(slicePick vs i j Option.none).toList=(sliceRange (sliceBounds i j Option.none vs.size).1 (sliceBounds i j Option.none vs.size).2.1 (sliceBounds i j Option.none vs.size).2.2).filterMap (λ k=>vs.toList[k]?):=by
  unfold slicePick;simp
 rw[e1];unfold zgF;rw[hs]at this ⊢;exact this
theorem zbH.listCopy {a:Addr}{l:List PV}{Q:PV->zaA->Prop}(hl:LAt T.C H a l)(hz:l.length<=100000)(h:∀ c,H c=Option.none->Q (.ref c) (upd H c (.list l))):zbH T Fs H (.ty "list") [.ref a] Q E:=λ A s v ws ok R pv prs=>by
 rw[pv.ty_inv];refine q23 prs.cons_inv ?_;intro w r1 u0;subst u0;intro pw prs;rw[prs.nil_inv,pw.ref_inv];refine q22 (R.lat hl) λ vs n il r=>?_;have hs:=zeH r;exact call_list_seq a (.inl rfl) il rfl rfl (λ h' c' hk hD=>⟨_,_,PR.ref,R.new (o:=.list l) (s':={ s with heap:=h' }) hk (Nat.le_refl _) ⟨_,_,hD,PRs.keep (zaB.of_keep hk) _ r⟩,zaB.of_keep hk,h _ R.fresh⟩) (by rw[hs];exact Nat.le_trans hz (by decide))
end
section
variable {T:Tr}{f:FR}{env:Env}{ls:Ls}{Fs:List AF}{H:zaA}{E:Value->Shared->Prop}{s:Shared}{A:Around}
set_option maxHeartbeats 1000000 in
end
noncomputable def rem (H:zaA)(a:Addr):zaA:=λ b=>if b=a then none else H b
theorem yfJ {H:zaA}{a b:Addr}{o:AO}(h:rem H a b=some o):H b=some o/\b≠a:=by
 unfold rem at h;split at h
 ·cases h
 ·rename_i q;exact⟨h,q⟩
section
variable {T:Tr}{f:FR}{env:Env}{ls:Ls}{Fs:List AF}{H:zaA}{E:Value->Shared->Prop}{s:Shared}{A:Around}
theorem Rep.hideObj {C:Cx}{a:Addr}{o:Obj}{ob:AO}(R:Rep C Fs H s)(hH:H a=some ob)(ho:s.heap.get? a=some o):Rep C (.hid a o::Fs) (rem H a) s:=by
 refine q03 (R.objs a ob hH) λ x y z=>?_;refine q12 x.there λ o' ho' nt=>?_;rw[ho]at ho';cases ho';refine (R.mono λ b ob' e=>(yfJ e).1).push ⟨ho,nt⟩ (λ b hb=>by rw[List.mem_singleton.mp hb];exact y.1) (λ b hb=>by rw[List.mem_singleton.mp hb];simp[rem]) (λ b hb g hg=>by rw[List.mem_singleton.mp hb];exact z g hg) λ g hg b hb hb'=>?_;rw[List.mem_singleton.mp hb']at hb;have:a∈g.reads:=by cases g with|fr f=>cases hb|hid c o=>exact hb|gh _=>cases hb
 exact z g hg this
theorem Rep.showObj {C:Cx}{pre post:List AF}{a:Addr}{o:Obj}{ob:AO}(R:Rep C (pre++.hid a o::post) H s)(hn:yjJ C a)(hs:zcZ C s.heap a ob):Rep C (pre++post) (upd H a ob) s:=by
 refine q03 (List.pairwise_append.mp R.apart) λ p1 p2 p3=>?_;obtain⟨q1,q2⟩:=List.pairwise_cons.mp p2;have nf:∀ f∈pre++post,a∉f.reads:=λ f hf=>by
  rcases List.mem_append.mp hf with hf|hf
  ·exact (p3 f hf _ (.head _)).2 a List.mem_cons_self
  ·exact (q1 f hf).1 a List.mem_cons_self
 have R':Rep C (pre++post) H s:=R.sub (List.Sublist.append (List.Sublist.refl _) (List.sublist_cons_self _ _));refine⟨R'.ok,R'.keep,R'.gens,R'.os,R'.frs,R'.apart,λ b ob' e=>?_⟩;unfold upd at e;split at e
 ·cases e;rename_i q;subst q;exact⟨hs,hn,nf⟩
 ·exact R'.objs b ob' e
structure ydX (C:Cx)(a:Addr)(o:Obj)(l':List Pt)(es:Array (Int×Value))(ep:Nat)(t:SetTable):Prop where
 ex:o.ExactSet
 data:o.data=.set es ep t
 inv:Tab.Inv t (es.toList.map (·.1))
 led:C.w.params.followText "set-order" = false->t.led=true/\t.plain=true
 len:l'.length=es.size
theorem zxP {C:Cx}(R:Rep C Fs H s){a:Addr}{l:List Pt}(hH:H a=some (.pset l)):∃ o es ep t l',s.heap.get? a=some o/\ydX C a o l' es ep t/\l'.Perm l/\∀ (i:Nat) (q:Pt),l'[i]?=some q->∃ x:Int×Value,(zkZ C.w a es ep)[i]?=some x/\zhJ s.heap q x.2:=by
 have S:=R.pset hH;refine q46 S.obj λ o es ep t ho hx hd I hb El=>?_;refine q12 (zxN (zvM C.w a es ep).symm El) λ l' hp El'=>?_;refine⟨o,es,ep,t,l',ho,⟨hx,hd,I,hb,by rw[hp.length_eq,<- El.length,Array.length_toList]⟩,hp,λ i q e=>?_⟩;refine q12 (El'.at e) λ v e1 p1=>?_;exact⟨_,by rw[<- Array.getElem?_toList];exact e1,p1⟩
theorem yaG {target:Expr}{it a:Addr}{k i n ep:Nat}{y:Value}{Q:Unit->Shared->Prop}{E:Value->Shared->Prop}{M:Program}{w:World}(hi:s.heap.get? it=some (zbA k i a n ep))(h:Q () s):wpAny (model M w) A (letOwnedTupleGo target (.ref it) y) Q E s:=by
 have triv:∀ t:Expr,(∀ y,letOwnedTupleGo t (.ref it) y=pure ()\/letOwnedTupleGo t (.ref it) y=(do
   let (.ref r,.ref a):=(Value.ref it,y) | return
   let o <- load r
   match o.cls,o.data with
   | .type n,.fields vs=>
    if ["enumerate", "zip", "dict_itemiterator", "dict_reverseitemiterator", "odict_iterator", "itertools.zip_longest", "itertools.pairwise"].contains n&&vs[0]?==some (rawInt a) then
     rule "for.unpacks-the-owned-tuple"
     updateField r 0 .none
   | _,_=>pure ())):=λ t y=>by cases t <;> first|exact .inl rfl|exact .inr rfl
 rcases triv target y with e|e <;> rw[e]
 ·exact wpAny_pure h
 ·clear e triv
  cases y <;> first|exact wpAny_pure h|skip
  exact wpAny_bind (wpAny_load hi (wpAny_pure h))
noncomputable def SetI (T:Tr)(env:Env)(Fs:List AF)(J:Nat->Ls->zaA->Prop)(h1':Heap)(it a:Addr)(o:Obj)(t:SetTable)(k ep len n:Nat)(s':Shared):Prop:=
 ∃ i ls' H',n=len-i/\i<=len/\J i ls' H'/\Rep T.C (.fr ⟨.fn,env,ls'⟩::.hid it (zbA (zcS T.C.w t i) i a k ep)::.hid a o::Fs) H' s'/\zaB h1' s'.heap
theorem ygK {target:Expr}{body:List Stmt}{Q:AFl->Ls->zaA->Prop}{p:PV}{H1':zaA}(hh:T.hd=false)
  {a:Addr} {l:List Pt} (e:p=.ref a) (hH:H1' a=some (.pset l)) (J:List Pt->Nat->Ls->zaA->Prop) (h0:∀ l':List Pt,l'.Perm l->J l' 0 ls (rem H1' a))
   (h1:∀ l':List Pt,l'.Perm l->∀ i q ls' H' Fs',l'[i]?=some q->J l' i ls' H'->AA T ⟨.fn,env,ls'⟩ Fs' H' target (pt q) (λ ls1 H1'=>AX T env Fs' ls1 H1' body (zjZ (J l' (i+1)) (λ _ _ _=>False)) NoE) NoE) (h2:∀ l':List Pt,l'.Perm l->∀ ls' H',J l' l'.length ls' H'->Q .next ls' (upd H' a (.pset l))):
  znA T env Fs ls target body Q E p H1':=λ A s s1 v ok R1 pr k1=>by
 subst e;rw[pr.ref_inv];refine q51 (zxP R1 hH) λ o es ep t l' u8=>q04 u8 λ ho SP hp hw=>?_;replace h0:=h0 l' hp;replace h1:=h1 l' hp;replace h2:=h2 l' hp;have S1:=R1.pset hH;have hn0:=(R1.objs a _ hH).2.1;have nt:(Value.type "set_iterator" : Value)≠.type "tuple" := by decide
 refine zjA ho SP.ex SP.data SP.inv SP.led ?_;have R2:Rep T.C (.hid a o::.fr ⟨.fn,env,ls⟩::Fs) (rem H1' a) s1:=R1.hideObj hH ho;have sl:zcS T.C.w t 0=0:=by unfold zcS;split <;> rfl
 have R4:Rep T.C (.hid s1.heap.objs.size (zbA (zcS T.C.w t 0) 0 a es.size ep)::.fr ⟨.fn,env,ls⟩::.hid a o::Fs) (rem H1' a) { s1 with heap:=s1.heap.push (zbA 0 0 a es.size ep) }:=
  (R2.swap).hide zaH (Nat.le_refl _) (by rw[sl];exact Heap.get?_push_size _ rfl) (.cls nt)
 have R4:=R4.swap;generalize hit:s1.heap.objs.size=it at R4 ⊢;have k2:zaB s1.heap (s1.heap.push (zbA 0 0 a es.size ep)):=zaB.of_keep zaH;refine codeAny_forLoop_any (SetI T env Fs (J l') s1.heap it a o t es.size ep l'.length) ?_ l'.length ⟨0,ls,_,rfl,Nat.zero_le _,h0,R4,k2⟩;clear R4 k2 R2 sl hit h0;intro n s3 uu;refine q31 uu ?_;clear uu;intro i ls' H' u8;refine q05 u8 ?_;clear u8;intro u0;subst u0;intro hle hJ R5 k3;have hit':=(R5.frs (.hid it _) (.tail _ (.head _))).1.1;have ho':=(R5.frs (.hid a o) (.tail _ (.tail _ (.head _)))).1.1
 by_cases hlt:i<l'.length
 ·refine q12 (hw i l'[i] (List.getElem?_eq_getElem hlt)) λ x hx px=>?_
  refine zfP hit' ho' SP.ex SP.data SP.inv SP.led hx λ h' hi' sb=>?_;obtain⟨R6,k6⟩:=Rep.hidden (pre:=[.fr ⟨.fn,env,ls'⟩]) (s':={ s3 with heap:=h' }) R5 sb.extBut hi' (.cls nt);have kk:=k3.trans k6;refine yaG (s:={ s3 with heap:=h' }) hi' ?_;refine wpAny_mono (h1 i l'[i] ls' H' (.hid it (zbA (zcS T.C.w t (i+1)) (i+1) a es.size ep)::.hid a o::Fs) (List.getElem?_eq_getElem hlt) hJ A { s3 with heap:=h' } x.2 ⟨ok.frames,ok.depth,ok.units,ok.handled,zrB ok (λ x h=>.tail _ (.tail _ h)),ok.look.head λ f h=>.tail _ (.tail _ h)⟩ R6 (PR.keep kk _ (zjS px))) (λ _ s7 hh=>hh.elim λ ls1 H1'' R7 k7 hX=>?_) λ _ _ e=>e.elim;refine wpAny_mono (hX A s7 ⟨ok.frames,ok.depth,ok.units,ok.handled,zrB ok (λ x h=>.tail _ (.tail _ h)),ok.look.head λ f h=>.tail _ (.tail _ h)⟩ R7) (λ fl s8 hh=>hh.elim λ b ls2 H2'' fr R8 k8 hQ=>?_) λ _ _ e=>e.elim;cases b <;> cases fl <;> first|exact fr.elim|exact hQ.elim|exact⟨_,zfV hlt,i+1,ls2,H2'',rfl,hlt,hQ,R8,kk.trans (k7.trans k8)⟩
 ·have hi:i=l'.length:=Nat.le_antisymm hle (Nat.le_of_not_lt hlt)
  subst hi;refine zgE (ok.handled hh) hit' ho' SP.ex SP.data SP.inv SP.led SP.len λ h' ext=>?_;obtain⟨R6,k6⟩:=Rep.unhide (pre:=[.fr ⟨.fn,env,ls'⟩]) (s':={ s3 with heap:=h' }) R5 ext;have ho'':h'.get? a=some o:=(R6.frs (.hid a o) (.tail _ (.head _))).1.1;have kk:=k3.trans k6;have St:zcZ T.C h' a (.pset l):=zfB.keep S1 (ho''.trans ho.symm) λ b o e c d=>⟨o.slots,kk b o e c d⟩
  exact wpAny_execs_nil ⟨.next,ls',_,trivial,Rep.showObj (pre:=[.fr ⟨.fn,env,ls'⟩]) R6 hn0 St,k1.trans kk,h2 ls' H' hJ⟩
end
noncomputable abbrev zbW (vs:Array Value)(n:Nat):Obj:={ cls:=.type "list",dict:=none,data:=.seq vs n,slots:=#[] }
theorem zqC {vs:Array Value}{n:Nat}:zbR (zbW vs n):=.cls (by show Value.type "list" ≠ Value.type "tuple";decide)
noncomputable def CS (C:Cx)(f:FR)(mid:List AF)(D:Addr)(out:List PV)(post:List AF)(H:zaA)(s:Shared):Prop:=
 ∃ vs n,PRs s.heap out vs.toList/\Rep C (.fr f::(mid++.hid D (zbW vs n)::post)) H s
noncomputable def zrL (T:Tr)(f:FR)(Fs:List AF)(H:zaA):List Expr->(Bool->zaA->Prop)->Prop
 | [],Q=>Q true H
 | c::r,Q=>AT T f Fs H c (λ b H1'=>if b then zrL T f Fs H1' r Q else Q false H1') NoE
noncomputable def zfH (T:Tr)(f:FR)(D:Addr)(post:List AF)(emit:Value->Env->Sem Unit)(H:zaA)(out:List PV)(K:List PV->zaA->Prop):Prop:=
 ∀ A s mid,AOk T (.fr f::(mid++.hid D (zbW #[] 0)::post)) A->CS T.C f mid D out post H s->wpAny T.C.M A (emit (.ref D) f.env) (λ _ s'=>∃ out' H',CS T.C f mid D out' post H' s'/\zaB s.heap s'.heap/\K out' H') NoE s
noncomputable def Sub (ls ls':Ls):Prop:=∀ y p,ls.lookup y=some p->ls'.lookup y=some p
theorem Sub.refl (ls:Ls):Sub ls ls:=λ _ _ e=>e
theorem Sub.cons {ls ls':Ls}{x:Str}{p:PV}(h:Sub ls ls')(hx:ls.lookup x=none):Sub ls ((x,p)::ls'):=λ y q e=>by
 rw[List.lookup_cons]
 by_cases hy:y=x
 ·subst hy;rw[hx]at e;cases e
 ·rw[beq_eq_false_iff_ne.mpr hy];exact h y q e
noncomputable def zmS (ifs:List Expr)(env:Env):Sem Bool:=forIn ifs true λ c r=>if r=true then do let ok <- isTrue c env (eval c env);pure (ForInStep.yield ok) else pure (ForInStep.yield r)
structure zbN (elt:Expr)(gens:List Comprehension)(scope:Scope)(pos:Pos)(d:Nat)(target:Expr)(ifs:List Expr)(emit:Value->Env->Sem Unit):Prop where
 turn:∃ p0,∀ it acc env,compTurn (.ListComp elt gens scope pos) d it acc env=(standAt p0 >>= λ _=>pyNext it >>= λ r=>match r with
  | none=>pure (.done .next)
  | some v=>letOwnedTupleGo target it v >>= λ _=>assign target env v >>= λ _=>zmS ifs env >>= λ ok=>
   (if ok=true then (emit acc env >>= λ _=>again (.compLoop (.ListComp elt gens scope pos) d it acc env)) else again (.compLoop (.ListComp elt gens scope pos) d it acc env)))
 start:∃ g,gens[d]?=some g/\g.is_async=0
section
variable {T:Tr}{f:FR}{env:Env}{ls:Ls}{Fs:List AF}{H:zaA}{E:Value->Shared->Prop}{s:Shared}{A:Around}
theorem zeF {vs:Array Value}{n:Nat}:¬ zwA (zbW vs n):=λ u9=>q12 u9 λ _ h _=>nomatch h
theorem AOk.same {Gs Gs':List AF}(ok:AOk T Gs A)(h:zbP Gs'=zbP Gs)(hc:∀ x∈zjL Gs,zwA x.2->x∈zjL Gs')(hl:T.Look Gs'):AOk T Gs' A:=⟨h▸ok.frames,ok.depth,ok.units,ok.handled,λ v e=>
 let ⟨a,o,r,m,c⟩:=ok.ctx v e;⟨a,o,r,hc _ m c,c⟩,hl⟩
theorem yaN {pre post:List AF}{D:Addr}{o o':Obj}:∀ f,AF.fr f∈pre++.hid D o::post->AF.fr f∈pre++.hid D o'::post:=λ f h=>
 (List.mem_append.mp h).elim (List.mem_append_left _) λ h=>List.mem_append_right _ ((List.mem_cons.mp h).elim (λ e=>nomatch e) (.tail _))
theorem zrX {pre post:List AF}{D:Addr}{o o':Obj}(hn:¬ zwA o):∀ x∈zjL (pre++.hid D o::post),zwA x.2->x∈zjL (pre++.hid D o'::post):=λ x hx hc=>by
 refine zmZ.mpr ((List.mem_append.mp (zmZ.mp hx)).elim (List.mem_append_left _) λ h=>List.mem_append_right _ ?_);refine (List.mem_cons.mp h).elim (λ e=>?_) (.tail _)
 injection e with e1 e2
 exact absurd (e2▸hc) hn
theorem zpE {pre post:List AF}{a:Addr}{o:Obj}:zbP (pre++.hid a o::post)=zbP (pre++post):=by
 induction pre with
 | nil=>rfl
 | cons x pre ih=>
  cases x with
  | fr f=>
   obtain⟨c,e,l⟩:=f;cases c with
   | fn=>exact congrArg (e::·) ih
   | cp cs=>exact ih
  | hid b o'=>exact ih
  | gh g=>exact ih
theorem ygF {c:FK}{Fs':List AF}{ifs:List Expr}{Q:Bool->zaA->Prop}(h:zrL T ⟨c,env,ls⟩ Fs' H ifs Q)(ok:AOk T (.fr ⟨c,env,ls⟩::Fs') A)(R:Rep T.C (.fr ⟨c,env,ls⟩::Fs') H s):
  wpAny T.C.M A (zmS ifs env) (znF T (.fr ⟨c,env,ls⟩::Fs') s Q) NoE s:=by
 have off:∀ (ifs:List Expr) (s:Shared) (Q':Bool->Shared->Prop),Q' false s->wpAny T.C.M A (forIn ifs false λ c r=>if r=true then do let ok <- isTrue c env (eval c env);pure (ForInStep.yield ok) else pure (ForInStep.yield r)) Q' NoE s:=by
  intro ifs
  induction ifs with
  | nil=>intro s Q' h;exact wpAny_pure h
  | cons c ifs ih=>intro s Q' h;rw[List.forIn_cons];exact wpAny_bind (wpAny_pure (ih s Q' h))
 unfold zmS
 induction ifs generalizing s H with
 | nil=>exact wpAny_pure ⟨H,R,zaB.refl _,h⟩
 | cons e ifs ih=>
  rw[List.forIn_cons];simp only[if_true];refine wpAny_bind (wpAny_bind (wpAny_mono (h A s ok R) (λ b s1 hh=>hh.elim λ H1' R1 k1 h1'=>wpAny_pure ?_) λ _ _ x=>x));cases b with
  | true=>exact wpAny_mono (ih h1' R1) (λ b s2 hh=>hh.elim λ H2' R2 k2 h2=>⟨H2',R2,k1.trans k2,h2⟩) λ _ _ x=>x
  | false=>exact off ifs s1 _ ⟨H1',R1,k1,h1'⟩
theorem zhV {mid post:List AF}{D:Addr}{o o':Obj}:zbP (mid++.hid D o::post)=zbP (mid++.hid D o'::post):=zpE.trans zpE.symm
theorem AOk.mid {c:FK}{ls':Ls}{mid post:List AF}{D:Addr}{o o':Obj}(hn:¬ zwA o)(ok:AOk T (.fr ⟨c,env,ls⟩::(mid++.hid D o::post)) A):AOk T (.fr ⟨c,env,ls'⟩::(mid++.hid D o'::post)) A:=
 ok.same (by cases c with|fn=>exact congrArg (env::·) zhV|cp _=>exact zhV) (zrX (pre:=mid) hn) (ok.look.head yaN)
theorem AOk.mid2 {c:FK}{ls':Ls}{mid post:List AF}{D it:Addr}{o o' q q':Obj}(hq:¬ zwA q)(hn:¬ zwA o)(ok:AOk T (.fr ⟨c,env,ls⟩::(.hid it q::(mid++.hid D o::post))) A):AOk T (.fr ⟨c,env,ls'⟩::(.hid it q'::(mid++.hid D o'::post))) A:=
 ok.same (by cases c with|fn=>exact congrArg (env::·) zhV|cp _=>exact zhV) (λ x hx hc=>by
  have hx:x∈(it,q)::zjL (mid++.hid D o::post):=hx;exact (List.mem_cons.mp hx).elim (λ e=>absurd (by rw[e]at hc;exact hc) hq) λ h=>.tail _ (zrX (pre:=mid) hn x h hc)) (ok.look.head λ f h=>(List.mem_cons.mp h).elim (λ e=>nomatch e) λ h=>.tail _ (yaN f h))
theorem AOk.mid3 {c:FK}{ls':Ls}{mid post:List AF}{D it:Addr}{o o' q':Obj}(hn:¬ zwA o)(ok:AOk T (.fr ⟨c,env,ls⟩::(mid++.hid D o::post)) A):AOk T (.fr ⟨c,env,ls'⟩::(.hid it q'::(mid++.hid D o'::post))) A:=
 ok.same (by cases c with|fn=>exact congrArg (env::·) zhV|cp _=>exact zhV) (λ x hx hc=>.tail _ (zrX (pre:=mid) hn x hx hc)) (ok.look.head λ f h=>.tail _ (yaN f h))
noncomputable def zpW (T:Tr)(c:FK)(env:Env)(ls:Ls)(target:Expr)(ifs:List Expr)(emit:Value->Env->Sem Unit)(D:Addr)(post:List AF)(I:Nat->AIt->List PV->zaA->Prop)(D':List PV->zaA->Prop):Prop:=
 ∀ n x out H',I n x out H'->zgL H' x (λ p x'=>∀ Fs',AA T ⟨c,env,ls⟩ Fs' H' target p (λ ls' H2'=>Sub ls ls'/\zrL T ⟨c,env,ls'⟩ Fs' H2' ifs (λ b H3=>if b then zfH T ⟨c,env,ls'⟩ D post emit H3 out (λ out' H4=>∃ m,m<n/\I m x' out' H4) else ∃ m,m<n/\I m x' out H3)) NoE) (D' out H')
noncomputable def CLI (C:Cx)(f:FR)(it D:Addr)(mid post:List AF)(I:Nat->AIt->List PV->zaA->Prop)(h₀:Heap)(n:Nat)(s':Shared):Prop:=
 ∃ x out H' o,zvS o x/\I n x out H'/\CS C f (.hid it o::mid) D out post H' s'/\zaB h₀ s'.heap
theorem zsY {elt target:Expr}{gens:List Comprehension}{scope:Scope}{pos:Pos}{d:Nat}{ifs:List Expr}{emit:Value->Env->Sem Unit}{c:FK}{D it:Addr}{mid post:List AF}{o:Obj}{x:AIt}{out:List PV}{R':Result->Shared->Prop}(sh:zbN elt gens scope pos d target ifs emit)
  (I:Nat->AIt->List PV->zaA->Prop) (n:Nat) (hI:I n x out H) (D':List PV->zaA->Prop)
  (turn:zpW T c env ls target ifs emit D post I D')
  (hi:zvS o x) (ok:AOk T (.fr ⟨c,env,ls⟩::(.hid it o::(mid++.hid D (zbW #[] 0)::post))) A) (S:CS T.C ⟨c,env,ls⟩ (.hid it o::mid) D out post H s)
  (hR:∀ s' out' H',CS T.C ⟨c,env,ls⟩ mid D out' post H' s'->zaB s.heap s'.heap->D' out' H'->R' (.ok .next) s'):
  codeAny T.C.M A (.compLoop (.ListComp elt gens scope pos) d (.ref it) (.ref D) env) R' s:=by
 obtain⟨p0,ht⟩:=sh.turn;have hi0:=hi;refine codeAny_loop rfl (CLI T.C ⟨c,env,ls⟩ it D mid post I s.heap) ?_ n ⟨x,out,H,o,hi,hI,S,zaB.refl _⟩;rintro n s1 ⟨x,out,H',o,hi,hI,⟨vs,k,prs,R1⟩,k1⟩
 show wpAny _ A ((compTurn (.ListComp elt gens scope pos) d (.ref it) (.ref D) env).onRaise (λ x=>do noteFrame x env;theTreesLotGoes x)) _ _ s1
 refine wpAny_noted ?_;rw[ht];refine wpAny_bind (wpAny_standAt (wpAny_bind ?_));refine zzZ (pre:=[.fr ⟨c,env,ls⟩]) ((AOk.mid2 (q':=o) (ls':=ls) (o':=zbW vs k) hi0.nc zeF ok).hdc R1) R1 hi (turn n x out H' hI) (λ p x' v o' s2 hK hi' pv R2 k2=>?_) (λ s2 hD R2 k2=>?_)
 ·refine wpAny_bind (zoA (pre:=[.fr ⟨c,env,ls⟩]) R2 hi' ?_)
  refine wpAny_bind (wpAny_mono (hK _ A s2 v (ok.mid2 hi0.nc zeF) R2 pv) (λ _ s3 hh=>hh.elim λ ls' H3 R3 k3 hT=>?_) λ _ _ e=>e.elim);refine wpAny_bind (wpAny_mono (ygF hT.2 (ok.mid2 hi0.nc zeF) R3) (λ b s4 hh=>hh.elim λ H4 R4 k4 hb=>?_) λ _ _ e=>e.elim);have kk:=k2.trans (k3.trans k4);have prs':=PRs.keep kk _ prs;cases b with
  | false=>
   refine zdY (by decide) ?_;refine q12 hb λ m hm hI'=>?_;exact wpAny_pure ⟨rfl,m,hm,x',out,H4,o',hi',hI',⟨vs,k,prs',R4.weak hT.1 λ _ _ e=>e⟩,k1.trans kk⟩
  | true=>
   refine zjK rfl ?_;rw[if_pos rfl]at hb;refine wpAny_bind (wpAny_mono (hb A s4 (.hid it o'::mid) (ok.mid2 hi0.nc zeF) ⟨vs,k,prs',R4⟩) (λ _ s5 hh=>?_) λ _ _ e=>e.elim);refine q23 hh λ out' H5 u0 k5 u8=>q12 u8 λ m hm hI'=>?_;obtain⟨vs',k',prs',R5⟩:=u0;exact wpAny_pure ⟨rfl,m,hm,x',out',H5,o',hi',hI',⟨vs',k',prs',R5.weak hT.1 λ _ _ e=>e⟩,k1.trans (kk.trans k5)⟩
 ·exact wpAny_pure (hR s2 out H' ⟨vs,k,PRs.keep k2 _ prs,R2⟩ (k1.trans k2) hD)
end
theorem ziF:entryFor table "range_iterator.__iter__" = some Builtin.«dict_keyiterator.__iter__»:=
 entryFor_alias (id' := "dict_keyiterator.__iter__") (by kernel_rfl) rfl (by decide +kernel) (by kernel_rfl)
section
variable {T:Tr}{f:FR}{env:Env}{ls:Ls}{Fs:List AF}{H:zaA}{E:Value->Shared->Prop}{s:Shared}{A:Around}
theorem zvV {pre post:List AF}{it:Addr}{o:Obj}{x:AIt}{Q:Value->Shared->Prop}(R:Rep T.C (pre++.hid it o::post) H s)(hi:zvS o x)(h:Q (.ref it) s):wpAny T.C.M A (pyIter (.ref it)) Q E s:=by
 obtain⟨⟨ho,_⟩,_⟩:=R.frs (.hid it o) (by simp);cases x with
 | list a i=>exact wpAny_pyIter_listiter ⟨o,ho,hi.1,hi.2⟩ h
 | range x left=>
  have hT:s.TypeIs (.ref it) "range_iterator" := ⟨o,ho,by rw[show o=_ from hi]⟩
  refine wpAny_pyIter_slot hT F.slot_range_iterator_iter (wpAny_call_entry F.slot_range_iterator_iter hT ziF ?_ (F.args_range_iterator_iter_1 _))
  show wpAny _ _ (ret (.ref it)) _ _ s
  exact wpAny_pure ⟨_,rfl, "range_iterator",_,hT,F.slot_range_iterator_next.lookup,h⟩
theorem zpX {elt target:Expr}{gens:List Comprehension}{scope:Scope}{pos:Pos}{d:Nat}{ifs:List Expr}{emit:Value->Env->Sem Unit}{it D:Addr}{pre post:List AF}{o:Obj}{x:AIt}{R':Result->Shared->Prop}(sh:zbN elt gens scope pos d target ifs emit)
  (hi:zvS o x) (R:Rep T.C (pre++.hid it o::post) H s) (h:codeAny T.C.M A (.compLoop (.ListComp elt gens scope pos) d (.ref it) (.ref D) env) R' s):
  codeAny T.C.M A (.compStart (.ListComp elt gens scope pos) d (.ref it) (.ref D) env) R' s:=by
 refine q12 sh.start λ g hg ha=>?_;refine codeAny_of_tree ?_
 show wpAny _ A ((compStart (.ListComp elt gens scope pos) d (.ref it) (.ref D) env).onRaise (λ x=>do noteFrame x env;standAt theWindowsPlace)) _ _ s
 refine wpAny_notedAt ?_;unfold compStart;have hc:(clausesOf (.ListComp elt gens scope pos))[d]?=some g:=hg;rw[hc];have:((some g).elim false λ x=>x.is_async != 0)=false:=by simp[ha]
 rw[this,if_neg (by decide)];refine wpAny_bind (wpAny_askSetting (wpAny_ite ?_));split
 ·exact wpAny_pure ⟨rfl,h⟩
 ·refine wpAny_bind (wpAny_rule ?_)
  dsimp only;refine wpAny_bind (wpAny_standAt (wpAny_bind (zvV R hi (wpAny_pure ⟨rfl,h⟩))))
noncomputable def zmW (elt:Expr)(acc:Value)(env:Env):Sem Unit:=eval elt env >>= λ x=>call (.builtin "list.append") [acc,x] >>= λ _=>pure ()
theorem zfH.elt {elt:Expr}{D:Addr}{post:List AF}{out:List PV}{K:List PV->zaA->Prop}(hz:out.length<=100000)(h:∀ Fs',AE T f Fs' H elt (λ v H'=>K (out++[v]) H') NoE):zfH T f D post (zmW elt) H out K:=λ A s mid ok S=>by
 refine q22 S λ vs n prs R=>?_;refine wpAny_bind (wpAny_mono (h _ A s (AOk.mid zeF ok) R) (λ v s1 hh=>hh.elim λ p H1' pr R1 k1 h1'=>?_) λ _ _ e=>e);have il:IsL s1.heap D vs n:=(R1.frs (.hid D (zbW vs n)) (by simp)).1.1;have hs:=zeH prs;refine wpAny_bind (call_meets slot_list_append ⟨_,il,rfl⟩ entry_list_append (args_list_append _ _) (list_append D vs n v (by rw[hs];exact Nat.le_trans hz (by decide))) ⟨il,?_⟩);obtain⟨R2,k2⟩:=Rep.hidden (pre:=.fr f::mid) (s':={ s1 with heap:=s1.heap.update D (Obj.mapSeq λ x=>x.push v) }) R1 (zoE il _) (IsL.update il _) zqC;have kk:=k1.trans k2;refine wpAny_pure ⟨out++[p],H1',⟨_,_,?_,R2⟩,kk,h1'⟩;rw[Array.toList_push];exact (PRs.keep kk _ prs).append (PRs.cons (pr.keep k2) PRs.nil)
noncomputable def zjG (elt:Expr)(gens:List Comprehension)(scope:Scope)(pos:Pos)(d:Nat)(iter:Expr)(acc:Value)(env:Env):Sem Unit:=
 eval iter env >>= λ x=>standAt iter.pos >>= λ _=>foldedSetIterable iter env x >>= λ x=>holding [x] (pyIter x) >>= λ it=>runOwn (.compStart (.ListComp elt gens scope pos) d it acc env) env >>= λ _=>pure ()
theorem zfH.nest {elt iter target:Expr}{gens:List Comprehension}{scope:Scope}{pos:Pos}{d:Nat}{ifs:List Expr}{emit:Value->Env->Sem Unit}{c:FK}{D:Addr}{post:List AF}{out:List PV}{K:List PV->zaA->Prop}(sh:zbN elt gens scope pos d target ifs emit)
  (hs:∀ x,foldedSetIterable iter env x=pure x)
  (h:∀ Fs',AE T ⟨c,env,ls⟩ Fs' H iter (λ p H1'=>∃ x,zdU T (.fr ⟨c,env,ls⟩::Fs') H1' p x/\∃ (I:Nat->AIt->List PV->zaA->Prop) (n:Nat),I n x out H1'/\zpW T c env ls target ifs emit D post I K) NoE):
  zfH T ⟨c,env,ls⟩ D post (zjG elt gens scope pos d iter) H out K:=λ A s mid ok S=>by
 refine q22 S λ vs n prs R=>?_;have ok':=AOk.mid (ls':=ls) (o':=zbW vs n) zeF ok;refine wpAny_bind (wpAny_mono (h _ A s ok' R) (λ v s1 pp=>pp.elim λ p H1' pr R1 k1 h=>?_) λ _ _ e=>e);refine q12 h λ x hx u8=>q22 u8 λ I m hI turn=>?_;refine wpAny_bind (wpAny_standAt (wpAny_bind (wpAny_of_eq (hs v) (wpAny_bind (wpAny_holding ?_)))));refine hx A s1 v _ _ ok' R1 pr λ it o s2 hi R2 k2=>?_;have R2:=R2.swap;have kk:=k1.trans k2;refine wpAny_bind (wpAny_runOwn (zpX (pre:=[.fr ⟨c,env,ls⟩]) sh hi R2 ?_));refine zsY (T:=T) (mid:=mid) sh I m hI K turn hi (by show AOk T _ A;exact ok'.mid3 zeF) ⟨vs,n,PRs.keep kk _ prs,R2⟩ λ s3 out' H' S' k3 hK=>?_;exact wpAny_pure ⟨out',H',S',kk.trans k3,hK⟩
theorem ygQ {elt target iter:Expr}{ifs:List Expr}{scope:Scope}{pos:Pos}:zbN elt [⟨target,iter,ifs,0⟩] scope pos 0 target ifs (zmW elt):=
 ⟨⟨iter.pos,λ it acc env=>by
  rw[compTurn_list]
  rfl⟩,⟨_,rfl,rfl⟩⟩
end
noncomputable def zbD (env:Env):List (Str×NameKind)->List (Str×Addr)->List (Str×Addr)
 | [],acc=>acc
 | (n,k)::r,acc=>if k==.free then zbD env r ((n,(env.cells.lookup n).getD 0)::acc) else zbD env r acc
theorem zgX {env:Env}{n:Str}{k:NameKind}{r:List (Str×NameKind)}{acc:List (Str×Addr)}:zbD env ((n,k)::r) acc=if (k==.free)=true then zbD env r ((n,(env.cells.lookup n).getD 0)::acc) else zbD env r acc:=rfl
theorem ziW {scope:Scope}{env:Env}(h:∀ n,(n,NameKind.free)∈scope.names->∃ c,env.cells.lookup n=some c):closureFor scope env=pure (zbD env scope.names []):=by
 unfold closureFor;have main:∀ (names:List (Str×NameKind)) (acc:List (Str×Addr)),(∀ n,(n,NameKind.free)∈names->∃ c,env.cells.lookup n=some c) ->
   (forIn names acc λ (x:Str×NameKind) cs=>match x with | (name,kind)=>(if (kind==NameKind.free)=true then do
     let c <- cellOf env name
     pure (ForInStep.yield ((name,c)::cs)) else pure (ForInStep.yield cs):Sem (ForInStep (List (Str×Addr)))))=pure (zbD env names acc):=by
  intro names
  induction names with
  | nil=>intro acc _;rfl
  | cons x names ih=>
   obtain⟨n,k⟩:=x;intro acc hx;rw[List.forIn_cons,zgX]
   by_cases hk:(k==NameKind.free)=true
   ·have hk':k=.free:=by simpa using hk
    subst hk';obtain⟨c,hc⟩:=hx n (.head _);simp only[beq_self_eq_true,if_true];have:cellOf env n=pure c:=by unfold cellOf;rw[hc]
    rw[this];simp only[pure_bind];rw[ih _ λ m hm=>hx m (.tail _ hm),hc];rfl
   ·rw[if_neg hk]
    dsimp only;rw[if_neg hk];simp only[pure_bind];exact ih _ λ m hm=>hx m (.tail _ hm)
 exact (congrArg (λ m:Sem (List (Str×Addr))=>m >>= λ cs=>pure cs) (main scope.names [] h)).trans rfl
theorem ziL {env:Env}{x:Str}(names:List (Str×NameKind)):∀ (acc:List (Str×Addr)),(names.map (·.1)).Nodup->(zbD env names acc).lookup x=if names.lookup x=some .free then some ((env.cells.lookup x).getD 0) else acc.lookup x:=by
 induction names with
 | nil=>exact λ _ _=>(if_neg λ h=>nomatch h).symm
 | cons a r ih=>
  obtain⟨n,k⟩:=a;intro acc hn;obtain⟨h1,h2⟩:=List.nodup_cons.mp hn;rw[zgX,List.lookup_cons]
  by_cases e:x=n
  ·subst e
   have hr:r.lookup x≠some .free:=λ q=>h1 (List.mem_map.mpr ⟨_,mem_of_lookup q,rfl⟩);rw[beq_self_eq_true]
   by_cases hk:(k==NameKind.free)=true
   ·cases eq_of_beq hk
    rw[if_pos hk,ih _ h2,if_neg hr,if_pos rfl,List.lookup_cons,beq_self_eq_true]
   ·rw[if_neg hk,ih _ h2,if_neg hr,if_neg λ q=>hk (by cases q;rfl)]
  ·rw[beq_eq_false_iff_ne.mpr e]
   split
   ·rw[ih _ h2,List.lookup_cons,beq_eq_false_iff_ne.mpr e]
   ·exact ih _ h2
theorem zpZ {env:Env}{y:Str×Addr}(names:List (Str×NameKind)):∀ (acc:List (Str×Addr)),y∈zbD env names acc->y∈acc\/((y.1,NameKind.free)∈names/\y.2=(env.cells.lookup y.1).getD 0):=by
 induction names with
 | nil=>exact λ _ h=>.inl h
 | cons a r ih=>
  obtain⟨n,k⟩:=a;intro acc h;rw[zgX]at h
  by_cases hk:(k==NameKind.free)=true
  ·rw[if_pos hk]at h
   cases eq_of_beq hk;refine (ih _ h).elim (λ h=>(List.mem_cons.mp h).elim (λ e=>?_) .inl) λ h=>.inr ⟨.tail _ h.1,h.2⟩;subst e;exact .inr ⟨.head _,rfl⟩
  ·rw[if_neg hk]at h
   exact (ih _ h).imp id λ h=>⟨.tail _ h.1,h.2⟩
theorem zkS {env:Env}(ha:env.cells.Pairwise λ x y=>x.2≠y.2)(names:List (Str×NameKind)):∀ (acc:List (Str×Addr)),(acc.map (·.1)++names.map (·.1)).Nodup->(∀ y∈acc,y∈env.cells)->(∀ n,(n,NameKind.free)∈names->∃ c,env.cells.lookup n=some c)->acc.Pairwise (λ x y=>x.2≠y.2)->(zbD env names acc).Pairwise λ x y=>x.2≠y.2:=by
 induction names with
 | nil=>exact λ _ _ _ _ h=>h
 | cons a r ih=>
  obtain⟨n,k⟩:=a;intro acc hn hm hx h;rw[zgX]
  by_cases hk:(k==NameKind.free)=true
  ·rw[if_pos hk]
   cases eq_of_beq hk;obtain⟨c,hc⟩:=hx n (.head _);have hmem:=mem_of_lookup hc;have hp:=List.perm_middle.nodup_iff.mp hn;rw[hc];exact ih _ hp (λ y hy=>(List.mem_cons.mp hy).elim (λ e=>e▸hmem) (hm y)) (λ m hm=>hx m (.tail _ hm)) (List.pairwise_cons.mpr ⟨λ y hy=>zwO ha hmem (hm y hy) λ e=>(List.nodup_cons.mp hp).1 (List.mem_append_left _ (e▸List.mem_map.mpr ⟨y,hy,rfl⟩)),h⟩)
  ·rw[if_neg hk]
   exact ih acc (hn.sublist (List.Sublist.append (List.Sublist.refl _) (List.sublist_cons_self _ _))) hm (λ m hm=>hx m (.tail _ hm)) h
noncomputable def zkC (ns nm:List (Str×NameKind)):List (Str×NameKind):=ns.map λ (n,k)=>if k==.free&&nm.lookup n==some .cell then (n,.cell) else (n,k)
theorem zgQ {nm:List (Str×NameKind)}{x:Str}(ns:List (Str×NameKind)):(zkC ns nm).lookup x=(ns.lookup x).map λ k=>if k==.free&&nm.lookup x==some .cell then .cell else k:=by
 induction ns with
 | nil=>rfl
 | cons a r ih=>
  obtain⟨n,k⟩:=a;have e1:zkC ((n,k)::r) nm=(n,if k==.free&&nm.lookup n==some .cell then .cell else k)::zkC r nm:=congrArg (·::_) (by dsimp only;split <;> rfl);rw[e1,List.lookup_cons,List.lookup_cons]
  by_cases e:x=n
  ·subst e;rw[beq_self_eq_true];rfl
  ·rw[beq_eq_false_iff_ne.mpr e];exact ih
noncomputable def zdL (ns:List (Str×NameKind))(ls:Ls):Ls:=ls.filter λ e=>!zgO (ns.lookup e.1)
theorem zbU {ns:List (Str×NameKind)}{x:Str}{p:PV}{ls:Ls}:(zdL ns ls).lookup x=some p->ls.lookup x=some p/\zgO (ns.lookup x)=false:=by
 induction ls with
 | nil=>exact λ h=>by cases h
 | cons e ls ih=>
  intro h;obtain⟨y,q⟩:=e;unfold zdL at h ih;rw[List.filter_cons]at h
  by_cases e:x=y
  ·subst e
   cases hc:zgO (ns.lookup x) with
   | true=>
    rw[if_neg (by rw[hc];decide)]at h;rw[(ih h).2]at hc;cases hc
   | false=>
    rw[if_pos (by rw[hc];rfl)]at h;rw[List.lookup_cons,beq_self_eq_true]at h ⊢;exact⟨h,rfl⟩
  ·have hb:=beq_eq_false_iff_ne.mpr e
   rw[List.lookup_cons,hb];split at h
   ·rw[List.lookup_cons,hb]at h
    exact ih h
   ·exact ih h
structure zeB (scope:Scope)(nm:List (Str×NameKind)):Prop where
 kind:scope.kind=.function
 nodup:(scope.names.map (·.1)).Nodup
 free:∀ x∈scope.names,x.2=.free->nm.lookup x.1=some .cell\/nm.lookup x.1=some .free
theorem ynJ (names:List (Str×NameKind)):∀ (h:Heap) (acc:List (Str×Addr)),∀ y∈cellsFrom h.objs.size names acc,y∈acc\/(h.objs.size<=y.2/\(pushCells h names).IsCell y.2 none):=by
 induction names with
 | nil=>exact λ h acc y hy=>.inl hy
 | cons e r ih=>
  intro h acc y hy;obtain⟨name,kind⟩:=e;unfold cellsFrom at hy;unfold pushCells
  by_cases hk:(kind==NameKind.cell)=true
  ·rw[if_pos hk]at hy ⊢
   rw[<- Heap.size_push (h:=h) (o:={ cls:=.type "cell",data:=.cell none })]at hy;rcases ih _ _ y hy with hy|⟨h1,h2⟩
   ·rcases List.mem_cons.mp hy with rfl|hy
    ·exact .inr ⟨Nat.le_refl _,_,pushCells_keeps _ _ _ _ (Heap.get?_push_size _ rfl),rfl⟩
    ·exact .inl hy
   ·rw[Heap.size_push]at h1
    exact .inr ⟨Nat.le_of_succ_le h1,h2⟩
  ·rw[if_neg hk]at hy ⊢
   exact ih h acc y hy
theorem yfP (names:List (Str×NameKind)):∀ (n:Nat) (acc:List (Str×Addr)),(∀ y∈acc,y.2<n)->acc.Pairwise (λ x y=>x.2≠y.2)->(cellsFrom n names acc).Pairwise λ x y=>x.2≠y.2:=by
 induction names with
 | nil=>exact λ n acc _ h=>h
 | cons e r ih=>
  intro n acc hl hp;obtain⟨name,kind⟩:=e;unfold cellsFrom
  by_cases hk:(kind==NameKind.cell)=true
  ·rw[if_pos hk]
   refine ih _ _ (λ y hy=>?_) (List.pairwise_cons.mpr ⟨λ y hy e=>?_,hp⟩)
   ·rcases List.mem_cons.mp hy with rfl|hy
    ·exact Nat.lt_succ_self n
    ·exact Nat.lt_succ_of_lt (hl y hy)
   ·have:=hl y hy
    rw[<- show n=y.2 from e]at this;exact Nat.lt_irrefl _ this
  ·rw[if_neg hk]
   exact ih n acc hl hp
theorem zvE {x:Str}{r:List (Str×NameKind)}(h:x∉r.map (·.1)):r.lookup x=none:=by
 cases e:r.lookup x with
 | none=>rfl
 | some k=>exact absurd (List.mem_map.mpr ⟨(x,k),mem_of_lookup e,rfl⟩) h
theorem ycB {x:Str}(names:List (Str×NameKind)):∀ (n:Nat) (acc:List (Str×Addr)),(names.map (·.1)).Nodup ->
  (names.lookup x=some .cell->∃ d,(cellsFrom n names acc).lookup x=some d/\n<=d)/\(names.lookup x≠some .cell->(cellsFrom n names acc).lookup x=acc.lookup x):=by
 induction names with
 | nil=>exact λ n acc _=>⟨(λ e=>by cases e),λ _=>rfl⟩
 | cons e r ih=>
  intro n acc hn;obtain⟨name,kind⟩:=e;obtain⟨h1,h2⟩:=List.nodup_cons.mp (show (name::r.map (·.1)).Nodup from hn);unfold cellsFrom
  by_cases hx:x=name
  ·subst hx
   have hr:=zvE h1;rw[List.lookup_cons,beq_self_eq_true]
   by_cases hk:(kind==NameKind.cell)=true
   ·rw[if_pos hk]
    have hk':kind=.cell:=by simpa using hk
    subst hk';refine⟨λ _=>⟨n,?_,Nat.le_refl n⟩,λ h=>absurd rfl h⟩;rw[(ih (n+1) ((x,n)::acc) h2).2 (by rw[hr];exact λ e=>by cases e),List.lookup_cons,beq_self_eq_true]
   ·rw[if_neg hk]
    have hne:kind≠.cell:=λ e=>hk (by rw[e];rfl);exact⟨λ e=>absurd (Option.some.inj e) hne,λ _=>(ih n acc h2).2 (by rw[hr];exact λ e=>by cases e)⟩
  ·have hb:=beq_eq_false_iff_ne.mpr hx
   rw[List.lookup_cons,hb]
   by_cases hk:(kind==NameKind.cell)=true
   ·rw[if_pos hk]
    obtain⟨i1,i2⟩:=ih (n+1) ((name,n)::acc) h2;refine⟨λ e=>(i1 e).imp λ d q=>⟨q.1,Nat.le_of_succ_le q.2⟩,λ e=>(i2 e).trans ?_⟩;rw[List.lookup_cons,hb]
   ·rw[if_neg hk]
    exact ih n acc h2
noncomputable def ownCs (L:Nat)(cs:List (Str×Addr)):List Addr:=(cs.filter λ y=>decide (L<y.2)).map (·.2)
noncomputable def zuJ (own:List Addr)(ns:List (Str×NameKind))(cenv:Env):Prop:=∀ x,ns.lookup x=some .cell->zvT (.cp own) cenv x
theorem zrO {M:Model}{A:Around}{E:Value->Shared->Prop}{s:Shared}{scope:Scope}{globals:Addr}{closure:List (Str×Addr)}{qual:Str}{func:Option Addr}{code:Value}{outer:Env}{builtins:Addr}{Q:Env->Shared->Prop}
  (hQ:∀ h',h'.Ns s.heap.objs.size (λ _=>none)->(∀ b o,s.heap.get? b=some o->h'.get? b=some o)->(∀ y∈cellsFrom (s.heap.objs.size+1) scope.names closure,y∈closure\/(s.heap.objs.size<y.2/\h'.IsCell y.2 none)) ->
   Q (newEnv scope s.heap.objs.size globals (cellsFrom (s.heap.objs.size+1) scope.names closure) qual func code (some outer) builtins) { s with heap:=h' }):
  wpAny M A (newFunctionEnv scope globals closure [] qual func code (some outer) builtins) Q E s:=by
 delta newFunctionEnv
 refine wpAny_bind (wpAny_alloc ?_);refine wpAny_bind (wpAny_layCells _ (λ name kind cells=>by cases hkc:kind==NameKind.cell <;> simp[hkc]) _ _ _ _ ?_);refine wpAny_bind ?_;rw[List.forIn_nil];refine wpAny_pure (wpAny_pure ?_);have hsz:(s.heap.push { cls:=.type "dict",data:=.dict #[] }).objs.size=s.heap.objs.size+1:=Heap.size_push ..;have h:=hQ (pushCells (s.heap.push { cls:=.type "dict",data:=.dict #[] }) scope.names) ((Heap.Ns.new s.heap (.type "dict")).keeps (pushCells_keeps _ _)) (λ b o e=>pushCells_keeps _ _ b o (Heap.get?_push_of_some _ e)) (λ y hy=>(ynJ scope.names (s.heap.push { cls:=.type "dict",data:=.dict #[] }) closure y (by rw[hsz];exact hy)).imp id λ q=>⟨by have:=q.1;rw[hsz]at this;exact this,q.2⟩);rw[show ({ s with heap:=s.heap.push { cls:=.type (if (some outer).isSome=true then "dict" else "frame"),data:=.dict #[] } }:Shared).heap.objs.size=s.heap.objs.size+1 from hsz];exact h
section
variable {T:Tr}{f:FR}{env:Env}{ls:Ls}{Fs:List AF}{H:zaA}{E:Value->Shared->Prop}{s:Shared}{A:Around}
theorem zzJ {C:Cx}{c:FK}{scope:Scope}{nm:List (Str×NameKind)}{mid:List AF}{L:Addr}{s':Shared}(hn:env.scope.names=nm)(sc:zeB scope nm)(R:Rep C (mid++.fr ⟨c,env,ls⟩::Fs) H s)(hmid:∀ g∈mid,∃ a o,g=.hid a o)
  (hL:s.heap.objs.size=L) (ns:s'.heap.Ns L (λ _=>none)) (hk:∀ b o,s.heap.get? b=some o->s'.heap.get? b=some o) (hg:s'.gens=s.gens) (hos:s'.os=s.os)
  (hcl:∀ y∈cellsFrom (L+1) scope.names (zbD env scope.names []),y∈zbD env scope.names []\/(L<y.2/\s'.heap.IsCell y.2 none)):
  ∃ cenv own,cenv=({ newEnv scope L env.globals (cellsFrom (L+1) scope.names (zbD env scope.names [])) env.qual none .none (some env) 0 with scope:=relabel scope env }:Env)/\cenv.scope.names=zkC scope.names nm/\zuJ own scope.names cenv /\
   Rep C (.fr ⟨.cp own,cenv,zdL scope.names ls⟩::(mid++.fr ⟨c,env,ls⟩::Fs)) H s':=by
 have F:zpA s.heap ⟨c,env,ls⟩:=(R.frs (.fr ⟨c,env,ls⟩) (by simp)).1;have hasF:∀ n,(n,NameKind.free)∈scope.names->∃ d,env.cells.lookup n=some d:=λ n hm=>by
  have:=sc.free _ hm rfl;rw[<- hn]at this;exact F.has n this
 have names:(relabel scope env).names=zkC scope.names nm:=by
  unfold relabel zkC;dsimp only;apply List.map_congr_left;rintro⟨n,k⟩ _;have e1:env.kindOf n=nm.lookup n:=by rw[<- hn];rfl
  rw[show env.scope.kind=.function from F.kind,e1]
  simp
 have cmem:∀ y∈zbD env scope.names [],y∈env.cells:=λ y hy=>by
  rcases zpZ _ _ hy with h|⟨h,e⟩
  ·cases h
  ·obtain⟨d,hd⟩:=hasF _ h
   rw[hd]at e;have:=mem_of_lookup hd
   rwa [show (y.1,d)=y from by rw[show d=y.2 from e.symm]]at this
 have clt:∀ y∈zbD env scope.names [],y.2<L:=λ y hy=>by
  refine q22 (F.cells y (cmem y hy)) λ v o ho _=>?_;exact hL▸Heap.lt_size ho
 have cfl:=λ x=>ycB (x:=x) scope.names (L+1) (zbD env scope.names []) sc.nodup;refine⟨_,ownCs L (cellsFrom (L+1) scope.names (zbD env scope.names [])),rfl,names,λ x hx=>?_,?_⟩
 ·refine q12 ((cfl x).1 hx) λ d h1 h2=>?_
  exact⟨d,List.mem_map.mpr ⟨(x,d),List.mem_filter.mpr ⟨mem_of_lookup h1,decide_eq_true h2⟩,rfl⟩,h1⟩
 have tk:=zaB.of_keep hk;have kx:∀ x,((zkC scope.names nm).lookup x=some .cell\/(zkC scope.names nm).lookup x=some .free)->scope.names.lookup x=some .free\/scope.names.lookup x=some .cell:=λ x e=>by
  rw[zgQ]at e;cases q:scope.names.lookup x with
  | none=>rw[q]at e;rcases e with e|e <;> cases e
  | some k'=>
   rw[q]at e;simp only[Option.map_some,Option.some.injEq]at e
   by_cases hc:(k'==NameKind.free&&nm.lookup x==some NameKind.cell)=true
   ·simp at hc;rw[hc.1];exact .inl rfl
   ·rw[if_neg hc]at e
    rcases e with rfl|rfl
    ·exact .inr rfl
    ·exact .inl rfl
 have look:∀ x,scope.names.lookup x=some .free->∃ d,env.cells.lookup x=some d/\(cellsFrom (L+1) scope.names (zbD env scope.names [])).lookup x=some d:=λ x hx=>by
  obtain⟨d,hd⟩:=hasF x (mem_of_lookup hx);refine⟨d,hd,((cfl x).2 (by rw[hx];exact λ e=>by cases e)).trans ?_⟩;rw[ziL _ _ sc.nodup,if_pos hx,hd];rfl
 have R':Rep C (mid++.fr ⟨c,env,ls⟩::Fs) H s':=R.ext hk hg hos;have fresh:∀ n,L<=n->H n=none/\yjJ C n/\∀ f∈mid++.fr ⟨c,env,ls⟩::Fs,n∉f.reads:=λ n hn=>R.fresh_ge (by rw[hL];exact hn);have rd:∀ a∈zsJ ({ newEnv scope L env.globals (cellsFrom (L+1) scope.names (zbD env scope.names [])) env.qual none .none (some env) 0 with scope:=relabel scope env }:Env),L<=a\/∃ y∈zbD env scope.names [],y.2=a:=λ a ha=>by
  rcases List.mem_cons.mp ha with e|ha
  ·exact .inl (Nat.le_of_eq e.symm)
  ·refine q12 (List.mem_map.mp ha) λ y hy u0=>?_;subst u0
   rcases hcl y hy with h|h
   ·exact .inr ⟨y,h,rfl⟩
   ·exact .inl (Nat.le_of_lt h.1)
 refine R'.push ?_ ?_ ?_ ?_ ?_
 ·refine⟨sc.kind,F.globals,F.builtins,⟨_,ns,λ x p e k=>?_⟩,λ y hy=>?_,λ x p e k=>?_,λ x k=>?_,yfP _ _ _ (λ y hy=>Nat.lt_succ_of_lt (clt y hy)) (zkS F.apart _ _ (by simpa using sc.nodup) (λ y hy=>by cases hy) hasF List.Pairwise.nil),λ y hy=>?_,λ e=>by cases e⟩
  ·exfalso
   have k:(relabel scope env).names.lookup x=some .local:=k;rw[names,zgQ]at k;have:=(zbU e).2;cases q:scope.names.lookup x with
   | none=>rw[q]at k;cases k
   | some k'=>
    rw[q]at k this;simp only[Option.map_some,Option.some.injEq]at k;split at k
    ·cases k
    ·subst k;cases this
  ·rcases hcl y hy with h|h
   ·obtain⟨v,r⟩:=F.cells y (cmem y h)
    exact⟨v,zbY r λ o e=>hk _ o e⟩
   ·exact⟨none,h.2⟩
  ·have k:(relabel scope env).names.lookup x=some .cell\/(relabel scope env).names.lookup x=some .free:=k
   rw[names]at k;have hx:scope.names.lookup x=some .free:=(kx x k).resolve_right λ q=>by
    have:=(zbU e).2;rw[q]at this;cases this
   refine q12 (look x hx) λ d h1 h2=>?_;have hck:=sc.free _ (mem_of_lookup hx) rfl;rw[<- hn]at hck;refine q23 (F.cellv x p (zbU e).1 hck) λ d' v e1 r pr=>?_;rw[show env.cells.lookup x=some d from h1]at e1;cases e1;exact⟨d,v,h2,zbY r (λ o e=>hk _ o e),pr.keep tk⟩
  ·have k:(relabel scope env).names.lookup x=some .cell\/(relabel scope env).names.lookup x=some .free:=k
   rw[names]at k;rcases kx x k with hx|hx
   ·refine q12 (look x hx) λ d h1 h2=>?_
    exact⟨d,h2⟩
   ·exact ((cfl x).1 hx).imp λ d q=>q.1
  ·rcases hcl y hy with h|h
   ·exact Nat.ne_of_lt (clt y h)
   ·exact (Nat.ne_of_lt h.1).symm
 ·intro a ha
  rcases rd a ha with h|⟨y,hy,rfl⟩
  ·exact (fresh a h).2.1.1
  ·exact (R.frs (.fr ⟨c,env,ls⟩) (by simp)).2 y.2 (List.mem_cons_of_mem _ (List.mem_map.mpr ⟨y,cmem y hy,rfl⟩))
 ·intro a ha
  rcases rd a ha with h|⟨y,hy,rfl⟩
  ·exact (fresh a h).1
  ·cases q:H y.2 with
   | none=>rfl
   | some o=>exact absurd (List.mem_cons_of_mem _ (List.mem_map.mpr ⟨y,cmem y hy,rfl⟩)) ((R.objs y.2 o q).2.2 (.fr ⟨c,env,ls⟩) (by simp))
 ·intro a ha g hg
  have:L<=a:=by
   rcases List.mem_cons.mp ha with e|ha
   ·exact Nat.le_of_eq e.symm
   ·refine q12 (List.mem_map.mp (List.mem_filter.mp ha).1) λ y hy u0=>?_;subst u0
    exact Nat.le_of_lt (of_decide_eq_true (List.mem_filter.mp hy).2)
  exact (fresh a this).2.2 g hg
 ·intro g hg a ha hb
  rcases rd a hb with h|⟨y,hy,rfl⟩
  ·refine (fresh a h).2.2 g hg ?_
   cases g with
   | fr f=>cases ha
   | gh _=>cases ha
   | hid b o=>exact ha
  ·have hyr:y.2∈(AF.fr ⟨c,env,ls⟩).reads:=List.mem_cons_of_mem _ (List.mem_map.mpr ⟨y,cmem y hy,rfl⟩)
   cases g with
   | fr f=>cases ha
   | gh _=>cases ha
   | hid b o=>
    have hab:y.2=b:=List.mem_singleton.mp ha;refine q03 (List.pairwise_append.mp R.apart) λ p1 p2 p3=>?_;obtain⟨q1,q2⟩:=List.pairwise_cons.mp p2;rcases List.mem_append.mp hg with hg|hg
    ·exact (p3 _ hg _ (.head _)).1 b List.mem_cons_self (hab▸hyr)
    ·rcases List.mem_cons.mp hg with e|hg
     ·cases e
     ·exact (q1 _ hg).2 b List.mem_cons_self (hab▸hyr)
end
section
variable {T:Tr}{f:FR}{env:Env}{ls:Ls}{Fs:List AF}{H:zaA}{E:Value->Shared->Prop}{s:Shared}{A:Around}
theorem yeH {C:Cx}{cenv:Env}{own:List Addr}{l:Ls}{Gs:List AF}{h':Heap}(R:Rep C (.fr ⟨.cp own,cenv,l⟩::Gs) H s)(sb:Heap.SameBut cenv.locals s.heap h'):Rep C Gs H { s with heap:=h' }/\zaB s.heap h':=by
 obtain⟨a1,a2⟩:=List.pairwise_cons.mp R.apart;have F:zpA s.heap ⟨.cp own,cenv,l⟩:=(R.frs _ (.head _)).1;have tk:zaB s.heap h':=zaB.of_ext sb.extBut λ o e=>by
  refine q12 F.ns λ m u0 _=>?_;obtain⟨o',es,ep,ho',hd,_⟩:=u0;rw[ho']at e;cases e;exact .dict hd
 refine⟨R.pop.to (s':={ s with heap:=h' }) (λ b=>b=cenv.locals) (λ b o hb e=>(sb.2 b hb).trans e) tk (λ b h=>by subst h;exact (R.frs _ (.head _)).2 _ List.mem_cons_self) (λ g hg a ha h=>(a1 g hg).1 cenv.locals List.mem_cons_self (h▸ha))
  (λ a o e=>.inl ⟨e,λ h=>(R.objs a o e).2.2 _ (.head _) (by rw[h];exact List.mem_cons_self)⟩),tk⟩
theorem zyZ {C:Cx}{cenv:Env}{own:List Addr}{l:Ls}{Gs:List AF}(R:Rep C (.fr ⟨.cp own,cenv,l⟩::Gs) H s):∃ o,s.heap.get? cenv.locals=some o/\(∃ es ep,o.data=.dict es ep/\∀ h':Heap,h'.get? cenv.locals=some o->∃ m,h'.Ns cenv.locals m)/\Rep C (.hid cenv.locals o::Gs) H s:=by
 obtain⟨a1,a2⟩:=List.pairwise_cons.mp R.apart;have F:zpA s.heap ⟨.cp own,cenv,l⟩:=(R.frs _ (.head _)).1;refine q12 F.ns λ m u0 _=>?_;obtain⟨o,es,ep,ho,hd,r⟩:=u0;refine⟨o,ho,⟨es,ep,hd,λ h' e=>⟨m,o,es,ep,e,hd,r⟩⟩,R.pop.push ⟨ho,.dict hd⟩ (λ a ha=>?_) (λ a ha=>?_) (λ a ha g hg=>?_) λ g hg a ha hb=>?_⟩
 ·rw[List.mem_singleton.mp ha];exact (R.frs _ (.head _)).2 _ List.mem_cons_self
 ·rw[List.mem_singleton.mp ha]
  cases q:H cenv.locals with
  | none=>rfl
  | some o=>exact absurd List.mem_cons_self ((R.objs _ o q).2.2 _ (.head _))
 ·rw[List.mem_singleton.mp ha];exact (a1 g hg).1 _ List.mem_cons_self
 ·rw[List.mem_singleton.mp hb]at ha
  exact (a1 g hg).2 _ ha List.mem_cons_self
theorem zxC {C:Cx}{Gs:List AF}{a:Addr}{o:Obj}(R:Rep C Gs H s)(hm:AF.hid a o∈Gs):H a=none:=by
 cases q:H a with
 | none=>rfl
 | some ob=>exact absurd List.mem_cons_self ((R.objs a ob q).2.2 _ hm)
theorem zgL.mono {x:AIt}{K K':PV->AIt->Prop}{D D':Prop}(h:zgL H x K D)(hk:∀ p x',K p x'->K' p x')(hd:D->D'):zgL H x K' D':=by
 cases x with
 | list a i=>refine q13 h λ l h1 h2 h3=>?_;exact⟨l,h1,λ p e=>hk _ _ (h2 p e),λ e=>hd (h3 e)⟩
 | range x left=>exact⟨λ q=>hk _ _ (h.1 q),λ q=>hd (h.2 q)⟩
theorem zrL.mono {ifs:List Expr}{Q Q':Bool->zaA->Prop}(h:zrL T f Fs H ifs Q)(hq:∀ b H,Q b H->Q' b H):zrL T f Fs H ifs Q':=by
 induction ifs generalizing H with
 | nil=>exact hq _ _ h
 | cons c r ih=>
  intro A s ok R;refine wpAny_mono (h A s ok R) (λ b s' hh=>hh.elim λ H' a k q=>⟨H',a,k,?_⟩) λ _ _ x=>x;cases b with
  | true=>exact ih q
  | false=>exact hq _ _ q
noncomputable def Tr.plus (T:Tr)(g:FR):Tr:={ T with need:=g::T.need }
theorem AOk.less {g:FR}(ok:AOk (T.plus g) Fs A):AOk T Fs A:=⟨ok.frames,ok.depth,ok.units,ok.handled,ok.ctx,λ f hf=>ok.look.1 f (.tail _ hf),ok.look.2⟩
theorem zrL.plus {g:FR}{ifs:List Expr}{Q:Bool->zaA->Prop}(h:zrL T f Fs H ifs Q):zrL (T.plus g) f Fs H ifs Q:=by
 induction ifs generalizing H with
 | nil=>exact h
 | cons c r ih=>
  intro A s ok R;refine wpAny_mono (h A s ok.less R) (λ b s' hh=>hh.elim λ H' a k q=>⟨H',a,k,?_⟩) λ _ _ x=>x;cases b with
  | true=>exact ih q
  | false=>exact q
theorem AA.plus {g:FR}{t:Expr}{p:PV}{Q:Ls->zaA->Prop}(h:AA T f Fs H t p Q E):AA (T.plus g) f Fs H t p Q E:=λ A s v ok R hp=>wpAny_mono (h A s v ok.less R hp) (λ _ s' pp=>pp.elim λ ls' H' R' k q=>.mk ls' H' R' k q) λ _ _ x=>x
theorem zfH.plus {g:FR}{D:Addr}{post:List AF}{emit:Value->Env->Sem Unit}{out:List PV}{K:List PV->zaA->Prop}(h:zfH T f D post emit H out K):zfH (T.plus g) f D post emit H out K:=λ A s mid ok S=>h A s mid ok.less S
theorem zpW.plus {g:FR}{c:FK}{target:Expr}{ifs:List Expr}{emit:Value->Env->Sem Unit}{D:Addr}{post:List AF}{I:Nat->AIt->List PV->zaA->Prop}{D':List PV->zaA->Prop}(h:zpW T c env ls target ifs emit D post I D'):zpW (T.plus g) c env ls target ifs emit D post I D':=
 λ n x out H' hI=>zgL.mono (h n x out H' hI) (λ p x' k Fs'=>AA.mono (k Fs').plus λ ls' H2' q=>⟨q.1,zrL.mono q.2.plus λ b H3 q=>by
  cases b with
  | true=>exact zfH.plus q
  | false=>exact q⟩) id
noncomputable def zbZ (T:Tr)(ns:List (Str×NameKind))(nm:List (Str×NameKind))(ls:Ls)(target:Expr)(ifs:List Expr)(emit:Value->Env->Sem Unit)(I:Nat->AIt->List PV->zaA->Prop)(D':List PV->zaA->Prop):Prop:=
 ∀ own cenv D post,cenv.scope.names=zkC ns nm->zuJ own ns cenv->zpW T (.cp own) cenv (zdL ns ls) target ifs emit D post I D'
theorem zwU {elt target iter:Expr}{ifs:List Expr}{rest:List Comprehension}{scope:Scope}{pos:Pos}{emit:Value->Env->Sem Unit}{c:FK}{nm:List (Str×NameKind)}{use:Option (Value->Sem Unit)}{Q':Value->Shared->Prop}{D':List PV->zaA->Prop}
  (hh:T.hd=false) (hn:env.scope.names=nm) (sc:zeB scope nm) (hs:∀ x,foldedSetIterable iter env x=pure x) (sh:zbN elt (⟨target,iter,ifs,0⟩::rest) scope pos 0 target ifs emit)
  (h:AE T ⟨c,env,ls⟩ Fs H iter (λ p H1'=>∃ x,zdU T (.fr ⟨c,env,ls⟩::Fs) H1' p x/\∃ (I:Nat->AIt->List PV->zaA->Prop) (n:Nat),I n x [] H1'/\zbZ (T.plus ⟨c,env,ls⟩) scope.names nm ls target ifs emit I D') E)
  (ok:AOk T (.fr ⟨c,env,ls⟩::Fs) A) (R:Rep T.C (.fr ⟨c,env,ls⟩::Fs) H s)
  (hpost:∀ D own cenv l s' vs n out H',yjJ T.C D->PRs s'.heap out vs.toList->Rep T.C (.fr ⟨.cp own,cenv,l⟩::.hid D (zbW vs n)::.fr ⟨c,env,ls⟩::Fs) H' s'->zaB s.heap s'.heap->D' out H'->compPost T.C.M A E use Q' (.ref D) cenv.locals (.ok .next) s'):
  wpAny T.C.M A (comprehension (.ListComp elt (⟨target,iter,ifs,0⟩::rest) scope pos) scope env (firstIterPos (⟨target,iter,ifs,0⟩::rest) pos) (newList []) false (firstIter (⟨target,iter,ifs,0⟩::rest) env) use) Q' E s:=by
 have F:zpA s.heap ⟨c,env,ls⟩:=(R.frs _ (.head _)).1;have hasF:∀ n,(n,NameKind.free)∈scope.names->∃ d,env.cells.lookup n=some d:=λ n hm=>by
  have:=sc.free _ hm rfl;rw[<- hn]at this;exact F.has n this
 refine wpAny_comprehension_free (g:=⟨target,iter,ifs,0⟩) rfl hs (ziW hasF) sc.kind (λ x hx e=>?_) ?_
 ·obtain⟨n,k⟩:=x
  have e:k=.local:=e;subst e;exact zjE sc.nodup hx
 show wpAny _ _ (eval iter env) _ _ _
 refine wpAny_mono (h A s ok R) (λ v s1 pp=>pp.elim λ p H1' pr R1 k1 h=>?_) λ _ _ e=>e;refine q12 h λ x hx u8=>q22 u8 λ I n hI turn=>?_;refine hx A s1 v _ _ ok R1 pr λ it o s2 hi R2 k2=>?_;refine wpAny_newObj_type ?_ (by show (#[]:Array Value).size<=sizeLine;decide);have R3:Rep T.C (.hid it o::.hid s2.heap.objs.size (zbW #[] 0)::.fr ⟨c,env,ls⟩::Fs) H1' { s2 with heap:=s2.heap.push (zbW #[] 0) }:=
  (R2.hide zaH (Nat.le_refl _) (Heap.get?_push_size _ rfl) zqC).swap
 have hD0:yjJ T.C s2.heap.objs.size:=(R2.fresh_ge (Nat.le_refl _)).2.1;have k3:zaB s2.heap (s2.heap.push (zbW #[] 0)):=zaB.of_keep zaH;generalize s2.heap.objs.size=D at R3 hD0 ⊢;refine zrO λ h1' hns1 keep4 hcl=>?_;generalize hH2:s2.heap.push (zbW #[] 0)=H2 at R3 k3 hns1 keep4 hcl ⊢;refine q24 (zzJ (C:=T.C) (s:={ s2 with heap:=H2 }) (s':={ s2 with heap:=h1' }) (mid:=[.hid it o,.hid D (zbW #[] 0)]) hn sc R3 (by intro g hg;simp at hg;rcases hg with rfl|rfl <;> exact⟨_,_,rfl⟩) rfl hns1 keep4 rfl rfl hcl) λ cenv own hce hcn hco R4=>?_;have k4:zaB H2 h1':=zaB.of_keep keep4;have okc:AOk (T.plus ⟨c,env,ls⟩) (.fr ⟨.cp own,cenv,zdL scope.names ls⟩::(.hid it o::([]++.hid D (zbW #[] 0)::.fr ⟨c,env,ls⟩::Fs))) A:=by
  have o:AOk T (.fr ⟨.cp own,cenv,zdL scope.names ls⟩::(.hid it o::([]++.hid D (zbW #[] 0)::.fr ⟨c,env,ls⟩::Fs))) A:=ok.same (by cases c <;> rfl) (λ x hx _=>.tail _ (.tail _ hx)) ⟨λ f hf=>.tail _ (.tail _ (.tail _ (ok.look.1 f hf))),λ f r c e hc=>by cases e;cases hc⟩;exact⟨o.frames,o.depth,o.units,o.handled,o.ctx,λ f hf=>(List.mem_cons.mp hf).elim (λ e=>e▸.tail _ (.tail _ (.head _))) λ hf=>o.look.1 f hf,o.look.2⟩
 have hce':({ newEnv scope H2.objs.size env.globals (cellsFrom (H2.objs.size+1) scope.names (zbD env scope.names [])) env.qual none .none (some env) 0 with scope:=relabel scope env }:Env)=cenv:=hce.symm
 show codeAny T.C.M A (.compStart _ 0 (.ref it) (.ref D) { newEnv scope H2.objs.size env.globals (cellsFrom (H2.objs.size+1) scope.names (zbD env scope.names [])) env.qual none .none (some env) 0 with scope:=relabel scope env }) (compPost T.C.M A E use Q' (.ref D) H2.objs.size) _
 have hloc:H2.objs.size=cenv.locals:=by rw[hce];rfl
 rw[hce',hloc];refine zpX (pre:=[.fr ⟨.cp own,cenv,zdL scope.names ls⟩]) sh hi R4 ?_;refine zsY (T:=T.plus ⟨c,env,ls⟩) (mid:=[]) (post:=.fr ⟨c,env,ls⟩::Fs) sh I n hI D' (turn own cenv D _ hcn hco) hi okc ⟨#[],0,PRs.nil,R4⟩ λ s5 out H' S k5 hD'=>?_;refine q22 S λ vs m prs R5=>?_;exact hpost D own cenv _ s5 vs m out H' hD0 prs R5 (k1.trans (k2.trans (k3.trans (k4.trans k5)))) hD'
theorem zbZ.plus {g:FR}{ns nm:List (Str×NameKind)}{target:Expr}{ifs:List Expr}{emit:Value->Env->Sem Unit}{I:Nat->AIt->List PV->zaA->Prop}{D':List PV->zaA->Prop}(h:zbZ T ns nm ls target ifs emit I D'):zbZ (T.plus g) ns nm ls target ifs emit I D':=
 λ own cenv D post h1 h2=>(h own cenv D post h1 h2).plus
theorem AE.compP {elt target iter:Expr}{ifs:List Expr}{rest:List Comprehension}{scope:Scope}{pos:Pos}{emit:Value->Env->Sem Unit}{c:FK}{nm:List (Str×NameKind)}{Q:PV->zaA->Prop}
  (hh:T.hd=false) (hn:env.scope.names=nm) (sc:zeB scope nm) (hs:∀ x,foldedSetIterable iter env x=pure x) (sh:zbN elt (⟨target,iter,ifs,0⟩::rest) scope pos 0 target ifs emit)
  (h:AE T ⟨c,env,ls⟩ Fs H iter (λ p H1'=>∃ x,zdU T (.fr ⟨c,env,ls⟩::Fs) H1' p x/\∃ (I:Nat->AIt->List PV->zaA->Prop) (n:Nat),I n x [] H1'/\zbZ (T.plus ⟨c,env,ls⟩) scope.names nm ls target ifs emit I (λ out H'=>∀ a,H' a=Option.none->Q (.ref a) (upd H' a (.list out)))) E):
  AE T ⟨c,env,ls⟩ Fs H (.ListComp elt (⟨target,iter,ifs,0⟩::rest) scope pos) Q E:=λ A s ok R=>by
 rw[eval_ListComp];refine zwU (use:=Option.none) hh hn sc hs sh h ok R λ D own cenv l s' vs n out H' hD0 prs R' k hQ=>?_;have F:zpA s'.heap ⟨.cp own,cenv,l⟩:=(R'.frs _ (.head _)).1;refine q12 F.ns λ m hm _=>?_;refine⟨m,hm,λ h' sb=>?_⟩;obtain⟨R1,k1⟩:=yeH R' sb;have hd:h'.get? D=some (zbW vs n):=(R1.frs (.hid D _) (.head _)).1.1;have St:zcZ T.C h' D (.list out):=⟨vs,n,hd,PRs.keep k1 _ prs⟩
 exact⟨.ref D,_,PR.ref,Rep.showObj (pre:=[]) R1 hD0 St,k.trans k1,hQ D (zxC R1 (.head _))⟩
theorem AE.comp {elt target iter:Expr}{ifs:List Expr}{rest:List Comprehension}{scope:Scope}{pos:Pos}{emit:Value->Env->Sem Unit}{c:FK}{nm:List (Str×NameKind)}{Q:PV->zaA->Prop}
  (hh:T.hd=false) (hn:env.scope.names=nm) (sc:zeB scope nm) (hs:∀ x,foldedSetIterable iter env x=pure x) (sh:zbN elt (⟨target,iter,ifs,0⟩::rest) scope pos 0 target ifs emit)
  (h:AE T ⟨c,env,ls⟩ Fs H iter (λ p H1'=>∃ x,zdU T (.fr ⟨c,env,ls⟩::Fs) H1' p x/\∃ (I:Nat->AIt->List PV->zaA->Prop) (n:Nat),I n x [] H1'/\zbZ T scope.names nm ls target ifs emit I (λ out H'=>∀ a,H' a=Option.none->Q (.ref a) (upd H' a (.list out)))) E):
  AE T ⟨c,env,ls⟩ Fs H (.ListComp elt (⟨target,iter,ifs,0⟩::rest) scope pos) Q E:=
 AE.compP hh hn sc hs sh (AE.mono h λ p H1' ⟨x,hx,I,n,hI,t⟩=>⟨x,hx,I,n,hI,t.plus⟩)
theorem AS.assignComp {elt target iter:Expr}{ifs:List Expr}{rest:List Comprehension}{scope:Scope}{pos p' pos':Pos}{t:Str}{emit:Value->Env->Sem Unit}{nm:List (Str×NameKind)}{Q:AFl->Ls->zaA->Prop}
  (hh:T.hd=false) (hn:env.scope.names=nm) (hk:zgO (nm.lookup t)=true) (sc:zeB scope nm) (hs:∀ x,foldedSetIterable iter env x=pure x) (sh:zbN elt (⟨target,iter,ifs,0⟩::rest) scope pos 0 target ifs emit)
  (hsw:swapsWith (.ListComp elt (⟨target,iter,ifs,0⟩::rest) scope pos) (some (.Name t p')) pos'.line env=pure true)
  (h:AE T ⟨.fn,env,ls⟩ Fs H iter (λ p H1'=>∃ x,zdU T (.fr ⟨.fn,env,ls⟩::Fs) H1' p x/\∃ (I:Nat->AIt->List PV->zaA->Prop) (n:Nat),I n x [] H1'/\zbZ T scope.names nm ls target ifs emit I (λ out H'=>∀ a,H' a=Option.none->Q .next ((t,.ref a)::ls) (upd H' a (.list out)))) E):
  AS T env Fs ls H (.Assign [.Name t p'] (.ListComp elt (⟨target,iter,ifs,0⟩::rest) scope pos) pos') Q E:=λ A s ok R=>by
 rw[arm_exec_Assign];rw[show swapsWithSole [.Name t p'] (.ListComp elt (⟨target,iter,ifs,0⟩::rest) scope pos) pos'.line env=pure true from hsw];refine wpAny_bind (wpAny_standAt (wpAny_bind (wpAny_pure ?_)));rw[if_pos rfl];rw[arm_evalThenUse_ListComp];refine wpAny_bind ?_
 show wpAny T.C.M A (comprehension (.ListComp elt (⟨target,iter,ifs,0⟩::rest) scope pos) scope env (firstIterPos (⟨target,iter,ifs,0⟩::rest) pos) (newList []) false (firstIter (⟨target,iter,ifs,0⟩::rest) env) (some λ v=>assignAll v [assign (.Name t p') env]) >>= λ _=>pure ()) _ _ _
 refine wpAny_bind ?_;refine zwU hh hn sc hs sh (AE.mono h λ p H1' ⟨x,hx,I,n,hI,t⟩=>⟨x,hx,I,n,hI,t.plus⟩) ok R λ D own cenv l s' vs n out H' hD0 prs R' k hQ=>?_
 show wpAny T.C.M A (assign (.Name t p') env (.ref D)) _ _ _
 refine q13 (zyZ R') λ oL hoL u0 R1=>?_;obtain⟨es,ep,hdL,hns⟩:=u0;have hd:s'.heap.get? D=some (zbW vs n):=(R1.frs (.hid D _) (by simp)).1.1;have St:zcZ T.C s'.heap D (.list out):=⟨vs,n,hd,prs⟩
 have hDn:=zxC R1 (a:=D) (o:=zbW vs n) (by simp);have R2:=(Rep.showObj (pre:=[.hid cenv.locals oL]) R1 hD0 St).swap;refine wpAny_assign_Name (zgH R2 (ziG hn hk) PR.ref λ s3 R3 k3=>?_);obtain⟨m,hm⟩:=hns s3.heap (R3.frs (.hid cenv.locals oL) (by simp)).1.1;refine⟨m,hm,λ h' sb=>?_⟩;obtain⟨R4,k4⟩:=Rep.unhide (pre:=[.fr ⟨.fn,env,(t,.ref D)::ls⟩]) (s':={ s3 with heap:=h' }) R3 sb.extBut;exact wpAny_pure (wpAny_pure ⟨.next,_,_,trivial,R4,k.trans (k3.trans k4),hQ D hDn⟩)
end
noncomputable def znZ (C:Cx)(B:Heap)(s1:Shared)(Fs:List AF)(H:zaA):Prop:=
 ∃ ds:List Addr,(∀ b o,b∉ds->s1.heap.get? b=some o->B.get? b=some o)/\∀ d∈ds,H d=none/\C.h₀.get? d=none/\(∀ o,s1.heap.get? d=some o->∃ es ep,o.data=.dict es ep)/\∀ f∈Fs,d∉f.hids
section
variable {C:Cx}{env:Env}{ls:Ls}{Fs:List AF}{H:zaA}{E:Value->Shared->Prop}{s s1:Shared}{A:Around}{B:Heap}
theorem Rep.back (R:Rep C Fs H s1)(hi:znZ C B s1 Fs H)(st:B.StaysIn s.heap)(sl:s1.heap.UpToSlots s.heap)(hg:s.gens=s1.gens)(hos:s.os=s1.os):Rep C Fs H s/\zaB s1.heap s.heap:=by
 refine q12 hi λ ds h1 h2=>?_;have ex:∀ b o,b∉ds->s1.heap.get? b=some o->s.heap.get? b=some o:=λ b o hb e=>st b o (h1 b o hb e);have tk:zaB s1.heap s.heap:=λ b o e c u9=>q21 u9 λ vs n d=>ex b o (λ hb=>by refine q21 ((h2 b hb).2.2.1 o e) λ es ep q=>?_;rw[d]at q;cases q) e;refine⟨⟨R.ok,λ b o e=>ex b o (λ hb=>by rw[(h2 b hb).2.1]at e;cases e) (R.keep b o e),hg.trans R.gens,hos.trans R.os,λ f hf=>⟨?_,(R.frs f hf).2⟩,R.apart,λ a o e=>?_⟩,tk⟩
 ·have F:=(R.frs f hf).1
  cases f with
  | fr f=>
   have F:zpA s1.heap f:=F;refine q12 F.ns λ m hm hv=>?_;have kc:∀ y∈f.env.cells,∀ o,s1.heap.get? y.2=some o->s.heap.get? y.2=some o:=λ y hy o e=>by
    refine q22 (F.cells y hy) λ v o' ho' hd'=>?_;refine ex _ _ (λ hb=>?_) e;refine q21 ((h2 _ hb).2.2.1 o' ho') λ es ep q=>?_;rw[hd']at q;cases q
   exact⟨F.kind,F.globals,F.builtins,⟨m,sl.ns hm,λ y p a b=>let ⟨v,e,r⟩:=hv y p a b;⟨v,e,r.keep tk⟩⟩,λ y e=>let ⟨v,r⟩:=F.cells y e;⟨v,zbY r (kc y e)⟩,
    λ y p a b=>let ⟨c,v,e,r,q⟩:=F.cellv y p a b;⟨c,v,e,zbY r (kc (y,c) (mem_of_lookup e)),q.keep tk⟩,F.has,F.apart,F.locals,F.frame⟩
  | hid a o=>exact⟨ex a o (λ hb=>(h2 a hb).2.2.2 _ hf List.mem_cons_self) F.1,F.2⟩
  | gh g=>exact zaB.trans F tk
 ·refine q03 (R.objs a o e) λ x y z=>?_
  exact⟨zcZ.keep tk (λ ob eo=>ex a ob (λ hb=>by rw[(h2 a hb).1]at e;cases e) eo) o x,y,z⟩
theorem znZ.pop {f:AF}(hi:znZ C B s1 (f::Fs) H):znZ C B s1 Fs H:=let ⟨ds,h1,h2⟩:=hi;⟨ds,h1,λ d hd=>let ⟨a,b,c,e⟩:=h2 d hd;⟨a,b,c,λ g hg=>e g (.tail _ hg)⟩⟩
theorem ycQ {f:AF}{a:Addr}(h:a∈f.hids):a∈f.owns:=by
 cases f with
 | fr f=>cases h
 | hid b o=>exact h
 | gh g=>cases h
theorem zyO {fr:FR}{Fs:List AF}(hp:Fs.Pairwise yjG)(hf:.fr fr∈Fs):∀ g∈Fs,fr.env.locals∉g.hids:=by
 induction Fs with
 | nil=>cases hf
 | cons x l ih=>
  intro g hg;obtain⟨h1,h2⟩:=List.pairwise_cons.mp hp;have hr:fr.env.locals∈(AF.fr fr).reads:=List.mem_cons_self;refine (List.mem_cons.mp hf).elim (λ e=>?_) λ hf'=>(List.mem_cons.mp hg).elim (λ e h=>?_) (ih h2 hf' g)
  ·subst e
   refine (List.mem_cons.mp hg).elim (λ e h=>?_) λ hg' h=>(h1 g hg').2 _ h hr;subst e;cases h
  ·subst e;exact (h1 _ hf').1 _ (ycQ h) hr
theorem zpV {env:Env}:∀ {Fs:List AF},env∈zbP Fs->∃ ls,.fr ⟨.fn,env,ls⟩∈Fs:=by
 intro Fs
 induction Fs with
 | nil=>intro h;cases h
 | cons f r ih=>
  intro h;have tail:env∈zbP r->∃ ls,AF.fr ⟨.fn,env,ls⟩∈f::r:=λ h=>let ⟨ls,q⟩:=ih h;⟨ls,.tail _ q⟩
  cases f with
  | fr f=>
   obtain⟨c,e,ls⟩:=f;cases c with
   | fn=>
    rcases List.mem_cons.mp h with rfl|h
    ·exact⟨ls,.head _⟩
    ·exact tail h
   | cp cs=>exact tail h
  | hid a o=>exact tail h
  | gh g=>exact tail h
theorem zsZ {h:Heap}{l:List Env}(x:∀ env∈l,env.scope.kind=.function/\env.frame=some env.locals/\(∃ m,h.Ns env.locals m)/\B.get? env.locals=none):h.FunFrames B l:=by
 induction l with
 | nil=>trivial
 | cons env l ih=>
  refine q04 (x env (.head _)) λ k f u0 hb=>?_;obtain⟨m,o,es,ep,ho,hd,_⟩:=u0;exact⟨(by rw[k];intro q;cases q),⟨env.locals,o,f,hb,ho,λ vs q=>by rw[hd]at q;cases q⟩,ih λ e he=>x e (.tail _ he)⟩
noncomputable def CX (C:Cx)(X:String)(h:Heap)(a:Addr):Prop:=X=C.nc\/C2 h a
structure yiF (C:Cx)(X:String)(h h':Heap)(a:Addr):Prop where
 keeps:∀ b o,h.get? b=some o->h'.get? b=some o
 new:h.get? a=none
 there:∃ ob vs t,h'.get? a=some ob/\ob.cls=.type X/\ob.data=.fields vs/\2<vs.size/\vs[0]?=some t/\vs[1]?=some .none/\(X=C.nc\/vs[2]?=some .none)
theorem yiF.of {C:Cx}{X:String}{h h':Heap}{a:Addr}(x:Heap.NewExc h h' a X):yiF C X h h' a:=
 ⟨x.keeps,x.new,let ⟨ob,t,he,hc,hd⟩:=x.there;⟨ob,_,t,he,hc,hd,(by decide:2<6),rfl,rfl,.inr rfl⟩⟩
theorem K2.keepX {α:Type}{t:Sem α}(h:K2 t){C:Cx}{X:String}{M:Model}{A:Around}{Q:α->Shared->Prop}{e:Addr}{s:Shared}{E:Value->Shared->Prop}(hw:wpAny M A t Q (λ _ _=>False) s)(c:CX C X s.heap e):wpAny M A t (λ a s'=>Q a s'/\CX C X s'.heap e) E s:=
 c.elim (λ c=>wpAny_mono hw (λ _ _ q=>⟨q,.inl c⟩) λ _ _ x=>x.elim) λ c=>wpAny_mono (h.keep hw c) (λ _ _ q=>⟨q.1,.inr q.2⟩) λ _ _ x=>x.1.elim
noncomputable def Fly (C:Cx)(Fs:List AF)(X:String)(Q:zaA->Prop)(e:Value)(s:Shared):Prop:=
 ∃ a H s1 B a0,e=.ref a/\Rep C Fs H s1/\s.gens=s1.gens/\s.os=s1.os/\Q H/\Heap.FlyingW B (zbP Fs) a (.type X) a0 s.heap/\(znZ C B s1 Fs H/\s1.heap.UpToSlots s.heap)/\CX C X s.heap a
noncomputable def Held (C:Cx)(env:Env)(Fs:List AF)(X:String)(Q:Ls->zaA->Prop)(e:Value)(s:Shared):Prop:=
 ∃ ls a H s1 B a0,e=.ref a/\Rep C (.fr ⟨.fn,env,ls⟩::Fs) H s1/\s.gens=s1.gens/\s.os=s1.os/\Q ls H/\Heap.HeldW B (env::zbP Fs) a (.type X) a0 env.locals s.heap/\(znZ C B s1 (.fr ⟨.fn,env,ls⟩::Fs) H/\s1.heap.UpToSlots s.heap)/\CX C X s.heap a
noncomputable def Err (C:Cx)(env:Env)(Fs:List AF)(X:String)(Q:Ls->zaA->Prop)(e:Value)(s:Shared):Prop:=
 (∃ a ls H s1,e=.ref a/\Rep C (.fr ⟨.fn,env,ls⟩::Fs) H s1/\s.gens=s1.gens/\s.os=s1.os/\Q ls H/\yiF C X s1.heap s.heap a) \/
 (∃ ls,Fly C (.fr ⟨.fn,env,ls⟩::Fs) X (Q ls) e s)\/Held C env Fs X Q e s
theorem Fly.mono {X:String}{Q Q':zaA->Prop}{e:Value}(h:Fly C Fs X Q e s)(hq:∀ H,Q H->Q' H):Fly C Fs X Q' e s:=by
 refine q51 h λ a H s1 B a0 u8=>q06 u8 λ x1 x2 x3 x4 x5 x6=>?_;exact⟨a,H,s1,B,a0,x1,x2,x3,x4,hq H x5,x6⟩
theorem Err.of_fly {X:String}{Q:Ls->zaA->Prop}{Q':zaA->Prop}{e:Value}(h:Fly C (.fr ⟨.fn,env,ls⟩::Fs) X Q' e s)(hq:∀ H,Q' H->Q ls H):Err C env Fs X Q e s:=.inr (.inl ⟨ls,h.mono hq⟩)
theorem ydM {X:String}{a:Addr}(R1:Rep C (.fr ⟨.fn,env,ls⟩::Fs) H s1)(hx:yiF C X s1.heap s.heap a):∃ B:Heap,B.StaysIn s1.heap/\B.get? a=none/\s.heap.FunFrames B (env::zbP Fs)/\env.frame=some env.locals/\znZ C B s1 (.fr ⟨.fn,env,ls⟩::Fs) H:=by
 let ds:=(env::zbP Fs).filterMap (·.frame)
 have mem:∀ e'∈env::zbP Fs,e'.scope.kind=.function/\e'.frame=some e'.locals/\(∃ m,s1.heap.Ns e'.locals m)/\(hideAll s1.heap ds).get? e'.locals=none:=λ e' he=>by
  obtain⟨ls',hm⟩:=zpV (Fs:=.fr ⟨.fn,env,ls⟩::Fs) he;have F:zpA s1.heap ⟨.fn,e',ls'⟩:=(R1.frs _ hm).1;refine q12 F.ns λ m hm' _=>?_;exact⟨F.kind,F.frame rfl,⟨m,hm'⟩,hideAll_none _ (List.mem_filterMap.mpr ⟨e',he,F.frame rfl⟩)⟩
 have st:(hideAll s1.heap ds).StaysIn s1.heap:=λ b o q=>of_hideAll _ q;have hne:(hideAll s1.heap ds).get? a=none:=by
  cases q:(hideAll s1.heap ds).get? a with
  | none=>rfl
  | some o=>have:=st a o q;rw[hx.new]at this;cases this
 have ff:s.heap.FunFrames (hideAll s1.heap ds) (env::zbP Fs):=zsZ λ e' he'=>let ⟨x1,x2,⟨m,x3⟩,x4⟩:=mem e' he';⟨x1,x2,⟨m,ykJ x3 λ o q=>hx.keeps _ _ q⟩,x4⟩
 refine⟨_,st,hne,ff,(mem env (.head _)).2.1,ds,λ b o hb q=>hideAll_get _ q hb,λ d hdm=>?_⟩;refine q12 (List.mem_filterMap.mp hdm) λ e' he' hf'=>?_;obtain⟨ls',hm⟩:=zpV (Fs:=.fr ⟨.fn,env,ls⟩::Fs) he';refine q04 (mem e' he') λ _ x2 u0 _=>?_;obtain⟨m,o,es,ep,ho,hd',_⟩:=u0;obtain rfl:e'.locals=d:=by rw[x2]at hf';exact Option.some.inj hf'
 have hr:e'.locals∈(AF.fr ⟨.fn,e',ls'⟩).reads:=List.mem_cons_self;refine⟨?_,(R1.frs _ hm).2 _ hr,λ o' q=>?_,λ g hg=>zyO R1.apart hm g hg⟩
 ·cases q:H e'.locals with
  | none=>rfl
  | some o=>exact absurd hr ((R1.objs _ _ q).2.2 _ hm)
 ·rw[ho]at q;cases q;exact⟨es,ep,hd'⟩
theorem zrS {M:Model}{X:String}{Q:Ls->zaA->Prop}{e:Value}{K:Shared->Prop}(hA:A.frames=some (env::zbP Fs))(h:Err C env Fs X Q e s)(k:∀ s',Held C env Fs X Q e s'->K s'):wpAny M A (noteFrame e env) (λ _ s'=>K s') E s:=by
 rcases h with ⟨a,ls,H,s1,rfl,R1,hg,hos,hQ,hx⟩|⟨ls,a,H,s1,B,a0,rfl,R1,hg,hos,hQ,hfl,⟨hi,sl⟩,hc2⟩|h
 ·refine q15 (ydM R1 hx) λ B st hne ff hf hi=>?_
  refine q31 hx.there λ ob vs t u8=>q07 u8 λ he hc hd hz h0 h1 h2=>?_;refine wpAny_mono ((K2.note (.ref a) env).keepX (e:=a) (Q:=λ _ s'=>∃ h',s'={ s with heap:=h' }/\Heap.HeldW B (env::zbP Fs) a (.type X) t env.locals h'/\s.heap.UpToSlots h') ?_ (h2.imp id λ q=>⟨ob,he,_,hd,q⟩)) (λ _ s' hh=>?_) λ _ _ x=>x
  ·unfold noteFrame
   rw[hf];refine wpAny_bind (wpAny_field he hd (x:=.none) h1 ?_);rw[if_neg (by decide)];refine wpAny_entryW hA ff hf he (λ b o q=>hx.keeps b o (st b o q)) hne hd (Nat.lt_of_succ_lt hz) h0 λ h' hN=>⟨h',rfl,?_⟩
   refine q04 hN λ k1 k2 k3 k4=>?_;rw[hc]at k3;exact⟨⟨k1,hne,k2,k3⟩,k4⟩
  ·obtain⟨⟨h',rfl,x1,x2⟩,c'⟩:=hh
   exact k _ ⟨ls,a,H,s1,B,t,rfl,R1,hg,hos,hQ,x1,⟨hi,(Heap.UpToSlots.of_keeps hx.keeps).trans x2⟩,c'⟩
 ·have F:zpA s1.heap ⟨.fn,env,ls⟩:=(R1.frs _ (.head _)).1
  refine wpAny_mono ((K2.note (.ref a) env).keepX (wpAny_looks_onW (Q:=λ _ s'=>∃ h',s'={ s with heap:=h' }/\Heap.HeldW B (env::zbP Fs) a (.type X) a0 env.locals h'/\s.heap.UpToSlots h') hA (F.frame rfl) hfl λ h' x1 x2=>⟨h',rfl,x1,x2⟩) hc2) (λ _ s' hh=>?_) λ _ _ x=>x;obtain⟨⟨h',rfl,x1,x2⟩,c'⟩:=hh;exact k _ ⟨ls,a,H,s1,B,a0,rfl,R1,hg,hos,hQ,x1,⟨hi,sl.trans x2⟩,c'⟩
 ·refine q61 (id h) ?_;intro ls a H s1 B a0 u8;refine q07 u8 ?_;clear u8;intro u0;subst u0;intro R1 hg hos hQ hh r
  have F:zpA s1.heap ⟨.fn,env,ls⟩:=(R1.frs _ (.head _)).1;exact wpAny_noteFrame_againW (F.frame rfl) hh.2.2.2 (k _ h)
theorem zpY {M:Model}{X:String}{Q:Ls->zaA->Prop}{e:Value}{K:Shared->Prop}(h:Held C env Fs X Q e s)(k:∀ s' ls,Fly C (.fr ⟨.fn,env,ls⟩::Fs) X (Q ls) e s'->K s'):wpAny M A (setFlight e none) (λ _ s'=>K s') E s:=by
 refine q61 h ?_;clear h;intro ls a H s1 B a0 u8;refine q08 u8 ?_;clear u8;intro u0;subst u0;intro R1 hg hos hQ hh u1 hc2;obtain⟨hi,sl⟩:=u1;have F:zpA s1.heap ⟨.fn,env,ls⟩:=(R1.frs _ (.head _)).1;refine wpAny_mono ((K2.setFlight (.ref a) none).keepX (wpAny_landsW (Q:=λ _ s'=>∃ h',s'={ s with heap:=h' }/\Heap.FlyingW B (env::zbP Fs) a (.type X) a0 h'/\s.heap.UpToSlots h') hh λ h' x1 x2=>⟨h',rfl,x1,x2⟩) hc2) (λ _ s' q=>?_) λ _ _ x=>x;obtain⟨⟨h',rfl,x1,x2⟩,c'⟩:=q;exact k _ ls ⟨a,H,s1,B,a0,rfl,R1,hg,hos,hQ,x1,⟨hi,sl.trans x2⟩,c'⟩
theorem Fly.pop {X:String}{Q:zaA->Prop}{e:Value}(h:Fly C (.fr ⟨.fn,env,ls⟩::Fs) X Q e s):Fly C Fs X Q e s:=by
 refine q51 h λ a H s1 B a0 u8=>q08 u8 λ r R1 hg hos hQ u0 u1 hc2=>?_;obtain⟨k1,k2,⟨_,_,k3⟩,k4⟩:=u0;obtain⟨hi,sl⟩:=u1;exact⟨a,H,s1,B,a0,r,R1.pop,hg,hos,hQ,⟨k1,k2,k3,k4⟩,⟨hi.pop,sl⟩,hc2⟩
theorem ztN {M:Model}{X:String}{Q:Ls->zaA->Prop}{e:Value}{R:Unit->Shared->Prop}(hA:A.frames=some (env::zbP Fs))(h:Err C env Fs X Q e s)(k:∀ s',Fly C Fs X (λ H=>∃ ls,Q ls H) e s'->R () s'):wpAny M A (leaving env e) R E s:=by
 unfold leaving;exact wpAny_bind (wpAny_mono (zrS hA h λ _ h=>h) (λ _ s' h=>zpY h λ s'' ls h=>k s'' (h.pop.mono λ H hq=>⟨ls,hq⟩)) λ _ _ x=>x)
end
section
variable {T:Tr}{f:FR}{env:Env}{ls:Ls}{Fs:List AF}{H:zaA}{E:Value->Shared->Prop}{s:Shared}{A:Around}
theorem zfW.fnE {fd:FuncData}{g:Addr}{nms:List Str}{body:List Stmt}{ps:List PV}{Q:PV->zaA->Prop}{X:String}{QE:Ls->zaA->Prop}(D:zeM T.C.K g fd nms body)(hlen:ps.length=nms.length)(hn:1<=T.n)
  (hE:∀ e s,Fly T.C Fs X (λ H=>∃ ls,QE ls H) e s->E e s)
  (h:∀ env,env.scope=fd.scope->AX T.down env Fs (nms.zip ps) H body (RetQ Q) (Err T.C env Fs X QE)):zfW T Fs H (.ref g) ps Q E:=λ A s v vs ok R pv prs=>by
 rw[pv.ref_inv];refine zzC D hlen hn ok R prs λ env s1 he ok1 R1 tk=>?_;refine wpAny_mono (h env he _ s1 ok1 R1) (λ fl s' hh=>hh.elim λ a ls' H' fr R' k' hq=>?_) λ e s' x=>?_
 ·rcases a with _ | _ | _ | p <;> cases fl <;> first|exact fr.elim|exact hq.elim|skip
  ·exact⟨.none,H',PR.none,R'.pop,tk.trans k',hq⟩
  ·exact⟨p,H',fr,R'.pop,tk.trans k',hq⟩
 ·exact ztN ok1.frames x λ s'' y=>hE _ _ y
theorem AS.raiseName {x:Str}{np pos:Pos}{X N I:String}{nm:List (Str×NameKind)}{Q:AFl->Ls->zaA->Prop}{QE:Ls->zaA->Prop}(hh:T.hd=false)(hc:ExcClass X N I)(hself:isSubtype (.type X) (.type X)=pure true)
  (hmiss:T.C.mg x=Option.none) (hn:env.scope.names=nm) (hk:nm.lookup x=some .globalImplicit) (hv:bootBuiltins x=some (.type X)) (h:QE ls H)
  (hnn:x ≠ "__name__" := by decide +kernel) (hd:(x==("__debug__" : Str))=false:=by decide):AS T env Fs ls H (.Raise (some (.Name x np)) Option.none pos) Q (Err T.C env Fs X QE):=λ A s ok R=>by
 refine Raise_classB (ok.handled hh) hc hself (zdP (f:=⟨.fn,env,ls⟩) R (by rw[show env.kindOf x=env.scope.names.lookup x from rfl,hn];exact hk) hv hmiss hnn ⟨rfl,rfl⟩ hd) λ h' e hx=>?_;exact .inl ⟨e,ls,H,s,rfl,R,rfl,rfl,h,yiF.of hx⟩
theorem ygD {C:Cx}{B:Heap}{s1:Shared}{l:List Env}{a:Addr}{cls a0:Value}{h:Heap}(R:Rep C Fs H s1)(hfl:Heap.FlyingW B l a cls a0 h)(hi:znZ C B s1 Fs H)(sl:s1.heap.UpToSlots h):s1.heap.get? a=none:=by
 cases e:s1.heap.get? a with
 | none=>rfl
 | some o=>
  exfalso
  refine q12 hi λ ds h1 h2=>?_;refine q04 hfl λ _ hB _ u8=>q51 u8 λ oe vs _ _ _ u8=>q04 u8 λ he _ hd _=>?_
  by_cases q:a∈ds
  ·refine q21 ((h2 a q).2.2.1 o e) λ es ep hdo=>?_
   obtain⟨sl',hs⟩:=sl a o e λ vs w=>by rw[hdo]at w;cases w
   rw[he]at hs;cases hs;have hd:o.data=.fields vs:=hd;rw[hdo]at hd;cases hd
  ·rw[h1 a o q e]at hB;cases hB
theorem Rep.exc {C:Cx}{s0 s4:Shared}{a:Addr}{oe:Obj}(R:Rep C Fs H s4)(R0:Rep C Fs H s0)(hn:s0.heap.get? a=none)(ho:s4.heap.get? a=some oe)(hc:zwA oe):Rep C (.hid a oe::Fs) H s4:=by
 have nt:zbR oe:=λ _ u9=>q21 u9 λ vs n e=>by refine q12 hc λ ws hd _=>?_;rw[hd]at e;cases e
 have nr:∀ g∈Fs,a∉g.reads:=λ g hg h=>by
  refine q12 ((R0.frs g hg).1.there a h) λ o e _=>?_;rw[hn]at e;cases e
 refine R.push ⟨ho,nt⟩ (λ b hb=>?_) (λ b hb=>?_) (λ b hb g hg=>?_) λ g hg b hb hb'=>?_
 ·rw[List.mem_singleton.mp hb]
  cases e:C.h₀.get? a with
  | none=>rfl
  | some o=>have:=R0.keep a o e;rw[hn]at this;cases this
 ·rw[List.mem_singleton.mp hb]
  cases e:H a with
  | none=>rfl
  | some o=>refine q12 ((R0.objs a o e).1.there) λ ob h _=>?_;rw[hn]at h;cases h
 ·rw[List.mem_singleton.mp hb];exact nr g hg
 ·rw[List.mem_singleton.mp hb']at hb
  refine nr g hg ?_;cases g with
  | fr f=>cases hb
  | hid c o=>exact hb
  | gh _=>cases hb
noncomputable def Tr.inH (T:Tr):Tr:={ T with hd:=true }
theorem AS.tryAny {body:List Stmt}{h₀:ExceptHandler}{hl:List ExceptHandler}{pos:Pos}{X:String}{Q:AFl->Ls->zaA->Prop}{QE:Ls->zaA->Prop}
  (h:∀ g,AX T env (.gh g::Fs) ls H body Q (Err T.C env (.gh g::Fs) X QE))
  (k:∀ A s e s3 ls',AOk T (.fr ⟨.fn,env,ls⟩::Fs) A->Fly T.C (.fr ⟨.fn,env,ls'⟩::.gh s.heap::Fs) X (QE ls') e s3->wpAny T.C.M A (handleBy e env (h₀::hl)) (zqV T env Fs s Q) E s3):
  AS T env Fs ls H (.Try body (h₀::hl) [] [] pos) Q E:=λ A s ok R=>by
 have R':Rep T.C (.fr ⟨.fn,env,ls⟩::.gh s.heap::Fs) H s:=by
  obtain⟨a1,a2⟩:=List.pairwise_cons.mp R.apart;refine⟨R.ok,R.keep,R.gens,R.os,λ g hg=>?_,List.pairwise_cons.mpr ⟨λ g hg=>?_,List.pairwise_cons.mpr ⟨λ g hg=>⟨λ a ha=>(by cases ha),λ a ha h=>(by cases h)⟩,a2⟩⟩,λ a o e=>?_⟩
  ·rcases List.mem_cons.mp hg with rfl|hg
   ·exact R.frs _ (.head _)
   ·rcases List.mem_cons.mp hg with rfl|hg
    ·exact⟨zaB.refl _,λ a ha=>by cases ha⟩
    ·exact R.frs _ (.tail _ hg)
  ·rcases List.mem_cons.mp hg with rfl|hg
   ·exact⟨λ a ha h=>(by cases h),λ a ha=>(by cases ha)⟩
   ·exact a1 g hg
  ·refine q03 (R.objs a o e) λ x y z=>?_
   refine⟨x,y,λ g hg=>?_⟩;rcases List.mem_cons.mp hg with rfl|hg
   ·exact z _ (.head _)
   ·rcases List.mem_cons.mp hg with rfl|hg
    ·intro h;cases h
    ·exact z _ (.tail _ hg)
 have ok':∀ {ls'},AOk T (.fr ⟨.fn,env,ls'⟩::.gh s.heap::Fs) A:=⟨ok.frames,ok.depth,ok.units,ok.handled,ok.ctx,ok.look.head λ f h=>.tail _ h⟩
 refine wpAny_Try_except (wpAny_mono (h s.heap A s ok' R') (λ fl s1 hh=>hh.elim λ a ls1 H1' fr R1 k1 h1'=>?_) λ e s1 hx=>?_)
 ·cases a <;> cases fl <;> first|exact fr.elim|skip
  ·exact wpAny_execs_nil ⟨.next,ls1,H1',fr,R1.pop2,k1,h1'⟩
  all_goals exact⟨_,ls1,H1',fr,R1.pop2,k1,h1'⟩
 ·refine wpAny_mono (zrS (Fs:=.gh s.heap::Fs) ok.frames hx λ _ h=>h) (λ _ s2 hh=>?_) λ _ _ x=>x
  exact wpAny_mono (zpY (K:=λ s'=>∃ ls',Fly T.C (.fr ⟨.fn,env,ls'⟩::.gh s.heap::Fs) X (QE ls') e s') hh λ s3 ls' h=>⟨ls',h⟩) (λ _ s3 u9=>q11 u9 λ ls' hh=>k A s e s3 ls' ok hh) λ _ _ x=>x
theorem AS.try_ {body suite:List Stmt}{b0:Stmt}{x:Str}{np hp pos:Pos}{X Y:String}{nm:List (Str×NameKind)}{Q:AFl->Ls->zaA->Prop}{QE:Ls->zaA->Prop}{E2:List AF->Value->Shared->Prop}
  (hmiss:T.C.mg x=Option.none) (hn:env.scope.names=nm) (hk:nm.lookup x=some .globalImplicit) (hv:bootBuiltins x=some (.type Y))
  (hexc:isSubtype (.type Y) (.type "BaseException")=pure true) (hnt:isSubtype (.type ((Manifest.find? Y).elim "type" λ y=>y.metatype)) (.type "tuple")=pure false) (hsub:isSubtype (.type X) (.type Y)=pure true)
  (hX:X≠T.C.nc)
  (h:∀ g,AX T env (.gh g::Fs) ls H body Q (Err T.C env (.gh g::Fs) X QE))
  (hs:∀ Fs' ls' H',QE ls' H'->AX T.inH env Fs' ls' H' (b0::suite) Q (E2 Fs')) (hE:∀ A a o e s,A.frames=some (env::zbP Fs)->E2 (.hid a o::Fs) e s->notedBy T.C.M (A.mark (some (.ref a))) env (cameBackBy T.C.M A env E) e s)
  (hnn:x ≠ "__name__" := by decide +kernel) (hd:(x==("__debug__" : Str))=false:=by decide):
  AS T env Fs ls H (.Try body [.ExceptHandler (some (.Name x np)) Option.none (b0::suite) hp] [] [] pos) Q E:=AS.tryAny h λ A s e s3 ls' ok hh=>by
 refine q51 hh ?_;clear hh;intro a H' s0 B a0 u8;refine q08 u8 ?_;clear u8;intro u0;subst u0;intro R0 hg hos hQ f3 u1 c3;obtain⟨hi,sl⟩:=u1;have R3:=(R0.back hi f3.1 sl hg hos).1;refine q12 f3.there λ ob hob hobc=>?_;refine wpAny_handleBy_builtin (X:=X) (T:=Y) (b:=true) hexc hnt hsub (zdP (f:=⟨.fn,env,ls'⟩) R3 (by rw[show env.kindOf x=env.scope.names.lookup x from rfl,hn];exact hk) hv hmiss hnn ⟨rfl,⟨ob,hob,hobc⟩,?_⟩ hd);rw[if_pos rfl];refine wpAny_mono ((K2.setFlight (.ref a) none).keep (lands_againW (Q:=λ _ s'=>∃ h',s'={ s3 with heap:=h' }/\Heap.FlyingW B (env::zbP Fs) a (.type X) a0 h'/\s3.heap.UpToSlots h') f3 λ h' x1 x2=>⟨h',rfl,x1,x2⟩) (c3.resolve_left hX)) (λ _ s4 hh=>?_) λ _ _ x=>x.1;obtain⟨⟨h4,rfl,f4,u4⟩,c4⟩:=hh;obtain⟨R4,k4⟩:=R0.back (s:={ s3 with heap:=h4 }) hi f4.1 (sl.trans u4) hg hos;have kk:zaB s.heap h4:=(R4.frs (.gh s.heap) (.tail _ (.head _))).1;refine q12 c4 λ oe hoe hce=>?_;have R5:Rep T.C (.fr ⟨.fn,env,ls'⟩::.hid a oe::Fs) H' { s3 with heap:=h4 }:=(R4.exc R0 (ygD R0 f3 hi sl) hoe hce).swap.sub (.cons_cons _ (.cons_cons _ (List.sublist_cons_self _ _)));refine wpAny_mono (hs (.hid a oe::Fs) ls' H' hQ (A.mark (some (.ref a))) _ ⟨ok.frames,ok.depth,ok.units,λ h=>(nomatch h),λ v e=>⟨a,oe,(by cases e;rfl),.head _,hce⟩,ok.look.head λ f h=>.tail _ h⟩ R5) (λ fl s5 hh=>hh.elim λ a ls5 H5 fr R5 k5 h5=>⟨a,ls5,H5,fr,R5.pop2,kk.trans k5,h5⟩) λ e s x=>hE A a oe e s ok.frames x
end
section
theorem ynF (elt t1 i1 t2 i2:Expr)(f1 f2:List Expr)(scope:Scope)(pos:Pos)(it acc:Value)(env:Env):compTurn (.ListComp elt [⟨t1,i1,f1,0⟩,⟨t2,i2,f2,0⟩] scope pos) 0 it acc env=(standAt i1.pos >>= λ _=>pyNext it >>= λ r=>match r with
  | none=>pure (.done .next)
  | some v=>letOwnedTupleGo t1 it v >>= λ _=>assign t1 env v >>= λ _=>zmS f1 env >>= λ ok=>
   (if ok=true then (eval i2 env >>= λ x=>standAt i2.pos >>= λ _=>foldedSetIterable i2 env x >>= λ x=>holding [x] (pyIter x) >>= λ it'=>runOwn (.compStart (.ListComp elt [⟨t1,i1,f1,0⟩,⟨t2,i2,f2,0⟩] scope pos) 1 it' acc env) env >>= λ _=>again (.compLoop (.ListComp elt [⟨t1,i1,f1,0⟩,⟨t2,i2,f2,0⟩] scope pos) 0 it acc env)) else again (.compLoop (.ListComp elt [⟨t1,i1,f1,0⟩,⟨t2,i2,f2,0⟩] scope pos) 0 it acc env))):=by rfl
theorem yiN {elt t1 i1 t2 i2:Expr}{f1 f2:List Expr}{scope:Scope}{pos:Pos}:zbN elt [⟨t1,i1,f1,0⟩,⟨t2,i2,f2,0⟩] scope pos 0 t1 f1 (zjG elt [⟨t1,i1,f1,0⟩,⟨t2,i2,f2,0⟩] scope pos 1 i2):=
 ⟨⟨i1.pos,λ it acc env=>by rw[ynF];simp only[zjG,bind_assoc,pure_bind];try rfl⟩,⟨_,rfl,rfl⟩⟩
theorem yjT {elt t1 i1 t2 i2:Expr}{f1 f2:List Expr}{scope:Scope}{pos:Pos}:zbN elt [⟨t1,i1,f1,0⟩,⟨t2,i2,f2,0⟩] scope pos 1 t2 f2 (zmW elt):=
 ⟨⟨i2.pos,λ it acc env=>by rfl⟩,⟨_,rfl,rfl⟩⟩
noncomputable def Ext (H H':zaA):Prop:=∀ a o,H a=some o->H' a=some o
theorem Ext.refl (H:zaA):Ext H H:=λ _ _ e=>e
theorem Ext.trans {H1' H2' H3:zaA}(x:Ext H1' H2')(y:Ext H2' H3):Ext H1' H3:=λ a o e=>y a o (x a o e)
theorem Ext.upd {H H':zaA}{a:Addr}{o:AO}(x:Ext H H')(h:H a=none):Ext H (upd H' a o):=λ b ob e=>by
 unfold AM.Internal.upd;split
 ·rename_i q;subst q;rw[h]at e;cases e
 ·exact x b ob e
theorem Ext.none {H H':zaA}{a:Addr}(x:Ext H H')(h:H' a=none):H a=none:=by
 cases e:H a with
 | none=>rfl
 | some o=>rw[x a o e]at h;cases h
theorem Ext.both {H H':zaA}{a:Addr}{o:AO}(x:Ext H H'):Ext (AM.Internal.upd H a o) (AM.Internal.upd H' a o):=λ b ob e=>by
 unfold AM.Internal.upd at e ⊢;split
 ·rename_i q;rw[if_pos q]at e;exact e
 ·rename_i q;rw[if_neg q]at e;exact x b ob e
noncomputable def Wk (H H':zaA):Prop:=Ext H H'
theorem Ext.wk {H H':zaA}(x:Ext H H'):Wk H H':=x
theorem Wk.none {H H':zaA}{a:Addr}(x:Wk H H')(h:H' a=none):H a=none:=Ext.none x h
theorem Wk.both {H H':zaA}{a:Addr}{o:AO}(x:Wk H H'):Wk (AM.Internal.upd H a o) (AM.Internal.upd H' a o):=Ext.both x
theorem Rep.wk {C:Cx}{Fs:List AF}{H H':zaA}{s:Shared}(R:Rep C Fs H' s)(h:Wk H H'):Rep C Fs H s:=⟨R.ok,R.keep,R.gens,R.os,R.frs,R.apart,λ a o e=>R.objs a o (h a o e)⟩
variable {T:Tr}{f:FR}{env:Env}{ls:Ls}{Fs:List AF}{H:zaA}{E:Value->Shared->Prop}{s:Shared}{A:Around}
theorem AE.forget {e:Expr}{Q:PV->zaA->Prop}(h:AE T f Fs H e (λ p H1'=>∃ H2',Wk H2' H1'/\Q p H2') E):AE T f Fs H e Q E:=
 λ A s ok R=>wpAny_mono (h A s ok R) (λ v s' ⟨p,H',a,b,c,H2',x,d⟩=>⟨p,H2',a,b.wk x,c,d⟩) λ _ _ x=>x
theorem AS.forget {st:Stmt}{Q:AFl->Ls->zaA->Prop}(h:AS T env Fs ls H st (λ a l H1'=>∃ H2',Wk H2' H1'/\Q a l H2') E):AS T env Fs ls H st Q E:=
 λ A s ok R=>wpAny_mono (h A s ok R) (λ v s' ⟨p,l,H',a,b,c,H2',x,d⟩=>⟨p,l,H2',a,b.wk x,c,d⟩) λ _ _ x=>x
theorem AA.nameL {c:FK}{x:Str}{pos:Pos}{p:PV}{nm:List (Str×NameKind)}{Q:Ls->zaA->Prop}(hn:env.scope.names=nm)(hk:nm.lookup x=some .local)(h:Q ((x,p)::ls) H):AA T ⟨c,env,ls⟩ Fs H (.Name x pos) p Q E:=
 λ A s v ok R hp=>wpAny_assign_Name (zgH R (.inl (by rw[show env.kindOf x=env.scope.names.lookup x from rfl,hn];exact hk)) hp λ s' R' tk=>⟨_,H,R',tk,h⟩)
theorem zbZ.mono {ns nm:List (Str×NameKind)}{target:Expr}{ifs:List Expr}{emit:Value->Env->Sem Unit}{I:Nat->AIt->List PV->zaA->Prop}{D D':List PV->zaA->Prop}(h:zbZ T ns nm ls target ifs emit I D)(hd:∀ out H,D out H->D' out H):zbZ T ns nm ls target ifs emit I D':=
 λ own cenv Dd post hc ho n x out H' hI=>zgL.mono (h own cenv Dd post hc ho n x out H' hI) (λ _ _ k=>k) (hd out H')
noncomputable def zgD (T:Tr)(ns nm:List (Str×NameKind))(c:FK)(env:Env)(ls:Ls)(Fs:List AF)(H:zaA)(iter target:Expr)(ifs:List Expr)(emit:Value->Env->Sem Unit)(P:List PV->zaA->Prop)(E:Value->Shared->Prop):Prop:=
 AE T ⟨c,env,ls⟩ Fs H iter (λ p H1'=>∃ x,zdU T (.fr ⟨c,env,ls⟩::Fs) H1' p x/\∃ (I:Nat->AIt->List PV->zaA->Prop) (n:Nat),I n x [] H1'/\zbZ T ns nm ls target ifs emit I (λ out H'=>∃ H2',Wk H2' H'/\P out H2')) E
theorem AE.compG {elt target iter:Expr}{ifs:List Expr}{rest:List Comprehension}{scope:Scope}{pos:Pos}{emit:Value->Env->Sem Unit}{c:FK}{nm:List (Str×NameKind)}{Q:PV->zaA->Prop}
  (hh:T.hd=false) (hn:env.scope.names=nm) (sc:zeB scope nm) (hs:∀ x,foldedSetIterable iter env x=pure x) (sh:zbN elt (⟨target,iter,ifs,0⟩::rest) scope pos 0 target ifs emit)
  (h:zgD T scope.names nm c env ls Fs H iter target ifs emit (λ out H2'=>∀ a,H2' a=Option.none->Q (.ref a) (upd H2' a (.list out))) E):
  AE T ⟨c,env,ls⟩ Fs H (.ListComp elt (⟨target,iter,ifs,0⟩::rest) scope pos) Q E:=by
 refine AE.forget (AE.comp hh hn sc hs sh (AE.mono h ?_));intro p H1' uu;refine q12 uu λ x hx u8=>q22 u8 λ I n hI ht=>?_
 refine⟨x,hx,I,n,hI,ht.mono ?_⟩;intro out H' uu a ha;refine q12 uu λ H2' ex hP=>?_
 exact⟨_,ex.both,hP a (ex.none ha)⟩
theorem AS.assignCompG {elt target iter:Expr}{ifs:List Expr}{rest:List Comprehension}{scope:Scope}{pos p' pos':Pos}{t:Str}{emit:Value->Env->Sem Unit}{nm:List (Str×NameKind)}{Q:AFl->Ls->zaA->Prop}
  (hh:T.hd=false) (hn:env.scope.names=nm) (hk:zgO (nm.lookup t)=true) (sc:zeB scope nm) (hs:∀ x,foldedSetIterable iter env x=pure x) (sh:zbN elt (⟨target,iter,ifs,0⟩::rest) scope pos 0 target ifs emit)
  (hsw:swapsWith (.ListComp elt (⟨target,iter,ifs,0⟩::rest) scope pos) (some (.Name t p')) pos'.line env=pure true)
  (h:zgD T scope.names nm .fn env ls Fs H iter target ifs emit (λ out H2'=>∀ a,H2' a=Option.none->Q .next ((t,.ref a)::ls) (upd H2' a (.list out))) E):
  AS T env Fs ls H (.Assign [.Name t p'] (.ListComp elt (⟨target,iter,ifs,0⟩::rest) scope pos) pos') Q E:=by
 refine AS.forget (AS.assignComp hh hn hk sc hs sh hsw (AE.mono h ?_));intro p H1' uu;refine q12 uu λ x hx u8=>q22 u8 λ I n hI ht=>?_
 refine⟨x,hx,I,n,hI,ht.mono ?_⟩;intro out H' uu a ha;refine q12 uu λ H2' ex hP=>?_
 exact⟨_,ex.both,hP a (ex.none ha)⟩
theorem znI {ns:List (Str×NameKind)}{x:Str}(h:ns.lookup x=some .local):(zdL ns ls).lookup x=Option.none:=by
 cases e:(zdL ns ls).lookup x with
 | none=>rfl
 | some p=>have:=(zbU e).2;rw[h]at this;cases this
theorem zpK {ns nm:List (Str×NameKind)}{x:Str}(h:ns.lookup x=some .local):(zkC ns nm).lookup x=some .local:=by
 rw[zgQ,h];rfl
noncomputable def zxA (T:Tr)(ns nm:List (Str×NameKind))(l:Ls)(H1':zaA)(ifs:List Expr)(elt:Expr)(r:Option PV):Prop:=
 ∀ own cenv Fs' H',cenv.scope.names=zkC ns nm->Ext H1' H'->zrL T ⟨.cp own,cenv,l⟩ Fs' H' ifs (λ b H''=>Ext H1' H''/\if b then ∃ v,r=some v/\∀ Fs'',AE T ⟨.cp own,cenv,l⟩ Fs'' H'' elt (λ u H3=>u=v/\Ext H1' H3) NoE else r=Option.none)
theorem zfH.mono {D:Addr}{post:List AF}{emit:Value->Env->Sem Unit}{out:List PV}{K K':List PV->zaA->Prop}(h:zfH T f D post emit H out K)(hk:∀ out H,K out H->K' out H):zfH T f D post emit H out K':=
 λ A s mid ok S=>wpAny_mono (h A s mid ok S) (λ _ s' u9=>q23 u9 λ o H' a b c=>⟨o,H',a,b,hk _ _ c⟩) λ _ _ x=>x
noncomputable def zbT (n m:Nat)(g:Nat->Nat->Option PV):List PV:=(List.range n).flatMap λ i=>(List.range m).filterMap (g i)
theorem zeN {g:Nat->Option PV}{j:Nat}:(List.range (j+1)).filterMap g=(List.range j).filterMap g++(match g j with|some v=>[v] | Option.none=>[]):=by
 rw[List.range_succ,List.filterMap_append]
 congr 1
 rw[List.filterMap_cons];cases g j <;> rfl
theorem zkY {n m:Nat}{g:Nat->Nat->Option PV}:zbT (n+1) m g=zbT n m g++(List.range m).filterMap (g n):=by
 unfold zbT;rw[List.range_succ,List.flatMap_append];simp
theorem zoN {n m:Nat}{g:Nat->Nat->Option PV}:(zbT n m g).length<=n*m:=by
 induction n with
 | zero=>simp[zbT]
 | succ n ih=>
  rw[zkY,List.length_append,Nat.succ_mul];have:=List.length_filterMap_le (g n) (List.range m);simp only[List.length_range]at this;lia
noncomputable def zkJ (j m:Nat):AIt:=.range j ((m:Int)-j)
theorem zkJ.turn {H:zaA}{j m:Nat}{K:PV->AIt->Prop}{D:Prop}(hle:j<=m)(h:j<m->K (.int j) (zkJ (j+1) m))(hd:j=m->D):zgL H (zkJ j m) K D:=by
 refine⟨λ hp=>?_,λ e=>hd (Nat.le_antisymm hle (Int.ofNat_le.mp (Int.le_of_sub_nonpos e)))⟩;have q:zkJ (j+1) m=.range ((j:Int)+1) ((m:Int)-j-1):=by
  unfold zkJ;rw[show ((j+1:Nat):Int)=(j:Int)+1 from rfl,Int.sub_sub]
 exact q▸h (Int.ofNat_lt.mp (Int.lt_of_sub_pos hp))
theorem zdU.rngK {a:Addr}{lo m:Nat}(hH:H a=some (.range lo m))(hle:lo<=m)(hm:m<2 ^ 62):zdU T Fs H (.ref a) (zkJ lo m):=by
 have hm':(m:Int)<2 ^ 62:=by exact_mod_cast hm
 have h:=zdU.range (T:=T) (Fs:=Fs) hH (Int.le_trans (by decide) (Int.natCast_nonneg lo)) (Int.lt_of_le_of_lt (Int.ofNat_le.mpr hle) hm') (Int.le_trans (by decide) (Int.natCast_nonneg m)) hm';have q:(if (lo:Int)<m then (m:Int)-lo else 0)=(m:Int)-(lo:Nat):=by split <;> lia
 rw[q]at h;exact h
theorem zdU.rng0 {a:Addr}{m:Nat}(hH:H a=some (.range 0 m))(hm:m<2 ^ 62):zdU T Fs H (.ref a) (zkJ 0 m):=zdU.rngK (lo:=0) hH (Nat.zero_le m) hm
theorem yiL {i n m:Nat}{g:Nat->Nat->Option PV}(hlt:i<n)(hz:n*m<=90000):(zbT i m g).length+m<=90000:=
 Nat.le_trans (Nat.add_le_add_right zoN m) (Nat.le_trans (by rw[<- Nat.succ_mul];exact Nat.mul_le_mul_right _ hlt) hz)
theorem ynB {j m:Nat}{out:List PV}{g:Nat->Option PV}(hlt:j<m)(hz:out.length+m<=90000):(out++(List.range j).filterMap g).length<=100000:=by
 have h3:=List.length_filterMap_le g (List.range j);rw[List.length_range]at h3;rw[List.length_append];exact Nat.le_trans (Nat.add_le_add_left (Nat.le_trans h3 (Nat.le_of_lt hlt)) _) (Nat.le_trans hz (by decide))
noncomputable def R1I (H1':zaA)(out:List PV)(g:Nat->Option PV)(m k:Nat)(z:AIt)(o:List PV)(H':zaA):Prop:=∃ j:Nat,z=zkJ j m/\k=m-j/\j<=m/\o=out++(List.range j).filterMap g/\Ext H1' H'
theorem zfH.rng {y:Str}{yp:Pos}{t1 elt i1 i2:Expr}{ifs f1:List Expr}{scope:Scope}{pos:Pos}{nm:List (Str×NameKind)}{own:List Addr}{cenv:Env}{l:Ls}{D:Addr}{post:List AF}{m:Nat}{H1':zaA}{out:List PV}{K:List PV->zaA->Prop}(g:Nat->Option PV)(hh:T.hd=false)(hc:cenv.scope.names=zkC scope.names nm)(hy:scope.names.lookup y=some .local)(hyn:l.lookup y=none)(hm:m<2 ^ 62)(hz:out.length+m<=90000)
  (hs:∀ v,foldedSetIterable i2 cenv v=pure v)
  (h:∀ Fs',AE T ⟨.cp own,cenv,l⟩ Fs' H i2 (λ q H2'=>∃ b,q=.ref b/\H2' b=some (.range 0 m)/\Ext H1' H2') NoE)
  (hg:∀ j,j<m->zxA T scope.names nm ((y,.int j)::l) H1' ifs elt (g j))
  (hK:∀ H',Ext H1' H'->K (out++(List.range m).filterMap g) H'):
  zfH T ⟨.cp own,cenv,l⟩ D post (zjG elt [⟨t1,i1,f1,0⟩,⟨.Name y yp,i2,ifs,0⟩] scope pos 1 i2) H out K:=by
 refine zfH.nest yjT hs λ Fs''=>AE.mono (h Fs'') ?_;intro q H2' uu;refine q13 uu ?_;clear uu;intro b u0;subst u0;intro hb ex2;refine⟨_,zdU.rng0 hb hm,R1I H1' out g m,m,⟨0,rfl,rfl,Nat.zero_le _,(List.append_nil _).symm,ex2⟩,?_⟩;intro k z o H3 uu;refine q15 uu ?_;clear uu;intro j u0;subst u0;intro u1;subst u1;intro hle2 u2;subst u2;intro ex3;refine zkJ.turn hle2 (λ hlt2 Fs3=>?_) (λ e=>by subst e;exact hK _ ex3);refine AA.nameL hc (zpK hy) ⟨(Sub.refl _).cons hyn,?_⟩;refine zrL.mono (hg j hlt2 own cenv Fs3 H3 hc ex3) λ b H4 hb=>?_;have ex4:=hb.1;replace hb:=hb.2;cases b with
 | true=>
  rw[if_pos rfl]at hb ⊢;refine hb.elim λ v hb=>zfH.elt (ynB hlt2 hz) λ Fs5=>AE.mono (hb.2 Fs5) ?_;rintro u H5 ⟨rfl,ex5⟩;exact⟨m-(j+1),zfV hlt2,j+1,rfl,rfl,hlt2,by rw[zeN,hb.1,List.append_assoc],ex5⟩
 | false=>
  rw[if_neg (by decide)]at hb ⊢;exact⟨m-(j+1),zfV hlt2,j+1,rfl,rfl,hlt2,by rw[zeN,hb,List.append_nil],ex4⟩
noncomputable def R2I (H1':zaA)(g:Nat->Nat->Option PV)(n m k:Nat)(z:AIt)(o:List PV)(H':zaA):Prop:=∃ i:Nat,z=zkJ i n/\k=n-i/\i<=n/\o=zbT i m g/\Ext H1' H'
theorem zgD.range2 {x y:Str}{xp yp:Pos}{elt i1 i2:Expr}{ifs:List Expr}{scope:Scope}{pos:Pos}{nm:List (Str×NameKind)}{c:FK}{P:List PV->zaA->Prop}{n m:Nat}(g:Nat->Nat->Option PV)(hh:T.hd=false)(hx:scope.names.lookup x=some .local)(hy:scope.names.lookup y=some .local)(hxy:x≠y)(hz:n*m<=90000)(hn:n<2 ^ 62)(hm:m<2 ^ 62)
  (hs:∀ cenv v,cenv.scope.names=zkC scope.names nm->foldedSetIterable i2 cenv v=pure v)
  (h:AE T ⟨c,env,ls⟩ Fs H i1 (λ p H1'=>∃ a,p=.ref a/\H1' a=some (.range 0 n) /\
   (∀ (i:Nat) own cenv Fs' H',i<n->cenv.scope.names=zkC scope.names nm->Ext H1' H'->AE T ⟨.cp own,cenv,(x,.int i)::zdL scope.names ls⟩ Fs' H' i2 (λ q H2'=>∃ b,q=.ref b/\H2' b=some (.range 0 m)/\Ext H1' H2') NoE) /\
   (∀ i j:Nat,i<n->j<m->zxA T scope.names nm ((y,.int j)::(x,.int i)::zdL scope.names ls) H1' ifs elt (g i j))/\P (zbT n m g) H1') E):
  zgD T scope.names nm c env ls Fs H i1 (.Name x xp) [] (zjG elt [⟨.Name x xp,i1,[],0⟩,⟨.Name y yp,i2,ifs,0⟩] scope pos 1 i2) P E:=by
 refine AE.mono h ?_;intro p H1' uu;refine q15 uu ?_;clear uu;intro a u0;subst u0;intro hl h2 hg hP;refine⟨_,zdU.rng0 hl hn,R2I H1' g n m,n,⟨0,rfl,rfl,Nat.zero_le _,rfl,Ext.refl _⟩,?_⟩;intro own cenv D post hc ho k z out H' uu;refine q15 uu ?_;clear uu;intro i u0;subst u0;intro u1;subst u1;intro hle u2;subst u2;intro ex;refine zkJ.turn hle (λ hlt Fs'=>?_) (λ e=>by subst e;exact⟨H1',ex.wk,hP⟩);refine AA.nameL hc (zpK hx) ⟨(Sub.refl _).cons (znI hx),?_⟩
 show zfH _ _ _ _ _ _ _ _
 exact zfH.rng (g i) hh hc hy (by rw[List.lookup_cons,beq_eq_false_iff_ne.mpr (Ne.symm hxy)];exact znI hy) hm (yiL hlt hz) (λ v=>hs cenv v hc) (λ Fs''=>h2 i own cenv Fs'' H' hlt hc ex) (λ j hj=>hg i j hlt hj)
  λ H3 ex3=>⟨n-(i+1),zfV hlt,i+1,rfl,rfl,hlt,by rw[zkY],ex3⟩
end
section
variable {T:Tr}{f:FR}{env:Env}{ls:Ls}{Fs:List AF}{H:zaA}{E:Value->Shared->Prop}{s:Shared}{A:Around}
theorem AA.tupSet {t:Expr}{k:Nat}{pos:Pos}{a:Addr}{q:Pt}{Q:Ls->zaA->Prop}(hh:T.hd=false)(hH:H a=some (.pset [q]))(he:assignEach [t] f.env=[(false,assign t f.env)])
  (h:AA T f Fs H t (pt q) Q E):AA T f Fs H (.Tuple [t] k pos) (.ref a) Q E:=λ A s v ok R pv=>by
 rw[pv.ref_inv,assign_Tuple];refine wpAny_bind (wpAny_standAt ?_);unfold unpack;rw[he]
 show wpAny _ _ (do assignInOrder [assign t f.env] (<- holding [.ref a] (unpackItems (.ref a) 1 Option.none))) _ _ _
 refine q51 (zxP R hH) λ o es ep tb l' u8=>q04 u8 λ ho SP hp hw=>?_;have hl':l'=[q]:=List.perm_singleton.mp hp;subst hl';have hT:s.TypeIs (.ref a) "set" := ⟨o,ho,SP.ex.1⟩
 have hsz:es.size=1:=SP.len.symm;refine wpAny_bind (wpAny_holding ?_);unfold unpackItems notIterableAtAll;refine wpAny_bind (wpAny_bind (wpAny_specialOf hT F.slot_set_iter.lookup ?_));refine wpAny_pure ?_;simp only[Bool.false_eq_true,if_false];refine wpAny_bind (wpAny_holding (zjA ho SP.ex SP.data SP.inv SP.led ?_));have hslot:zcS T.C.w tb 0=0:=by unfold zcS;split <;> rfl
 have k1:∀ b o,s.heap.get? b=some o->(s.heap.push (zbA 0 0 a es.size ep)).get? b=some o:=zaH;refine q12 (hw 0 q rfl) λ x hx px=>?_;have hit:(s.heap.push (zbA 0 0 a es.size ep)).get? s.heap.objs.size=some (zbA (zcS T.C.w tb 0) 0 a es.size ep):=by rw[hslot];exact Heap.get?_push_size _ rfl
 refine wpAny_bind (wpAny_holding (show wpAny _ _ (pyNext (.ref s.heap.objs.size) >>= _) _ _ _ from wpAny_bind ?_));refine zfP (i:=0) hit (k1 a o ho) SP.ex SP.data SP.inv SP.led hx λ h1' hit1 sb1=>?_;refine wpAny_bind (wpAny_holding (show wpAny _ _ (pure []) _ _ _ from wpAny_pure (wpAny_pure ?_)));rw[if_neg (by simp)];have hne:a≠s.heap.objs.size:=Nat.ne_of_lt (Heap.lt_size ho);have ho1:h1'.get? a=some o:=(sb1.2 a hne).trans (k1 a o ho);refine wpAny_bind (wpAny_holding (zgE (i:=1) (ok.handled hh) hit1 ho1 SP.ex SP.data SP.inv SP.led hsz.symm λ h2 ex2'=>?_));simp only[Option.isSome_none,Bool.false_eq_true,if_false];refine wpAny_pure ?_;have kp:∀ b o,s.heap.get? b=some o->h2.get? b=some o:=λ b o e=>by
  have hb:b≠s.heap.objs.size:=Nat.ne_of_lt (Heap.lt_size e);exact ex2' b o hb ((sb1.2 b hb).trans (k1 b o e))
 refine wpAny_bind (m:=holding [] (assign t f.env x.2)) (wpAny_holding (wpAny_mono (h A { s with heap:=h2 } x.2 ok (R.ext kp) (PR.keep (zaB.of_keep kp) _ (zjS px))) (λ _ s2 hh=>hh.elim λ ls'' H2' R2 k2 h2=>?_) λ _ _ x=>x));exact wpAny_pure ⟨ls'',H2',R2,(zaB.of_keep kp).trans k2,h2⟩
theorem zkO.topStr {value slice:Expr}{a:Addr}{x y:Str}{tk:Tok}{es:Array DictEntry}{n:Nat}{Q:PV->zaA->Prop}(hl:T.C.K.lookup a=some ⟨.type "dict",none,.dict es n,#[]⟩)(hk:KeysLit T.C.w.params es.toList)(e:nsIn T.C.K a x=some (some (.str y tk)))
  (h:Q (.str y) H) (hs:∀ t,subscripted slice false (.ref a) (.str x t)=operate [.ref a,.str x t] (getItem (.ref a) (.str x t)):=by intro _;rfl):zkO T Fs H value slice (.ref a) (.str x) Q E:=λ A s v w ok R pv pw=>by
 rw[pv.ref_inv];obtain⟨t,rfl⟩:=pw.str_inv;have hm:=mapOf_K (prog:=T.C.prog) R.kin hl hk;exact tail_any hm.typeIs slot_dict_getitem.lookup (wpAny_getItem_of (strKind_is T.C.prog T.C.w x t) hm (find_K hl e) (zaJ R PR.str h)) (hs t)
end
theorem ziE {α:Type}{x y:Str}{q:α}{l:List (Str×α)}(h:(x==y)=false)(e:l.lookup x=none):((y,q)::l).lookup x=none:=by rw[List.lookup_cons,h];exact e
section
variable {T:Tr}{f:FR}{env:Env}{ls:Ls}{Fs:List AF}{H:zaA}{E:Value->Shared->Prop}{s:Shared}{A:Around}
theorem AS.exp {e:Expr}{pos:Pos}{Q:AFl->Ls->zaA->Prop}(hs:swapsWith e none pos.line env=pure false)
  (h:AE T ⟨.fn,env,ls⟩ Fs H e (λ _ H1'=>Q .next ls H1') E):AS T env Fs ls H (.Expr e pos) Q E:=λ A s ok R=>by
 have F:zpA s.heap ⟨.fn,env,ls⟩:=(R.frs _ (.head _)).1;have hk:env.scope.kind=.function:=F.kind;refine wpAny_Expr_any (wpAny_mono (h A s ok R) (λ v s1 hh=>hh.elim λ p H1' pr R1 k1 h1'=>⟨.next,ls,H1',trivial,R1,k1,h1'⟩) λ _ _ x=>x) ?_ hs;unfold interactive;rw[hk];rfl
theorem AAs.nil' {c:FK}{Q:Ls->zaA->Prop}(h:Q ls H):AAs T ⟨c,env,ls⟩ Fs H [] [] Q E:=AAs.nil h
theorem AAs.cons' {c:FK}{t:Expr}{ts:List Expr}{p:PV}{ps:List PV}{Q:Ls->zaA->Prop}(he:assignEach (t::ts) env=(false,assign t env)::assignEach ts env)
  (h:AA T ⟨c,env,ls⟩ Fs H t p (λ ls' H1'=>AAs T ⟨c,env,ls'⟩ Fs H1' ts ps Q E) E):AAs T ⟨c,env,ls⟩ Fs H (t::ts) (p::ps) Q E:=AAs.cons he h
theorem zxY {elt:Expr}{gens:List Comprehension}{scope:Scope}{pos p':Pos}{t:Str}{line:Nat}{nm:List (Str×NameKind)}(hk:env.scope.kind=.function)(hn:env.scope.names=nm)(hl:(nm.lookup t==some .local)=true)(hline:(p'.line==pos.line)=true)
  (hf:(scope.names.any λ (n,k)=>n==t&&(k==.local||k==.cell))=false):swapsWith (.ListComp elt gens scope pos) (some (.Name t p')) line env=pure true:=by
 have hb:env.blockKind=.function:=by unfold Env.blockKind;rw[hk];rfl
 have hl':(env.kindOf t==some .local)=true:=by rw[show env.kindOf t=env.scope.names.lookup t from rfl,hn];exact hl
 unfold swapsWith
 show pure _=pure true
 rw[hb,hl',show (Expr.ListComp elt gens scope pos).pos=pos from rfl,hline,hf]
 rfl
end
section
variable {T:Tr}{f:FR}{env:Env}{ls:Ls}{Fs:List AF}{H:zaA}{E:Value->Shared->Prop}{s:Shared}{A:Around}
theorem AS.mono {st:Stmt}{Q Q':AFl->Ls->zaA->Prop}(h:AS T env Fs ls H st Q E)(hq:∀ a ls H,Q a ls H->Q' a ls H):AS T env Fs ls H st Q' E:=
 λ A s ok R=>wpAny_mono (h A s ok R) (λ v s' hh=>hh.elim λ a ls' H' x y z q=>⟨a,ls',H',x,y,z,hq _ _ _ q⟩) λ _ _ x=>x
theorem zpD {ns:List (Str×NameKind)}{x:Str}{p:PV}(h:zgO (ns.lookup x)=false){ls:Ls}:ls.lookup x=some p->(zdL ns ls).lookup x=some p:=by
 induction ls with
 | nil=>exact λ e=>by cases e
 | cons e ls ih=>
  intro e
  rename_i y
  obtain⟨y,q⟩:=y;unfold zdL at ih ⊢;rw[List.filter_cons]
  by_cases hy:x=y
  ·subst hy
   rw[if_pos (by rw[h];rfl)];rw[List.lookup_cons,beq_self_eq_true]at e ⊢;exact e
  ·have hb:=beq_eq_false_iff_ne.mpr hy
   rw[List.lookup_cons,hb]at e;split
   ·rw[List.lookup_cons,hb];exact ih e
   ·exact ih e
theorem zkQ {n:Nat}(h:n<=5):IntMulOk (n:Int) (n:Int):=by
 have h:∀ n<6,Builtin.Int.intBits (n:Nat)<=64:=by decide +kernel
 exact IntMulOk.of_left (h n (Nat.lt_succ_of_le ‹_›))
end
section
variable {T:Tr}{f:FR}{env:Env}{ls:Ls}{Fs:List AF}{H:zaA}{E:Value->Shared->Prop}{s:Shared}{A:Around}
theorem zmC.some {e:Expr}{Q:Option Int->zaA->Prop}(h:AE T f Fs H e (λ p H1'=>∃ i,p=.int i/\Q (Option.some i) H1') E):zmC T f Fs H (Option.some e) Q E:=h
theorem zbS {a b:Int}(h0:0<=b)(h:b<2 ^ 30):Builtin.divisionGoesByPylong a b=false:=by
 unfold Builtin.divisionGoesByPylong;simp only[Bool.and_eq_false_iff,decide_eq_false_iff_not];left;split
 ·decide
 ·have h1:b.natAbs<2 ^ 30:=by lia
  have:b.natAbs.log2<30:=(Nat.log2_lt (by rename_i q;intro e;apply q;simp;lia)).mpr h1;lia
end
theorem zuB {lo:Nat}(names:List (Str×NameKind)):∀ (n:Nat) (acc:List (Str×Addr)),(∀ y∈acc,lo<=y.2/\y.2<n)->lo<=n->acc.Pairwise (λ x y=>x.2≠y.2) ->
  (∀ y∈cellsFrom n names acc,lo<=y.2)/\(cellsFrom n names acc).Pairwise λ x y=>x.2≠y.2:=by
 induction names with
 | nil=>exact λ n acc h _ hp=>⟨λ y hy=>(h y hy).1,hp⟩
 | cons a r ih=>
  obtain⟨x,k⟩:=a;intro n acc h hl hp;rw[zhY];split
  ·exact ih (n+1) ((x,n)::acc) (λ y hy=>(List.mem_cons.mp hy).elim (λ e=>e▸⟨hl,Nat.lt_succ_self _⟩) λ hy=>⟨(h y hy).1,Nat.lt_succ_of_lt (h y hy).2⟩) (Nat.le_succ_of_le hl) (List.pairwise_cons.mpr ⟨λ y hy e=>Nat.ne_of_lt (h y hy).2 e.symm,hp⟩)
  ·exact ih n acc h hl hp
theorem ztE {cm:Str->Option Value}{cs:List (Str×Addr)}{cells:List (Addr×Obj)}(X:CellsAre cm cs cells):∀ y∈cs,∃ o,(y.2,o)∈cells/\o.data=.cell (cm y.1):=by
 induction X with
 | nil=>exact λ y h=>by cases h
 | cons hd X ih=>exact λ y h=>(List.mem_cons.mp h).elim (λ e=>e▸⟨_,.head _,hd⟩) λ h=>(ih y h).imp λ o q=>⟨.tail _ q.1,q.2⟩
theorem yfQ {h:Heap}{vs:List Value}{xs:List Int}(X:IntsAre vs xs):PRs h (xs.map PV.int) vs:=by
 induction X with
 | nil=>exact PRs.nil
 | cons n t r ih=>exact PRs.cons PR.int ih
theorem law_rep {C:Cx}(ok:C.Ok){scope:Scope}{name:Str}{fa:Addr}{cd:Value}{h1':Heap}{s1:Shared}{d:Nat}{tk:Nat}{m cm:Str->Option Value}{cells:List (Addr×Obj)}(hh:C.h₀=s1.heap)(ho:C.os=s1.os)(hg:s1.gens=#[])
  (F:Fr s1.heap s1.heap.objs.size h1' m) (hm:m "script" = some (.ref C.scA)) (N:News s1.heap s1.heap.objs.size h1' cells) (X:CellsAre cm (cellsFrom (s1.heap.objs.size+1) scope.names []) cells)
  (hk:scope.kind=.function) (hl:scope.names.lookup ("script" : Str)=some .local) (hfree:scope.names.all (λ x=>x.2 != .free)=true):
  Rep C [.fr ⟨.fn,envOfC name scope s1.heap.objs.size fa cd,[("script",.ref C.scA)]⟩] (λ _=>none) ⟨h1',s1.gens,s1.drawn,tk,s1.os⟩:=by
 obtain⟨lo,ap⟩:=zuB (lo:=s1.heap.objs.size+1) scope.names (s1.heap.objs.size+1) [] (λ y hy=>by cases hy) (Nat.le_refl _) List.Pairwise.nil;have one:∀ (x:Str) (p:PV),([(("script" : Str),PV.ref C.scA)]:Ls).lookup x=some p->x = "script" /\ p=.ref C.scA:=λ x p e=>by
  rw[List.lookup_cons]at e;cases hb:x==("script" : Str) with
  | true=>rw[hb]at e;exact⟨by simpa using hb,(Option.some.inj e).symm⟩
  | false=>rw[hb]at e;cases e
 refine⟨ok,λ b o e=>F.keep b o (hh▸e),hg,ho.symm,λ f hf=>?_,List.pairwise_singleton _ _,λ a o e=>by cases e⟩;rw[List.mem_singleton.mp hf];refine⟨⟨hk,rfl,rfl,⟨m,F.ns,λ x p e _=>?_⟩,λ y hy=>?_,λ x p e k=>?_,λ x k=>?_,ap,λ y hy=>?_,λ _=>rfl⟩,λ a ha=>?_⟩
 ·obtain⟨rfl,rfl⟩:=one x p e
  exact⟨_,hm,PR.ref⟩
 ·refine q12 (ztE X y hy) λ o hm' hd=>?_
  exact⟨_,o,N.get hm',hd⟩
 ·obtain⟨rfl,rfl⟩:=one x p e
  have k:scope.names.lookup ("script" : Str)=some .cell\/scope.names.lookup ("script" : Str)=some .free:=k;rw[hl]at k;rcases k with k|k <;> cases k
 ·have k:scope.names.lookup x=some .cell\/scope.names.lookup x=some .free:=k
  rcases k with k|k
  ·exact Option.isSome_iff_exists.mp (zeS scope.names _ _ k)
  ·have:=List.all_eq_true.mp hfree _ (mem_of_lookup k)
   simp at this
 ·exact Nat.ne_of_gt (lo y hy)
 ·rw[hh]
  have big:s1.heap.objs.size<=a:=by
   rcases List.mem_cons.mp ha with rfl|ha
   ·exact Nat.le_refl _
   ·refine q12 (List.mem_map.mp ha) λ y hy u0=>?_;subst u0
    exact Nat.le_of_succ_le (lo y hy)
  exact Heap.get?_none_of_le big
theorem script_at {P:Params}{h:Heap}{a:Addr}{vs:List Value}{xs:List Int}(w:Well P h (.ref a) (ofPy (PyData.list (xs.map PyData.int))))(hL:h.IsList a vs.toArray)(hI:IntsAre vs xs):∃ vs n,IsL h a vs n/\PRs h (xs.map PV.int) vs.toList:=by
 refine q13 hL λ o ho hc u8=>q11 u8 λ n hd=>?_;cases w with
 | list h1 h2=>
  rw[ho]at h1;cases h1;have e:vs.toArray=_:=(Data.seq.inj hd).1.symm;exact⟨_,_,ho,by rw[<- e];exact yfQ hI⟩
theorem miss_of {p:Program}{loose:List Str}{mean:ExcName->Option Value}{mg mb:Str->Option Value}{h:Heap}(T:Top p loose mean mg mb h){xs:List Str}
  (hx:xs.all (λ x=>!decide (x∈startupNames)&&!decide (x∈loose)&&!decide (x∈(recsOf p).map (·.name))&&!decide (x∈(litsOf p).map (·.1))&&!decide (x∈(clssOf p loose).map (·.name)))=true):∀ x∈xs,mg x=none:=λ x h=>by
 have:=List.all_eq_true.mp hx x h;simp only[Bool.and_eq_true,Bool.not_eq_true',decide_eq_false_iff_not]at this;obtain⟨⟨⟨⟨h1,h2⟩,h3⟩,h4⟩,h5⟩:=this;exact T.free x h1 h2 h3 h4 h5
section
variable {T:Tr}{f:FR}{env:Env}{ls:Ls}{Fs:List AF}{H:zaA}{E:Value->Shared->Prop}{s:Shared}{A:Around}
end
section
variable {C:Cx}{env:Env}{ls:Ls}{Fs:List AF}{H:zaA}{E:Value->Shared->Prop}{s s1:Shared}{A:Around}{B:Heap}
theorem znZ.pop2 {f g:AF}(hi:znZ C B s1 (f::g::Fs) H):znZ C B s1 (f::Fs) H:=let ⟨ds,h1,h2⟩:=hi;⟨ds,h1,λ d hd=>let ⟨a,b,c,e⟩:=h2 d hd;⟨a,b,c,λ x hx=>e x ((List.mem_cons.mp hx).elim (λ q=>q▸.head _) λ q=>.tail _ (.tail _ q))⟩⟩
noncomputable def Thr (C:Cx)(f:FR)(Fs:List AF)(X:String)(Q:zaA->Prop)(e:Value)(s:Shared):Prop:=
 (∃ a H s1,e=.ref a/\Rep C (.fr f::Fs) H s1/\s.gens=s1.gens/\s.os=s1.os/\Q H/\yiF C X s1.heap s.heap a)\/Fly C (.fr f::Fs) X Q e s
theorem Err.of_thr {X:String}{Q:Ls->zaA->Prop}{Q':zaA->Prop}{e:Value}(h:Thr C ⟨.fn,env,ls⟩ Fs X Q' e s)(hq:∀ H,Q' H->Q ls H):Err C env Fs X Q e s:=by
 rcases h with ⟨a,H,s1,x1,x2,x3,x4,x5,x6⟩|h
 ·exact .inl ⟨a,ls,H,s1,x1,x2,x3,x4,hq _ x5,x6⟩
 ·exact Err.of_fly h hq
theorem zuQ {M:Model}{base:Heap}{l:List Env}{e L:Addr}{cls a0:Value}{Q:Unit->Shared->Prop}(R:Heap.HeldW base l e cls a0 L s.heap)
  (h:∀ h',Heap.HeldW base l e cls a0 L h'->s.heap.UpToSlots h'->Q () { s with heap:=h' }):wpAny M A (setFlight (.ref e) (some L)) Q E s:=by
 refine q04 R λ hkb hen hl u8=>q51 u8 λ oe vs T oT ts u8=>q09 u8 λ he hcls hd h1 hnT hTe hT hdT h3=>?_;have hsz3:3<ts.size:=(Array.getElem?_eq_some_iff.mp h3).1;have other:∀ b,b≠T->(s.heap.update T (Obj.mapFields (·.setIfInBounds 3 ((some L).elim Value.none λ f=>rawInt f)))).get? b=s.heap.get? b:=
  λ b hb=>Heap.get?_update_other _ _ (Ne.symm hb)
 have noRecord:∀ b o,s.heap.get? b=some o->(∀ vs,o.data≠.fields vs)->b≠T:=λ b o hb hnf q=>by
  rw[q,hT]at hb;injection hb with hb;subst hb;exact hnf ts hdT
 unfold setFlight;refine wpAny_bind (wpAny_field he hd h1 ?_);rw[if_pos (show (Value.ref T != Value.none)=true from by simp)];refine wpAny_setField hT hdT hsz3 (h _ ⟨λ b o hbo=>(other b λ q=>by rw[q,hnT]at hbo;cases hbo).trans (hkb b o hbo),hen,
  hl.of_keeps λ b o hb hnf=>⟨o,(other b (noRecord b o hb hnf)).trans hb,rfl⟩,?_⟩ λ b o hb hnf=>⟨o.slots,(other b (noRecord b o hb hnf)).trans hb⟩)
 exact⟨oe,vs,T,_,_,(other e (Ne.symm hTe)).trans he,hcls,hd,h1,hnT,hTe,Heap.get?_update_self _ hT (Obj.isFreed_of_fields (Obj.data_mapFields hdT _)),Obj.data_mapFields hdT _,by simp[hsz3]⟩
theorem yaI {C:Cx}{X:String}{M:Model}{l:List Env}{e:Addr}{cls a0:Value}(hf:env.frame=some env.locals)(hh:Heap.HeldW B l e cls a0 env.locals s.heap)(c:CX C X s.heap e)
  (k:∀ h',Heap.HeldW B l e cls a0 env.locals h'->s.heap.UpToSlots h'->CX C X h' e->E (.ref e) { s with heap:=h' }):cameBackBy M A env E (.ref e) s:=by
 refine q55 hh.2.2.2 λ oe vs T oT ts he hcls hd h1 r=>?_;unfold cameBackBy;refine wpAny_bind (wpAny_field he hd h1 ?_);rw[if_neg (show ¬ ((Value.ref T==Value.none)=true) from by simp),hf];refine wpAny_mono ((K2.setFlight (.ref e) (some env.locals)).keepX (zuQ (Q:=λ _ s'=>∃ h',s'={ s with heap:=h' }/\Heap.HeldW B l e cls a0 env.locals h'/\s.heap.UpToSlots h') hh λ h' x1 x2=>⟨h',rfl,x1,x2⟩) c) (λ _ s' q=>?_) λ _ _ x=>x;obtain⟨⟨h',rfl,x1,x2⟩,c'⟩:=q;exact k h' x1 x2 c'
theorem zxF {M:Model}{X:String}{QE:Ls->zaA->Prop}{e:Value}{it:Addr}{o:Obj}{A':Around}(hA:A'.frames=some (env::zbP Fs))(h:Err C env (.hid it o::Fs) X QE e s)(k:∀ s',Err C env Fs X QE e s'->E e s'):
  notedBy M A' env (λ e s'=>cameBackBy M A env E e s') e s:=by
 unfold notedBy;refine zrS (Fs:=.hid it o::Fs) hA h λ s' hh=>?_;refine q61 hh ?_;clear hh;intro ls a H s1 B a0 u8;refine q08 u8 ?_;clear u8;intro u0;subst u0;intro R1 hg hos hQ hh u1 hc2;obtain⟨hi,sl⟩:=u1;have F:zpA s1.heap ⟨.fn,env,ls⟩:=(R1.frs _ (.head _)).1;exact yaI (F.frame rfl) hh hc2 λ h'' y1 y2 y3=>k _ (.inr (.inr ⟨ls,a,H,s1,B,a0,rfl,R1.pop2,hg,hos,hQ,y1,⟨hi.pop2,sl.trans y2⟩,y3⟩))
end
section
variable {T:Tr}{f:FR}{env:Env}{ls:Ls}{Fs:List AF}{H:zaA}{E:Value->Shared->Prop}{s:Shared}{A:Around}
theorem zkO.listOut {value slice:Expr}{a:Addr}{l:List PV}{k:Int}{Q:PV->zaA->Prop}{R:zaA->Prop}(hh:T.hd=false)(hH:H a=some (.list l))(hout:k < -(l.length:Int)\/(l.length:Int)<=k)(hlo:-(2 ^ 63)<=k)(hhi:k<2 ^ 63)(hR:R H)
  (hE:∀ e s,Thr T.C f Fs "IndexError" R e s->E e s) (hs:∀ u,subscripted slice false (.ref a) (.int k u)=operate [.ref a,.int k u] (getItem (.ref a) (.int k u)):=by intro _;rfl):zkO T (.fr f::Fs) H value slice (.ref a) (.int k) Q E:=λ A s v w ok R pv pw=>by
 rw[pv.ref_inv];obtain⟨t,rfl⟩:=pw.int_inv;refine q12 (zjD (R.objs a _ hH).1) λ vs il r=>?_;have hz:=zeH r;exact tail_any il.typeIs slot_list_getitem.lookup (wpAny_getItem_list_out (ok.handled hh) il (by rw[hz];exact hout) hlo hhi λ h' tk e hx=>hE _ _ (.inl ⟨e,H,s,rfl,R,rfl,rfl,hR,yiF.of hx⟩)) (hs t)
noncomputable def zsA (T:Tr)(f:FR)(Fs:List AF)(H:zaA)(es:List Expr)(Q:Bool->zaA->Prop)(E:Value->Shared->Prop):Prop:=
 (es=[]->Q true H)/\(es≠[]->∀ pos A s,AOk T (.fr f::Fs) A->Rep T.C (.fr f::Fs) H s->wpAny T.C.M A (boolOp pos .And (evalEach es f.env)) (ziO T (.fr f::Fs) s (λ p H=>∃ b,p=.bool b/\Q b H)) E s)
theorem zsA.nil {Q:Bool->zaA->Prop}(h:Q true H):zsA T f Fs H [] Q E:=⟨λ _=>h,λ h=>absurd rfl h⟩
theorem zsA.cons {e:Expr}{es:List Expr}{Q:Bool->zaA->Prop}(h:AE T f Fs H e (λ p H1'=>∃ c,p=.bool c/\cond c (zsA T f Fs H1' es Q E) (Q false H1')) E):zsA T f Fs H (e::es) Q E:=by
 refine⟨λ h=>(nomatch h),λ _ pos A s ok R=>?_⟩;cases es with
 | nil=>
  show wpAny _ _ (eval e f.env) _ _ _
  refine wpAny_mono (h A s ok R) (λ v s' hh=>hh.elim λ p H' a b c d=>?_) λ _ _ x=>x;refine q12 d ?_;clear d;intro cc u0;subst u0;intro d;refine⟨_,H',a,b,c,cc,rfl,?_⟩;cases cc with
  | true=>exact d.1 rfl
  | false=>exact d
 | cons e' es=>
  show wpAny _ _ (eval e f.env >>= _) _ _ _
  refine wpAny_bind (wpAny_mono (h A s ok R) (λ v s' hh=>hh.elim λ p H' a b c d=>?_) λ _ _ x=>x);refine q12 d ?_;clear d;intro cc u0;subst u0;intro d;rw[a.bool_inv];refine wpAny_bind (wpAny_standAt (wpAny_bind (wpAny_holding (wpAny_truthy_bool ?_))));cases cc with
  | true=>exact wpAny_mono (d.2 (λ q=>(nomatch q)) pos A s' ok b) (λ v' s'' hh=>hh.elim λ p' H'' a' b' c' d'=>⟨p',H'',a',b',c.trans c',d'⟩) λ _ _ x=>x
  | false=>exact wpAny_pure ⟨.bool false,H',PR.bool,b,c,false,rfl,d⟩
theorem AE.andv {es:List Expr}{pos:Pos}{Q:Bool->zaA->Prop}(hne:es≠[])(h:zsA T f Fs H es Q E):AE T f Fs H (.BoolOp .And es pos) (λ p H=>∃ b,p=.bool b/\Q b H) E:=λ A s ok R=>by
 rw[arm_eval_BoolOp];exact h.2 hne pos A s ok R
theorem zyH {target:Expr}{body:List Stmt}{Q:AFl->Ls->zaA->Prop}{p:PV}{H1':zaA}{X:String}{QE:Ls->zaA->Prop}(hE:∀ e s,Err T.C env Fs X QE e s->E e s)
  {a:Addr} {l:List PV} (e1:p=.ref a) (hl:H1' a=some (.list l)) (J:Nat->Ls->zaA->Prop) (h0:J 0 ls H1')
   (h1:∀ i ls' H',J i ls' H'->H' a=some (.list l))
   (h2:∀ i p ls' H' Fs',l[i]?=some p->J i ls' H'->AA T ⟨.fn,env,ls'⟩ Fs' H' target p (λ ls1 H1'=>AX T env Fs' ls1 H1' body (zjZ (J (i+1)) Q) (Err T.C env Fs' X QE)) NoE) (h3:∀ ls' H',J l.length ls' H'->Q .next ls' H'):
  znA T env Fs ls target body Q E p H1':=
 ztB (Eb:=λ Fs'=>Err T.C env Fs' X QE) (λ A it o e s ok h=>zxF ok.frames h λ s' h=>hE e s' h) (ydD e1 hl J h0 h1 h2 h3)
noncomputable def TupI (T:Tr)(env:Env)(Fs:List AF)(J:Nat->Ls->zaA->Prop)(h1':Heap)(it a:Addr)(len n:Nat)(s':Shared):Prop:=
 ∃ i ls' H' o,n=len-i/\i<=len/\J i ls' H'/\o.cls=.type "tuple_iterator" /\ o.data=.fields #[.ref a,.int i 0]/\Rep T.C (.fr ⟨.fn,env,ls'⟩::.hid it o::Fs) H' s'/\zaB h1' s'.heap
end
section
variable {T:Tr}{f:FR}{env:Env}{ls:Ls}{Fs:List AF}{H:zaA}{E:Value->Shared->Prop}{s:Shared}{A:Around}
end
section
variable {T:Tr}{env:Env}{Fs:List AF}{ls:Ls}{H:zaA}{E:Value->Shared->Prop}
end
/-! raise X while another exception is being handled -/
section
variable {prog:Program}{w:World}{A:Around}{E:Value->Shared->Prop}{s:Shared}{env:Env}{X N I:String}
theorem ydF {x:Str}{np pos:Pos}{Q:Flow->Shared->Prop}(hx:HdC s.heap A)(hc:ExcClass X N I)(hself:isSubtype (.type X) (.type X)=pure true)
  (hn:wpAny (model prog w) A (eval (.Name x np) env) (λ v s1=>v=.type X/\s1=s) E s)
  (h:∀ h' e ob vs t,(∀ b o,s.heap.get? b=some o->h'.get? b=some o)->s.heap.get? e=none->h'.get? e=some ob->ob.cls=.type X->ob.data=.fields vs->2<vs.size->vs[0]?=some t->vs[1]?=some .none->E (.ref e) { s with heap:=h' }):
  wpAny (model prog w) A (exec (.Raise (some (.Name x np)) none pos) env) Q E s:=by
 show wpAny (model prog w) A (do standAt pos;raiseStmt env (some (do let v <- eval (.Name x np) env;standAt pos;pure v)) none) Q E s
 refine wpAny_bind (wpAny_standAt ?_);unfold raiseStmt;dsimp only;refine wpAny_bind (wpAny_bind (wpAny_mono hn (λ v s1 h1'=>wpAny_bind (wpAny_standAt (wpAny_pure ?_))) λ _ _ e=>e));obtain⟨rfl,hs1⟩:=h1';subst s1;refine wpAny_bind (wpAny_pure ?_);dsimp only;refine wpAny_bind (wpAny_holding ?_);unfold excFromValue isExcClass;refine wpAny_bind (wpAny_bind (wpAny_pure ?_));simp only[if_true];rw[hc.base];refine wpAny_pure ?_;simp only[if_true];refine wpAny_bind (call_exc hc λ h' e hne=>?_);refine q23 hne.there λ ob t he hcls hd=>?_;refine wpAny_bind (wpAny_isInstance ⟨ob,he,hcls⟩ hc.base ?_);simp only[Bool.not_true,Bool.false_eq_true,if_false];refine wpAny_pure (wpAny_bind (m:=isType (.type X)) (wpAny_pure ?_));rw[if_pos rfl];refine wpAny_bind (wpAny_holding ?_);unfold raisedFor;simp only[Bool.false_eq_true,if_false];refine wpAny_bind (wpAny_typeOf ⟨ob,he,hcls⟩ (wpAny_bind (call_issubclass (issubclass_self hc hself) (wpAny_bind (wpAny_truthy_bool ?_)))));rw[if_pos rfl];refine wpAny_pure ?_;unfold setFlight;refine wpAny_bind (wpAny_bind (wpAny_field (i:=1) (x:=Value.none) he hd rfl ?_));rw[if_neg (by decide)];refine wpAny_pure (yhY (hx.keep hne.keeps) (λ b hb q hbe=>?_) he hd (by decide:2<6) λ h2 o' vs' sb ho' hc' hd' hv=>?_)
 ·refine q12 (hx _ q) λ b' e' u8=>q12 u8 λ o ho _=>?_
  cases e';rw[hbe,hne.new]at ho;cases ho
 ·have ne:∀ b o,s.heap.get? b=some o->b≠e:=λ b o q r=>by rw[r,hne.new]at q;cases q
  exact h h2 e o' vs' t (λ b o q=>(sb.2 b (ne b o q)).trans (hne.keeps b o q)) hne.new ho' (hc'.trans hcls) hd' (by rw[hv.1];exact (by decide:2<6)) (hv.2.1.trans rfl) (hv.2.2.trans rfl)
end
section
variable {T:Tr}{env:Env}{Fs:List AF}{ls:Ls}{H:zaA}{E:Value->Shared->Prop}
theorem AS.raiseAny {x:Str}{np pos:Pos}{X N I:String}{nm:List (Str×NameKind)}{Q:AFl->Ls->zaA->Prop}{QE:Ls->zaA->Prop}(hX:X=T.C.nc)(hc:ExcClass X N I)(hself:isSubtype (.type X) (.type X)=pure true)
  (hmiss:T.C.mg x=Option.none) (hn:env.scope.names=nm) (hk:nm.lookup x=some .globalImplicit) (hv:bootBuiltins x=some (.type X)) (h:QE ls H)
  (hnn:x ≠ "__name__" := by decide +kernel) (hd:(x==("__debug__" : Str))=false:=by decide):AS T env Fs ls H (.Raise (some (.Name x np)) Option.none pos) Q (Err T.C env Fs X QE):=λ A s ok R=>by
 refine ydF (ok.hdc R) hc hself (zdP (f:=⟨.fn,env,ls⟩) R (by rw[show env.kindOf x=env.scope.names.lookup x from rfl,hn];exact hk) hv hmiss hnn ⟨rfl,rfl⟩ hd) λ h' e ob vs t kp ne he hcl hdt hz h0 h1=>?_;exact .inl ⟨e,ls,H,s,rfl,R,rfl,rfl,h,kp,ne,ob,vs,t,he,hcl,hdt,hz,h0,h1,.inl hX⟩
end
structure CH where
 x:Str
 Y:String
 c:Str
 np:Pos
 k:Nat
 cp:Pos
 rp:Pos
 hp:Pos
noncomputable def CH.ast (h:CH):ExceptHandler:=.ExceptHandler (some (.Name h.x h.np)) none [.Return (some (.Constant (.str h.c) h.k h.cp)) h.rp] h.hp
inductive zzT (X:String):List (String×Str)->Str->Prop
 | here {Y:String} {c:Str} {l:List (String×Str)} (exc:isSubtype (.type Y) (.type "BaseException")=pure true) (tup:isSubtype (.type ((Manifest.find? Y).elim "type" λ y=>y.metatype)) (.type "tuple")=pure false) (sub:isSubtype (.type X) (.type Y)=pure true):zzT X ((Y,c)::l) c
 | next {Y:String} {c d:Str} {l:List (String×Str)} (exc:isSubtype (.type Y) (.type "BaseException")=pure true) (tup:isSubtype (.type ((Manifest.find? Y).elim "type" λ y=>y.metatype)) (.type "tuple")=pure false) (sub:isSubtype (.type X) (.type Y)=pure false) (r:zzT X l c):zzT X ((Y,d)::l) c
structure CHOk (C:Cx)(nm:List (Str×NameKind))(h:CH):Prop where
 miss:C.mg h.x=none
 glob:nm.lookup h.x=some .globalImplicit
 boot:bootBuiltins h.x=some (.type h.Y)
 name:h.x ≠ "__name__"
 dbg:(h.x==("__debug__" : Str))=false
section
variable {T:Tr}{env:Env}{Fs:List AF}{ls:Ls}{H:zaA}{E:Value->Shared->Prop}{s:Shared}{A:Around}
theorem zvA {X:String}{c:Str}{nm:List (Str×NameKind)}(hn:env.scope.names=nm){Q:AFl->Ls->zaA->Prop}{QE:Ls->zaA->Prop}(hq:∀ ls' H',QE ls' H'->Q (.ret (.str c)) ls' H'){e:Value}{s3:Shared}{ls':Ls}
  (hh:Fly T.C (.fr ⟨.fn,env,ls'⟩::.gh s.heap::Fs) X (QE ls') e s3):∀ {hl:List CH},(∀ h∈hl,CHOk T.C nm h)->zzT X (hl.map λ h=>(h.Y,h.c)) c->wpAny T.C.M A (handleBy e env (hl.map CH.ast)) (zqV T env Fs s Q) E s3:=by
 intro hl;refine q51 hh ?_;clear hh;intro a H' s0 B a0 u8;refine q08 u8 ?_;clear u8;intro u0;subst u0;intro R0 hg hos hQ f3 u1 _;obtain⟨hi,sl⟩:=u1;have R3:=(R0.back hi f3.1 sl hg hos).1;refine q12 f3.there λ ob hob hobc=>?_
 induction hl with
 | nil=>exact λ _ p=>nomatch p
 | cons h hl ih=>
  intro ok p;obtain⟨o1,o2,o3,o4,o5⟩:=ok h (.head _);have ld:∀ {Q:Value->Shared->Prop} {E:Value->Shared->Prop} {A:Around},Q (.type h.Y) s3->wpAny T.C.M A (eval (.Name h.x h.np) env) Q E s3:=λ q=>zdP (f:=⟨.fn,env,ls'⟩) R3 (by rw[show env.kindOf h.x=env.scope.names.lookup h.x from rfl,hn];exact o2) o3 o1 o4 q o5;generalize hm:(h::hl).map (λ h=>(h.Y,h.c))=pl at p;cases p with
  | here exc tup sub=>
   injection hm with h1 h2
   injection h1 with h1 h3
   subst h1 h3;refine wpAny_handleBy_builtin (X:=X) (T:=h.Y) (b:=true) exc tup sub (ld ⟨rfl,⟨ob,hob,hobc⟩,?_⟩);rw[if_pos rfl];refine lands_againW f3 λ h4 f4 u4=>?_;obtain⟨R4,k4⟩:=R0.back (s:={ s3 with heap:=h4 }) hi f4.1 (sl.trans u4) hg hos;have kk:zaB s.heap h4:=(R4.frs (.gh s.heap) (.tail _ (.head _))).1;refine wpAny_execs_cons (wpAny_Return_some (wpAny_Constant_str ?_));exact⟨.ret (.str h.c),ls',H',PR.str (h:=h4),(R4.same (s':={ s3 with heap:=h4,toks:=s3.toks+1 }) rfl rfl rfl).pop2,kk,hq _ _ hQ⟩
  | next exc tup sub r=>
   injection hm with h1 h2
   injection h1 with h1 h3
   subst h1 h2;refine wpAny_handleBy_builtin (X:=X) (T:=h.Y) (b:=false) exc tup sub (ld ⟨rfl,⟨ob,hob,hobc⟩,?_⟩);rw[if_neg (by decide)];exact ih (λ h hh=>ok h (.tail _ hh)) r
theorem AS.tryC {body:List Stmt}{h₀:CH}{hl:List CH}{pos:Pos}{X:String}{c:Str}{nm:List (Str×NameKind)}{Q:AFl->Ls->zaA->Prop}{QE:Ls->zaA->Prop}(hn:env.scope.names=nm)(ok:∀ h∈h₀::hl,CHOk T.C nm h)(p:zzT X ((h₀::hl).map λ h=>(h.Y,h.c)) c)
  (h:∀ g,AX T env (.gh g::Fs) ls H body Q (Err T.C env (.gh g::Fs) X QE)) (hq:∀ ls' H',QE ls' H'->Q (.ret (.str c)) ls' H'):AS T env Fs ls H (.Try body ((h₀::hl).map CH.ast) [] [] pos) Q E:=
 AS.tryAny h λ A s e s3 ls' _ hh=>zvA hn hq hh ok p
theorem zkO.topMiss {value slice:Expr}{f:FR}{a:Addr}{x:Str}{es:Array DictEntry}{n:Nat}{Q:PV->zaA->Prop}{R:zaA->Prop}(hh:T.hd=false)(hl:T.C.K.lookup a=some ⟨.type "dict",none,.dict es n,#[]⟩)(hk:KeysLit T.C.w.params es.toList)(e:nsIn T.C.K a x=some none)(ha:(a==sysModules)=false)(hR:R H)
  (hE:∀ e s,Thr T.C f Fs "KeyError" R e s->E e s) (hs:∀ t,subscripted slice false (.ref a) (.str x t)=operate [.ref a,.str x t] (getItem (.ref a) (.str x t)):=by intro _;rfl):zkO T (.fr f::Fs) H value slice (.ref a) (.str x) Q E:=λ A s v w ok R' pv pw=>by
 rw[pv.ref_inv];obtain⟨t,rfl⟩:=pw.str_inv;have hm:=mapOf_K (prog:=T.C.prog) R'.kin hl hk;exact tail_any hm.typeIs slot_dict_getitem.lookup (wpAny_getItem_missing_of (strKind_is T.C.prog T.C.w x t) ha (ok.handled hh) hm (find_K hl e) λ h' e hx=>hE _ _ (.inl ⟨e,H,s,rfl,R',rfl,rfl,hR,yiF.of hx⟩)) (hs t)
end
theorem zbR.fields {o:Obj}{vs}(h:o.data=.fields vs):zbR o:=λ _ u9=>q21 u9 λ _ _ e=>by rw[h]at e;cases e
theorem zbR.func {o:Obj}{fd}(h:o.data=.func fd):zbR o:=λ _ u9=>q21 u9 λ _ _ e=>by rw[h]at e;cases e
noncomputable abbrev yjA:Str := "law.<locals>." ++ "<lambda>"
structure zyV (C:Cx)(c P:Addr):Prop where
 hd:CodeHd C.h₀ c P
 bm:C.h₀.BuiltinsAt C.mg P
noncomputable def zyT (P:Addr)(H:zaA)(v:Value):Prop:=∃ c o vs t,v=.ref c/\c≠P/\H c=some (.raw o)/\o.data=.fields vs/\vs[1]?=some (.str yjA t)
noncomputable def zbK (P:Addr)(H:zaA):Prop:=∃ ps:Array Value,H P=some (.raw (tabObj ps))/\TriplesOk ps.toList/\∀ pos v,codeAmong pos ps.toList=some v->zyT P H v
noncomputable def zpL (P:Addr)(H H':zaA):Prop:=∀ a o,a≠P->H a=some o->H' a=some o
theorem zpL.refl {P:Addr}{H:zaA}:zpL P H H:=λ _ _ _ e=>e
theorem zpL.trans {P:Addr}{H H' H'':zaA}(x:zpL P H H')(y:zpL P H' H''):zpL P H H'':=λ a o n e=>y a o n (x a o n e)
theorem zyT.ext {P:Addr}{H H':zaA}{v:Value}(h:zyT P H v)(x:zpL P H H'):zyT P H' v:=
 let ⟨c,o,vs,t,e,n,g,r⟩:=h;⟨c,o,vs,t,e,n,x _ _ n g,r⟩
noncomputable def zuZ (P:Addr)(env:Env)(params:Arguments)(body:Expr)(scope:Scope)(H:zaA)(a:Addr):Prop:=
 a≠P/\∃ pm c ctv,H a=some (.raw (kla_obj "<lambda>" yjA params body scope (zbD env scope.names []) pm c ctv))/\zyT P H (.ref c)
theorem zuZ.ext {P:Addr}{env:Env}{params:Arguments}{body:Expr}{scope:Scope}{H H':zaA}{a:Addr}(h:zuZ P env params body scope H a)(x:zpL P H H'):zuZ P env params body scope H' a:=
 let ⟨n,pm,c,ctv,e,k⟩:=h;⟨n,pm,c,ctv,x _ _ n e,k.ext x⟩
theorem zyG {pos pos':Pos}{c v:Value}(l:List Value)(h:TriplesOk l)(hs:codeAmong pos (l++[rawInt pos'.line,rawInt pos'.col,c])=some v):codeAmong pos l=some v\/v=c:=by
 fun_induction TriplesOk l with
 | case1=>
  simp only[List.nil_append,codeAmong,rawInt]at hs;split at hs
  ·exact .inr (Option.some.inj hs).symm
  ·cases hs
 | case2 a t b u x rest ih=>
  simp only[List.cons_append,codeAmong]at hs ⊢;split at hs
  ·rename_i hc;rw[if_pos hc];exact .inl hs
  ·rename_i hc;rw[if_neg hc];exact ih h hs
 | case3 l h1 h2=>exact h.elim
section
variable {T:Tr}{f:FR}{env:Env}{ls:Ls}{Fs:List AF}{H:zaA}{E:Value->Shared->Prop}{s:Shared}{A:Around}
theorem AE.lam {P c:Addr}{nm:List (Str×NameKind)}{params:Arguments}{body:Expr}{scope:Scope}{pos:Pos}{Q:PV->zaA->Prop}(LK:zyV T.C c P)(hc:T.code=some c)(hn:env.scope.names=nm)(sc:zeB scope nm)(hd:defaultsOf params env=([],[]))
  (ht:zbK P H) (h:∀ a H',zpL P H H'->zbK P H'->zuZ P env params body scope H' a->Q (.ref a) H'):AE T ⟨.fn,env,ls⟩ Fs H (.Lambda params body scope pos) Q E:=λ A s ok R=>by
 refine q13 ht λ ps hP htr hall=>?_;have F:zpA s.heap ⟨.fn,env,ls⟩:=(R.frs _ (.head _)).1;obtain⟨hcode,hqual⟩:=ok.look.2 _ _ c rfl rfl hc;replace hcode:env.code=.ref c:=hcode;replace hqual:env.qual = "law.<locals>." := hqual;have hcl:=ziW (scope:=scope) (env:=env) λ n hm=>by
  have:=sc.free _ hm rfl;rw[<- hn]at this;exact F.has n this
 have hg:=R.ok.top.g.keeps R.keep;refine q03 (R.objs P _ hP) λ sP nP rP=>?_;have hgP:mainGlobals≠P:=λ q=>by
  refine q32 R.ok.top.g λ o es ep e _=>?_;rw[q,nP.1]at e;cases e
 have hb:s.heap.BuiltinsAt T.C.mg P:=let ⟨bm,o,b1,b2,b3,b4,b5,r⟩:=LK.bm;⟨bm,o,b1,b2,b3,b4,R.keep _ _ b5,r⟩
 have ex:∀ a,s.heap.objs.size<=a->a≠P:=λ a ha q=>by
  have:=Heap.lt_size sP.1;rw[<- q]at this;exact absurd this (Nat.not_lt.mpr ha)
 refine kla_eval hd ?_;rw[hqual];cases hf:codeAmong pos ps.toList with
 | none=>
  refine kla_makeFunction hcl F.globals hg hcode (LK.hd.keeps R.keep) sP.1 htr hf hgP hb λ c' ctv h' tk hx hge hlt hrec htb=>?_;refine q41 hrec λ c2 oc vs t u8=>q04 u8 λ e2 hoc hdo hv=>?_;cases e2;have hge2:s.heap.objs.size<=h'.objs.size:=Nat.le_trans hge (Nat.le_of_lt hlt);have hne:c'≠h'.objs.size:=Nat.ne_of_lt hlt;have cP:=ex c' hge;have aP:=ex _ hge2
  let o1:Obj:=tabObj (ps++#[rawInt pos.line,rawInt pos.col,.ref c'])
  let o2:Obj:=kla_obj "<lambda>" yjA params body scope (zbD env scope.names []) ((T.C.mg "__name__").getD .none) c' ctv
  let H':zaA:=upd (upd (upd H P (.raw o1)) c' (.raw oc)) h'.objs.size (.raw o2)
  have eP:H' P=some (.raw o1):=(zaD (Ne.symm aP)).trans ((zaD (Ne.symm cP)).trans zaC);have ec:H' c'=some (.raw oc):=(zaD hne).trans zaC;have ea:H' h'.objs.size=some (.raw o2):=zaC;have xe:zpL P H H':=λ b o hb e=>by
   have h1:=R.lt e;refine (zaD λ q=>?_).trans ((zaD λ q=>?_).trans ((zaD hb).trans e))
   ·rw[q]at h1;exact absurd h1 (Nat.not_lt.mpr hge2)
   ·rw[q]at h1;exact absurd h1 (Nat.not_lt.mpr hge)
  have hco:zyT P H' (.ref c'):=⟨c',oc,vs,t,rfl,cP,ec,hdo,hv⟩
  have tk':zaB s.heap (h'.push o2):=zaB.trans (zaB.of_ext hx λ o' e'=>by rw[sP.1]at e';cases e';exact zbR.fields rfl) (zaB.of_keep λ b o e=>Heap.get?_push_of_some _ e);refine⟨.ref h'.objs.size,H',PR.ref,?_,tk',h _ _ xe ⟨_,eP,by rw[Array.toList_append];exact TriplesOk_snoc _ _ _ _ htr,λ pos' v q=>?_⟩ ⟨aP,_,c',ctv,ea,hco⟩⟩
  ·refine R.to (λ b=>b=P) (λ b o hb e=>Heap.get?_push_of_some _ (hx b o hb e)) tk' (λ b q=>q▸nP.1) (λ g hg b hb q=>rP g hg (q▸hb)) (λ b ob e=>?_)
   by_cases q1:b=h'.objs.size
   ·subst q1
    rw[ea]at e;cases e;exact .inr ⟨⟨Heap.get?_push_size _ rfl,zbR.func rfl⟩,(R.fresh_ge hge2).2⟩
   ·by_cases q2:b=c'
    ·subst q2
     rw[ec]at e;cases e;exact .inr ⟨⟨Heap.get?_push_of_some _ hoc,zbR.fields hdo⟩,(R.fresh_ge hge).2⟩
    ·by_cases q3:b=P
     ·subst q3
      rw[eP]at e;cases e;exact .inr ⟨⟨Heap.get?_push_of_some _ htb,zbR.fields rfl⟩,nP,rP⟩
     ·exact .inl ⟨by rw[<- e];exact ((zaD q1).trans ((zaD q2).trans (zaD q3))).symm,q3⟩
  ·rw[Array.toList_append]at q
   rcases zyG _ htr q with q|rfl
   ·exact (hall pos' v q).ext xe
   ·exact hco
 | some cv=>
  refine q41 (hall pos cv hf) ?_;intro c' oc vs t u8;refine q04 u8 ?_;clear u8;intro u0;subst u0;intro cP hc' r;refine kla_makeFunctionHit hcl F.globals hg hcode (LK.hd.keeps R.keep) sP.1 htr hf hb λ ctv h' tk hk hsz=>?_;have aP:=ex _ hsz
  let o2:Obj:=kla_obj "<lambda>" yjA params body scope (zbD env scope.names []) ((T.C.mg "__name__").getD .none) c' ctv
  have hk':∀ b o,s.heap.get? b=some o->(h'.push o2).get? b=some o:=λ b o e=>Heap.get?_push_of_some _ (hk b o e);have xe:zpL P H (upd H h'.objs.size (.raw o2)):=λ b o hb e=>by
   have h1:=R.lt e;exact (zaD λ q=>by rw[q]at h1;exact absurd h1 (Nat.not_lt.mpr hsz)).trans e
  refine⟨.ref h'.objs.size,upd H h'.objs.size (.raw o2),PR.ref,R.new hk' hsz ⟨Heap.get?_push_size _ rfl,zbR.func rfl⟩,zaB.of_keep hk',h _ _ xe ⟨ps,(zaD (Ne.symm aP)).trans hP,htr,λ p v q=>(hall p v q).ext xe⟩ ⟨aP,_,c',ctv,zaC,(hall pos _ hf).ext xe⟩⟩
end
theorem ybI {Fs:List AF}{f:FR}{b:Addr}{o:Obj}(hp:Fs.Pairwise yjG)(hf:AF.fr f∈Fs)(hb:AF.hid b o∈Fs):b∉zsJ f.env:=by
 induction Fs with
 | nil=>cases hf
 | cons g r ih=>
  obtain⟨h1,h2⟩:=List.pairwise_cons.mp hp;rcases List.mem_cons.mp hf with e|hf'
  ·rcases List.mem_cons.mp hb with e' | hb'
   ·rw[<- e]at e';cases e'
   ·have:=(h1 _ hb').2 b (.head _);rw[<- e]at this;exact this
  ·rcases List.mem_cons.mp hb with e' | hb'
   ·exact (h1 _ hf').1 b (by rw[<- e'];exact .head _)
   ·exact ih h2 hf' hb'
section
variable {T:Tr}{f:FR}{env:Env}{ls:Ls}{Fs:List AF}{H:zaA}{E:Value->Shared->Prop}{s:Shared}{A:Around}
theorem ycS {C:Cx}{scope:Scope}{nm:List (Str×NameKind)}{a:Addr}{cd:Value}{h1':Heap}(hn:env.scope.names=nm)(sc:zeB scope nm)(hnc:∀ x∈scope.names,x.2≠.cell)(R:Rep C Fs H s)(hf:AF.fr ⟨.fn,env,ls⟩∈Fs)
  (ns:h1'.Ns s.heap.objs.size (λ _=>none)) (hk:∀ b o,s.heap.get? b=some o->h1'.get? b=some o):
  Rep C (.fr ⟨.fn,envX yjA scope s.heap.objs.size a cd (zbD env scope.names []),zdL scope.names ls⟩::Fs) H { s with heap:=h1' }:=by
 have F:zpA s.heap ⟨.fn,env,ls⟩:=(R.frs _ hf).1;have tk:zaB s.heap h1':=zaB.of_keep hk;have hasF:∀ n,(n,NameKind.free)∈scope.names->∃ d,env.cells.lookup n=some d:=λ n hm=>by
  have:=sc.free _ hm rfl;rw[<- hn]at this;exact F.has n this
 have cmem:∀ y∈zbD env scope.names [],y∈env.cells:=λ y hy=>by
  rcases zpZ _ _ hy with h|⟨h,e⟩
  ·cases h
  ·obtain⟨d,hd⟩:=hasF _ h
   rw[hd]at e;have:=mem_of_lookup hd
   rwa [show (y.1,d)=y from by rw[show d=y.2 from e.symm]]at this
 have cread:∀ y∈zbD env scope.names [],y.2∈(AF.fr ⟨.fn,env,ls⟩).reads:=λ y hy=>List.mem_cons_of_mem _ (List.mem_map_of_mem (cmem y hy));have clt:∀ y∈zbD env scope.names [],y.2<s.heap.objs.size:=λ y hy=>by
  refine q22 (F.cells y (cmem y hy)) λ v o ho _=>?_;exact Heap.lt_size ho
 have nc:∀ x,scope.names.lookup x≠some .cell:=λ x e=>hnc _ (mem_of_lookup e) rfl;have look:∀ x,scope.names.lookup x=some .free->∃ d,env.cells.lookup x=some d/\(zbD env scope.names []).lookup x=some d:=λ x hx=>by
  obtain⟨d,hd⟩:=hasF x (mem_of_lookup hx);exact⟨d,hd,by rw[ziL _ _ sc.nodup,if_pos hx,hd];rfl⟩
 refine (R.ext (s':={ s with heap:=h1' }) hk).push ?_ ?_ ?_ ?_ ?_
 ·refine⟨sc.kind,rfl,rfl,⟨_,ns,λ x p e k=>?_⟩,λ y hy=>?_,λ x p e k=>?_,λ x k=>?_,?_,λ y hy=>Nat.ne_of_lt (clt y hy),λ _=>rfl⟩
  ·have k:scope.names.lookup x=some .local:=k
   have:=(zbU e).2;rw[k]at this;cases this
  ·obtain⟨v,r⟩:=F.cells y (cmem y hy)
   exact⟨v,zbY r λ o e=>hk _ _ e⟩
  ·have k:scope.names.lookup x=some .cell\/scope.names.lookup x=some .free:=k
   have k:=k.resolve_left (nc x);refine q12 (look x k) λ d h1 h2=>?_;have kf:=sc.free _ (mem_of_lookup k) rfl;rw[<- hn]at kf;refine q23 (F.cellv x p (zbU e).1 kf) λ c v e1 e2 e3=>?_;rw[show env.cells.lookup x=some d from h1]at e1;cases e1;exact⟨d,v,h2,zbY e2 λ o e=>hk _ _ e,e3.keep tk⟩
  ·have k:scope.names.lookup x=some .cell\/scope.names.lookup x=some .free:=k
   exact (look x (k.resolve_left (nc x))).imp λ d q=>q.2
  ·exact zkS F.apart _ _ (by simpa using sc.nodup) (λ y hy=>nomatch hy) (λ n hm=>hasF n hm) .nil
 ·intro b hb
  rcases List.mem_cons.mp hb with rfl|hb
  ·exact R.fresh0
  ·refine q12 (List.mem_map.mp hb) λ y hy u0=>?_;subst u0
   exact (R.frs _ hf).2 _ (cread y hy)
 ·intro b hb
  rcases List.mem_cons.mp hb with rfl|hb
  ·exact R.fresh
  ·refine q12 (List.mem_map.mp hb) λ y hy u0=>?_;subst u0
   cases e:H y.2 with
   | none=>rfl
   | some o=>exact absurd (cread y hy) ((R.objs _ _ e).2.2 _ hf)
 ·intro b hb g hg
  rcases List.mem_cons.mp hb with rfl|hb
  ·exact R.freshF hg
  ·refine q12 (List.mem_map.mp hb) λ y hy u0=>?_;subst u0
   have:=(List.mem_filter.mp hy).2;exact absurd (eq_of_beq this) (nc y.1)
 ·intro g hg b hb
  cases g with
  | fr g=>cases hb
  | gh g=>cases hb
  | hid c o=>
   cases List.mem_singleton.mp hb;intro hb';rcases List.mem_cons.mp hb' with e|hb'
   ·exact R.freshF hg (List.mem_singleton.mpr e.symm)
   ·refine q12 (List.mem_map.mp hb') λ y hy e=>?_
    exact ybI R.apart hf hg (e▸cread y hy)
theorem zfW.lam {P a:Addr}{nm:List (Str×NameKind)}{params:Arguments}{body:Expr}{scope:Scope}{X:String}{Re:zaA->Prop}{Q:PV->zaA->Prop}(hneed:(⟨.fn,env,ls⟩:FR)∈T.need)(hL:zuZ P env params body scope H a)
  (hn:env.scope.names=nm) (sc:zeB scope nm) (hnc:∀ x∈scope.names,x.2≠.cell) (hco:scope.isCoroutine=false) (hgen:scope.isGenerator=false)
  (hb:∀ cl pm c ctv,bindArgs (kla_fn "<lambda>" yjA params body scope cl pm c ctv) ⟨[],[]⟩=pure []) (h1:1<=T.n) (hE:∀ e s,Fly T.C Fs X Re e s->E e s)
  (h:∀ cenv,cenv.scope=scope->AE T.down ⟨.fn,cenv,zdL scope.names ls⟩ Fs H body Q (Thr T.C ⟨.fn,cenv,zdL scope.names ls⟩ Fs X Re)):zfW T Fs H (.ref a) [] Q E:=λ A s v vs ok R pv prs=>by
 rw[pv.ref_inv,prs.nil_inv];refine q02 hL λ _ u8=>q32 u8 λ pm c ctv ha u8=>q41 u8 λ c2 oc cvs t u8=>q05 u8 λ ec _ hc hd hv=>?_;cases ec;have hf:AF.fr ⟨.fn,env,ls⟩∈Fs:=List.mem_of_mem_tail (ok.look.1 _ hneed);refine kla_callFunE (by have:=ok.depth;show A.depth<1000;lia) (R.objs a _ ha).1.1 rfl hco hgen rfl ⟨c,oc,cvs,t,rfl,(R.objs c _ hc).1.1,hd,hv⟩ ?_;rw[hb];refine wpAny_pure (wpAny_newFunctionEnv hnc (λ x hx=>nomatch hx) (λ h1' hns hsb=>⟨(R.ok.top.nolimit.keeps R.keep).fresh _ hsb,?_⟩) sc.kind);have hk:∀ b o,s.heap.get? b=some o->h1'.get? b=some o:=λ b o e=>hsb.extBut b o (Nat.ne_of_lt (Heap.lt_size e)) (Heap.get?_push_of_some _ e);have R1:=(ycS (a:=a) (cd:=.ref c) (h1':=h1') hn sc hnc R hf hns hk).same (s':={ s with heap:=h1',toks:=s.toks+([]:List (Str×Value)).length });have ok1:=ok.deeper (env:=envX yjA scope s.heap.objs.size a (.ref c) (zbD env scope.names [])) (ls:=zdL scope.names ls) h1;refine kla_codeExpr (wpAny_mono (h _ rfl _ _ ok1 R1) (λ v s' hh=>?_) λ e s' x=>?_)
 ·obtain⟨p,H',pr,R',k',q⟩:=hh
  exact⟨p,H',pr,R'.pop,zaB.trans (zaB.of_keep hk) k',q⟩
 ·exact ztN (Q:=λ _ H=>Re H) ok1.frames (Err.of_thr x λ _ q=>q) λ s'' y=>hE _ _ (y.mono λ H' q=>q.elim λ _ q=>q)
end
inductive zhB (P:Addr)(env:Env)(H:zaA):List Expr->List Addr->Prop
 | nil:zhB P env H [] []
 | cons (params:Arguments) (body:Expr) (scope:Scope) (pos:Pos) (es:List Expr) (a:Addr) (as:List Addr) (h:zuZ P env params body scope H a) (r:zhB P env H es as):zhB P env H (.Lambda params body scope pos::es) (a::as)
theorem zhB.ext {P:Addr}{env:Env}{H H':zaA}{es:List Expr}{as:List Addr}(h:zhB P env H es as)(x:zpL P H H'):zhB P env H' es as:=by
 induction h with
 | nil=>exact .nil
 | cons params body scope pos es a as h r ih=>exact .cons params body scope pos es a as (h.ext x) ih
inductive zvD (nm:List (Str×NameKind)):List Expr->Prop
 | nil:zvD nm []
 | cons (params:Arguments) (body:Expr) (scope:Scope) (pos:Pos) (es:List Expr) (hd:∀ env,defaultsOf params env=([],[])) (sc:zeB scope nm) (r:zvD nm es):zvD nm (.Lambda params body scope pos::es)
section
variable {T:Tr}{f:FR}{env:Env}{ls:Ls}{Fs:List AF}{H:zaA}{E:Value->Shared->Prop}{s:Shared}{A:Around}
theorem AL.lams {P c:Addr}{nm:List (Str×NameKind)}{es:List Expr}{Q:List PV->zaA->Prop}(LK:zyV T.C c P)(hc:T.code=some c)(hn:env.scope.names=nm)(he:zvD nm es)
  (ht:zbK P H) (h:∀ as H',zpL P H H'->zbK P H'->zhB P env H' es as->Q (as.map .ref) H'):AL T ⟨.fn,env,ls⟩ Fs H es Q E:=by
 induction he generalizing H Q with
 | nil=>exact AL.nil (h [] H .refl ht .nil)
 | cons params body scope pos es hd sc r ih=>
  exact AL.cons (AE.lam LK hc hn sc (hd env) ht λ a H1' x1 t1 l1=>ih t1 λ as H2' x2 t2 l2=>h (a::as) H2' (x1.trans x2) t2 (.cons _ _ _ _ _ _ _ (l1.ext x2) l2))
theorem AE.callRaw {func:Expr}{pos:Pos}{Q:PV->zaA->Prop}(hf:∀ env,eval (.Call func [] [] pos) env=(do callWith pos (<- eval func env) [] (backTo pos (starEach [] env)) (backToKw pos (keywordEach [] env))))
  (h:AE T f Fs H func (λ g H1'=>∃ a o fd,g=.ref a/\H1' a=some (.raw o)/\o.data=.func fd/\zbH T (.fr f::Fs) H1' g [] Q E) E):AE T f Fs H (.Call func [] [] pos) Q E:=λ A s ok R=>by
 rw[hf];refine wpAny_bind (wpAny_mono (h A s ok R) (λ v s1 hh=>hh.elim λ g H1' pr R1 k1 hq=>?_) λ _ _ x=>x);refine q31 hq ?_;clear hq;intro a o fd u8;refine q04 u8 ?_;clear u8;intro u0;subst u0;intro ha hd h1';rw[pr.ref_inv];refine callWith_function (o:=o) (fd:=fd) (zfF rfl (wpAny_mono ((AL.nil (Q:=λ ps H=>ps=[]/\H=H1') ⟨rfl,rfl⟩:AL T f Fs H1' [] _ E) A s1 pos ok R1) (λ vs s2 ⟨ps,H2',prs,R2,k2,e1,e2⟩=>?_) λ _ _ x=>x));subst e1;subst e2;refine⟨⟨(R2.objs a _ ha).1.1,hd⟩,?_⟩;exact wpAny_mono (h1' A s2 _ vs ok R2 PR.ref prs) (λ u s3 ⟨p',H',pr',R',k',hq⟩=>⟨p',H',pr',R',k1.trans (k2.trans k'),hq⟩) λ _ _ x=>x
end
noncomputable abbrev LN:=List (Nat×PV)
inductive CT where
 | one (x:Nat)
 | many (xs:List Nat)
inductive IE where
 | int (i:Int)
 | str (s:Str)
 | none
 | bool (b:Bool)
 | var (x:Nat)
 | glob (p:PV)
 | bin (o:Operator) (a b:IE)
 | un (o:UnaryOp) (a:IE)
 | cmp (o:CmpOp) (a b:IE)
 | cmp2 (o o':CmpOp) (a b c:IE)
 | boolop (o:BoolOp) (l:IE)
 | ife (t a b:IE)
 | nil
 | cons (a b:IE)
 | tup (l:IE)
 | list (l:IE)
 | attr (a:IE) (x:Str)
 | sub (a i:IE)
 | slice (a lo hi:IE)
 | call (g:PV) (l:IE)
 | meth (o:IE) (x:Str) (l:IE)
 | comp (t:CT) (it fs e:IE)
 | compRR (x y:Nat) (i1 i2 fs e:IE)
 | subR (a i:IE)
 | callV (x:Nat)
inductive IT where
 | var (x:Nat)
 | tup (l:IT)
 | tupS (t:IT)
 | nil
 | cons (a b:IT)
 | attr (e:IE) (x:Str)
 | sub (e i:IE)
inductive IS where
 | skip
 | seq (a b:IS)
 | cut (a:IS)
 | expr (e:IE)
 | assign (t:IT) (e:IE)
 | assignC (x:Nat) (e:IE)
 | aug (x:Nat) (o:Operator) (e:IE)
 | ite (t:IE) (a b:IS)
 | ret (e:IE)
 | brk
 | cont
 | for_ (t:IT) (it:IE) (b:IS)
 | while_ (t:IE) (b:IS)
 | try_ (b:IS) (x:Str) (Y:String) (h:IS)
 | raise_ (x:Str) (Y:String)
 | forR (t:IT) (it:IE) (b:IS)
 | tryC (b:IS) (hs:List (Str×String×Str))
 | iteL (x:Nat) (e:IE) (bs:List IE) (r:IE) (a b:IS)
set_option genCtorIdx true in
inductive Md where
 | v|t|a|o|b
@[irreducible] noncomputable def zfJ (T:Tr) (op:Value->Value->Sem Value) (p q:PV) (H:zaA) (Q:PV->zaA->Prop):Prop:=∀ Fs,zhL T Fs H op p q Q NoE
@[irreducible] noncomputable def zdH (T:Tr) (op:CmpOp) (p q:PV) (H:zaA) (Q:Bool->zaA->Prop):Prop:=∀ Fs,zdC T Fs H op p q Q NoE
@[irreducible] noncomputable def STr (T:Tr) (p:PV) (H:zaA) (Q:Bool->zaA->Prop):Prop:=∀ Fs,ATr T Fs H p Q NoE
@[irreducible] noncomputable def zoW (T:Tr) (x:Str) (p:PV) (H:zaA) (Q:PV->zaA->Prop):Prop:=∀ Fs,yiI T Fs H x p Q NoE
@[irreducible] noncomputable def zbQ (T:Tr) (x:Str) (p:PV) (H:zaA) (g:PV):Prop:=zhK T.C.K g=true/\∀ Fs,zfY T Fs H x p g
@[irreducible] noncomputable def zdB (T:Tr) (p q:PV) (H:zaA) (Q:PV->zaA->Prop):Prop:=∀ Fs value slice,(∀ o i,subscripted slice false o i=operate [o,i] (getItem o i))->zkO T Fs H value slice p q Q NoE
@[irreducible] noncomputable def zcV (T:Tr) (p i q:PV) (H:zaA) (Q:zaA->Prop):Prop:=∀ Fs,zhW T Fs H p i q Q NoE
@[irreducible] noncomputable def zaR (T:Tr) (x:Str) (p q:PV) (H:zaA) (Q:zaA->Prop):Prop:=∀ Fs,zjM T Fs H x p q Q NoE
@[irreducible] noncomputable def zaG (T:Tr) (X:String) (g:PV) (ps:List PV) (H:zaA) (Q:PV->zaA->Prop) (R:zaA->Prop):Prop:=
 ∀ Fs E,(∀ e s,Fly T.C Fs X R e s->E e s)->zbH T Fs H g ps Q E
@[irreducible] noncomputable def ziC (T:Tr) (X:String) (p:PV) (H:zaA) (Q:PV->zaA->Prop) (R:zaA->Prop):Prop:=
 ∃ a o fd,p=.ref a/\H a=some (.raw o)/\o.data=.func fd/\zaG T X p [] H Q R
noncomputable def zgI (p q:PV)(A:Int->Int->Prop)(B:Prop):Prop:=match p with
 | .int a=>(match q with
  | .int b=>A a b
  | _=>B)
 | _=>B
noncomputable def yaT (p q:PV)(A:Str->Str->Prop)(B:Prop):Prop:=match p with
 | .str a=>(match q with
  | .str b=>A a b
  | _=>B)
 | _=>B
noncomputable def ybG (q:PV)(A B:Prop):Prop:=match q with
 | .none=>A
 | _=>B
noncomputable def wBin (T:Tr)(o:Operator)(p q:PV)(H:zaA)(Q:PV->zaA->Prop):Prop:=match o with
 | .Add=>zgI p q (λ a b=>Q (.int (a+b)) H) (zfJ T (binaryOp .Add) p q H Q)
 | .Sub=>zgI p q (λ a b=>Q (.int (a-b)) H) (zfJ T (binaryOp .Sub) p q H Q)
 | .Mult=>zgI p q (λ a b=>IntMulOk a b/\Q (.int (a*b)) H) (zfJ T (binaryOp .Mult) p q H Q)
 | .Mod=>zgI p q (λ a b=>b≠0/\Q (.int (a.fmod b)) H) (zfJ T (binaryOp .Mod) p q H Q)
 | .FloorDiv=>zgI p q (λ a b=>(b≠0/\Builtin.divisionGoesByPylong a b=false)/\Q (.int (a.fdiv b)) H) (zfJ T (binaryOp .FloorDiv) p q H Q)
 | .Pow=>zgI p q (λ a b=>(0<=b/\(Builtin.Int.intBits a:Int)*b<=2 ^ 27)/\Q (.int (a ^ b.toNat)) H) (zfJ T (binaryOp .Pow) p q H Q)
 | _=>False
noncomputable def wAug (T:Tr)(o:Operator)(p q:PV)(H:zaA)(Q:PV->zaA->Prop):Prop:=zfJ T (inplaceOp o) p q H Q
noncomputable def ygN (T:Tr)(o:CmpOp)(p q:PV)(H:zaA)(Q:Bool->zaA->Prop):Prop:=match o with
 | .Lt=>zgI p q (λ a b=>Q (decide (a<b)) H) (zdH T .Lt p q H Q)
 | .LtE=>zgI p q (λ a b=>Q (decide (a<=b)) H) (zdH T .LtE p q H Q)
 | .Gt=>zgI p q (λ a b=>Q (decide (b<a)) H) (zdH T .Gt p q H Q)
 | .GtE=>zgI p q (λ a b=>Q (decide (b<=a)) H) (zdH T .GtE p q H Q)
 | .Eq=>zgI p q (λ a b=>Q (decide (a=b)) H) (yaT p q (λ a b=>Q (a==b) H) (zdH T .Eq p q H Q))
 | .NotEq=>zgI p q (λ a b=>Q (!decide (a=b)) H) (yaT p q (λ a b=>Q (a != b) H) (zdH T .NotEq p q H Q))
 | .Is=>ybG q (Q p.isNone H) (zdH T .Is p q H Q)
 | .IsNot=>ybG q (Q (!p.isNone) H) (zdH T .IsNot p q H Q)
 | .NotIn=>zdH T .In p q H (λ b H'=>Q (!b) H')
 | .In=>zdH T .In p q H Q
noncomputable def wTr (T:Tr)(p:PV)(H:zaA)(Q:Bool->zaA->Prop):Prop:=match p with
 | .bool b=>Q b H
 | .int i=>Q (!decide (i=0)) H
 | p=>STr T p H Q
noncomputable def zhU (T:Tr)(m:Md)(Q:PV->zaA->Prop)(p:PV)(H:zaA):Prop:=match m with
 | .v=>Q p H
 | .t=>wTr T p H (λ b H'=>Q (.bool b) H')
 | _=>False
noncomputable def wUn (T:Tr)(o:UnaryOp)(p:PV)(H:zaA)(Q:PV->zaA->Prop):Prop:=match o,p with
 | .USub,.int a=>Q (.int (-a)) H
 | .Not,p=>wTr T p H (λ b H'=>Q (.bool (!b)) H')
 | _,_=>False
noncomputable def lkN (x:Nat):LN->Option PV
 | []=>Option.none
 | (y,p)::l=>cond (Nat.beq x y) (some p) (lkN x l)
noncomputable def IE.isNo:IE->Bool
 | .none=>true
 | _=>false
noncomputable def yeK (no:Bool)(lo:PV)(Q:Option Int->Prop):Prop:=match no,lo with
 | true,_=>Q Option.none
 | false,.int i=>Q (some i)
 | false,_=>False
noncomputable def IE.isCons:IE->Bool
 | .cons _ _=>true
 | _=>false
@[irreducible] noncomputable def zfE (T:Tr) (X:String) (p q:PV) (H:zaA) (Q:PV->zaA->Prop) (R:zaA->Prop):Prop:=
 zdB T p q H Q\/(X = "IndexError" /\ T.hd=false/\R H/\∃ a l k,p=.ref a/\H a=some (.list l)/\q=.int k/\(k < -(l.length:Int)\/(l.length:Int)<=k)/\-(2 ^ 63)<=k/\k<2 ^ 63) \/
  X = "KeyError" /\ T.hd=false/\R H/\∃ a x es n,p=.ref a/\q=.str x/\T.C.K.lookup a=some ⟨.type "dict",none,.dict es n,#[]⟩/\KeysLit T.C.w.params es.toList/\nsIn T.C.K a x=some none/\(a==sysModules)=false
@[irreducible] noncomputable def zdD (T:Tr) (p:PV) (lo hi:Option Int) (H:zaA) (Q:PV->zaA->Prop):Prop:=
 ∃ a l,p=.ref a/\LAt T.C H a l/\l.length<=100000/\∀ c,H c=Option.none->Q (.ref c) (upd H c (.list (zgF l lo hi)))
inductive zfZ (T:Tr)(p:PV)(H:zaA)(step:PV->zaA->(Option PV->zaA->Prop)->Prop)(Q:PV->zaA->Prop):Prop
 | list (a:Addr) (l:List PV) (e:p=.ref a) (hl:H a=some (.list l)) (hz:l.length<=100000) (J:Nat->List PV->zaA->Prop) (h0:J 0 [] H)
   (hk:∀ i out H',J i out H'->H' a=some (.list l))
   (turn:∀ i v out H',l[i]?=some v->J i out H'->step v H' (λ r H''=>J (i+1) (out++r.toList) H''))
   (fin:∀ out H',J l.length out H'->∃ H2',Ext H2' H'/\∀ c,H2' c=Option.none->Q (.ref c) (upd H2' c (.list out))):zfZ T p H step Q
 | rangeF (a:Addr) (lo n:Nat) (e:p=.ref a) (hle:lo<=n) (hl:H a=some (.range lo n)) (hz:n<=100000) (J:Nat->List PV->zaA->Prop) (h0:J lo [] H)
   (turn:∀ (i:Nat) out H',lo<=i->i<n->J i out H'->step (.int i) H' (λ r H''=>J (i+1) (out++r.toList) H''))
   (fin:∀ out H',J n out H'->∃ H2',Ext H2' H'/\∀ c,H2' c=Option.none->Q (.ref c) (upd H2' c (.list out))):zfZ T p H step Q
theorem zfZ.range {T:Tr}{p:PV}{H:zaA}{step:PV->zaA->(Option PV->zaA->Prop)->Prop}{Q:PV->zaA->Prop}(a:Addr)(n:Nat)(e:p=.ref a)(hl:H a=some (.range 0 n))(hz:n<=100000)(J:Nat->List PV->zaA->Prop)(h0:J 0 [] H)
  (turn:∀ (i:Nat) out H',i<n->J i out H'->step (.int i) H' (λ r H''=>J (i+1) (out++r.toList) H''))
  (fin:∀ out H',J n out H'->∃ H2',Ext H2' H'/\∀ c,H2' c=Option.none->Q (.ref c) (upd H2' c (.list out))):zfZ T p H step Q:=.rangeF a 0 n e (Nat.zero_le n) hl hz J h0 (λ i out H' _=>turn i out H') fin
noncomputable def zsE:CT->PV->LN->Option LN
 | .one x,p,ls=>some ((x,p)::ls)
 | .many [x,y],.tup [p,q],ls=>some ((y,q)::(x,p)::ls)
 | _,_,_=>Option.none
noncomputable def CT.vars:CT->List Nat
 | .one x=>[x]
 | .many xs=>xs
noncomputable def ziJ (vs:List Nat):LN->LN
 | []=>[]
 | (y,p)::l=>cond (vs.any (Nat.beq y)) (ziJ vs l) ((y,p)::ziJ vs l)
noncomputable def ynR (A:List PV->zaA->Prop)(p:PV)(H:zaA):Prop:=match p with
 | .tup ps=>A ps H
 | _=>False
noncomputable def noR:zaA->Prop:=λ _=>False
noncomputable def w (T:Tr)(X:String):IE->Md->LN->zaA->(zaA->Prop)->(PV->zaA->Prop)->Prop
 | .int i,m,ls,H,R,Q=>zhU T m Q (.int i) H
 | .str i,m,ls,H,R,Q=>zhU T m Q (.str i) H
 | .none,m,ls,H,R,Q=>zhU T m Q .none H
 | .bool i,m,ls,H,R,Q=>zhU T m Q (.bool i) H
 | .var x,m,ls,H,R,Q=>match lkN x ls with
  | some p=>zhU T m Q p H
  | Option.none=>False
 | .glob p,m,ls,H,R,Q=>zhU T m Q p H
 | .bin o a b,m,ls,H,R,Q=>w T X a .v ls H R λ p H1'=>w T X b .v ls H1' R λ q H2'=>wBin T o p q H2' (zhU T m Q)
 | .un o a,m,ls,H,R,Q=>match m,o with
  | .t,.Not=>w T X a .t ls H R λ p H1'=>match p with
   | .bool b=>Q (.bool (!b)) H1'
   | _=>False
  | .v,o=>w T X a .v ls H R λ p H1'=>wUn T o p H1' Q
  | _,_=>False
 | .cmp o a b,m,ls,H,R,Q=>match m with
  | .v=>w T X a .v ls H R λ p H1'=>w T X b .v ls H1' R λ q H2'=>ygN T o p q H2' λ c H3=>Q (.bool c) H3
  | .t=>w T X a .v ls H R λ p H1'=>w T X b .v ls H1' R λ q H2'=>ygN T o p q H2' λ c H3=>Q (.bool c) H3
  | _=>False
 | .cmp2 o o' a b c,m,ls,H,R,Q=>match m with
  | .t=>w T X a .v ls H R λ p H1'=>w T X b .v ls H1' R λ q H2'=>ygN T o p q H2' λ d H3=>cond d (w T X c .v ls H3 R λ q' H4=>ygN T o' q q' H4 λ d' H5=>Q (.bool d') H5) (Q (.bool false) H3)
  | _=>False
 | .boolop o l,m,ls,H,R,Q=>match m,o with
  | .t,.And=>w T X l .a ls H R Q
  | .t,.Or=>w T X l .o ls H R Q
  | .v,.And=>cond l.isCons (w T X l .b ls H R Q) False
  | _,_=>False
 | .ife t a b,m,ls,H,R,Q=>match m with
  | .v=>w T X t .t ls H R λ p H1'=>match p with
   | .bool c=>cond c (w T X a .v ls H1' R Q) (w T X b .v ls H1' R Q)
   | _=>False
  | _=>False
 | .nil,m,ls,H,R,Q=>match m with
  | .v=>Q (.tup []) H
  | .a=>Q (.bool true) H
  | .o=>Q (.bool false) H
  | .b=>Q (.bool true) H
  | .t=>False
 | .cons a b,m,ls,H,R,Q=>match m with
  | .v=>w T X a .v ls H R λ p H1'=>w T X b .v ls H1' R (ynR λ ps H2'=>Q (.tup (p::ps)) H2')
  | .a=>w T X a .t ls H R λ p H1'=>match p with
   | .bool c=>cond c (w T X b .a ls H1' R Q) (Q (.bool false) H1')
   | _=>False
  | .o=>w T X a .t ls H R λ p H1'=>match p with
   | .bool c=>cond c (Q (.bool true) H1') (w T X b .o ls H1' R Q)
   | _=>False
  | .b=>w T X a .v ls H R λ p H1'=>match p with
   | .bool c=>cond c (w T X b .b ls H1' R Q) (Q (.bool false) H1')
   | _=>False
  | .t=>False
 | .tup l,m,ls,H,R,Q=>w T X l .v ls H R (ynR λ ps H1'=>cond (Nat.ble ps.length 1000) (zhU T m Q (.tup ps) H1') False)
 | .list l,m,ls,H,R,Q=>w T X l .v ls H R (ynR λ ps H1'=>cond (Nat.ble ps.length 1000) (∀ c,H1' c=Option.none->zhU T m Q (.ref c) (upd H1' c (.list ps))) False)
 | .attr a x,m,ls,H,R,Q=>w T X a .v ls H R λ p H1'=>zoW T x p H1' (zhU T m Q)
 | .sub a i,m,ls,H,R,Q=>w T X a .v ls H R λ p H1'=>w T X i .v ls H1' R λ q H2'=>zdB T p q H2' (zhU T m Q)
 | .slice a lo hi,m,ls,H,R,Q=>w T X a .v ls H R λ p H1'=>w T X lo .v ls H1' R λ i H2'=>yeK lo.isNo i λ i'=>w T X hi .v ls H2' R λ j H3=>yeK hi.isNo j λ j'=>zdD T p i' j' H3 (zhU T m Q)
 | .call g l,m,ls,H,R,Q=>w T X l .v ls H R (ynR λ ps H1'=>zaG T X g ps H1' (zhU T m Q) R)
 | .meth o x l,m,ls,H,R,Q=>w T X o .v ls H R λ p H1'=>∃ g,zbQ T x p H1' g/\w T X l .v ls H1' R (ynR λ ps H2'=>zaG T X g (p::ps) H2' (zhU T m Q) R)
 | .comp t it fs e,m,ls,H,R,Q=>w T X it .v ls H R λ p H1'=>zfZ T p H1' (λ v H' K=>match zsE t v (ziJ t.vars ls) with
  | some ls'=>w T X fs .a ls' H' noR λ b H2'=>match b with
   | .bool b=>cond b (w T X e .v ls' H2' noR λ r H3=>K (some r) H3) (K Option.none H2')
   | _=>False
  | Option.none=>False) (zhU T m Q)
 | .compRR x y i1 i2 fs e,m,ls,H,R,Q=>∃ (n k:Nat) (g:Nat->Nat->Option PV),n*k<=90000/\n<2 ^ 62/\k<2 ^ 62/\w T X i1 .v ls H R λ p H1'=>∃ a,p=.ref a/\H1' a=some (.range 0 n) /\
   (∀ (i:Nat) H',i<n->Ext H1' H'->w T X i2 .v ((x,.int i)::ziJ [x,y] ls) H' noR λ q H2'=>∃ b,q=.ref b/\H2' b=some (.range 0 k)/\Ext H1' H2') /\
   (∀ (i j:Nat) H',i<n->j<k->Ext H1' H'->w T X fs .a ((y,.int j)::(x,.int i)::ziJ [x,y] ls) H' noR λ b H2'=>match b with
    | .bool b=>Ext H1' H2'/\cond b (∃ r,g i j=some r/\w T X e .v ((y,.int j)::(x,.int i)::ziJ [x,y] ls) H2' noR λ q H3=>q=r/\Ext H1' H3) (g i j=Option.none)
    | _=>False) /\
   ∀ c,H1' c=Option.none->zhU T m Q (.ref c) (upd H1' c (.list (zbT n k g)))
 | .subR a i,m,ls,H,R,Q=>w T X a .v ls H R λ p H1'=>w T X i .v ls H1' R λ q H2'=>zfE T X p q H2' (zhU T m Q) R
 | .callV x,m,ls,H,R,Q=>match lkN x ls with
  | some p=>ziC T X p H (zhU T m Q) R
  | Option.none=>False
noncomputable def IT.len:IT->Nat
 | .cons _ b=>b.len+1
 | _=>0
noncomputable def ykI (p:PV)(n:Nat):Bool:=match p with
 | .tup ps=>Nat.beq ps.length n
 | _=>false
noncomputable def wT (T:Tr)(X:String):IT->PV->LN->zaA->(LN->zaA->Prop)->(LN->zaA->Prop)->Prop
 | .var x,p,ls,H,R,Q=>Q ((x,p)::ls) H
 | .tup l,p,ls,H,R,Q=>cond (ykI p l.len) (wT T X l p ls H R Q) False
 | .tupS t,p,ls,H,R,Q=>∃ a q,p=.ref a/\H a=some (.pset [q])/\wT T X t (pt q) ls H R Q
 | .nil,p,ls,H,R,Q=>match p with
  | .tup []=>Q ls H
  | _=>False
 | .cons a b,p,ls,H,R,Q=>match p with
  | .tup (q::ps)=>wT T X a q ls H R λ ls' H'=>wT T X b (.tup ps) ls' H' R Q
  | _=>False
 | .attr e x,p,ls,H,R,Q=>w T X e .v ls H (R ls) λ q H1'=>zaR T x q p H1' λ H2'=>Q ls H2'
 | .sub e i,p,ls,H,R,Q=>w T X e .v ls H (R ls) λ q H1'=>w T X i .v ls H1' (R ls) λ j H2'=>zcV T q j p H2' λ H3=>Q ls H3
noncomputable def zmF (N:LN->zaA->Prop)(Q:AFl->LN->zaA->Prop)(a:AFl)(ls:LN)(H:zaA):Prop:=match a with
 | .next=>N ls H
 | .cont=>N ls H
 | .brk=>Q .next ls H
 | .ret p=>Q (.ret p) ls H
noncomputable def zaX:LN->LN->Prop
 | [],_=>True
 | (x,p)::l,ls=>lkN x ls=some p/\zaX l ls
noncomputable def zjH {α:Type}(L:α->LN)(J:α->zaA->Prop)(ls:LN)(H:zaA):Prop:=∃ b,zaX (L b) ls/\J b H
inductive zkW (T:Tr)(p:PV)(ls:LN)(H:zaA)(step:PV->LN->zaA->(AFl->LN->zaA->Prop)->Prop)(Q:AFl->LN->zaA->Prop):Prop
 | list (a:Addr) (l:List PV) (e:p=.ref a) (hl:H a=some (.list l)) (α:Type) (L:α->LN) (J:Nat->α->zaA->Prop) (b0:α) (s0:zaX (L b0) ls) (h0:J 0 b0 H)
   (hk:∀ i b H',J i b H'->H' a=some (.list l))
   (turn:∀ i v b H',l[i]?=some v->J i b H'->step v (L b) H' (zmF (zjH L (J (i+1))) Q))
   (fin:∀ b H',J l.length b H'->Q .next (L b) H'):zkW T p ls H step Q
 | grow (a:Addr) (e:p=.ref a) (hl:∃ l,H a=some (.list l)) (α:Type) (L:α->LN) (J:Nat->Nat->α->zaA->Prop) (n:Nat) (b0:α) (s0:zaX (L b0) ls) (h0:J n 0 b0 H)
   (turn:∀ n i b H',J n i b H'->∃ l,H' a=some (.list l)/\(∀ v,l[i]?=some v->step v (L b) H' (zmF (zjH L (λ b H2'=>∃ m,m<n/\J m (i+1) b H2')) Q))/\(l.length<=i->Q .next (L b) H')):zkW T p ls H step Q
 | range (a:Addr) (n:Nat) (e:p=.ref a) (hl:H a=some (.range 0 n)) (hz:n<2 ^ 62) (α:Type) (L:α->LN) (J:Nat->α->zaA->Prop) (b0:α) (s0:zaX (L b0) ls) (h0:J 0 b0 H)
   (turn:∀ (i:Nat) b H',i<n->J i b H'->step (.int i) (L b) H' (zmF (zjH L (J (i+1))) Q))
   (fin:∀ b H',J n b H'->Q .next (L b) H'):zkW T p ls H step Q
 | set (hh:T.hd=false) (a:Addr) (l:List Pt) (e:p=.ref a) (hl:H a=some (.pset l)) (α:Type) (L:α->LN)
   (J:List Pt->Nat->α->zaA->Prop) (b0:α) (s0:zaX (L b0) ls) (h0:∀ l':List Pt,l'.Perm l->J l' 0 b0 (rem H a))
   (turn:∀ (l':List Pt) i q b H',l'.Perm l->l'[i]?=some q->J l' i b H'->step (pt q) (L b) H' (zmF (zjH L (J l' (i+1))) (λ _ _ _=>False)))
   (fin:∀ (l':List Pt) b H',l'.Perm l->J l' l'.length b H'->Q .next (L b) (upd H' a (.pset l))):zkW T p ls H step Q
@[irreducible] noncomputable def zsO (T:Tr) (p:PV) (ls:LN) (H:zaA) (step:PV->LN->zaA->(AFl->LN->zaA->Prop)->Prop) (Q:AFl->LN->zaA->Prop):Prop:=
 ∃ (a:Addr) (l:List PV),p=.ref a/\H a=some (.list l)/\∃ (α:Type) (L:α->LN) (J:Nat->α->zaA->Prop) (b0:α),zaX (L b0) ls/\J 0 b0 H/\(∀ i b H',J i b H'->H' a=some (.list l)) /\
  (∀ i v b H',l[i]?=some v->J i b H'->step v (L b) H' (zmF (zjH L (J (i+1))) Q))/\∀ b H',J l.length b H'->Q .next (L b) H'
noncomputable def cutK {α:Type}(L:α->LN)(P:α->zaA->Prop)(Q:AFl->LN->zaA->Prop)(a:AFl)(ls:LN)(H:zaA):Prop:=match a with
 | .next=>zjH L P ls H
 | .brk=>Q .brk ls H
 | .cont=>Q .cont ls H
 | .ret p=>Q (.ret p) ls H
noncomputable def zqB:LN->zaA->Prop:=λ _ _=>False
structure zvF (X Y:String):Prop where
 exc:isSubtype (.type Y) (.type "BaseException")=pure true
 tup:isSubtype (.type ((Manifest.find? Y).elim "type" λ y=>y.metatype)) (.type "tuple")=pure false
 sub:isSubtype (.type X) (.type Y)=pure true
structure zwJ (Y:String):Prop where
 cls:∃ N I,ExcClass Y N I
 self:isSubtype (.type Y) (.type Y)=pure true
noncomputable def yhP (T:Tr)(f:FR)(bs:List IE)(ls:LN)(H:zaA)(lams:List Addr):Prop:=
 ∀ (i:Nat) (b:IE) (lam:Addr),bs[i]?=some b->lams[i]?=some lam->∀ (T':Tr) (X':String) (H':zaA) (R':zaA->Prop) (Q':PV->zaA->Prop),T'.C=T.C->f∈T'.need->T'.hd=false->1<=T'.n->Ext H H' ->
  w T'.down X' b .v ls H' R' Q'->ziC T' X' (.ref lam) H' Q' R'
noncomputable def wS:IS->String->Tr->LN->zaA->(LN->zaA->Prop)->(AFl->LN->zaA->Prop)->Prop
 | .skip,X,T,ls,H,R,Q=>Q .next ls H
 | .seq a b,X,T,ls,H,R,Q=>wS a X T ls H R λ fl ls' H'=>match fl with
  | .next=>wS b X T ls' H' R Q
  | fl=>Q fl ls' H'
 | .cut a,X,T,ls,H,R,Q=>∃ (α:Type) (L:α->LN) (P:α->zaA->Prop),wS a X T ls H R (cutK L P Q)/\∀ b H',P b H'->Q .next (L b) H'
 | .expr e,X,T,ls,H,R,Q=>w T X e .v ls H (R ls) λ _ H'=>Q .next ls H'
 | .assign t e,X,T,ls,H,R,Q=>w T X e .v ls H (R ls) λ p H1'=>wT T X t p ls H1' R λ ls' H'=>Q .next ls' H'
 | .assignC x e,X,T,ls,H,R,Q=>w T X e .v ls H (R ls) λ p H1'=>Q .next ((x,p)::ls) H1'
 | .aug x o e,X,T,ls,H,R,Q=>(match lkN x ls with|some old=>w T X e .v ls H (R ls) (λ p H1'=>wAug T o old p H1' λ r H2'=>Q .next ((x,r)::ls) H2') | Option.none=>False)
 | .ite t a b,X,T,ls,H,R,Q=>w T X t .t ls H (R ls) λ p H1'=>match p with
  | .bool c=>cond c (wS a X T ls H1' R Q) (wS b X T ls H1' R Q)
  | _=>False
 | .ret e,X,T,ls,H,R,Q=>w T X e .v ls H (R ls) λ p H1'=>Q (.ret p) ls H1'
 | .brk,X,T,ls,H,R,Q=>Q .brk ls H
 | .cont,X,T,ls,H,R,Q=>Q .cont ls H
 | .for_ t it b,X,T,ls,H,R,Q=>w T X it .v ls H (R ls) λ p H1'=>zkW T p ls H1' (λ v ls' H' K=>wT T X t v ls' H' zqB λ ls'' H''=>wS b X T ls'' H'' zqB K) Q
 | .while_ t b,X,T,ls,H,R,Q=>∃ (α:Type) (L:α->LN) (I:Nat->α->zaA->Prop) (n:Nat) (b0:α),zaX (L b0) ls/\I n b0 H/\∀ n b1 H',I n b1 H'->w T X t .t (L b1) H' noR λ p H1'=>match p with
  | .bool c=>cond c (wS b X T (L b1) H1' zqB (zmF (zjH L (λ b2 H2'=>∃ m,m<n/\I m b2 H2')) Q)) (Q .next (L b1) H1')
  | _=>False
 | .try_ b x Y h,X,T,ls,H,R,Q=>∃ (X':String) (QE:LN->zaA->Prop),(zvF X' Y/\X'≠T.C.nc)/\wS b X' T ls H QE Q/\∀ ls' H',QE ls' H'->wS h X T.inH ls' H' R Q
 | .raise_ x Y,X,T,ls,H,R,Q=>X=Y/\zwJ Y/\(T.hd=true->Y=T.C.nc)/\R ls H
 | .tryC b hs,X,T,ls,H,R,Q=>∃ (X':String) (QE:LN->zaA->Prop) (c:Str),zzT X' (hs.map λ h=>h.2) c/\wS b X' T ls H QE Q/\∀ ls' H',QE ls' H'->Q (.ret (.str c)) ls' H'
 | .iteL x e bs r a b,X,T,ls,H,R,Q=>∃ P c,(T.code=some c/\zyV T.C c P/\zbK P H)/\∀ (f:FR) (H1':zaA) (L:Addr) (lams:List Addr),zpL P H H1'->zbK P H1'->H1' L=some (.list (lams.map .ref))->lams.length=bs.length->yhP T f bs ls H1' lams ->
   zfZ T (.ref L) H1' (λ v H' K=>w (T.plus f) X e .v ((x,v)::ziJ [x] ls) H' noR λ p H3=>K (some p) H3) (λ p H2'=>w T X r .v ls H2' (R ls) λ q H3=>ygN T .NotEq p q H3 λ d H4=>cond d (wS a X T ls H4 R Q) (wS b X T ls H4 R Q))
 | .forR t it b,X,T,ls,H,R,Q=>w T X it .v ls H (R ls) λ p H1'=>zsO T p ls H1' (λ v ls' H' K=>wT T X t v ls' H' zqB λ ls'' H''=>wS b X T ls'' H'' R K) Q
noncomputable abbrev GT:=List (Str×PV×Bool)
noncomputable def yjP (C:Cx)(x:Str)(p:PV)(c:Bool):Prop:=(c=true->zhK C.K p=true)/\match p with
 | .ref a=>nsIn C.K mainGlobals x=some (some (.ref a))
 | .ty n=>C.mg x=none/\bootBuiltins x=some (.type n)
 | .bi n=>C.mg x=none/\bootBuiltins x=some (.builtin n)
 | _=>False
noncomputable def GOk (C:Cx)(G:GT):Prop:=∀ e∈G,yjP C e.1 e.2.1 e.2.2
noncomputable def gEq:PV->PV->Bool
 | .ref a,.ref b=>Nat.beq a b
 | .ty a,.ty b=>a==b
 | .bi a,.bi b=>a==b
 | _,_=>false
theorem ykY {p q:PV}(h:gEq p q=true):p=q:=by
 cases p with
 | ref a=>cases q with
  | ref b=>exact congrArg PV.ref (Nat.eq_of_beq_eq_true h)
  | _=>cases h
 | ty a=>cases q with
  | ty b=>exact congrArg PV.ty (eq_of_beq (α:=String) h)
  | _=>cases h
 | bi a=>cases q with
  | bi b=>exact congrArg PV.bi (eq_of_beq (α:=String) h)
  | _=>cases h
 | _=>cases h
noncomputable def ykO (G:GT)(s:Str)(p:PV)(call:Bool):Bool:=G.any λ e=>e.1==s&&gEq e.2.1 p&&(!call||e.2.2)
noncomputable def zsR (nm:List (Str×NameKind))(s:Str):Bool:=nm.lookup s==some .globalImplicit&&s != "__name__" && s != "__debug__"
noncomputable def yfL (names:List Str)(nm:List (Str×NameKind))(x:Nat)(s:Str):Bool:=names[x]?==some s&&yaE (nm.lookup s)&&s != "__debug__" && s != "__classdict__"
noncomputable def ybB (names:List Str)(nm:List (Str×NameKind))(x:Nat)(s:Str):Bool:=names[x]?==some s&&zgO (nm.lookup s)
noncomputable def ycW (names:List Str)(nm:List (Str×NameKind))(x:Nat)(s:Str):Bool:=names[x]?==some s&&nm.lookup s==some .local
noncomputable def IE.isL:IE->Bool
 | .nil=>true
 | .cons _ _=>true
 | _=>false
noncomputable def ykP (scope:Scope)(nm:List (Str×NameKind)):Bool:=scope.kind==.function&&decide (scope.names.map (·.1)).Nodup&&scope.names.all (λ x=>x.2 != .free||nm.lookup x.1==some .cell||nm.lookup x.1==some .free)
theorem yfD {scope:Scope}{nm:List (Str×NameKind)}(h:ykP scope nm=true):zeB scope nm:=by
 simp only[ykP,Bool.and_eq_true,beq_iff_eq,decide_eq_true_eq,List.all_eq_true,bne_iff_ne,Bool.or_eq_true,ne_eq]at h;obtain⟨⟨h1,h2⟩,h4⟩:=h;exact⟨h1,h2,λ x hx e=>by
  rcases h4 x hx with (h|h) | h
  ·exact absurd e h
  ·exact .inl h
  ·exact .inr h⟩
noncomputable def zyF (names:List Str)(vs:List Nat)(scope:Scope):Bool:=scope.names.all λ x=>!zgO (some x.2)||((x.1 == ".0" && !names.any (· == ".0"))||vs.any λ v=>names[v]?==some x.1)
noncomputable def one {α:Type}:List α->Option α
 | [e]=>some e
 | _=>none
theorem zeY {α:Type}{l:List α}{e:α}(h:one l=some e):l=[e]:=by
 cases l with
 | nil=>cases h
 | cons x r=>cases r with
  | nil=>cases h;rfl
  | cons _ _=>cases h
noncomputable def two {α:Type}:List α->Option (α×α)
 | [e,e']=>some (e,e')
 | _=>none
theorem ztC {α:Type}{l:List α}{e:α×α}(h:two l=some e):l=[e.1,e.2]:=by
 cases l with
 | nil=>cases h
 | cons x r=>cases r with
  | nil=>cases h
  | cons y r=>cases r with
   | nil=>cases h;rfl
   | cons _ _=>cases h
structure Inf where
 tag:Nat
 k:List Expr:=[]
 s:Str:=⟨#[]⟩
 o:Operator:=.Add
 u:UnaryOp:=.Not
 cs:List CmpOp:=[]
 b:BoolOp:=.And
 c:Const:=.none
 sc:Scope:=default
 g:List Comprehension:=[]
 kw:List Keyword:=[]
 p:Pos:=⟨0,0,0,0⟩
 os:List (Option Expr):=[]
noncomputable def inf:Expr->Inf
 | .Constant c _ _=>{ tag:=0,c:=c }
 | .Name s _=>{ tag:=1,s:=s }
 | .BinOp l o r _=>{ tag:=2,k:=[l,r],o:=o }
 | .UnaryOp u r _=>{ tag:=3,k:=[r],u:=u }
 | .Compare l cs r _=>{ tag:=4,k:=l::r,cs:=cs }
 | .BoolOp b r _=>{ tag:=5,k:=r,b:=b }
 | .IfExp a b c _=>{ tag:=6,k:=[a,b,c] }
 | .Tuple vs _ _=>{ tag:=7,k:=vs }
 | .List vs _=>{ tag:=8,k:=vs }
 | .Dict os v _=>{ tag:=9,k:=v,os:=os }
 | .Attribute o s p=>{ tag:=10,k:=[o],s:=s,p:=p }
 | .Subscript o s _=>{ tag:=11,k:=[o,s] }
 | .Slice a b c _=>{ tag:=12,os:=[a,b,c] }
 | .Call f a kw p=>{ tag:=13,k:=f::a,kw:=kw,p:=p }
 | .ListComp e g sc _=>{ tag:=14,k:=[e],g:=g,sc:=sc }
 | .Lambda ..=>{ tag:=15 }
 | .NamedExpr ..=>{ tag:=15 }
 | .Set ..=>{ tag:=16 }
 | .SetComp ..=>{ tag:=15 }
 | .DictComp ..=>{ tag:=15 }
 | .GeneratorExp ..=>{ tag:=15 }
 | .Await ..=>{ tag:=15 }
 | .Yield ..=>{ tag:=15 }
 | .YieldFrom ..=>{ tag:=15 }
 | .FormattedValue ..=>{ tag:=15 }
 | .JoinedStr ..=>{ tag:=15 }
 | .Starred ..=>{ tag:=15 }
noncomputable def yoF (e:Expr)(i:Inf):Prop:=match i.tag with
 | 0=>∃ k p,e=.Constant i.c k p
 | 1=>∃ p,e=.Name i.s p
 | 2=>∃ l r p,i.k=[l,r]/\e=.BinOp l i.o r p
 | 3=>∃ r p,i.k=[r]/\e=.UnaryOp i.u r p
 | 4=>∃ l r p,i.k=l::r/\e=.Compare l i.cs r p
 | 5=>∃ p,e=.BoolOp i.b i.k p
 | 6=>∃ a b c p,i.k=[a,b,c]/\e=.IfExp a b c p
 | 7=>∃ k p,e=.Tuple i.k k p
 | 8=>∃ p,e=.List i.k p
 | 9=>∃ p,e=.Dict i.os i.k p
 | 10=>∃ o,i.k=[o]/\e=.Attribute o i.s i.p
 | 11=>∃ o s p,i.k=[o,s]/\e=.Subscript o s p
 | 12=>∃ a b c p,i.os=[a,b,c]/\e=.Slice a b c p
 | 13=>∃ f a,i.k=f::a/\e=.Call f a i.kw i.p
 | 14=>∃ x p,i.k=[x]/\e=.ListComp x i.g i.sc p
 | _=>True
theorem ymV (e:Expr):yoF e (inf e):=by
 cases e with
 | Constant=>exact⟨_,_,rfl⟩
 | Name=>exact⟨_,rfl⟩
 | BinOp=>exact⟨_,_,_,rfl,rfl⟩
 | UnaryOp=>exact⟨_,_,rfl,rfl⟩
 | Compare=>exact⟨_,_,_,rfl,rfl⟩
 | BoolOp=>exact⟨_,rfl⟩
 | IfExp=>exact⟨_,_,_,_,rfl,rfl⟩
 | Tuple=>exact⟨_,_,rfl⟩
 | List=>exact⟨_,rfl⟩
 | Dict=>exact⟨_,rfl⟩
 | Attribute=>exact⟨_,rfl,rfl⟩
 | Subscript=>exact⟨_,_,_,rfl,rfl⟩
 | Slice=>exact⟨_,_,_,_,rfl,rfl⟩
 | Call=>exact⟨_,_,rfl,rfl⟩
 | ListComp=>exact⟨_,_,rfl,rfl⟩
 | _=>exact trivial
theorem zfM {α:Type}{n m:Nat}{o:Option α}{x:α}(h:cond (Nat.beq n m) o none=some x):n=m/\o=some x:=by
 cases e:Nat.beq n m with
 | true=>rw[e]at h;exact⟨Nat.eq_of_beq_eq_true e,h⟩
 | false=>rw[e]at h;cases h
theorem zfT {e:Expr}{n:Nat}{i:Inf}(hi:inf e=i)(h:i.tag=n):yoF e { i with tag:=n }:=by
 subst h;subst hi;exact ymV e
noncomputable def ynW {α:Type}:List α->Option (α×List α)
 | []=>none
 | a::l=>some (a,l)
noncomputable def ynD {α:Type}:List α->Option (α×α×α)
 | [a,b,c]=>some (a,b,c)
 | _=>none
noncomputable def zjU (e:Expr):Option (Const):=cond (Nat.beq (inf e).tag 0) (some (inf e).c) none
noncomputable def zdW (e:Expr):Option (Str):=cond (Nat.beq (inf e).tag 1) (some (inf e).s) none
noncomputable def ymZ (e:Expr):Option (Expr×Operator×Expr):=cond (Nat.beq (inf e).tag 2) ((two (inf e).k).map λ k=>(k.1,(inf e).o,k.2)) none
noncomputable def asUn (e:Expr):Option (UnaryOp×Expr):=cond (Nat.beq (inf e).tag 3) ((one (inf e).k).map λ k=>((inf e).u,k)) none
noncomputable def yfU (e:Expr):Option (Expr×List CmpOp×List Expr):=cond (Nat.beq (inf e).tag 4) ((ynW (inf e).k).map λ k=>(k.1,(inf e).cs,k.2)) none
noncomputable def yhE (e:Expr):Option (BoolOp×List Expr):=cond (Nat.beq (inf e).tag 5) (some ((inf e).b,(inf e).k)) none
noncomputable def asIf (e:Expr):Option (Expr×Expr×Expr):=cond (Nat.beq (inf e).tag 6) (ynD (inf e).k) none
noncomputable def zyX (e:Expr):Option (List Expr):=cond (Nat.beq (inf e).tag 7) (some (inf e).k) none
noncomputable def ydR (e:Expr):Option (List Expr):=cond (Nat.beq (inf e).tag 8) (some (inf e).k) none
noncomputable def ztT (e:Expr):Option (Expr×Str×Pos):=cond (Nat.beq (inf e).tag 10) ((one (inf e).k).map λ k=>(k,(inf e).s,(inf e).p)) none
noncomputable def ybZ (e:Expr):Option (Expr×Expr):=cond (Nat.beq (inf e).tag 11) (two (inf e).k) none
noncomputable def ycT (e:Expr):Option (Option Expr×Option Expr×Option Expr):=cond (Nat.beq (inf e).tag 12) (ynD (inf e).os) none
noncomputable def zxL (e:Expr):Option (Expr×List Expr×List Keyword×Pos):=cond (Nat.beq (inf e).tag 13) ((ynW (inf e).k).map λ k=>(k.1,k.2,(inf e).kw,(inf e).p)) none
noncomputable def znQ (e:Expr):Option (Expr×List Comprehension×Scope):=cond (Nat.beq (inf e).tag 14) ((one (inf e).k).map λ k=>(k,(inf e).g,(inf e).sc)) none
theorem zgJ {e:Expr}{x}(h:zjU e=some x):∃ k p,e=.Constant x k p:=by
 obtain⟨ht,h⟩:=zfM h;refine q21 (zfT rfl ht) λ k p he=>?_;cases h;exact⟨k,p,he⟩
theorem zaZ {e:Expr}{x}(h:zdW e=some x):∃ p,e=.Name x p:=by
 obtain⟨ht,h⟩:=zfM h;obtain⟨p,he⟩:=zfT rfl ht;cases h;exact⟨p,he⟩
theorem yeL {e:Expr}{x}(h:ymZ e=some x):∃ p,e=.BinOp x.1 x.2.1 x.2.2 p:=by
 obtain⟨ht,h⟩:=zfM h;refine q32 (zfT rfl ht) λ l r p hk he=>?_;rw[show (inf e).k=_ from hk]at h;cases h;exact⟨p,he⟩
theorem ykK {e:Expr}{x}(h:asUn e=some x):∃ p,e=.UnaryOp x.1 x.2 p:=by
 obtain⟨ht,h⟩:=zfM h;refine q22 (zfT rfl ht) λ l p hk he=>?_;rw[show (inf e).k=_ from hk]at h;cases h;exact⟨p,he⟩
theorem zrT {e:Expr}{x}(h:yfU e=some x):∃ p,e=.Compare x.1 x.2.1 x.2.2 p:=by
 obtain⟨ht,h⟩:=zfM h;refine q32 (zfT rfl ht) λ l r p hk he=>?_;rw[show (inf e).k=_ from hk]at h;cases h;exact⟨p,he⟩
theorem ycD {e:Expr}{x}(h:yhE e=some x):∃ p,e=.BoolOp x.1 x.2 p:=by
 obtain⟨ht,h⟩:=zfM h;obtain⟨p,he⟩:=zfT rfl ht;cases h;exact⟨p,he⟩
theorem yjK {e:Expr}{x}(h:asIf e=some x):∃ p,e=.IfExp x.1 x.2.1 x.2.2 p:=by
 obtain⟨ht,h⟩:=zfM h;refine q42 (zfT rfl ht) λ a b c p hk he=>?_;rw[show (inf e).k=_ from hk]at h;cases h;exact⟨p,he⟩
theorem zrI {e:Expr}{x}(h:zyX e=some x):∃ k p,e=.Tuple x k p:=by
 obtain⟨ht,h⟩:=zfM h;refine q21 (zfT rfl ht) λ k p he=>?_;cases h;exact⟨k,p,he⟩
theorem ztZ {e:Expr}{x}(h:ydR e=some x):∃ p,e=.List x p:=by
 obtain⟨ht,h⟩:=zfM h;obtain⟨p,he⟩:=zfT rfl ht;cases h;exact⟨p,he⟩
theorem znS {e:Expr}{x}(h:ztT e=some x):e=.Attribute x.1 x.2.1 x.2.2:=by
 obtain⟨ht,h⟩:=zfM h;refine q12 (zfT rfl ht) λ o hk he=>?_;rw[show (inf e).k=_ from hk]at h;cases h;exact he
theorem zmJ {e:Expr}{x}(h:ybZ e=some x):∃ p,e=.Subscript x.1 x.2 p:=by
 obtain⟨ht,h⟩:=zfM h;refine q32 (zfT rfl ht) λ o s p hk he=>?_;rw[show (inf e).k=_ from hk]at h;cases h;exact⟨p,he⟩
theorem zzN {e:Expr}{x}(h:ycT e=some x):∃ p,e=.Slice x.1 x.2.1 x.2.2 p:=by
 obtain⟨ht,h⟩:=zfM h;refine q42 (zfT rfl ht) λ a b c p hk he=>?_;rw[show (inf e).os=_ from hk]at h;cases h;exact⟨p,he⟩
theorem zmY {e:Expr}{x}(h:zxL e=some x):e=.Call x.1 x.2.1 x.2.2.1 x.2.2.2:=by
 obtain⟨ht,h⟩:=zfM h;refine q22 (zfT rfl ht) λ f a hk he=>?_;rw[show (inf e).k=_ from hk]at h;cases h;exact he
theorem zhF {e:Expr}{x}(h:znQ e=some x):∃ p,e=.ListComp x.1 x.2.1 x.2.2 p:=by
 obtain⟨ht,h⟩:=zfM h;refine q22 (zfT rfl ht) λ x p hk he=>?_;rw[show (inf e).k=_ from hk]at h;cases h;exact⟨p,he⟩
noncomputable def yaC (e:Expr):Bool:=!(Nat.beq (inf e).tag 13)
theorem ybY {o:Expr}{x:Str}{env:Env}{wh:Sem Value}(h:yaC o=true):attributeBase o x env wh=wh:=by
 cases o <;> first|rfl|cases h
noncomputable def yjX (e:Expr):Bool:=!(Nat.beq (inf e).tag 12)
theorem zwW {s:Expr}(h:yjX s=true)(o i:Value):subscripted s false o i=operate [o,i] (getItem o i):=by
 cases s <;> first|rfl|cases h
noncomputable def ztW (e:Expr):Bool:=!(Nat.beq (inf e).tag 3||(Nat.beq (inf e).tag 4||(Nat.beq (inf e).tag 5||Nat.beq (inf e).tag 6)))
theorem zzQ {e:Expr}(h:ztW e=true)(env:Env)(t:Sem Value):isTrue e env t=(do let v <- t;standAt e.pos;holding [v] (truthy v)):=by
 cases e <;> first|rfl|cases h
noncomputable def zhP (e:Expr):Bool:=!(Nat.beq (inf e).tag 16)
theorem zjV {e:Expr}(h:zhP e=true)(env:Env)(x:Value):foldedSetIterable e env x=pure x:=by
 cases e <;> first|rfl|cases h
theorem zmP {op:CmpOp}{e:Expr}(h:zhP e=true):behindInMarks op e=false:=by
 cases e <;> first|rfl|cases h
noncomputable def cInt (i:Int):Const->Bool
 | .int j=>i==j
 | _=>false
noncomputable def cStr (i:Str):Const->Bool
 | .str j=>i==j
 | _=>false
noncomputable def ymW (i:Bool):Const->Bool
 | .bool j=>i==j
 | _=>false
noncomputable def ypA:Const->Bool
 | .none=>true
 | _=>false
theorem yjE {i:Int}{c:Const}(h:cInt i c=true):c=.int i:=by cases c <;> first|cases h | (rw[eq_of_beq h])
theorem ybJ {i:Str}{c:Const}(h:cStr i c=true):c=.str i:=by cases c <;> first|cases h | (rw[eq_of_beq h])
theorem yfM {i:Bool}{c:Const}(h:ymW i c=true):c=.bool i:=by cases c <;> first | (rw[eq_of_beq h]) | cases h
theorem yfH {c:Const}(h:ypA c=true):c=.none:=by cases c <;> first|rfl|cases h
noncomputable def emp {α:Type}:List α->Bool
 | []=>true
 | _=>false
theorem zeJ {α:Type}{l:List α}(h:emp l=true):l=[]:=by cases l <;> first|rfl|cases h
theorem any_some {α:Type}{o:Option α}{f:α->Bool}(h:o.any f=true):∃ x,o=some x/\f x=true:=by
 cases o with
 | none=>cases h
 | some x=>exact⟨x,rfl,h⟩
noncomputable def oN {α:Type}:Option α->Bool
 | none=>true
 | _=>false
theorem yoL {α:Type}{o:Option α}(h:oN o=true):o=none:=by cases o <;> first|rfl|cases h
noncomputable def mCT (names:List Str)(nm:List (Str×NameKind))(t:CT)(e:Expr):Bool:=match t with
 | .one x=>(zdW e).any (ybB names nm x)
 | .many vs=>(two vs).any λ v=>(zyX e).any λ es=>(two es).any λ x=>(zdW x.1).any (ycW names nm v.1)&&(zdW x.2).any (ycW names nm v.2)
noncomputable def mE (G:GT)(names:List Str)(hd:Bool):IE->List (Str×NameKind)->List Expr->Bool
 | .int i,nm,es=>(one es).any λ e=>(zjU e).any (cInt i)
 | .str i,nm,es=>(one es).any λ e=>(zjU e).any (cStr i)
 | .none,nm,es=>(one es).any λ e=>(zjU e).any ypA
 | .bool b,nm,es=>(one es).any λ e=>(zjU e).any (ymW b)
 | .var x,nm,es=>(one es).any λ e=>(zdW e).any (yfL names nm x)
 | .glob p,nm,es=>(one es).any λ e=>(zdW e).any λ s=>zsR nm s&&ykO G s p false
 | .bin o a b,nm,es=>(one es).any λ e=>(ymZ e).any λ x=>(o==x.2.1&&(!a.isL&&!b.isL))&&(mE G names hd a nm [x.1]&&mE G names hd b nm [x.2.2])
 | .un o a,nm,es=>(one es).any λ e=>(asUn e).any λ x=>(o==x.1&&!a.isL)&&mE G names hd a nm [x.2]
 | .cmp o a b,nm,es=>(one es).any λ e=>(yfU e).any λ x=>(one x.2.1).any λ op=>(one x.2.2).any λ r=>(o==op&&(zhP r&&(!a.isL&&!b.isL)))&&(mE G names hd a nm [x.1]&&mE G names hd b nm [r])
 | .cmp2 o o' a b c,nm,es=>(one es).any λ e=>(yfU e).any λ x=>(two x.2.1).any λ op=>(two x.2.2).any λ r=>(o==op.1&&(o'==op.2&&(zhP r.2&&(!a.isL&&(!b.isL&&!c.isL)))))&&(mE G names hd a nm [x.1]&&(mE G names hd b nm [r.1]&&mE G names hd c nm [r.2]))
 | .boolop o l,nm,es=>(one es).any λ e=>(yhE e).any λ x=>(o==x.1&&l.isL)&&mE G names hd l nm x.2
 | .ife t a b,nm,es=>(one es).any λ e=>(asIf e).any λ x=>(!t.isL&&(!a.isL&&!b.isL))&&(mE G names hd t nm [x.1]&&(mE G names hd a nm [x.2.1]&&mE G names hd b nm [x.2.2]))
 | .nil,nm,es=>emp es
 | .cons a b,nm,es=>match es with
  | e::r=>(zdM (e::r)&&(!a.isL&&b.isL))&&(mE G names hd a nm [e]&&mE G names hd b nm r)
  | []=>false
 | .tup l,nm,es=>(one es).any λ e=>(zyX e).any λ x=>l.isL&&mE G names hd l nm x
 | .list l,nm,es=>(one es).any λ e=>(ydR e).any λ x=>l.isL&&mE G names hd l nm x
 | .attr a y,nm,es=>(one es).any λ e=>(ztT e).any λ x=>(y==x.2.1&&(yaC x.1&&!a.isL))&&mE G names hd a nm [x.1]
 | .sub a i,nm,es=>(one es).any λ e=>(ybZ e).any λ x=>(yjX x.2&&(!a.isL&&!i.isL))&&(mE G names hd a nm [x.1]&&mE G names hd i nm [x.2])
 | .slice a lo hi,nm,es=>(one es).any λ e=>(ybZ e).any λ x=>(ycT x.2).any λ z=>(oN z.2.2&&(!a.isL&&(!lo.isL&&!hi.isL)))&&(mE G names hd a nm [x.1]&&((match z.1 with
    | some e=>!lo.isNo&&mE G names hd lo nm [e]
    | none=>lo.isNo)&&(match z.2.1 with
    | some e=>!hi.isNo&&mE G names hd hi nm [e]
    | none=>hi.isNo)))
 | .call g l,nm,es=>(one es).any λ e=>(zxL e).any λ x=>(zdW x.1).any λ s=>(emp x.2.2.1&&(zsR nm s&&(ykO G s g true&&(zdM x.2.1&&l.isL))))&&mE G names hd l nm x.2.1
 | .meth o y l,nm,es=>(one es).any λ e=>(zxL e).any λ x=>(ztT x.1).any λ z=>(emp x.2.2.1&&(y==z.2.1&&(yaC z.1&&(zdM x.2.1&&(Nat.blt x.2.1.length 30&&(z.2.2.endLine==x.2.2.2.line&&(l.isL&&!o.isL)))))))&&(mE G names hd o nm [z.1]&&mE G names hd l nm x.2.1)
 | .comp t it fs e,nm,es=>(one es).any λ x=>(znQ x).any λ x=>(one x.2.1).any λ g=>(!hd&&(ykP x.2.2 nm&&(zyF names t.vars x.2.2&&(zhP g.iter&&(mCT names x.2.2.names t g.target&&(g.is_async==0&&(!it.isL&&(fs.isL&&!e.isL)))))))) &&
    (mE G names hd it nm [g.iter]&&(mE G names hd fs (zkC x.2.2.names nm) g.ifs&&mE G names hd e (zkC x.2.2.names nm) [x.1]))
 | .compRR x y i1 i2 fs e,nm,es=>(one es).any λ z=>(znQ z).any λ z=>(two z.2.1).any λ g=>(zdW g.1.target).any λ s=>(zdW g.2.target).any λ t=>
    (!hd&&(ykP z.2.2 nm&&(zyF names [x,y] z.2.2&&(zhP g.1.iter&&(zhP g.2.iter&&(ycW names z.2.2.names x s&&(ycW names z.2.2.names y t&&(s != t&&(g.1.is_async==0&&(g.2.is_async==0&&(emp g.1.ifs&&(!i1.isL&&(!i2.isL&&(fs.isL&&!e.isL)))))))))))))) &&
    (mE G names hd i1 nm [g.1.iter]&&(mE G names hd i2 (zkC z.2.2.names nm) [g.2.iter]&&(mE G names hd fs (zkC z.2.2.names nm) g.2.ifs&&mE G names hd e (zkC z.2.2.names nm) [z.1])))
 | .subR a i,nm,es=>(one es).any λ e=>(ybZ e).any λ x=>(yjX x.2&&(!a.isL&&!i.isL))&&(mE G names hd a nm [x.1]&&mE G names hd i nm [x.2])
 | .callV y,nm,es=>(one es).any λ e=>(zxL e).any λ x=>(zdW x.1).any λ s=>emp x.2.2.1&&(emp x.2.1&&yfL names nm y s)
noncomputable def Cov (names:List Str)(l:LN)(ls:Ls):Prop:=∀ x p,lkN x l=some p->∃ s,names[x]?=some s/\ls.lookup s=some p
noncomputable def zeG (T:Tr)(f:FR)(Fs:List AF)(H:zaA)(m:Md)(L:Bool)(es:List Expr)(Q:PV->zaA->Prop)(E:Value->Shared->Prop):Prop:=match m,L,es with
 | .v,true,es=>AL T f Fs H es (λ ps H=>Q (.tup ps) H) E
 | .v,false,[e]=>AE T f Fs H e Q E
 | .t,false,[e]=>AT T f Fs H e (λ b H=>Q (.bool b) H) E
 | .a,true,es=>zsW T f Fs H .And es (λ b H=>Q (.bool b) H) E/\(E=NoE->zrL T f Fs H es (λ b H=>Q (.bool b) H))
 | .o,true,es=>zsW T f Fs H .Or es (λ b H=>Q (.bool b) H) E
 | .b,true,es=>zsA T f Fs H es (λ b H=>Q (.bool b) H) E
 | _,_,_=>True
section
variable {T:Tr}{f:FR}{env:Env}{ls:Ls}{Fs:List AF}{H:zaA}{E:Value->Shared->Prop}{names:List Str}{lsN:LN}
theorem znO {C:Cx}{G:GT}(GO:GOk C G){s:Str}{p:PV}{c:Bool}(h:ykO G s p c=true):yjP C s p c:=by
 refine q12 (List.any_eq_true.mp h) λ e he h=>?_;simp only[Bool.and_eq_true,beq_iff_eq,Bool.or_eq_true,Bool.not_eq_true']at h;obtain⟨⟨h1,h2⟩,h3⟩:=h;have:=GO e he;rw[h1,ykY h2]at this;refine⟨λ q=>this.1 ?_,this.2⟩;rcases h3 with h3|h3
 ·rw[q]at h3;cases h3
 ·exact h3
theorem zmI {nm:List (Str×NameKind)}{s:Str}(h:zsR nm s=true):nm.lookup s=some .globalImplicit/\s ≠ "__name__" /\ (s==("__debug__" : Str))=false:=by
 simp only[zsR,Bool.and_eq_true,beq_iff_eq,bne_iff_ne,ne_eq]at h;exact⟨h.1.1,h.1.2,beq_eq_false_iff_ne.mpr h.2⟩
theorem AE.gl {C:Cx}{G:GT}{nm:List (Str×NameKind)}{s:Str}{pos:Pos}{p:PV}{Q:PV->zaA->Prop}{c:Bool}(hn:f.env.scope.names=nm)(h:zsR nm s=true)(g:yjP T.C s p c)(hq:Q p H):AE T f Fs H (.Name s pos) Q E:=by
 refine q03 (zmI h) λ h1 h2 h3=>?_;obtain⟨-,g⟩:=g;cases p with
 | ref a=>exact AE.glob hn h1 g hq h3
 | ty n=>exact AE.ty g.1 hn h1 g.2 hq h2 h3
 | bi n=>exact AE.bi g.1 hn h1 g.2 hq h2 h3
 | _=>exact g.elim
theorem zwX {nm:List (Str×NameKind)}{x:Nat}{s:Str}(h:yfL names nm x s=true):names[x]?=some s/\yaE (nm.lookup s)=true/\(s==("__debug__" : Str))=false/\(s==("__classdict__" : Str))=false:=by
 simp only[yfL,Bool.and_eq_true,beq_iff_eq,bne_iff_ne,ne_eq]at h;exact⟨h.1.1.1,h.1.1.2,beq_eq_false_iff_ne.mpr h.1.2,beq_eq_false_iff_ne.mpr h.2⟩
theorem Cov.get (cv:Cov names lsN ls){x:Nat}{p:PV}{s:Str}(h:lkN x lsN=some p)(hs:names[x]?=some s):ls.lookup s=some p:=by
 refine q12 (cv x p h) λ s' h1 h2=>?_;rw[hs]at h1;cases h1;exact h2
theorem zgS {x y:Nat}{p:PV}{l:LN}:lkN x ((y,p)::l)=if x=y then some p else lkN x l:=by
 show cond (Nat.beq x y) _ _=_
 by_cases h:x=y
 ·subst h;rw[Nat.beq_refl,if_pos rfl];rfl
 ·rw[if_neg h]
  cases e:Nat.beq x y with
  | true=>exact absurd (Nat.eq_of_beq_eq_true e) h
  | false=>rfl
theorem zsN (nd:names.Nodup){x y:Nat}{s:Str}(hx:names[x]?=some s)(hy:names[y]?=some s):x=y:=by
 obtain⟨h1,e1⟩:=List.getElem?_eq_some_iff.mp hx;obtain⟨h2,e2⟩:=List.getElem?_eq_some_iff.mp hy;exact (List.getElem_inj nd).mp (e1.trans e2.symm)
theorem Cov.put (nd:names.Nodup)(cv:Cov names lsN ls){x:Nat}{p:PV}{s:Str}(hs:names[x]?=some s):Cov names ((x,p)::lsN) ((s,p)::ls):=λ y q h=>by
 rw[zgS]at h;split at h
 ·cases h;rename_i e;subst e;exact⟨s,hs,zdR⟩
 ·rename_i e
  refine q12 (cv y q h) λ s' h1 h2=>?_;exact⟨s',h1,zbB (beq_eq_false_iff_ne.mpr λ e'=>e (zsN nd h1 (e'▸hs))) h2⟩
theorem zzE {vs:List Nat}{y:Nat}{q:PV}{l:LN}:ziJ vs ((y,q)::l)=cond (vs.any (Nat.beq y)) (ziJ vs l) ((y,q)::ziJ vs l):=rfl
theorem yfO {vs:List Nat}{x:Nat}{p:PV}{l:LN}:lkN x (ziJ vs l)=some p->lkN x l=some p/\x∉vs:=by
 induction l with
 | nil=>exact λ h=>nomatch h
 | cons a l ih=>
  obtain⟨y,q⟩:=a;intro h;rw[zzE]at h;rw[zgS];cases e:vs.any (Nat.beq y) with
  | true=>
   rw[e]at h;obtain⟨h1,h2⟩:=ih h;refine⟨?_,h2⟩;rw[if_neg,h1];intro exy;subst exy;refine q12 (List.any_eq_true.mp e) λ z hz ez=>?_;exact h2 (Nat.eq_of_beq_eq_true ez▸hz)
  | false=>
   rw[e]at h;replace h:lkN x ((y,q)::ziJ vs l)=some p:=h;rw[zgS]at h
   by_cases exy:x=y
   ·subst exy
    rw[if_pos rfl]at h ⊢;refine⟨h,λ hm=>?_⟩;rw[List.any_eq_true.mpr ⟨x,hm,Nat.beq_refl x⟩]at e;cases e
   ·rw[if_neg exy]at h ⊢
    exact ih h
theorem Cov.drop (nd:names.Nodup)(cv:Cov names lsN ls){vs:List Nat}{scope:Scope}(ho:zyF names vs scope=true):Cov names (ziJ vs lsN) (zdL scope.names ls):=λ x p h=>by
 obtain⟨h1,h2⟩:=yfO h;refine q12 (cv x p h1) λ s h3 h4=>?_;refine⟨s,h3,zpD ?_ h4⟩;cases hl:scope.names.lookup s with
 | none=>rfl
 | some k=>
 cases hi:zgO (some k) with
 | false=>rfl
 | true=>
 exfalso
 have:=List.all_eq_true.mp ho _ (mem_of_lookup hl);rw[show zgO (some (s,k).2)=true from hi,Bool.not_true,Bool.false_or]at this;rcases Bool.or_eq_true_iff.mp this with this|this
 ·obtain⟨e1,e2⟩:=Bool.and_eq_true_iff.mp this
  have hs:names.any (·==(".0" : Str))=true:=List.any_eq_true.mpr ⟨s,List.mem_of_getElem? h3,e1⟩;rw[hs]at e2;cases e2
 refine q12 (List.any_eq_true.mp this) λ v hv ev=>?_;rw[beq_iff_eq]at ev;exact h2 (zsN nd h3 ev▸hv)
theorem STr.to {p:PV}{Q:Bool->zaA->Prop}(h:STr T p H Q):ATr T Fs H p Q NoE:=by unfold STr at h;exact h Fs
theorem yhF {p:PV}{Q:Bool->zaA->Prop}(h:wTr T p H Q):ATr T Fs H p Q NoE:=by
 cases p with
 | bool b=>exact ATr.bool h
 | int i=>exact ATr.int h
 | none=>exact STr.to h
 | str s=>exact STr.to h
 | tup l=>exact STr.to h
 | ref a=>exact STr.to h
 | ty n=>exact STr.to h
 | bi n=>exact STr.to h
theorem ATr.noE {p:PV}{Q:Bool->zaA->Prop}(h:ATr T Fs H p Q NoE):ATr T Fs H p Q E:=λ A s v ok R pv=>wpAny_mono (h A s v ok R pv) (λ _ _ x=>x) λ _ _ x=>x.elim
theorem zdC.noE {op:CmpOp}{p q:PV}{Q:Bool->zaA->Prop}(h:zdC T Fs H op p q Q NoE):zdC T Fs H op p q Q E:=λ A s v w ok R pv pw=>wpAny_mono (h A s v w ok R pv pw) (λ _ _ x=>x) λ _ _ x=>x.elim
theorem zhL.noE {op:Value->Value->Sem Value}{p q:PV}{Q:PV->zaA->Prop}(h:zhL T Fs H op p q Q NoE):zhL T Fs H op p q Q E:=λ A s v w ok R pv pw=>wpAny_mono (h A s v w ok R pv pw) (λ _ _ x=>x) λ _ _ x=>x.elim
theorem AUn.noE {op:Value->Sem Value}{p:PV}{Q:PV->zaA->Prop}(h:AUn T Fs H op p Q NoE):AUn T Fs H op p Q E:=λ A s v ok R pv=>wpAny_mono (h A s v ok R pv) (λ _ _ x=>x) λ _ _ x=>x.elim
theorem yiI.noE {x:Str}{p:PV}{Q:PV->zaA->Prop}(h:yiI T Fs H x p Q NoE):yiI T Fs H x p Q E:=λ A s v ok R pv=>wpAny_mono (h A s v ok R pv) (λ _ _ x=>x) λ _ _ x=>x.elim
theorem zkO.noE {value slice:Expr}{p q:PV}{Q:PV->zaA->Prop}(h:zkO T Fs H value slice p q Q NoE):zkO T Fs H value slice p q Q E:=λ A s v w ok R pv pw=>wpAny_mono (h A s v w ok R pv pw) (λ _ _ x=>x) λ _ _ x=>x.elim
theorem zcB {p q:PV}{A:Int->Int->Prop}{B P:Prop}(h:zgI p q A B)(h1:∀ a b,p=.int a->q=.int b->A a b->P)(h2:B->P):P:=by
 cases p with
 | int a=>cases q with
  | int b=>exact h1 a b rfl rfl h
  | _=>exact h2 h
 | _=>exact h2 h
theorem ztJ {p q:PV}{A:Str->Str->Prop}{B P:Prop}(h:yaT p q A B)(h1:∀ a b,p=.str a->q=.str b->A a b->P)(h2:B->P):P:=by
 cases p with
 | str a=>cases q with
  | str b=>exact h1 a b rfl rfl h
  | _=>exact h2 h
 | _=>exact h2 h
theorem ztP {q:PV}{A B P:Prop}(h:ybG q A B)(h1:q=.none->A->P)(h2:B->P):P:=by
 cases q with
 | none=>exact h1 rfl h
 | _=>exact h2 h
theorem zfJ.to {op:Value->Value->Sem Value}{p q:PV}{Q:PV->zaA->Prop}(h:zfJ T op p q H Q):zhL T Fs H op p q Q NoE:=by unfold zfJ at h;exact h Fs
theorem zdH.to {op:CmpOp}{p q:PV}{Q:Bool->zaA->Prop}(h:zdH T op p q H Q):zdC T Fs H op p q Q NoE:=by unfold zdH at h;exact h Fs
theorem ykF {o:Operator}{p q:PV}{Q:PV->zaA->Prop}(h:wBin T o p q H Q):zhL T Fs H (binaryOp o) p q Q NoE:=by
 cases o with
 | Add=>exact zcB h (λ a b e1 e2 h=>by subst e1;subst e2;exact zhL.add h) zfJ.to
 | Sub=>exact zcB h (λ a b e1 e2 h=>by subst e1;subst e2;exact zhL.sub h) zfJ.to
 | Mult=>exact zcB h (λ a b e1 e2 h=>by subst e1;subst e2;exact zhL.mul h.1 h.2) zfJ.to
 | Mod=>exact zcB h (λ a b e1 e2 h=>by subst e1;subst e2;exact zhL.mod h.1 h.2) zfJ.to
 | FloorDiv=>exact zcB h (λ a b e1 e2 h=>by subst e1;subst e2;exact zhL.div h.1.1 h.1.2 h.2) zfJ.to
 | Pow=>exact zcB h (λ a b e1 e2 h=>by subst e1;subst e2;exact zhL.pow h.1.1 h.1.2 h.2) zfJ.to
 | _=>exact h.elim
theorem znK {o:CmpOp}{p q:PV}{Q:Bool->zaA->Prop}(h:ygN T o p q H Q):zdC T Fs H o p q Q NoE:=by
 cases o with
 | Lt=>exact zcB h (λ a b e1 e2 h=>by subst e1;subst e2;exact zdC.lt h) zdH.to
 | LtE=>exact zcB h (λ a b e1 e2 h=>by subst e1;subst e2;exact zdC.le h) zdH.to
 | Gt=>exact zcB h (λ a b e1 e2 h=>by subst e1;subst e2;exact zdC.gt h) zdH.to
 | GtE=>exact zcB h (λ a b e1 e2 h=>by subst e1;subst e2;exact zdC.ge h) zdH.to
 | Eq=>exact zcB h (λ a b e1 e2 h=>by subst e1;subst e2;exact zdC.eqInt h) λ h=>ztJ h (λ a b e1 e2 h=>by subst e1;subst e2;exact zdC.eqStr h) zdH.to
 | NotEq=>exact zcB h (λ a b e1 e2 h=>by subst e1;subst e2;exact zdC.neInt h) λ h=>ztJ h (λ a b e1 e2 h=>by subst e1;subst e2;exact zdC.neStr h) zdH.to
 | Is=>exact ztP h (λ e h=>by subst e;exact zdC.isNone h) zdH.to
 | IsNot=>exact ztP h (λ e h=>by subst e;exact zdC.isNotNone h) zdH.to
 | NotIn=>exact zdC.notIn (zdH.to h)
 | In=>exact zdH.to h
theorem ynA {o:UnaryOp}{p:PV}{Q:PV->zaA->Prop}(h:wUn T o p H Q):AUn T Fs H (unaryOp o) p Q NoE:=by
 cases o with
 | USub=>cases p with
  | int a=>exact AUn.neg h
  | _=>exact h.elim
 | Not=>exact AUn.not (yhF h)
 | _=>exact h.elim
theorem AT.mono {e:Expr}{Q Q':Bool->zaA->Prop}(h:AT T f Fs H e Q E)(hq:∀ p H,Q p H->Q' p H):AT T f Fs H e Q' E:=
 λ A s ok R=>wpAny_mono (h A s ok R) (λ v s' hh=>hh.elim λ H' b c d=>⟨H',b,c,hq _ _ d⟩) λ _ _ x=>x
theorem zdC.mono {op:CmpOp}{p q:PV}{Q Q':Bool->zaA->Prop}(h:zdC T Fs H op p q Q E)(hq:∀ b H,Q b H->Q' b H):zdC T Fs H op p q Q' E:=
 λ A s v w ok R pv pw=>wpAny_mono (h A s v w ok R pv pw) (λ c s' ⟨b,e,⟨H',R',k,q⟩⟩=>⟨b,e,⟨H',R',k,hq _ _ q⟩⟩) λ _ _ x=>x
theorem AL.mono {es:List Expr}{Q Q':List PV->zaA->Prop}(h:AL T f Fs H es Q E)(hq:∀ p H,Q p H->Q' p H):AL T f Fs H es Q' E:=
 λ A s pos ok R=>wpAny_mono (h A s pos ok R) (λ v s' hh=>hh.elim λ p H' a b c d=>⟨p,H',a,b,c,hq _ _ d⟩) λ _ _ x=>x
theorem zeG.fin {e:Expr}{m:Md}{Q:PV->zaA->Prop}(h:AE T f Fs H e (zhU T m Q) E)(hp:ztW e=true):zeG T f Fs H m false [e] Q E:=by
 cases m with
 | v=>exact h
 | t=>exact AT.value (AE.mono h λ p H' h=>(yhF h).noE) (zzQ hp _ _)
 | a=>trivial
 | o=>trivial
 | b=>trivial
end
noncomputable def zaI (T:Tr)(X:String)(G:GT)(names:List Str)(ie:IE):Prop:=∀ (m:Md) {c:FK} {env:Env} {ls:Ls} {nm:List (Str×NameKind)} {Fs:List AF} {H:zaA} {R:zaA->Prop} {Q:PV->zaA->Prop} {E:Value->Shared->Prop} {es:List Expr} {l:LN},
 env.scope.names=nm->mE G names T.hd ie nm es=true->Cov names l ls->(∀ e s,Thr T.C ⟨c,env,ls⟩ Fs X R e s->E e s)->w T X ie m l H R Q->zeG T ⟨c,env,ls⟩ Fs H m ie.isL es Q E
section
variable {T:Tr}{X:String}{G:GT}{names:List Str}
theorem zaI.ae {ie:IE}(S:zaI T X G names ie){c:FK}{env:Env}{ls:Ls}{nm:List (Str×NameKind)}{Fs:List AF}{H:zaA}{R:zaA->Prop}{Q:PV->zaA->Prop}{E:Value->Shared->Prop}{e:Expr}{l:LN}
  (hL:ie.isL=false) (hn:env.scope.names=nm) (hm:mE G names T.hd ie nm [e]=true) (cv:Cov names l ls) (hE:∀ e s,Thr T.C ⟨c,env,ls⟩ Fs X R e s->E e s) (h:w T X ie .v l H R Q):AE T ⟨c,env,ls⟩ Fs H e Q E:=by
 have:=S .v hn hm cv hE h;rw[hL]at this;exact this
theorem zaI.at_ {ie:IE}(S:zaI T X G names ie){c:FK}{env:Env}{ls:Ls}{nm:List (Str×NameKind)}{Fs:List AF}{H:zaA}{R:zaA->Prop}{Q:PV->zaA->Prop}{E:Value->Shared->Prop}{e:Expr}{l:LN}
  (hL:ie.isL=false) (hn:env.scope.names=nm) (hm:mE G names T.hd ie nm [e]=true) (cv:Cov names l ls) (hE:∀ e s,Thr T.C ⟨c,env,ls⟩ Fs X R e s->E e s) (h:w T X ie .t l H R Q):AT T ⟨c,env,ls⟩ Fs H e (λ b H=>Q (.bool b) H) E:=by
 have:=S .t hn hm cv hE h;rw[hL]at this;exact this
theorem zaI.al {ie:IE}(S:zaI T X G names ie){c:FK}{env:Env}{ls:Ls}{nm:List (Str×NameKind)}{Fs:List AF}{H:zaA}{R:zaA->Prop}{Q:PV->zaA->Prop}{E:Value->Shared->Prop}{es:List Expr}{l:LN}
  (hL:ie.isL=true) (hn:env.scope.names=nm) (hm:mE G names T.hd ie nm es=true) (cv:Cov names l ls) (hE:∀ e s,Thr T.C ⟨c,env,ls⟩ Fs X R e s->E e s) (h:w T X ie .v l H R Q):AL T ⟨c,env,ls⟩ Fs H es (λ ps H=>Q (.tup ps) H) E:=by
 have:=S .v hn hm cv hE h;rw[hL]at this;exact this
theorem ykV {C:Cx}{Fs:List AF}{e:Value}{s:Shared}{E:Value->Shared->Prop}(h:Fly C Fs X noR e s):E e s:=by
 refine q51 h λ a H s1 B a0 u8=>q06 u8 λ x1 x2 x3 x4 x5 x6=>?_;exact x5.elim
theorem zyC {C:Cx}{f:FR}{Fs:List AF}{e:Value}{s:Shared}{E:Value->Shared->Prop}(h:Thr C f Fs X noR e s):E e s:=by
 rcases h with ⟨a,H,s1,x1,x2,x3,x4,x5,x6⟩|h
 ·exact x5.elim
 ·exact ykV h
theorem nL {b:Bool}(h:(!b)=true):b=false:=by cases b <;> first|rfl|cases h
theorem zaF {a b:Bool}(h:(a&&b)=true):a=true/\b=true:=Bool.and_eq_true_iff.mp h
theorem zcU {a b:Bool}{P:Prop}(h:(a&&b)=true)(k:a=true->b=true->P):P:=k (zaF h).1 (zaF h).2
theorem zaL {α:Type}{o:Option α}{f:α->Bool}{P:Prop}(h:o.any f=true)(k:∀ x,o=some x->f x=true->P):P:=by
 refine q12 (any_some h) λ x e h=>?_;exact k x e h
theorem zwV {α β:Type}{as:Expr->Option α}{mk:α->β->Expr}(ok:∀ {e x},as e=some x->∃ p,e=mk x p){f:Expr->α->Bool}{c:FR}{Fs:List AF}{H:zaA}{m:Md}{b:Bool}{es:List Expr}{Q:PV->zaA->Prop}{E:Value->Shared->Prop}(h:((one es).any λ e=>(as e).any (f e))=true)(k:∀ x p,f (mk x p) x=true->zeG T c Fs H m b [mk x p] Q E):zeG T c Fs H m b es Q E:=by
 refine q12 (any_some h) λ e he h=>?_;refine q12 (any_some h) λ x hx h=>?_;obtain⟨p,rfl⟩:=ok hx;rw[zeY he];exact k x p h
theorem ydQ {α β γ:Type}{as:Expr->Option α}{mk:α->β->γ->Expr}(ok:∀ {e x},as e=some x->∃ k p,e=mk x k p){f:Expr->α->Bool}{c:FR}{Fs:List AF}{H:zaA}{m:Md}{b:Bool}{es:List Expr}{Q:PV->zaA->Prop}{E:Value->Shared->Prop}(h:((one es).any λ e=>(as e).any (f e))=true)(k:∀ x u p,f (mk x u p) x=true->zeG T c Fs H m b [mk x u p] Q E):zeG T c Fs H m b es Q E:=
 zwV (mk:=λ x (q:β×γ)=>mk x q.1 q.2) (λ h=>(ok h).elim λ u h=>h.elim λ p h=>⟨(u,p),h⟩) h λ x q h=>k x q.1 q.2 h
theorem ygB {α:Type}{as:Expr->Option α}{mk:α->Expr}(ok:∀ {e x},as e=some x->e=mk x){f:Expr->α->Bool}{c:FR}{Fs:List AF}{H:zaA}{m:Md}{b:Bool}{es:List Expr}{Q:PV->zaA->Prop}{E:Value->Shared->Prop}(h:((one es).any λ e=>(as e).any (f e))=true)(k:∀ x,f (mk x) x=true->zeG T c Fs H m b [mk x] Q E):zeG T c Fs H m b es Q E:=
 zwV (β:=Unit) (mk:=λ x _=>mk x) (λ h=>⟨(),ok h⟩) h λ x _ h=>k x h
theorem zpJ {b0 b1 b2:Bool}{P:Prop}(h:(b0&&(b1&&b2))=true)(k:b0=true->b1=true->b2=true->P):P:=k (zaF h).1 (zaF (zaF h).2).1 (zaF (zaF h).2).2
theorem ykS {b0 b1 b2 b3:Bool}{P:Prop}(h:(b0&&(b1&&(b2&&b3)))=true)(k:b0=true->b1=true->b2=true->b3=true->P):P:=k (zaF h).1 (zaF (zaF h).2).1 (zaF (zaF (zaF h).2).2).1 (zaF (zaF (zaF h).2).2).2
theorem and5 {b0 b1 b2 b3 b4:Bool}{P:Prop}(h:(b0&&(b1&&(b2&&(b3&&b4))))=true)(k:b0=true->b1=true->b2=true->b3=true->b4=true->P):P:=k (zaF h).1 (zaF (zaF h).2).1 (zaF (zaF (zaF h).2).2).1 (zaF (zaF (zaF (zaF h).2).2).2).1 (zaF (zaF (zaF (zaF h).2).2).2).2
theorem yoS {b0 b1 b2 b3 b4 b5:Bool}{P:Prop}(h:(b0&&(b1&&(b2&&(b3&&(b4&&b5)))))=true)(k:b0=true->b1=true->b2=true->b3=true->b4=true->b5=true->P):P:=k (zaF h).1 (zaF (zaF h).2).1 (zaF (zaF (zaF h).2).2).1 (zaF (zaF (zaF (zaF h).2).2).2).1 (zaF (zaF (zaF (zaF (zaF h).2).2).2).2).1 (zaF (zaF (zaF (zaF (zaF h).2).2).2).2).2
theorem and8 {b0 b1 b2 b3 b4 b5 b6 b7:Bool}{P:Prop}(h:(b0&&(b1&&(b2&&(b3&&(b4&&(b5&&(b6&&b7)))))))=true)(k:b0=true->b1=true->b2=true->b3=true->b4=true->b5=true->b6=true->b7=true->P):P:=k (zaF h).1 (zaF (zaF h).2).1 (zaF (zaF (zaF h).2).2).1 (zaF (zaF (zaF (zaF h).2).2).2).1 (zaF (zaF (zaF (zaF (zaF h).2).2).2).2).1 (zaF (zaF (zaF (zaF (zaF (zaF h).2).2).2).2).2).1 (zaF (zaF (zaF (zaF (zaF (zaF (zaF h).2).2).2).2).2).2).1 (zaF (zaF (zaF (zaF (zaF (zaF (zaF h).2).2).2).2).2).2).2
theorem and9 {b0 b1 b2 b3 b4 b5 b6 b7 b8:Bool}{P:Prop}(h:(b0&&(b1&&(b2&&(b3&&(b4&&(b5&&(b6&&(b7&&b8))))))))=true)(k:b0=true->b1=true->b2=true->b3=true->b4=true->b5=true->b6=true->b7=true->b8=true->P):P:=k (zaF h).1 (zaF (zaF h).2).1 (zaF (zaF (zaF h).2).2).1 (zaF (zaF (zaF (zaF h).2).2).2).1 (zaF (zaF (zaF (zaF (zaF h).2).2).2).2).1 (zaF (zaF (zaF (zaF (zaF (zaF h).2).2).2).2).2).1 (zaF (zaF (zaF (zaF (zaF (zaF (zaF h).2).2).2).2).2).2).1 (zaF (zaF (zaF (zaF (zaF (zaF (zaF (zaF h).2).2).2).2).2).2).2).1 (zaF (zaF (zaF (zaF (zaF (zaF (zaF (zaF h).2).2).2).2).2).2).2).2
theorem and15 {b0 b1 b2 b3 b4 b5 b6 b7 b8 b9 b10 b11 b12 b13 b14:Bool}{P:Prop}(h:(b0&&(b1&&(b2&&(b3&&(b4&&(b5&&(b6&&(b7&&(b8&&(b9&&(b10&&(b11&&(b12&&(b13&&b14))))))))))))))=true)(k:b0=true->b1=true->b2=true->b3=true->b4=true->b5=true->b6=true->b7=true->b8=true->b9=true->b10=true->b11=true->b12=true->b13=true->b14=true->P):P:=k (zaF h).1 (zaF (zaF h).2).1 (zaF (zaF (zaF h).2).2).1 (zaF (zaF (zaF (zaF h).2).2).2).1 (zaF (zaF (zaF (zaF (zaF h).2).2).2).2).1 (zaF (zaF (zaF (zaF (zaF (zaF h).2).2).2).2).2).1 (zaF (zaF (zaF (zaF (zaF (zaF (zaF h).2).2).2).2).2).2).1 (zaF (zaF (zaF (zaF (zaF (zaF (zaF (zaF h).2).2).2).2).2).2).2).1 (zaF (zaF (zaF (zaF (zaF (zaF (zaF (zaF (zaF h).2).2).2).2).2).2).2).2).1 (zaF (zaF (zaF (zaF (zaF (zaF (zaF (zaF (zaF (zaF h).2).2).2).2).2).2).2).2).2).1 (zaF (zaF (zaF (zaF (zaF (zaF (zaF (zaF (zaF (zaF (zaF h).2).2).2).2).2).2).2).2).2).2).1 (zaF (zaF (zaF (zaF (zaF (zaF (zaF (zaF (zaF (zaF (zaF (zaF h).2).2).2).2).2).2).2).2).2).2).2).1 (zaF (zaF (zaF (zaF (zaF (zaF (zaF (zaF (zaF (zaF (zaF (zaF (zaF h).2).2).2).2).2).2).2).2).2).2).2).2).1 (zaF (zaF (zaF (zaF (zaF (zaF (zaF (zaF (zaF (zaF (zaF (zaF (zaF (zaF h).2).2).2).2).2).2).2).2).2).2).2).2).2).1 (zaF (zaF (zaF (zaF (zaF (zaF (zaF (zaF (zaF (zaF (zaF (zaF (zaF (zaF h).2).2).2).2).2).2).2).2).2).2).2).2).2).2
theorem s_int (i:Int):zaI T X G names (.int i):=λ m c env ls nm Fs H R Q E es l hn hm cv hE h=>by
 refine ydQ zgJ hm λ k _ _ hm=>?_;cases yjE hm;exact zeG.fin (AE.int h) rfl
theorem s_str (i:Str):zaI T X G names (.str i):=λ m c env ls nm Fs H R Q E es l hn hm cv hE h=>by
 refine ydQ zgJ hm λ k _ _ hm=>?_;cases ybJ hm;exact zeG.fin (AE.str h) rfl
theorem ymS (i:Bool):zaI T X G names (.bool i):=λ m c env ls nm Fs H R Q E es l hn hm cv hE h=>by
 refine ydQ zgJ hm λ k _ _ hm=>?_;cases yfM hm;exact zeG.fin (AE.bool h) rfl
theorem ymB:zaI T X G names .none:=λ m c env ls nm Fs H R Q E es l hn hm cv hE h=>by
 refine ydQ zgJ hm λ k _ _ hm=>?_;cases yfH hm;exact zeG.fin (AE.none h) rfl
theorem s_var (x:Nat):zaI T X G names (.var x):=λ m c env ls nm Fs H R Q E es l hn hm cv hE h=>by
 refine zwV zaZ hm λ s _ hm=>?_;refine q04 (zwX hm) λ h1 h2 h3 h4=>?_;have h:(match lkN x l with
  | some p=>zhU T m Q p H
  | Option.none=>False):=h
 cases e:lkN x l with
 | none=>rw[e]at h;exact h.elim
 | some p=>
  rw[e]at h;exact zeG.fin (AE.name hn h2 (cv.get e h1) h h3 h4) rfl
theorem yoY (GO:GOk T.C G)(p:PV):zaI T X G names (.glob p):=λ m c env ls nm Fs H R Q E es l hn hm cv hE h=>by
 refine zwV zaZ hm λ s _ hm=>?_;refine zcU hm λ h1 h2=>?_;exact zeG.fin (AE.gl (C:=T.C) (G:=G) hn h1 (znO GO h2) h) rfl
theorem s_bin (o:Operator){a b:IE}(Sa:zaI T X G names a)(Sb:zaI T X G names b):zaI T X G names (.bin o a b):=λ m c env ls nm Fs H R Q E es l hn hm cv hE h=>by
 refine zwV yeL hm λ x _ hm=>?_;refine zcU hm λ h1 h2=>?_;refine zpJ h1 λ h1 h3 h4=>?_;refine zcU h2 λ h2 h5=>?_;rw[<- eq_of_beq h1];exact zeG.fin (AE.binop (AE.mono (Sa.ae (nL h3) hn h2 cv hE h) λ p H1' h=>AE.mono (Sb.ae (nL h4) hn h5 cv hE h) λ q H2' h=>(ykF h).noE)) rfl
theorem s_un (o:UnaryOp){a:IE}(Sa:zaI T X G names a):zaI T X G names (.un o a):=λ m c env ls nm Fs H R Q E es l hn hm cv hE h=>by
 refine zwV ykK hm λ x _ hm=>?_;refine zcU hm λ h1 h2=>?_;refine zcU h1 λ h1 h4=>?_;rw[<- eq_of_beq h1];cases m with
 | v=>
  have h:w T X a .v l H R λ p H1'=>wUn T o p H1' Q:=by cases o <;> exact h
  exact AE.unop (AE.mono (Sa.ae (nL h4) hn h2 cv hE h) λ p H1' h=>(ynA h).noE)
 | t=>
  cases o with
  | Not=>exact AT.not (AT.mono (Sa.at_ (nL h4) hn h2 cv hE h) λ b H1' h=>h)
  | _=>exact h.elim
 | a=>trivial
 | o=>trivial
 | b=>trivial
theorem s_cmp (o:CmpOp){a b:IE}(Sa:zaI T X G names a)(Sb:zaI T X G names b):zaI T X G names (.cmp o a b):=λ m c env ls nm Fs H R Q E es l hn hm cv hE h=>by
 refine zwV zrT hm λ x _ hm=>?_;refine zaL hm λ op ho hm=>?_;refine zaL hm λ r hr hm=>?_;rw[zeY ho,zeY hr];refine zcU hm λ h1 h2=>?_;refine ykS h1 λ h1 h3 h4 h5=>?_;refine zcU h2 λ h2 h6=>?_;rw[<- eq_of_beq h1];cases m with
 | v=>exact AE.cmp (AE.mono (Sa.ae (nL h4) hn h2 cv hE h) λ p H1' h=>AE.mono (Sb.ae (nL h5) hn h6 cv hE h) λ q H2' h=>(znK h).noE) (zmP h3)
 | t=>exact AT.cmp (AE.mono (Sa.ae (nL h4) hn h2 cv hE h) λ p H1' h=>AE.mono (Sb.ae (nL h5) hn h6 cv hE h) λ q H2' h=>(znK h).noE) (zmP h3)
 | a=>trivial
 | o=>trivial
 | b=>trivial
theorem ypI (o o':CmpOp){a b d:IE}(Sa:zaI T X G names a)(Sb:zaI T X G names b)(Sd:zaI T X G names d):zaI T X G names (.cmp2 o o' a b d):=λ m c env ls nm Fs H R Q E es l hn hm cv hE h=>by
 refine zwV zrT hm λ x _ hm=>?_;refine zaL hm λ op ho hm=>?_;refine zaL hm λ r hr hm=>?_;rw[ztC ho,ztC hr];refine zcU hm λ h1 h2=>?_;refine yoS h1 λ h1 k1 k2 k3 k4 k5=>?_;refine zpJ h2 λ h2 m1 m2=>?_;rw[<- eq_of_beq h1,<- eq_of_beq k1];cases m with
 | t=>
  refine AT.cmp2 (AE.mono (Sa.ae (nL k3) hn h2 cv hE h) λ p H1' h=>AE.mono (Sb.ae (nL k4) hn m1 cv hE h) λ q H2' h=>(zdC.mono (znK h).noE λ b H3 h=>?_)) (zmP k2);cases b with
  | true=>exact AE.mono (Sd.ae (nL k5) hn m2 cv hE h) λ q' H4 h=>(znK h).noE
  | false=>exact h
 | v=>exact h.elim
 | a=>trivial
 | o=>trivial
 | b=>trivial
theorem yoU {a:IE}{hd:Bool}{nm:List (Str×NameKind)}(hc:a.isCons=true)(h:mE G names hd a nm []=true):False:=by
 cases a <;> first|exact absurd hc Bool.false_ne_true|exact absurd h Bool.false_ne_true
theorem yeZ (o:BoolOp){a:IE}(Sa:zaI T X G names a):zaI T X G names (.boolop o a):=λ m c env ls nm Fs H R Q E es l hn hm cv hE h=>by
 refine zwV ycD hm λ x _ hm=>?_;refine zcU hm λ h1 h2=>?_;refine zcU h1 λ h1 h3=>?_;rw[<- eq_of_beq h1];cases m with
 | t=>
  cases o with
  | And=>
   have:=Sa .a hn h2 cv hE h;rw[h3]at this;exact AT.boolop this.1
  | Or=>
   have:=Sa .o hn h2 cv hE h;rw[h3]at this;exact AT.boolop this
 | v=>
  cases o with
  | And=>
   have h:cond a.isCons (w T X a .b l H R Q) False:=h;cases hc:a.isCons with
   | false=>rw[hc]at h;exact h.elim
   | true=>
    rw[hc]at h;have:=Sa .b hn h2 cv hE h;rw[h3]at this;exact AE.mono (AE.andv (Q:=λ b H=>Q (.bool b) H) (λ q=>yoU hc (q▸h2)) this) λ p H' u9=>q12 u9 λ b e q=>e▸q
  | Or=>exact h.elim
 | a=>trivial
 | o=>trivial
 | b=>trivial
theorem s_ife {a b d:IE}(Sa:zaI T X G names a)(Sb:zaI T X G names b)(Sd:zaI T X G names d):zaI T X G names (.ife a b d):=λ m c env ls nm Fs H R Q E es l hn hm cv hE h=>by
 refine zwV yjK hm λ x _ hm=>?_;refine zcU hm λ h1 h2=>?_;refine zpJ h1 λ h1 k1 k2=>?_;refine zpJ h2 λ h2 m1 m2=>?_;cases m with
 | v=>
  refine AE.ifexp (AT.mono (Sa.at_ (nL h1) hn h2 cv hE h) λ b' H1' h=>?_);cases b' with
  | true=>exact Sb.ae (nL k1) hn m1 cv hE h
  | false=>exact Sd.ae (nL k2) hn m2 cv hE h
 | t=>exact h.elim
 | a=>trivial
 | o=>trivial
 | b=>trivial
theorem ypK:zaI T X G names .nil:=λ m c env ls nm Fs H R Q E es l hn hm cv hE h=>by
 cases zeJ hm;cases m with
 | v=>exact AL.nil h
 | a=>exact⟨zsW.and_nil h,λ _=>h⟩
 | o=>exact zsW.or_nil h
 | b=>exact zsA.nil (Q:=λ b H=>Q (.bool b) H) h
 | t=>trivial
theorem ynS {a b:IE}(Sa:zaI T X G names a)(Sb:zaI T X G names b):zaI T X G names (.cons a b):=λ m c env ls nm Fs H R Q E es l hn hm cv hE h=>by
 cases es with
 | nil=>cases hm
 | cons e r=>
  refine zcU hm λ h1 h2=>?_;refine zpJ h1 λ h1 k2 k1=>?_;refine zcU h2 λ h2 m1=>?_;cases m with
  | v=>exact AL.cons (AE.mono (Sa.ae (nL k2) hn h2 cv hE h) λ p H1' h=>AL.mono (Sb.al k1 hn m1 cv hE h) λ ps H2' h=>h) (zbF h1).1
  | a=>
   refine⟨zsW.and (AT.mono (Sa.at_ (nL k2) hn h2 cv hE h) λ b' H1' h=>?_),λ e=>?_⟩
   ·cases b' with
    | true=>
     have:=Sb .a hn m1 cv hE h;rw[k1]at this;exact this.1
    | false=>exact h
   ·subst e
    refine AT.mono (Sa.at_ (nL k2) hn h2 cv hE h) λ b' H1' h=>?_;cases b' with
    | true=>
     have:=Sb .a hn m1 cv hE h;rw[k1]at this;exact this.2 rfl
    | false=>exact h
  | o=>
   refine zsW.or (AT.mono (Sa.at_ (nL k2) hn h2 cv hE h) λ b' H1' h=>?_);cases b' with
   | true=>exact h
   | false=>
    have:=Sb .o hn m1 cv hE h;rw[k1]at this;exact this
  | b=>
   refine zsA.cons (Q:=λ b H=>Q (.bool b) H) (AE.mono (Sa.ae (nL k2) hn h2 cv hE h) λ p H1' h=>?_);cases p with
   | bool c=>
    refine⟨c,rfl,?_⟩;cases c with
    | true=>
     have:=Sb .b hn m1 cv hE h;rw[k1]at this;exact this
    | false=>exact h
   | _=>exact h.elim
  | t=>trivial
theorem yhV {n:Nat}{A:Prop}(h:cond (Nat.ble n 1000) A False):n<=1000/\A:=by
 cases e:Nat.ble n 1000 with
 | true=>rw[e]at h;exact⟨Nat.le_of_ble_eq_true e,h⟩
 | false=>rw[e]at h;exact h.elim
theorem s_tup {a:IE}(Sa:zaI T X G names a):zaI T X G names (.tup a):=λ m c env ls nm Fs H R Q E es l hn hm cv hE h=>by
 refine ydQ zrI hm λ x _ _ hm=>?_;refine zcU hm λ h1 h2=>?_;exact zeG.fin (AE.tuple (AL.mono (Sa.al h1 hn h2 cv hE h) λ ps H1' h=>yhV h)) rfl
theorem ypB {a:IE}(Sa:zaI T X G names a):zaI T X G names (.list a):=λ m c env ls nm Fs H R Q E es l hn hm cv hE h=>by
 refine zwV ztZ hm λ x _ hm=>?_;refine zcU hm λ h1 h2=>?_;exact zeG.fin (AE.list (AL.mono (Sa.al h1 hn h2 cv hE h) λ ps H1' h=>yhV h)) rfl
theorem ypD (y:Str){a:IE}(Sa:zaI T X G names a):zaI T X G names (.attr a y):=λ m c env ls nm Fs H R Q E es l hn hm cv hE h=>by
 refine ygB znS hm λ x hm=>?_;refine zcU hm λ h1 h2=>?_;refine zpJ h1 λ h1 k1 k2=>?_;rw[<- eq_of_beq h1];refine zeG.fin (AE.attr (ybY k1) (AE.mono (Sa.ae (nL k2) hn h2 cv hE h) λ p H1' h=>?_)) rfl;have h:zoW T y p H1' (zhU T m Q):=h;unfold zoW at h;exact (h _).noE
theorem s_sub {a b:IE}(Sa:zaI T X G names a)(Sb:zaI T X G names b):zaI T X G names (.sub a b):=λ m c env ls nm Fs H R Q E es l hn hm cv hE h=>by
 refine zwV zmJ hm λ x _ hm=>?_;refine zcU hm λ h1 h2=>?_;refine zpJ h1 λ h1 k1 k2=>?_;refine zcU h2 λ h2 m1=>?_;refine zeG.fin (AE.sub (AE.mono (Sa.ae (nL k1) hn h2 cv hE h) λ p H1' h=>AE.mono (Sb.ae (nL k2) hn m1 cv hE h) λ q H2' h=>?_)) rfl;have h:zdB T p q H2' (zhU T m Q):=h;unfold zdB at h;exact (h _ _ _ (zwW h1)).noE
theorem ynE {a b:IE}(Sa:zaI T X G names a)(Sb:zaI T X G names b):zaI T X G names (.subR a b):=λ m c env ls nm Fs H R Q E es l hn hm cv hE h=>by
 refine zwV zmJ hm λ x _ hm=>?_;refine zcU hm λ h1 h2=>?_;refine zpJ h1 λ h1 k1 k2=>?_;refine zcU h2 λ h2 m1=>?_;refine zeG.fin (AE.sub (AE.mono (Sa.ae (nL k1) hn h2 cv hE h) λ p H1' h=>AE.mono (Sb.ae (nL k2) hn m1 cv hE h) λ q H2' h=>?_)) rfl;have h:zfE T X p q H2' (zhU T m Q) R:=h;unfold zfE at h;rcases h with h|⟨rfl,hh,hR,a,l,k,rfl,hl,rfl,ho,lo,hi⟩|⟨rfl,hh,hR,a,x,es,n,rfl,rfl,hl,hk,e,ha⟩
 ·unfold zdB at h;exact (h _ _ _ (zwW h1)).noE
 ·exact zkO.listOut hh hl ho lo hi hR hE λ u=>zwW h1 _ _
 ·exact zkO.topMiss hh hl hk e ha hR hE λ t=>zwW h1 _ _
theorem ykM {a:IE}(h:a.isNo=true):a=.none:=by cases a <;> first|exact rfl|exact absurd h Bool.false_ne_true
theorem zyN {p:PV}{K:Option Int->Prop}(h:yeK false p K):∃ i,p=.int i/\K (some i):=by
 cases p <;> first|exact⟨_,rfl,h⟩|exact h.elim
theorem ygU {a:IE}(Sa:zaI T X G names a){c:FK}{env:Env}{ls:Ls}{nm:List (Str×NameKind)}{Fs:List AF}{H:zaA}{R:zaA->Prop}{Q:Option Int->zaA->Prop}{E:Value->Shared->Prop}{e:Option Expr}{l:LN}
  (hL:a.isL=false) (hn:env.scope.names=nm) (hm:(match e with|some e=>!a.isNo&&mE G names T.hd a nm [e] | none=>a.isNo)=true) (cv:Cov names l ls) (hE:∀ e s,Thr T.C ⟨c,env,ls⟩ Fs X R e s->E e s)
  (h:w T X a .v l H R λ p H'=>yeK a.isNo p λ i=>Q i H'):zmC T ⟨c,env,ls⟩ Fs H e Q E:=by
 cases e with
 | none=>
  cases ykM hm;exact h
 | some e=>
  refine zcU hm λ h1 h2=>?_;rw[nL h1]at h;refine zmC.some (AE.mono (Sa.ae hL hn h2 cv hE h) λ p H' h=>?_);exact zyN h
theorem zmC.mono {f:FR}{Fs:List AF}{H:zaA}{E:Value->Shared->Prop}{e:Option Expr}{Q Q':Option Int->zaA->Prop}(h:zmC T f Fs H e Q E)(hq:∀ i H,Q i H->Q' i H):zmC T f Fs H e Q' E:=by
 cases e with
 | none=>exact hq _ _ h
 | some e=>exact AE.mono h λ p H' u9=>q12 u9 λ i e h=>⟨i,e,hq _ _ h⟩
theorem yiW {a lo hi:IE}(Sa:zaI T X G names a)(Sl:zaI T X G names lo)(Sh:zaI T X G names hi):zaI T X G names (.slice a lo hi):=λ m c env ls nm Fs H R Q E es l hn hm cv hE h=>by
 refine zwV zmJ hm λ x _ hm=>?_;refine zaL hm λ z hz hm=>?_;obtain⟨_,hz⟩:=zzN hz;rw[hz];refine zcU hm λ h1 h2=>?_;refine ykS h1 λ h1 k1 k2 k3=>?_;refine zpJ h2 λ h2 m1 m2=>?_;rw[yoL h1];refine zeG.fin (AE.slice (AE.mono (Sa.ae (nL k1) hn h2 cv hE h) λ p H1' h=>zmC.mono (ygU Sl (nL k2) hn m1 cv hE h) λ i H2' h=>zmC.mono (ygU Sh (nL k3) hn m2 cv hE h) λ j H3 h=>?_)) rfl;have h:zdD T p i j H3 (zhU T m Q):=h;unfold zdD at h;exact h
theorem ymO (GO:GOk T.C G)(g:PV){a:IE}(Sa:zaI T X G names a):zaI T X G names (.call g a):=λ m c env ls nm Fs H R Q E es l hn hm cv hE h=>by
 refine ygB zmY hm λ x hm=>?_;refine zaL hm λ s hs hm=>?_;obtain⟨_,hs⟩:=zaZ hs;refine zcU hm λ h1 h2=>?_;refine and5 h1 λ k1 h1 k2 k3 k4=>?_;rw[hs,zeJ k1];have g1:=znO GO k2;refine zeG.fin (AE.call (λ _=>rfl) k3 (AE.gl (C:=T.C) (G:=G) hn h1 g1 ⟨g1.1 rfl,AL.mono (Sa.al k4 hn h2 cv hE h) λ ps H1' h=>?_⟩)) rfl;have h:zaG T X g ps H1' (zhU T m Q) R:=h;unfold zaG at h;exact h _ _ λ e s x=>hE e s (.inr x)
theorem ykD (y:Nat):zaI T X G names (.callV y):=λ m c env ls nm Fs H R Q E es l hn hm cv hE h=>by
 refine ygB zmY hm λ x hm=>?_;refine zaL hm λ s hs hm=>?_;obtain⟨_,hs⟩:=zaZ hs;refine zcU hm λ k1 hm=>?_;refine zcU hm λ k2 hm=>?_;rw[hs,zeJ k1,zeJ k2];refine q04 (zwX hm) λ h1 h2 h3 h4=>?_;have h:(match lkN y l with
  | some p=>ziC T X p H (zhU T m Q) R
  | Option.none=>False):=h
 cases e:lkN y l with
 | none=>rw[e]at h;exact h.elim
 | some p=>
  rw[e]at h;dsimp only at h;unfold ziC at h;refine q31 h ?_;clear h;intro a o fd u8;refine q04 u8 ?_;clear u8;intro u0;subst u0;intro ha hd hc;unfold zaG at hc;exact zeG.fin (AE.callRaw (λ _=>rfl) (AE.name hn h2 (cv.get e h1) ⟨a,o,fd,rfl,ha,hd,hc _ _ λ e s x=>hE e s (.inr x)⟩ h3 h4)) rfl
theorem yoO (y:Str){o a:IE}(So:zaI T X G names o)(Sa:zaI T X G names a):zaI T X G names (.meth o y a):=λ m c env ls nm Fs H R Q E es l hn hm cv hE h=>by
 refine ygB zmY hm λ x hm=>?_;refine zaL hm λ z hz hm=>?_;refine zcU hm λ h1 h2=>?_;refine and8 h1 λ k1 h1 k2 k3 k4 k5 k6 k7=>?_;refine zcU h2 λ h2 m1=>?_;rw[znS hz,zeJ k1,<- eq_of_beq h1];refine zeG.fin (AE.meth (ybY k2) k3 (Nat.le_of_ble_eq_true k4) k5 (AE.mono (So.ae (nL k7) hn h2 cv hE h) λ p H1' h=>?_)) rfl;refine q12 h ?_;clear h;intro g hg h;unfold zbQ at hg;refine⟨g,hg.1,hg.2 _,AL.mono (Sa.al k6 hn m1 cv hE h) λ ps H2' h=>?_⟩;have h:zaG T X g (p::ps) H2' (zhU T m Q) R:=h;unfold zaG at h;exact h _ _ λ e s x=>hE e s (.inr x)
theorem zmO {nm:List (Str×NameKind)}{x:Nat}{s:Str}(h:ycW names nm x s=true):names[x]?=some s/\nm.lookup s=some .local:=by
 refine zcU h λ h1 h2=>?_;exact⟨eq_of_beq h1,eq_of_beq h2⟩
inductive CTok (names:List Str)(nm:List (Str×NameKind)):CT->Expr->Prop
 | one (x:Nat) (s:Str) (p:Pos) (h1:names[x]?=some s) (h2:zgO (nm.lookup s)=true):CTok names nm (.one x) (.Name s p)
 | two (x y:Nat) (s t:Str) (p q:Pos) (k:Nat) (r:Pos) (h1:names[x]?=some s/\nm.lookup s=some .local) (h2:names[y]?=some t/\nm.lookup t=some .local):CTok names nm (.many [x,y]) (.Tuple [.Name s p,.Name t q] k r)
theorem ztR {t:CT}{nm:List (Str×NameKind)}{e:Expr}(h:mCT names nm t e=true):CTok names nm t e:=by
 cases t with
 | one x=>
  refine zaL h λ s hs hm=>?_;obtain⟨p,e1⟩:=zaZ hs;refine zcU hm λ h1 h2=>?_;exact e1▸.one x s p (eq_of_beq h1) h2
 | many vs=>
  refine zaL h λ v hv h=>?_;refine zaL h λ es he h=>?_;refine q21 (zrI he) λ k r e0=>?_;refine zaL h λ x hx h=>?_;refine zcU h λ h1 h2=>?_;refine zaL h1 λ s hs h1=>?_;refine zaL h2 λ t ht h2=>?_;obtain⟨p,e1⟩:=zaZ hs;obtain⟨q,e2⟩:=zaZ ht;rw[e0,ztC hv,ztC hx,e1,e2];exact .two _ _ _ _ _ _ _ _ (zmO h1) (zmO h2)
theorem ygM {t:CT}{nm:List (Str×NameKind)}{e:Expr}(h:mCT names nm t e=true):∀ v∈t.vars,∃ s,names[v]?=some s/\zgO (nm.lookup s)=true:=by
 cases ztR h with
 | one x s p h1 h2=>
  intro v hv;rw[List.mem_singleton.mp hv];exact⟨_,h1,h2⟩
 | two x y s t p q k r h1 h2=>
  intro v hv;rcases List.mem_cons.mp hv with rfl|hv
  ·exact⟨_,h1.1,by rw[h1.2];rfl⟩
  ·rw[List.mem_singleton.mp hv];exact⟨_,h2.1,by rw[h2.2];rfl⟩
theorem zqT {α:Type}{x:α}{P:Prop}(h:(none:Option α)=some x):P:=nomatch h
theorem zyI {x y:Nat}{p:PV}{l l':LN}(hb:zsE (.many [x,y]) p l=some l'):∃ p1 p2,p=.tup [p1,p2]/\l'=(y,p2)::(x,p1)::l:=by
 cases p with
 | tup ps=>
  cases ps with
  | nil=>exact zqT hb
  | cons a r=>cases r with
   | nil=>exact zqT hb
   | cons b r=>cases r with
    | nil=>cases hb;exact⟨a,b,rfl,rfl⟩
    | cons _ _=>exact zqT hb
 | _=>exact zqT hb
theorem AA.nameO {own:List Addr}{x:Str}{pos:Pos}{p:PV}{env:Env}{ls:Ls}{ns nm:List (Str×NameKind)}{Fs:List AF}{H:zaA}{Q:Ls->zaA->Prop}{E:Value->Shared->Prop}(hn:env.scope.names=zkC ns nm)(ho:zuJ own ns env)(hk:zgO (ns.lookup x)=true)(h:Q ((x,p)::ls) H):AA T ⟨.cp own,env,ls⟩ Fs H (.Name x pos) p Q E:=
 λ A s v ok R hp=>wpAny_assign_Name (zgH R (by
  rw[show env.kindOf x=env.scope.names.lookup x from rfl,hn,zgQ];have ho:=ho x;cases e:ns.lookup x with
  | none=>rw[e]at hk;cases hk
  | some k=>cases k with
   | «local»=>exact .inl rfl
   | cell=>exact .inr ⟨rfl,ho e⟩
   | _=>rw[e]at hk;cases hk) hp λ s' R' tk=>⟨_,H,R',tk,h⟩)
theorem yjR (hh:T.hd=false)(nd:names.Nodup){t:CT}{own:List Addr}{env:Env}{ns nm:List (Str×NameKind)}{e:Expr}{ls:Ls}{l l':LN}{p:PV}{Fs:List AF}{H:zaA}{Q:Ls->zaA->Prop}{E:Value->Shared->Prop}(hn:env.scope.names=zkC ns nm)(ho:zuJ own ns env)(h:mCT names ns t e=true)(cv:Cov names l ls)(hb:zsE t p l=some l')
  (hq:∀ ls',Cov names l' ls'->(∀ y q,(∀ v∈t.vars,names[v]?≠some y)->ls.lookup y=some q->ls'.lookup y=some q)->Q ls' H):AA T ⟨.cp own,env,ls⟩ Fs H e p Q E:=by
 cases ztR h with
 | one x s p' h1 h2=>
  cases hb;exact AA.nameO hn ho h2 (hq _ (cv.put nd h1) λ y q hy e=>zbB (beq_eq_false_iff_ne.mpr λ e'=>hy _ (.head _) (e'▸h1)) e)
 | two x y s t p' q k r h1 h2=>
  refine q22 (zyI hb) λ p1 p2 u0 u1=>?_;subst u0;subst u1;refine AA.tup rfl rfl (AAs.cons' rfl (AA.nameO hn ho (by rw[h1.2];rfl) (AAs.cons' rfl (AA.nameO hn ho (by rw[h2.2];rfl) (AAs.nil' (hq _ ((cv.put nd h1.1).put nd h2.1) λ y q hy e=>?_))))));exact zbB (beq_eq_false_iff_ne.mpr λ e'=>hy _ (.tail _ (.head _)) (e'▸h2.1)) (zbB (beq_eq_false_iff_ne.mpr λ e'=>hy _ (.head _) (e'▸h1.1)) e)
noncomputable def zzV (T:Tr)(X:String)(t:CT)(fs e:IE)(l:LN)(v:PV)(H':zaA)(K:Option PV->zaA->Prop):Prop:=match zsE t v (ziJ t.vars l) with
  | some ls'=>w T X fs .a ls' H' noR λ b H2'=>match b with
   | .bool b=>cond b (w T X e .v ls' H2' noR λ r H3=>K (some r) H3) (K Option.none H2')
   | _=>False
  | Option.none=>False
theorem znJ (hh:T.hd=false)(nd:names.Nodup){t:CT}{fs e:IE}(Sf:zaI T X G names fs)(Se:zaI T X G names e){scope:Scope}{nm:List (Str×NameKind)}{target elt:Expr}{ifs:List Expr}{ls:Ls}{l:LN}(cv:Cov names l ls)
  (ho:zyF names t.vars scope=true) (hmt:mCT names scope.names t target=true) (hlf:fs.isL=true) (hle:e.isL=false) (hmf:mE G names T.hd fs (zkC scope.names nm) ifs=true) (hme:mE G names T.hd e (zkC scope.names nm) [elt]=true)
  {own:List Addr} {cenv:Env} (hc:cenv.scope.names=zkC scope.names nm) (hco:zuJ own scope.names cenv) {D:Addr} {post:List AF} {Fs':List AF} {H':zaA} {out:List PV} (hz:out.length<=100000) {v:PV} {K:List PV->zaA->Prop} (h:zzV T X t fs e l v H' λ r H''=>K (out++r.toList) H''):
  AA T ⟨.cp own,cenv,zdL scope.names ls⟩ Fs' H' target v (λ ls' H2'=>Sub (zdL scope.names ls) ls'/\zrL T ⟨.cp own,cenv,ls'⟩ Fs' H2' ifs (λ b H3=>if b then zfH T ⟨.cp own,cenv,ls'⟩ D post (zmW elt) H3 out (λ out' H4=>out'.length<=out.length+1/\K out' H4) else K out H3)) NoE:=by
 cases hb:zsE t v (ziJ t.vars l) with
 | none=>unfold zzV at h;rw[hb]at h;exact h.elim
 | some l'=>
  unfold zzV at h;rw[hb]at h;refine yjR hh nd hc hco hmt (cv.drop nd ho) hb λ ls' cv' keep=>⟨λ y q hy=>keep y q (λ v hv ev=>?_) hy,?_⟩
  ·refine q12 (ygM hmt v hv) λ s h1 h2=>?_
   have ey:s=y:=Option.some.inj (h1.symm.trans ev);subst ey;rw[(zbU hy).2]at h2;cases h2
  ·have hf:=Sf .a (E:=NoE) (c:=.cp own) (Fs:=Fs') (es:=ifs) hc hmf cv' (λ _ _=>zyC) h
   rw[hlf]at hf;refine zrL.mono (hf.2 rfl) λ b H2' hb2=>?_;cases b with
   | true=>
    rw[if_pos rfl];exact zfH.elt hz λ Fs''=>AE.mono (Se.ae hle hc hme cv' (λ _ _=>zyC) hb2) λ r H3 h=>⟨by simp,h⟩
   | false=>
    rw[if_neg (by decide)];have hb2:K (out++(Option.none:Option PV).toList) H2':=hb2;rw[Option.toList_none,List.append_nil]at hb2;exact hb2
inductive zsT (T:Tr)(c:FK)(env:Env)(ls:Ls)(nm:List (Str×NameKind))(Fs:List AF)(H:zaA)(v:Expr)(P:List PV->zaA->Prop)(E:Value->Shared->Prop):Prop
 | mk (elt target iter:Expr) (ifs:List Expr) (rest:List Comprehension) (scope:Scope) (pos:Pos) (emit:Value->Env->Sem Unit) (e:v=.ListComp elt (⟨target,iter,ifs,0⟩::rest) scope pos) (hh:T.hd=false) (sc:zeB scope nm) (hf:∀ env x,foldedSetIterable iter env x=pure x) (sh:zbN elt (⟨target,iter,ifs,0⟩::rest) scope pos 0 target ifs emit) (g:zgD T scope.names nm c env ls Fs H iter target ifs emit P E)
noncomputable def newList (Q:PV->zaA->Prop)(out:List PV)(H:zaA):Prop:=∀ a,H a=Option.none->Q (.ref a) (upd H a (.list out))
theorem zsT.ae {c:FK}{env:Env}{ls:Ls}{nm:List (Str×NameKind)}{Fs:List AF}{H:zaA}{v:Expr}{Q:PV->zaA->Prop}{E:Value->Shared->Prop}(hn:env.scope.names=nm)(h:zsT T c env ls nm Fs H v (newList Q) E):AE T ⟨c,env,ls⟩ Fs H v Q E:=by
 obtain⟨elt,target,iter,ifs,rest,scope,pos,emit,rfl,hh,sc,hf,sh,h⟩:=h;exact AE.compG hh hn sc (hf env) sh h
theorem zoD {S:Ls->Prop}{own:List Addr}{cenv:Env}{D:Addr}{post Fs':List AF}{H':zaA}{target:Expr}{ifs:List Expr}{emit:Value->Env->Sem Unit}{v:PV}{out:List PV}{i:Nat}{K K2:List PV->zaA->Prop}{ls0:Ls}
  (h:AA T ⟨.cp own,cenv,ls0⟩ Fs' H' target v (λ ls' H2'=>S ls'/\zrL T ⟨.cp own,cenv,ls'⟩ Fs' H2' ifs (λ b H3=>if b then zfH T ⟨.cp own,cenv,ls'⟩ D post emit H3 out (λ out' H4=>out'.length<=out.length+1/\K out' H4) else K out H3)) NoE)
  (hlo:out.length<=i) (next:∀ out' H4,out'.length<=i+1->K out' H4->K2 out' H4):
  AA T ⟨.cp own,cenv,ls0⟩ Fs' H' target v (λ ls' H2'=>S ls'/\zrL T ⟨.cp own,cenv,ls'⟩ Fs' H2' ifs (λ b H3=>if b then zfH T ⟨.cp own,cenv,ls'⟩ D post emit H3 out K2 else K2 out H3)) NoE:=
 AA.mono h λ ls' H2' hx=>⟨hx.1,zrL.mono hx.2 λ b H3 hb=>by
  cases b with
  | true=>exact zfH.mono hb λ out' H4 hx=>next out' H4 (Nat.le_trans hx.1 (Nat.succ_le_succ hlo)) hx.2
  | false=>exact next out H3 (Nat.le_succ_of_le hlo) hb⟩
noncomputable def LI (a:Addr)(li:List PV)(J:Nat->List PV->zaA->Prop)(n:Nat)(y:AIt)(out:List PV)(H':zaA):Prop:=∃ i,y=.list a i/\n=li.length-i/\i<=li.length/\out.length<=i/\J i out H'
noncomputable def RI (n:Nat)(J:Nat->List PV->zaA->Prop)(k:Nat)(y:AIt)(out:List PV)(H':zaA):Prop:=∃ i:Nat,y=zkJ i n/\k=n-i/\i<=n/\out.length<=i/\J i out H'
theorem zjC {g:Comprehension}{a:Expr}{f:List Expr}(h1:g.target=a)(h2:g.ifs=f)(h3:g.is_async=0):g=⟨a,g.iter,f,0⟩:=by
 obtain⟨t,i,f',n⟩:=g;cases h1;cases h2;cases h3;rfl
theorem ygW (nd:names.Nodup)(t:CT){it fs e:IE}(Si:zaI T X G names it)(Sf:zaI T X G names fs)(Se:zaI T X G names e){c:FK}{env:Env}{ls:Ls}{nm:List (Str×NameKind)}{Fs:List AF}{H:zaA}{R:zaA->Prop}{Q:PV->zaA->Prop}{E:Value->Shared->Prop}{es:List Expr}{l:LN}
  (hn:env.scope.names=nm) (hm:mE G names T.hd (.comp t it fs e) nm es=true) (cv:Cov names l ls) (hE:∀ e s,Thr T.C ⟨c,env,ls⟩ Fs X R e s->E e s) (h:w T X (.comp t it fs e) .v l H R Q):∃ v,es=[v]/\zsT T c env ls nm Fs H v (newList Q) E:=by
 refine zaL hm λ ex he hm=>?_;refine zaL hm λ z hz hm=>?_;refine zaL hm λ g hg hm=>?_;refine zcU hm λ h1 h2=>?_;refine and9 h1 λ h1 k8 k7 k6 k5 k0 k3 k2 k1=>?_;refine zpJ h2 λ h2 m2 m1=>?_;have hh:=nL h1;obtain⟨q,hz⟩:=zhF hz;have hes:es=[.ListComp z.1 [⟨g.target,g.iter,g.ifs,0⟩] z.2.2 q]:=by
  rw[zeY he,hz,zeY hg,<- zjC rfl rfl (eq_of_beq k0)]
 refine⟨_,hes,.mk _ _ _ _ _ _ _ _ rfl hh (yfD k8) (λ env x=>zjV k6 env x) ygQ (AE.mono (Si.ae (nL k3) hn h2 cv hE h) λ p H1' h=>?_)⟩;have h:zfZ T p H1' (zzV T X t fs e l) Q:=h;cases h with
 | list a li e1 hl hz J h0 hk turn fin=>
  subst e1;refine⟨.list a 0,zdU.list hl,LI a li J,li.length,⟨0,rfl,rfl,Nat.zero_le _,Nat.zero_le _,h0⟩,?_⟩;intro own cenv D post hc hco n y out H' uu;refine q15 uu ?_;clear uu;intro i u0;subst u0;intro u1;subst u1;intro hle hlo hJ;refine⟨li,hk i out H' hJ,λ v ev Fs'=>?_,λ ev=>?_⟩
  ·have hlt:=(List.getElem?_eq_some_iff.mp ev).1
   exact zoD (znJ hh nd Sf Se cv k7 k5 k2 (nL k1) m2 m1 hc hco (D:=D) (post:=post) (Fs':=Fs') (Nat.le_trans hlo (Nat.le_trans hle hz)) (K:=J (i+1)) (turn i v out H' ev hJ)) hlo λ out' H4 hl' hJ'=>⟨_,zfV hlt,i+1,rfl,rfl,hlt,hl',hJ'⟩
  ·have hi:i=li.length:=Nat.le_antisymm hle (List.getElem?_eq_none_iff.mp ev)
   subst hi;refine q12 (fin out H' hJ) λ H2' ex hq=>?_;exact⟨H2',ex.wk,hq⟩
 | rangeF a lo n e1 hle0 hl hz J h0 turn fin=>
  subst e1;refine⟨_,zdU.rngK hl hle0 (Nat.lt_of_le_of_lt hz (by decide)),RI n λ i o H'=>lo<=i/\J i o H',n-lo,⟨lo,rfl,rfl,hle0,Nat.zero_le _,Nat.le_refl lo,h0⟩,?_⟩;intro own cenv D post hc hco k y out H' uu;refine q11 uu ?_;clear uu;intro i u8;refine q06 u8 ?_;clear u8;intro u0;subst u0;intro u1;subst u1;intro hle hlo hge hJ;refine zkJ.turn hle (λ hlt Fs'=>?_) (λ e=>by subst e;refine q12 (fin out H' hJ) λ H2' ex hq=>?_;exact⟨H2',ex.wk,hq⟩);exact zoD (znJ hh nd Sf Se cv k7 k5 k2 (nL k1) m2 m1 hc hco (D:=D) (post:=post) (Fs':=Fs') (Nat.le_trans hlo (Nat.le_trans hle hz)) (K:=J (i+1)) (turn i out H' hge hlt hJ)) hlo λ out' H4 hl' hJ'=>⟨_,zfV hlt,i+1,rfl,rfl,hlt,hl',Nat.le_succ_of_le hge,hJ'⟩
theorem yoQ (nd:names.Nodup)(t:CT){it fs e:IE}(Si:zaI T X G names it)(Sf:zaI T X G names fs)(Se:zaI T X G names e):zaI T X G names (.comp t it fs e):=λ m c env ls nm Fs H R Q E es l hn hm cv hE h=>by
 refine q12 (ygW nd t Si Sf Se (Q:=zhU T m Q) hn hm cv hE h) ?_;intro v u0;subst u0;intro hc;exact zeG.fin (hc.ae hn) (hc.casesOn λ _ _ _ _ _ _ _ _ e _ _ _ _ _=>by rw[e];rfl)
end
section
variable {T:Tr}{X:String}{G:GT}{names:List Str}
theorem zwT (nd:names.Nodup)(x y:Nat){i1 i2 fs e:IE}(S1:zaI T X G names i1)(S2:zaI T X G names i2)(Sf:zaI T X G names fs)(Se:zaI T X G names e){c:FK}{env:Env}{ls:Ls}{nm:List (Str×NameKind)}{Fs:List AF}{H:zaA}{R:zaA->Prop}{Q:PV->zaA->Prop}{E:Value->Shared->Prop}{es:List Expr}{l:LN}
  (hn:env.scope.names=nm) (hm:mE G names T.hd (.compRR x y i1 i2 fs e) nm es=true) (cv:Cov names l ls) (hE:∀ e s,Thr T.C ⟨c,env,ls⟩ Fs X R e s->E e s) (h:w T X (.compRR x y i1 i2 fs e) .v l H R Q):∃ v,es=[v]/\zsT T c env ls nm Fs H v (newList Q) E:=by
 refine zaL hm λ ex he hm=>?_;refine zaL hm λ z hz hm=>?_;refine zaL hm λ g hg hm=>?_;refine zaL hm λ s hs hm=>?_;refine zaL hm λ t ht hm=>?_;refine zcU hm λ h1 h2=>?_;refine and15 h1 λ h1 k1 k2 k3 k4 k5 k6 k7 k8 k9 ka kb kc kd ke=>?_;refine ykS h2 λ m1 m2 m3 m4=>?_;have hh:=nL h1;obtain⟨q,hz⟩:=zhF hz;obtain⟨p1,e3⟩:=zaZ hs;obtain⟨p2,e4⟩:=zaZ ht;have hes:es=[.ListComp z.1 [⟨.Name s p1,g.1.iter,[],0⟩,⟨.Name t p2,g.2.iter,g.2.ifs,0⟩] z.2.2 q]:=by
  rw[zeY he,hz,ztC hg,<- zjC e3 (zeJ ka) (eq_of_beq k8),<- zjC e4 rfl (eq_of_beq k9)]
 obtain⟨hx,hxl⟩:=zmO k5;obtain⟨hy,hyl⟩:=zmO k6;have hst:s≠t:=bne_iff_ne.mp k7;refine q31 h ?_;clear h;intro n k gg u8;refine q04 u8 ?_;clear u8;intro b1 b2 b3 h;have cv0:=cv.drop nd k2;refine⟨_,hes,.mk _ _ _ _ _ _ _ _ rfl hh (yfD k1) (λ env x=>zjV k3 env x) yiN (zgD.range2 gg hh hxl hyl hst b1 b2 b3 (λ cenv v _=>zjV k4 _ v) (AE.mono (S1.ae (nL kb) hn m1 cv hE h) λ p H1' h=>?_))⟩;refine q15 h ?_;clear h;intro a u0;subst u0;intro hl hi hj hf;refine⟨a,rfl,hl,λ i own cenv Fs' H' hlt hc ex=>S2.ae (nL kc) hc m2 (cv0.put nd hx) (λ _ _=>zyC) (hi i H' hlt ex),λ i j h1 h2 own cenv Fs' H' hc ex=>?_,hf⟩;have cv2:=(cv0.put nd hx (p:=.int i)).put nd hy (p:=.int j);have hf:=Sf .a (E:=NoE) (c:=.cp own) (Fs:=Fs') (es:=g.2.ifs) hc m3 cv2 (λ _ _=>zyC) (hj i j H' h1 h2 ex);rw[kd]at hf;refine zrL.mono (hf.2 rfl) λ b H2' hb=>⟨hb.1,?_⟩
 cases b with
 | true=>
  refine q02 hb ?_;clear hb;intro _ u8;refine q12 u8 ?_;clear u8;intro r hr hb;rw[if_pos rfl];exact⟨r,hr,λ Fs''=>Se.ae (nL ke) hc m4 cv2 (λ _ _=>zyC) hb⟩
 | false=>
  rw[if_neg (by decide)];exact hb.2
theorem yfZ (nd:names.Nodup)(x y:Nat){i1 i2 fs e:IE}(S1:zaI T X G names i1)(S2:zaI T X G names i2)(Sf:zaI T X G names fs)(Se:zaI T X G names e):zaI T X G names (.compRR x y i1 i2 fs e):=λ m c env ls nm Fs H R Q E es l hn hm cv hE h=>by
 refine q12 (zwT nd x y S1 S2 Sf Se (Q:=zhU T m Q) hn hm cv hE h) ?_;intro v u0;subst u0;intro hc;exact zeG.fin (hc.ae hn) (hc.casesOn λ _ _ _ _ _ _ _ _ e _ _ _ _ _=>by rw[e];rfl)
theorem zbL (GO:GOk T.C G)(nd:names.Nodup)(ie:IE):zaI T X G names ie:=by
 induction ie with
 | int i=>exact s_int i
 | str i=>exact s_str i
 | none=>exact ymB
 | bool b=>exact ymS b
 | var x=>exact s_var x
 | glob p=>exact yoY GO p
 | bin o a b ha hb=>exact s_bin o ha hb
 | un o a ha=>exact s_un o ha
 | cmp o a b ha hb=>exact s_cmp o ha hb
 | cmp2 o o' a b c ha hb hc=>exact ypI o o' ha hb hc
 | boolop o l hl=>exact yeZ o hl
 | ife t a b ht ha hb=>exact s_ife ht ha hb
 | nil=>exact ypK
 | cons a b ha hb=>exact ynS ha hb
 | tup l hl=>exact s_tup hl
 | list l hl=>exact ypB hl
 | attr a x ha=>exact ypD x ha
 | sub a i ha hi=>exact s_sub ha hi
 | slice a lo hi h1 h2 h3=>exact yiW h1 h2 h3
 | call g l hl=>exact ymO GO g hl
 | meth o x l ho hl=>exact yoO x ho hl
 | comp t it fs e h1 h2 h3=>exact yoQ nd t h1 h2 h3
 | compRR x y i1 i2 fs e h1 h2 h3 h4=>exact yfZ nd x y h1 h2 h3 h4
 | subR a i ha hi=>exact ynE ha hi
 | callV x=>exact ykD x
theorem ycL {e:IE}{hd:Bool}{nm:List (Str×NameKind)}{z1:Expr}{z2:List Comprehension}{z3:Scope}{p:Pos}(hl:e.isL=false)(hm:mE G names hd e nm [.ListComp z1 z2 z3 p]=true):(∃ t it fs e',e=.comp t it fs e')\/∃ x y i1 i2 fs e',e=.compRR x y i1 i2 fs e':=by
 cases e with
 | comp t it fs e=>exact .inl ⟨t,it,fs,e,rfl⟩
 | compRR x y i1 i2 fs e=>exact .inr ⟨x,y,i1,i2,fs,e,rfl⟩
 | cons=>cases hl
 | _=>exact absurd hm Bool.false_ne_true
theorem g_any (GO:GOk T.C G)(nd:names.Nodup){e:IE}{c:FK}{env:Env}{ls:Ls}{nm:List (Str×NameKind)}{Fs:List AF}{H:zaA}{R:zaA->Prop}{Q:PV->zaA->Prop}{E:Value->Shared->Prop}{v:Expr}{l:LN}{x}
  (hc:znQ v=some x) (hl:e.isL=false) (hn:env.scope.names=nm) (hm:mE G names T.hd e nm [v]=true) (cv:Cov names l ls) (hE:∀ e s,Thr T.C ⟨c,env,ls⟩ Fs X R e s->E e s) (h:w T X e .v l H R Q):zsT T c env ls nm Fs H v (newList Q) E:=by
 obtain⟨p,rfl⟩:=zhF hc;rcases ycL hl hm with ⟨t,it,fs,e,rfl⟩|⟨x,y,i1,i2,fs,e,rfl⟩
 ·refine q12 (ygW nd t (zbL GO nd it) (zbL GO nd fs) (zbL GO nd e) hn hm cv hE h) λ v hv h=>?_
  cases hv;exact h
 ·refine q12 (zwT nd x y (zbL GO nd i1) (zbL GO nd i2) (zbL GO nd fs) (zbL GO nd e) hn hm cv hE h) λ v hv h=>?_
  cases hv;exact h
end
noncomputable def IT.isL:IT->Bool
 | .nil=>true
 | .cons _ _=>true
 | _=>false
noncomputable def mT (G:GT)(names:List Str)(hd:Bool)(nm:List (Str×NameKind)):IT->List Expr->Bool
 | .var x,es=>(one es).any λ e=>(zdW e).any (ybB names nm x)
 | .tup l,es=>(one es).any λ e=>(zyX e).any λ vs=>(l.isL&&Nat.beq vs.length l.len)&&mT G names hd nm l vs
 | .tupS t,es=>(one es).any λ e=>(zyX e).any λ vs=>(one vs).any λ v=>(!hd&&(!t.isL&&zdM [v]))&&mT G names hd nm t [v]
 | .nil,es=>emp es
 | .cons a b,es=>match es with
  | e::r=>(zdM (e::r)&&(!a.isL&&b.isL))&&(mT G names hd nm a [e]&&mT G names hd nm b r)
  | []=>false
 | .attr a y,es=>(one es).any λ e=>(ztT e).any λ x=>(y==x.2.1&&!a.isL)&&mE G names hd a nm [x.1]
 | .sub a i,es=>(one es).any λ e=>(ybZ e).any λ x=>(!a.isL&&!i.isL)&&(mE G names hd a nm [x.1]&&mE G names hd i nm [x.2])
noncomputable def ykA (T:Tr)(env:Env)(ls:Ls)(Fs:List AF)(H:zaA)(L:Bool)(es:List Expr)(p:PV)(Q:Ls->zaA->Prop)(E:Value->Shared->Prop):Prop:=match L,es with
 | true,es=>zdM es=true/\∀ ps,p=.tup ps->AAs T ⟨.fn,env,ls⟩ Fs H es ps Q E
 | false,[e]=>AA T ⟨.fn,env,ls⟩ Fs H e p Q E
 | _,_=>True
section
variable {T:Tr}{X:String}{G:GT}{names:List Str}
theorem zdF {e:Expr}{es:List Expr}{env:Env}(h:zdM (e::es)=true):assignEach (e::es) env=(false,assign e env)::assignEach es env:=by
 cases e <;> first|rfl|cases h
theorem zvB {e:Expr}{es:List Expr}(h:zdM (e::es)=true):zdM es=true:=(zbF (env:=default) h).2
theorem zoO {env:Env}{es:List Expr}(h:zdM es=true):(assignEach es env).length=es.length/\(assignEach es env).findIdx? (·.1)=none:=by
 induction es with
 | nil=>exact⟨rfl,rfl⟩
 | cons e es ih=>
  obtain⟨h1,h2⟩:=ih (zvB h);rw[zdF h];exact⟨by rw[List.length_cons,List.length_cons,h1],by rw[List.findIdx?_cons,h2];rfl⟩
theorem Cov.storeH (nd:names.Nodup){l:LN}{ls:Ls}(cv:Cov names l ls){x:Nat}{nm:List (Str×NameKind)}{s:Str}{p:PV}(h:ybB names nm x s=true):zgO (nm.lookup s)=true/\Cov names ((x,p)::l) ((s,p)::ls):=by
 obtain⟨h1,h2⟩:=zaF h;exact⟨h2,cv.put nd (eq_of_beq h1)⟩
noncomputable def QL (names:List Str)(Q:LN->zaA->Prop)(ls:Ls)(H:zaA):Prop:=∃ l,Cov names l ls/\Q l H
theorem yoV {α β:Type}{as:Expr->Option α}{mk:α->β->Expr}(ok:∀ {e x},as e=some x->∃ p,e=mk x p){f:Expr->α->Bool}{env:Env}{ls:Ls}{Fs:List AF}{H:zaA}{b:Bool}{es:List Expr}{p:PV}{Q:Ls->zaA->Prop}{E:Value->Shared->Prop}(h:((one es).any λ e=>(as e).any (f e))=true)(k:∀ x q,f (mk x q) x=true->ykA T env ls Fs H b [mk x q] p Q E):ykA T env ls Fs H b es p Q E:=by
 refine q12 (any_some h) λ e he h=>?_;refine q12 (any_some h) λ x hx h=>?_;obtain⟨q,rfl⟩:=ok hx;rw[zeY he];exact k x q h
theorem zsQ {e:Expr}{x}(h:zyX e=some x):∃ q:Nat×Pos,e=.Tuple x q.1 q.2:=(zrI h).elim λ k h=>h.elim λ p h=>⟨(k,p),h⟩
theorem zyA {e:Expr}{x}(h:ztT e=some x):∃ _:Unit,e=.Attribute x.1 x.2.1 x.2.2:=⟨(),znS h⟩
theorem zrW (GO:GOk T.C G)(nd:names.Nodup)(it:IT):∀ {env:Env} {ls:Ls} {nm:List (Str×NameKind)} {Fs:List AF} {H:zaA} {R:LN->zaA->Prop} {Q:LN->zaA->Prop} {E:Value->Shared->Prop} {es:List Expr} {l:LN} {p:PV},
  env.scope.names=nm->mT G names T.hd nm it es=true->Cov names l ls->(∀ l ls e s,Cov names l ls->Thr T.C ⟨.fn,env,ls⟩ Fs X (R l) e s->E e s)->wT T X it p l H R Q->ykA T env ls Fs H it.isL es p (QL names Q) E:=by
 induction it with
 | var x=>
  intro env ls nm Fs H R Q E es l p hn hm cv hE h;refine yoV zaZ hm λ s _ hm=>?_;obtain⟨h1,h2⟩:=cv.storeH nd (p:=p) hm;exact AA.name hn h1 ⟨_,h2,h⟩
 | tup t ih=>
  intro env ls nm Fs H R Q E es l p hn hm cv hE h;refine yoV zsQ hm λ vs _ hm=>?_;refine zcU hm λ h1 h2=>?_;refine zcU h1 λ h3 h4=>?_;have h:cond (ykI p t.len) (wT T X t p l H R Q) False:=h;cases hk:ykI p t.len with
  | false=>rw[hk]at h;exact h.elim
  | true=>
   rw[hk]at h;have:=ih hn h2 cv hE h;rw[h3]at this;cases p with
   | tup ps=>
    obtain⟨q1,q2⟩:=zoO (env:=env) this.1;exact AA.tup (q1.trans ((Nat.eq_of_beq_eq_true h4).trans (Nat.eq_of_beq_eq_true hk).symm)) q2 (this.2 ps rfl)
   | _=>exact absurd hk Bool.false_ne_true
 | tupS t ih=>
  intro env ls nm Fs H R Q E es l p hn hm cv hE h;refine yoV zsQ hm λ vs _ hm=>?_;refine zaL hm λ v hv hm=>?_;rw[zeY hv];refine zcU hm λ h1 h2=>?_;refine zpJ h1 λ h1 h3 h4=>?_;refine q23 h ?_;clear h;intro a q u0;subst u0;intro hH h;have:=ih hn h2 cv hE h;rw[nL h3]at this;exact AA.tupSet (nL h1) hH (zdF h4) this
 | nil=>
  intro env ls nm Fs H R Q E es l p hn hm cv hE h;cases zeJ hm;cases p with
  | tup ps=>cases ps with
   | nil=>exact⟨rfl,λ ps e=>by cases e;exact AAs.nil ⟨l,cv,h⟩⟩
   | cons _ _=>exact h.elim
  | _=>exact h.elim
 | cons a b iha ihb=>
  intro env ls nm Fs H R Q E es l p hn hm cv hE h;cases es with
  | nil=>cases hm
  | cons e r=>
   refine zcU hm λ h1 h2=>?_;refine zpJ h1 λ h1 h3 h4=>?_;refine zcU h2 λ h2 h5=>?_;cases p with
   | tup ps=>cases ps with
    | nil=>exact h.elim
    | cons q ps=>
     have h:wT T X a q l H R λ l' H'=>wT T X b (.tup ps) l' H' R Q:=h;refine⟨h1,λ ps' e=>?_⟩;cases e;have:=iha hn h2 cv hE h;rw[nL h3]at this;refine AAs.cons' (zdF h1) (AA.mono this λ ls' H' u9=>q12 u9 λ l' cv' h'=>?_);have:=ihb hn h5 cv' hE h';rw[h4]at this;exact this.2 ps rfl
   | _=>exact h.elim
 | attr a y=>
  intro env ls nm Fs H R Q E es l p hn hm cv hE h;refine yoV zyA hm λ x _ hm=>?_;refine zcU hm λ h1 h2=>?_;refine zcU h1 λ h1 h3=>?_;rw[<- eq_of_beq h1];refine AA.attr (AE.mono ((zbL GO nd a).ae (nL h3) hn h2 cv (λ e s=>hE l ls e s cv) h) λ q H1' h=>?_);have h:zaR T y q p H1' (λ H2'=>Q l H2'):=h;unfold zaR at h;exact λ A s v u ok R pv pu=>wpAny_mono (h _ A s v u ok R pv pu) (λ _ s' hh=>hh.elim λ H' R' k hq=>⟨H',R',k,l,cv,hq⟩) λ _ _ x=>x.elim
 | sub a i=>
  intro env ls nm Fs H R Q E es l p hn hm cv hE h;refine yoV zmJ hm λ x _ hm=>?_;refine zcU hm λ h1 h2=>?_;refine zcU h1 λ h1 h3=>?_;refine zcU h2 λ h2 h4=>?_;refine AA.sub (AE.mono ((zbL GO nd a).ae (nL h1) hn h2 cv (λ e s=>hE l ls e s cv) h) λ q H1' h=>AE.mono ((zbL GO nd i).ae (nL h3) hn h4 cv (λ e s=>hE l ls e s cv) h) λ j H2' h=>?_);have h:zcV T q j p H2' (λ H3=>Q l H3):=h;unfold zcV at h;exact λ A s v w u ok R pv pw pu=>wpAny_mono (h _ A s v w u ok R pv pw pu) (λ _ s' hh=>hh.elim λ H' R' k hq=>⟨H',R',k,l,cv,hq⟩) λ _ _ x=>x.elim
end
structure ykQ where
 tag:Nat
 ts:List Expr:=[]
 v:Option Expr:=none
 v2:Option Expr:=none
 o:Operator:=.Add
 a:List Stmt:=[]
 b:List Stmt:=[]
 c:List Stmt:=[]
 h:List ExceptHandler:=[]
 p:Pos:=⟨0,0,0,0⟩
noncomputable def zaY:Stmt->ykQ
 | .Return v p=>{ tag:=0,v:=v,p:=p }
 | .Assign ts v p=>{ tag:=1,ts:=ts,v:=some v,p:=p }
 | .AugAssign t o v p=>{ tag:=2,ts:=[t],o:=o,v:=some v,p:=p }
 | .For t i b e p=>{ tag:=3,ts:=[t],v:=some i,a:=b,b:=e,p:=p }
 | .While t b e p=>{ tag:=4,v:=some t,a:=b,b:=e,p:=p }
 | .If t b e p=>{ tag:=5,v:=some t,a:=b,b:=e,p:=p }
 | .Raise e c p=>{ tag:=6,v:=e,v2:=c,p:=p }
 | .Try a h b c p=>{ tag:=7,a:=a,b:=b,c:=c,h:=h,p:=p }
 | .Expr v p=>{ tag:=8,v:=some v,p:=p }
 | .Pass p=>{ tag:=9,p:=p }
 | .Break p=>{ tag:=10,p:=p }
 | .Continue p=>{ tag:=11,p:=p }
 | .FunctionDef ..=>{ tag:=12 }
 | .AsyncFunctionDef ..=>{ tag:=12 }
 | .ClassDef ..=>{ tag:=12 }
 | .Delete ..=>{ tag:=12 }
 | .TypeAlias ..=>{ tag:=12 }
 | .AnnAssign ..=>{ tag:=12 }
 | .AsyncFor ..=>{ tag:=12 }
 | .With ..=>{ tag:=12 }
 | .AsyncWith ..=>{ tag:=12 }
 | .Match ..=>{ tag:=12 }
 | .TryStar ..=>{ tag:=12 }
 | .Assert ..=>{ tag:=12 }
 | .Import ..=>{ tag:=12 }
 | .ImportFrom ..=>{ tag:=12 }
 | .Global ..=>{ tag:=12 }
 | .Nonlocal ..=>{ tag:=12 }
noncomputable def ygR (s:Stmt)(i:ykQ):Prop:=match i.tag with
 | 0=>s=.Return i.v i.p
 | 1=>∃ v,i.v=some v/\s=.Assign i.ts v i.p
 | 2=>∃ t v,i.v=some v/\i.ts=[t]/\s=.AugAssign t i.o v i.p
 | 3=>∃ t v,i.v=some v/\i.ts=[t]/\s=.For t v i.a i.b i.p
 | 4=>∃ v,i.v=some v/\s=.While v i.a i.b i.p
 | 5=>∃ v,i.v=some v/\s=.If v i.a i.b i.p
 | 6=>s=.Raise i.v i.v2 i.p
 | 7=>s=.Try i.a i.h i.b i.c i.p
 | 8=>∃ v,i.v=some v/\s=.Expr v i.p
 | 9=>s=.Pass i.p
 | 10=>s=.Break i.p
 | 11=>s=.Continue i.p
 | _=>True
theorem yjC (s:Stmt):ygR s (zaY s):=by
 cases s with
 | Return=>exact rfl
 | Assign=>exact⟨_,rfl,rfl⟩
 | AugAssign=>exact⟨_,_,rfl,rfl,rfl⟩
 | For=>exact⟨_,_,rfl,rfl,rfl⟩
 | While=>exact⟨_,rfl,rfl⟩
 | If=>exact⟨_,rfl,rfl⟩
 | Raise=>exact rfl
 | Try=>exact rfl
 | Expr=>exact⟨_,rfl,rfl⟩
 | Pass=>exact rfl
 | Break=>exact rfl
 | Continue=>exact rfl
 | _=>exact trivial
theorem zdA {s:Stmt}{n:Nat}(h:Nat.beq (zaY s).tag n=true):ygR s { zaY s with tag:=n }:=by
 have:=yjC s;rw[<- Nat.eq_of_beq_eq_true h];exact this
noncomputable def yaS (e:Expr):Bool:=Nat.blt (inf e).tag 14
theorem zqN {v:Expr}(h:yaS v=true)(t:Option Expr)(line:Nat)(env:Env):swapsWith v t line env=pure false:=by
 cases v <;> first|rfl|cases h
noncomputable def yhD (t v:Expr):Bool:=!(Nat.beq (inf v).tag 7&&(Nat.beq (inf t).tag 7||Nat.beq (inf t).tag 8))
theorem yaH {t v:Expr}(h:yhD t v=true)(env:Env):swappedStores [t] v env=pure none:=by
 cases t with
 | Tuple=>cases v <;> first|exact rfl|cases h
 | List=>cases v <;> first|exact rfl|cases h
 | _=>exact rfl
noncomputable def swB (scope:Scope)(s:Str)(nm:List (Str×NameKind))(l1 l2:Nat):Bool:=nm.lookup s==some .local&&(l1==l2&&!(scope.names.any λ x=>x.1==s&&(x.2==.local||x.2==.cell)))
noncomputable def yhM (e:Expr):Pos:=e.pos
noncomputable def zzW (e:Expr):Pos:=e.pos
noncomputable def swF (nm:List (Str×NameKind))(tg v:Expr):Bool:=(znQ v).any λ c=>!((zdW tg).any λ n=>swB c.2.2 n nm (zzW tg).line (yhM v).line)
noncomputable def IS.isSt:IS->Bool
 | .skip=>false
 | .seq _ _=>false
 | _=>true
noncomputable def asH:ExceptHandler->Option (Expr×List Stmt)
 | .ExceptHandler (some e) none b _=>some (e,b)
 | _=>none
theorem ygP {h:ExceptHandler}{x}(e:asH h=some x):∃ p,h=.ExceptHandler (some x.1) none x.2 p:=by
 obtain⟨t,n,b,p⟩:=h;cases t with
 | none=>cases e
 | some t=>cases n with
  | none=>cases e;exact⟨p,rfl⟩
  | some _=>cases e
noncomputable def mH (G:GT)(nm:List (Str×NameKind))(h:Str×String×Str)(e:ExceptHandler):Bool:=(asH e).any λ eb=>(zdW eb.1).any λ n=>(one eb.2).any λ s=>(zaY s).v.any λ v=>(n==h.1&&(zsR nm n&&(ykO G n (.ty h.2.1) false&&Nat.beq (zaY s).tag 0)))&&(zjU v).any (cStr h.2.2)
theorem mH_ok {C:Cx}{G:GT}(GO:GOk C G){nm:List (Str×NameKind)}{h:Str×String×Str}{e:ExceptHandler}(q:mH G nm h e=true):∃ z:CH,e=z.ast/\(z.Y,z.c)=h.2/\CHOk C nm z:=by
 refine zaL q λ eb he q=>?_;refine zaL q λ n hn q=>?_;refine zaL q λ s hs q=>?_;refine zaL q λ v hv q=>?_;refine zcU q λ q1 q2=>?_;refine ykS q1 λ k1 k2 k3 k4=>?_;refine zaL q2 λ c hc q3=>?_;obtain⟨p,rfl⟩:=ygP he;obtain⟨p',e1⟩:=zaZ hn;refine q21 (zgJ hc) λ k cp u0=>?_;subst u0;have hs':s=.Return (zaY s).v (zaY s).p:=zdA k4;refine q03 (zmI k2) λ g1 g2 g3=>?_;have g4:=(znO GO k3).2;refine⟨⟨n,h.2.1,h.2.2,p',k,cp,(zaY s).p,p⟩,?_,rfl,⟨g4.1,g1,g4.2,g2,g3⟩⟩;rw[e1,zeY hs];rw[hv,ybJ q3]at hs';rw[hs'];rfl
noncomputable def mHs (G:GT)(nm:List (Str×NameKind)):List (Str×String×Str)->List ExceptHandler->Bool
 | [],es=>emp es
 | h::hs,es=>match es with
  | []=>false
  | e::es=>mH G nm h e&&mHs G nm hs es
theorem yoJ {C:Cx}{G:GT}(GO:GOk C G){nm:List (Str×NameKind)}:∀ {hs:List (Str×String×Str)} {es:List ExceptHandler},mHs G nm hs es=true->∃ hl:List CH,es=hl.map CH.ast/\(hl.map λ h=>(h.Y,h.c))=hs.map (λ h=>h.2)/\∀ h∈hl,CHOk C nm h:=by
 intro hs
 induction hs with
 | nil=>intro es h;cases zeJ h;exact⟨[],rfl,rfl,λ _ h=>(nomatch h)⟩
 | cons h hs ih=>
  intro es q;cases es with
  | nil=>cases q
  | cons e es=>
   refine zcU q λ q1 q2=>?_;refine q13 (ih q2) λ hl r1 r2 r3=>?_;refine q13 (mH_ok GO q1) λ z z1 z2 z3=>?_;refine⟨z::hl,by rw[z1,r1];rfl,by rw[List.map_cons,List.map_cons,r2,z2],λ y hy=>?_⟩;rcases List.mem_cons.mp hy with rfl|hy
   ·exact z3
   ·exact r3 y hy
noncomputable def oN2 {α:Type}:Option α->Bool
 | none=>true
 | some _=>false
noncomputable abbrev ycN:Arguments:=⟨[],[],none,[],[],none,[]⟩
noncomputable def zrV (a:Arguments):Bool:=emp a.posonlyargs&&(emp a.args&&(oN2 a.vararg&&(emp a.kwonlyargs&&(emp a.kw_defaults&&(oN2 a.kwarg&&emp a.defaults)))))
noncomputable def ynP:Expr->Option (Arguments×Expr×Scope)
 | .Lambda a b s _=>some (a,b,s)
 | _=>none
noncomputable def ycV (G:GT)(names:List Str)(nm:List (Str×NameKind)):List IE->List Expr->Bool
 | [],es=>emp es
 | b::bs,es=>match es with
  | e::r=>((ynP e).any λ z=>(zrV z.1&&(ykP z.2.2 nm&&(z.2.2.names.all (λ x=>x.2 != .cell&&x.2 != .local)&&(!z.2.2.isCoroutine&&(!z.2.2.isGenerator&&!b.isL)))))&&mE G names false b z.2.2.names [z.2.1])&&ycV G names nm bs r
  | []=>false
noncomputable def mS (G:GT)(names:List Str)(nm:List (Str×NameKind)):IS->(hd rz:Bool)->List Stmt->Bool
 | .skip,hd,rz,ss=>emp ss
 | .seq a b,hd,rz,ss=>match ss with
  | s::r=>a.isSt&&(!b.isSt&&(mS G names nm a hd rz [s]&&mS G names nm b hd rz r))
  | []=>false
 | .cut a,hd,rz,ss=>a.isSt&&mS G names nm a hd rz ss
 | .expr e,hd,rz,ss=>(one ss).any λ s=>Nat.beq (zaY s).tag 8&&(zaY s).v.any λ v=>(yaS v&&!e.isL)&&mE G names hd e nm [v]
 | .assign t e,hd,rz,ss=>(one ss).any λ s=>Nat.beq (zaY s).tag 1&&(one (zaY s).ts).any λ tg=>(zaY s).v.any λ v=>(zdM [tg]&&(!t.isL&&(!e.isL&&((yaS v||swF nm tg v)&&yhD tg v))))&&(mE G names hd e nm [v]&&mT G names hd nm t [tg])
 | .assignC x e,hd,rz,ss=>(one ss).any λ s=>Nat.beq (zaY s).tag 1&&(one (zaY s).ts).any λ tg=>(zaY s).v.any λ v=>(zdW tg).any λ n=>(znQ v).any λ c=>
   (ybB names nm x n&&!e.isL)&&(swB c.2.2 n nm (zzW tg).line (yhM v).line&&mE G names hd e nm [v])
 | .aug x o e,hd,rz,ss=>(one ss).any λ s=>Nat.beq (zaY s).tag 2&&(one (zaY s).ts).any λ tg=>(zaY s).v.any λ v=>(zdW tg).any λ n=>(o==(zaY s).o&&(ybB names nm x n&&(!e.isL&&n != "__classdict__")))&&mE G names hd e nm [v]
 | .ite t a b,hd,rz,ss=>(one ss).any λ s=>Nat.beq (zaY s).tag 5&&(zaY s).v.any λ v=>(!t.isL&&(!a.isSt&&!b.isSt))&&(mE G names hd t nm [v]&&(mS G names nm a hd rz (zaY s).a&&mS G names nm b hd rz (zaY s).b))
 | .ret e,hd,rz,ss=>(one ss).any λ s=>Nat.beq (zaY s).tag 0&&(zaY s).v.any λ v=>!e.isL&&mE G names hd e nm [v]
 | .brk,hd,rz,ss=>(one ss).any λ s=>Nat.beq (zaY s).tag 10
 | .cont,hd,rz,ss=>(one ss).any λ s=>Nat.beq (zaY s).tag 11
 | .for_ t it b,hd,rz,ss=>(one ss).any λ s=>Nat.beq (zaY s).tag 3&&(one (zaY s).ts).any λ tg=>(zaY s).v.any λ v=>(emp (zaY s).b&&(zhP v&&(!t.isL&&(!it.isL&&!b.isSt))))&&(mE G names hd it nm [v]&&(mT G names hd nm t [tg]&&mS G names nm b hd false (zaY s).a))
 | .while_ t b,hd,rz,ss=>(one ss).any λ s=>Nat.beq (zaY s).tag 4&&(zaY s).v.any λ v=>(emp (zaY s).b&&(!t.isL&&!b.isSt))&&(mE G names hd t nm [v]&&mS G names nm b hd false (zaY s).a)
 | .try_ b x Y h,hd,rz,ss=>(one ss).any λ s=>Nat.beq (zaY s).tag 7&&(one (zaY s).h).any λ hh=>(asH hh).any λ eb=>(zdW eb.1).any λ n=>(x==n&&(zsR nm n&&(ykO G n (.ty Y) false&&(emp (zaY s).b&&(emp (zaY s).c&&(!emp eb.2&&(!b.isSt&&!h.isSt)))))))&&(mS G names nm b hd true (zaY s).a&&(rz&&mS G names nm h true true eb.2))
 | .forR t it b,hd,rz,ss=>(one ss).any λ s=>Nat.beq (zaY s).tag 3&&(one (zaY s).ts).any λ tg=>(zaY s).v.any λ v=>(rz&&(emp (zaY s).b&&(zhP v&&(!t.isL&&(!it.isL&&!b.isSt)))))&&(mE G names hd it nm [v]&&(mT G names hd nm t [tg]&&mS G names nm b hd true (zaY s).a))
 | .raise_ x Y,hd,rz,ss=>(one ss).any λ s=>Nat.beq (zaY s).tag 6&&(zaY s).v.any λ v=>(zdW v).any λ n=>rz&&((oN (zaY s).v2&&(x==n&&(zsR nm n&&ykO G n (.ty Y) false))))
 | .iteL x e bs r a b,hd,rz,ss=>(one ss).any λ s=>Nat.beq (zaY s).tag 5&&(zaY s).v.any λ v=>(yfU v).any λ z=>(one z.2.1).any λ op=>(one z.2.2).any λ rr=>(znQ z.1).any λ cc=>(one cc.2.1).any λ g=>(ydR g.iter).any λ lams=>
   ((CmpOp.NotEq==op&&(zhP rr&&(!e.isL&&(!r.isL&&(!a.isSt&&!b.isSt)))))&&(!hd&&(ykP cc.2.2 nm&&(zyF names [x] cc.2.2&&(zhP g.iter&&(mCT names cc.2.2.names (.one x) g.target&&(emp g.ifs&&(g.is_async==0&&Nat.ble lams.length 1000)))))))) &&
   ((mE G names hd e (zkC cc.2.2.names nm) [cc.1]&&(ycV G names nm bs lams&&mE G names hd r nm [rr]))&&(mS G names nm a hd rz (zaY s).a&&mS G names nm b hd rz (zaY s).b))
 | .tryC b hs,hd,rz,ss=>(one ss).any λ s=>Nat.beq (zaY s).tag 7&&(emp (zaY s).b&&(emp (zaY s).c&&(!b.isSt&&(mHs G nm hs (zaY s).h&&mS G names nm b hd true (zaY s).a))))
structure ymG (G:GT)(names:List Str)(nm:List (Str×NameKind))(b:IE)(body:Expr)(scope:Scope):Prop where
 sc:zeB scope nm
 own:∀ x∈scope.names,x.2≠.cell/\x.2≠.local
 coro:scope.isCoroutine=false
 gen:scope.isGenerator=false
 isL:b.isL=false
 ok:mE G names false b scope.names [body]=true
theorem ziI {α:Type}{l:List α}(h:emp l=true):l=[]:=by
 cases l with
 | nil=>rfl
 | cons=>cases h
theorem zxJ {α:Type}{o:Option α}(h:oN2 o=true):o=Option.none:=by
 cases o with
 | none=>rfl
 | some=>cases h
theorem zvP {a:Arguments}(h:zrV a=true):a=ycN:=by
 obtain⟨a1,a2,a3,a4,a5,a6,a7⟩:=a;unfold zrV at h;simp only[Bool.and_eq_true]at h;refine q07 h λ h1 h2 h3 h4 h5 h6 h7=>?_;cases ziI h1;cases ziI h2;cases zxJ h3;cases ziI h4;cases ziI h5;cases zxJ h6;cases ziI h7
 rfl
theorem yeY {e:Expr}{z:Arguments×Expr×Scope}(h:ynP e=some z):∃ p,e=.Lambda z.1 z.2.1 z.2.2 p:=by
 cases e with
 | Lambda a b s p=>cases h;exact⟨p,rfl⟩
 | _=>cases h
section
variable {G:GT}{names:List Str}{nm:List (Str×NameKind)}
theorem ycR {bs:List IE}:∀ {es:List Expr},ycV G names nm bs es=true->zvD nm es/\∀ (i:Nat) (b:IE),bs[i]?=some b->∃ body scope pos,es[i]?=some (.Lambda ycN body scope pos)/\ymG G names nm b body scope:=by
 induction bs with
 | nil=>intro es h;cases ziI h;exact⟨.nil,λ i b e=>by cases e⟩
 | cons b bs ih=>
  intro es h;cases es with
  | nil=>cases h
  | cons e r=>
   refine zcU h λ h h'=>?_;obtain⟨i1,i2⟩:=ih h';refine zaL h λ z hz h=>?_;obtain⟨p,rfl⟩:=yeY hz;refine zcU h λ h hm=>?_;refine yoS h λ k1 k2 k3 k4 k5 k6=>?_;obtain⟨za,zb,zs⟩:=z;have ha:za=ycN:=zvP k1;subst ha;have L:ymG G names nm b zb zs:=⟨yfD k2,λ x hx=>by
    have:=List.all_eq_true.mp k3 x hx;simp only[Bool.and_eq_true,bne_iff_ne,ne_eq]at this;exact this,nL k4,nL k5,nL k6,hm⟩
   refine⟨.cons _ _ _ _ _ (λ _=>rfl) L.sc i1,λ i b' e=>?_⟩;cases i with
   | zero=>cases e;exact⟨zb,zs,p,rfl,L⟩
   | succ i=>exact i2 i b' e
theorem zhB.at_ {P:Addr}{env:Env}{H:zaA}{es:List Expr}{as:List Addr}(h:zhB P env H es as):∀ (i:Nat) {params:Arguments} {body:Expr} {scope:Scope} {pos:Pos} {a:Addr},es[i]?=some (.Lambda params body scope pos)->as[i]?=some a->zuZ P env params body scope H a:=by
 induction h with
 | nil=>intro i _ _ _ _ _ e;cases e
 | cons params body scope pos es a as h r ih=>
  intro i _ _ _ _ _ e1 e2;cases i with
  | zero=>cases e1;cases e2;exact h
  | succ i=>exact ih i e1 e2
theorem zhB.length {P:Addr}{env:Env}{H:zaA}{es:List Expr}{as:List Addr}(h:zhB P env H es as):as.length=es.length:=by
 induction h with
 | nil=>rfl
 | cons params body scope pos es a as h r ih=>exact congrArg (·+1) ih
theorem zvD.length' {bs:List IE}:∀ {es:List Expr},ycV G names nm bs es=true->es.length=bs.length:=by
 induction bs with
 | nil=>intro es h;cases ziI h;rfl
 | cons b bs ih=>
  intro es h;cases es with
  | nil=>cases h
  | cons e r=>exact zcU h λ _ h'=>congrArg (·+1) (ih h')
theorem zbK.extE {P:Addr}{H H':zaA}(h:zbK P H)(x:Ext H H'):zbK P H':=
 let ⟨ps,e,t,k⟩:=h;⟨ps,x _ _ e,t,λ pos v q=>(k pos v q).ext λ a o _ e=>x a o e⟩
theorem Ext.toP {P:Addr}{H H':zaA}(x:Ext H H'):zpL P H H':=λ a o _ e=>x a o e
theorem yiO {T:Tr}{env:Env}{ls:Ls}{l:LN}{P:Addr}{H1':zaA}{bs:List IE}{es:List Expr}{as:List Addr}(GO:GOk T.C G)(nd:names.Nodup)(hn:env.scope.names=nm)(hm:ycV G names nm bs es=true)(cv:Cov names l ls)(h:zhB P env H1' es as):
  yhP T ⟨.fn,env,ls⟩ bs l H1' as:=λ i b lam hb hl T' X' H' R' Q' hC hneed hhd h1 ex hw=>by
 refine q32 ((ycR hm).2 i b hb) λ body scope pos he L=>?_;have hA:=(h.at_ i he hl).ext ex.toP;have hA':=hA;refine q02 hA' λ _ u8=>q32 u8 λ pm c ctv ha _=>?_;unfold ziC;refine⟨lam,_,_,rfl,ha,rfl,?_⟩;unfold zaG;refine λ Fs E hE=>(zfW.lam hneed hA hn L.sc (λ x hx=>(L.own x hx).1) L.coro L.gen (λ _ _ _ _=>rfl) h1 hE λ cenv hce=>?_).call;refine (zbL (T:=T'.down) (by rw[<- hC]at GO;exact GO) nd b).ae L.isL (congrArg Scope.names hce) ?_ (λ x p e=>?_) (λ e s x=>x) hw
 ·rw[show T'.down.hd=false from hhd];exact L.ok
 ·refine q12 (cv x p e) λ s hs hl=>?_
  refine⟨s,hs,zpD ?_ hl⟩;cases q:scope.names.lookup s with
  | none=>rfl
  | some k=>
   have:=L.own _ (mem_of_lookup q);cases k <;> first|rfl|exact absurd rfl this.1|exact absurd rfl this.2
theorem zzS {T:Tr}{X:String}(hh:T.hd=false)(nd:names.Nodup){t:CT}{fs e:IE}(Sf:zaI T X G names fs)(Se:zaI T X G names e){scope:Scope}{target elt:Expr}{ifs:List Expr}{ls:Ls}{l:LN}(cv:Cov names l ls)
  (ho:zyF names t.vars scope=true) (hmt:mCT names scope.names t target=true) (hlf:fs.isL=true) (hle:e.isL=false) (hmf:mE G names T.hd fs (zkC scope.names nm) ifs=true) (hme:mE G names T.hd e (zkC scope.names nm) [elt]=true)
  {L:Addr} {li:List PV} (hz:li.length<=100000) {J:Nat->List PV->zaA->Prop} (hk:∀ i out H',J i out H'->H' L=some (.list li))
  (turn:∀ i v out H',li[i]?=some v->J i out H'->zzV T X t fs e l v H' (λ r H''=>J (i+1) (out++r.toList) H'')) {D':List PV->zaA->Prop} (fin:∀ out H',J li.length out H'->D' out H'):
  zbZ T scope.names nm ls target ifs (zmW elt) (LI L li J) D':=by
 intro own cenv D post hc hco n y out H' uu;refine q15 uu ?_;clear uu;intro i u0;subst u0;intro u1;subst u1;intro hli hlo hJ;refine⟨li,hk i out H' hJ,λ v ev Fs'=>?_,λ ev=>?_⟩
 ·have hlt:=(List.getElem?_eq_some_iff.mp ev).1
  exact zoD (znJ hh nd Sf Se cv ho hmt hlf hle hmf hme hc hco (D:=D) (post:=post) (Fs':=Fs') (Nat.le_trans hlo (Nat.le_trans hli hz)) (K:=J (i+1)) (turn i v out H' ev hJ)) hlo λ out' H4 hl' hJ'=>⟨_,zfV hlt,i+1,rfl,rfl,hlt,hl',hJ'⟩
 ·have hi:i=li.length:=Nat.le_antisymm hli (List.getElem?_eq_none_iff.mp ev)
  subst hi;exact fin out H' hJ
end
noncomputable def QS (names:List Str)(Q:AFl->LN->zaA->Prop)(a:AFl)(ls:Ls)(H:zaA):Prop:=∃ l,Cov names l ls/\Q a l H
noncomputable def FlyE (C:Cx)(env:Env)(Fs:List AF)(names:List Str)(X:String)(R:LN->zaA->Prop)(E:Value->Shared->Prop):Prop:=∀ l ls e s,Cov names l ls->Thr C ⟨.fn,env,ls⟩ Fs X (R l) e s->E e s
noncomputable def RzE (C:Cx)(env:Env)(Fs:List AF)(names:List Str)(X:String)(R:LN->zaA->Prop)(E:Value->Shared->Prop):Prop:=∀ e s,Err C env Fs X (λ ls H=>∃ l,Cov names l ls/\R l H) e s->E e s
noncomputable def znG (T:Tr)(env:Env)(ls:Ls)(Fs:List AF)(H:zaA)(st:Bool)(ss:List Stmt)(Q:AFl->Ls->zaA->Prop)(E:Value->Shared->Prop):Prop:=match st,ss with
 | true,[s]=>AS T env Fs ls H s Q E
 | false,ss=>AX T env Fs ls H ss Q E
 | _,_=>True
noncomputable def zaQ (G:GT)(names:List Str)(is:IS):Prop:=∀ {T:Tr} {X:String} {rz:Bool} {env:Env} {ls:Ls} {nm:List (Str×NameKind)} {Fs:List AF} {H:zaA} {R:LN->zaA->Prop} {Q:AFl->LN->zaA->Prop} {E:Value->Shared->Prop} {ss:List Stmt} {l:LN},
 GOk T.C G->env.scope.kind=.function->env.scope.names=nm->mS G names nm is T.hd rz ss=true->Cov names l ls->FlyE T.C env Fs names X R E->(rz=true->RzE T.C env Fs names X R E)->wS is X T l H R Q->znG T env ls Fs H is.isSt ss (QS names Q) E
section
variable {T:Tr}{env:Env}{ls:Ls}{Fs:List AF}{H:zaA}{b:Bool}{ss:List Stmt}{Q:AFl->Ls->zaA->Prop}{E:Value->Shared->Prop}
theorem yiJ {f:Stmt->Bool}(h:(one ss).any f=true)(k:∀ s,f s=true->znG T env ls Fs H b [s] Q E):znG T env ls Fs H b ss Q E:=by
 refine q12 (any_some h) λ s hs h=>?_;rw[zeY hs];exact k s h
theorem ymQ {n:Nat}{mk:ykQ->Stmt}(ok:∀ s,Nat.beq (zaY s).tag n=true->s=mk (zaY s))(h:((one ss).any λ s=>Nat.beq (zaY s).tag n)=true)(k:∀ s,znG T env ls Fs H b [mk (zaY s)] Q E):znG T env ls Fs H b ss Q E:=
 yiJ h λ s hs=>ok s hs▸k s
theorem yeT {n:Nat}{mk:ykQ->Expr->Stmt}(ok:∀ s,Nat.beq (zaY s).tag n=true->∃ v,(zaY s).v=some v/\s=mk (zaY s) v){f:Stmt->Expr->Bool}(h:((one ss).any λ s=>Nat.beq (zaY s).tag n&&(zaY s).v.any (f s))=true)(k:∀ s v,f s v=true->znG T env ls Fs H b [mk (zaY s) v] Q E):znG T env ls Fs H b ss Q E:=by
 refine yiJ h λ s hs=>?_;obtain⟨h1,h⟩:=zaF hs;refine q12 (ok s h1) λ v e es=>?_;rw[e]at h;have:=k s v h;rw[<- es]at this;exact this
theorem ybM {n:Nat}{mk:ykQ->Expr->Expr->Stmt}(ok:∀ s,Nat.beq (zaY s).tag n=true->∃ t v,(zaY s).v=some v/\(zaY s).ts=[t]/\s=mk (zaY s) t v){f:Stmt->Expr->Expr->Bool}(h:((one ss).any λ s=>Nat.beq (zaY s).tag n&&(one (zaY s).ts).any λ t=>(zaY s).v.any (f s t))=true)(k:∀ s t v,f s t v=true->znG T env ls Fs H b [mk (zaY s) t v] Q E):znG T env ls Fs H b ss Q E:=by
 refine yiJ h λ s hs=>?_;obtain⟨h1,h⟩:=zaF hs;refine q23 (ok s h1) λ t v e e2 es=>?_;rw[e,e2]at h;have:=k s t v h;rw[<- es]at this;exact this
theorem ymI {n:Nat}{mk:ykQ->List Expr->Expr->Stmt}(ok:∀ s,Nat.beq (zaY s).tag n=true->∃ v,(zaY s).v=some v/\s=mk (zaY s) (zaY s).ts v){f:Stmt->Expr->Expr->Bool}(h:((one ss).any λ s=>Nat.beq (zaY s).tag n&&(one (zaY s).ts).any λ t=>(zaY s).v.any (f s t))=true)(k:∀ s t v,f s t v=true->znG T env ls Fs H b [mk (zaY s) [t] v] Q E):znG T env ls Fs H b ss Q E:=by
 refine yiJ h λ s hs=>?_;obtain⟨h1,h⟩:=zaF hs;refine q12 (any_some h) λ t ht h=>?_;refine q12 (ok s h1) λ v e es=>?_;rw[e]at h;have:=k s t v h;rw[<- zeY ht,<- es]at this;exact this
end
theorem zuF {C:Cx}{env:Env}{Fs:List AF}{names:List Str}{X:String}{E:Value->Shared->Prop}:FlyE C env Fs names X zqB E:=λ l ls e s _ h=>by
 rcases h with ⟨a,H,s1,x1,x2,x3,x4,x5,x6⟩|⟨a,H,s1,B,a0,x1,x2,x3,x4,x5,x6⟩
 ·exact x5.elim
 ·exact x5.elim
section
variable {G:GT}{names:List Str}
theorem zaQ.ax {is:IS}(S:zaQ G names is){T:Tr}{X:String}{rz:Bool}{env:Env}{ls:Ls}{nm:List (Str×NameKind)}{Fs:List AF}{H:zaA}{R:LN->zaA->Prop}{Q:AFl->LN->zaA->Prop}{E:Value->Shared->Prop}{ss:List Stmt}{l:LN}
  (hL:is.isSt=false) (GO:GOk T.C G) (hk:env.scope.kind=.function) (hn:env.scope.names=nm) (hm:mS G names nm is T.hd rz ss=true) (cv:Cov names l ls) (hE:FlyE T.C env Fs names X R E) (hR:rz=true->RzE T.C env Fs names X R E) (h:wS is X T l H R Q):AX T env Fs ls H ss (QS names Q) E:=by
 have:=S GO hk hn hm cv hE hR h;rw[hL]at this;exact this
theorem zaQ.as {is:IS}(S:zaQ G names is){T:Tr}{X:String}{rz:Bool}{env:Env}{ls:Ls}{nm:List (Str×NameKind)}{Fs:List AF}{H:zaA}{R:LN->zaA->Prop}{Q:AFl->LN->zaA->Prop}{E:Value->Shared->Prop}{s:Stmt}{l:LN}
  (hL:is.isSt=true) (GO:GOk T.C G) (hk:env.scope.kind=.function) (hn:env.scope.names=nm) (hm:mS G names nm is T.hd rz [s]=true) (cv:Cov names l ls) (hE:FlyE T.C env Fs names X R E) (hR:rz=true->RzE T.C env Fs names X R E) (h:wS is X T l H R Q):AS T env Fs ls H s (QS names Q) E:=by
 have:=S GO hk hn hm cv hE hR h;rw[hL]at this;exact this
theorem ypG:zaQ G names .skip:=λ {T X rz env ls nm Fs H R Q E ss l} GO hk hn hm cv hE hR h=>by
 cases zeJ hm;exact AX.nil ⟨l,cv,h⟩
theorem t_seq {a b:IS}(Sa:zaQ G names a)(Sb:zaQ G names b):zaQ G names (.seq a b):=λ {T X rz env ls nm Fs H R Q E ss l} GO hk hn hm cv hE hR h=>by
 cases ss with
 | nil=>cases hm
 | cons s r=>
  refine ykS hm λ h1 h2 h3 h4=>?_;refine AX.cons (AS.mono (Sa.as h1 GO hk hn h3 cv hE hR h) ?_);intro fl ls' H' uu;refine q12 uu λ l' cv' h'=>?_
  cases fl with
  | next=>exact Sb.ax (nL h2) GO hk hn h4 cv' hE hR h'
  | _=>exact⟨l',cv',h'⟩
theorem yeU {ls:LN}{x:Nat}{p:PV}:∀ {l:LN},zaX l ls->lkN x l=some p->lkN x ls=some p:=by
 intro l
 induction l with
 | nil=>exact λ _ h=>nomatch h
 | cons a l ih=>
  obtain⟨y,q⟩:=a;intro hs h;rw[zgS]at h;split at h
  ·cases h;rename_i e;subst e;exact hs.1
  ·exact ih hs.2 h
theorem Cov.sub {l l':LN}{ls:Ls}(cv:Cov names l ls)(h:zaX l' l):Cov names l' ls:=λ x p e=>cv x p (yeU h e)
theorem t_cut {a:IS}(Sa:zaQ G names a):zaQ G names (.cut a):=λ {T X rz env ls nm Fs H R Q E ss l} GO hk hn hm cv hE hR h=>by
 refine zcU hm λ h1 hm=>?_;refine q11 h ?_;clear h;intro α u8;refine q22 u8 ?_;clear u8;intro L P h k;have:=Sa GO hk hn hm cv hE hR h;rw[h1]at this;cases ss with
 | nil=>trivial
 | cons s r=>cases r with
  | cons _ _=>trivial
  | nil=>
   refine AS.mono this ?_;intro fl ls' H' uu;refine q12 uu λ l' cv' h'=>?_
   cases fl with
   | next=>
    refine q12 h' λ b hs hp=>?_;exact⟨L b,cv'.sub hs,k b H' hp⟩
   | _=>exact⟨l',cv',h'⟩
theorem ymR (nd:names.Nodup)(e:IE):zaQ G names (.expr e):=λ {T X rz env ls nm Fs H R Q E ss l} GO hk hn hm cv hE hR h=>by
 refine yeT (mk:=λ i v=>.Expr v i.p) (λ _=>zdA) hm λ s v hm=>?_;refine zcU hm λ h2 h3=>?_;refine zcU h2 λ h2 h4=>?_;exact AS.exp (zqN h2 _ _ _) (AE.mono ((zbL GO nd e).ae (nL h4) hn h3 cv (λ e s=>hE l ls e s cv) h) λ p H' h=>⟨l,cv,h⟩)
theorem zuT {a:Expr}{b:List Comprehension}{c:Scope}{p:Pos}{tg:Expr}{line:Nat}{env:Env}(h:zdW tg=none):swapsWith (.ListComp a b c p) (some tg) line env=pure false:=by
 cases tg <;> first|exact rfl|cases h
theorem ynY {env:Env}{nm:List (Str×NameKind)}{tg v:Expr}{line:Nat}(hn:env.scope.names=nm)(h:swF nm tg v=true):swapsWith v (some tg) line env=pure false:=by
 refine zaL h λ c hc h=>?_;obtain⟨p,rfl⟩:=zhF hc;have h:=nL h;cases hn':zdW tg with
 | none=>exact zuT hn'
 | some s=>
  obtain⟨p',rfl⟩:=zaZ hn';have h:swB c.2.2 s nm p'.line p.line=false:=h;unfold swapsWith;dsimp only;rw[show env.kindOf s=nm.lookup s by rw[<- hn];rfl];cases q:(env.blockKind==ScopeKind.function) with
  | false=>rfl
  | true=>
   unfold swB at h
   show (pure (nm.lookup s==some .local&&p'.line==p.line&&!(c.2.2.names.any λ x=>x.1==s&&(x.2==.local||x.2==.cell))):Sem Bool)=pure false
   rw[Bool.and_assoc];exact congrArg pure h
theorem ygH (nd:names.Nodup)(t:IT)(e:IE):zaQ G names (.assign t e):=λ {T X rz env ls nm Fs H R Q E ss l} GO hk hn hm cv hE hR h=>by
 refine ymI (mk:=λ i ts v=>.Assign ts v i.p) (λ _=>zdA) hm λ s tg v hm=>?_;refine zcU hm λ h2 h3=>?_;refine and5 h2 λ k1 k2 k3 k4 k5=>?_;refine zcU h3 λ h3 h4=>?_;have hsw:swapsWith v (some tg) (zaY s).p.line env=pure false:=by
  rcases Bool.or_eq_true_iff.mp k4 with k4|k4
  ·exact zqN k4 _ _ _
  ·exact ynY hn k4
 refine AS.assign1 hsw (yaH k5 env) (zdF k1) (AE.mono ((zbL GO nd e).ae (nL k3) hn h3 cv (λ e s=>hE l ls e s cv) h) λ p H' h=>?_);have:=zrW GO nd t hn h4 cv hE h;rw[nL k2]at this;exact AA.mono this λ ls' H'' h=>h
theorem ycO (nd:names.Nodup)(x:Nat)(e:IE):zaQ G names (.assignC x e):=λ {T X rz env ls nm Fs H R Q E ss l} GO hk hn hm cv hE hR h=>by
 refine ymI (mk:=λ i ts v=>.Assign ts v i.p) (λ _=>zdA) hm λ s tg v hm=>?_;refine zaL hm λ n hn' hm=>?_;refine zaL hm λ c hc hm=>?_;obtain⟨p',rfl⟩:=zaZ hn';refine zcU hm λ h2 h3=>?_;refine zcU h2 λ h2 k1=>?_;refine zcU h3 λ h3 h4=>?_;refine zpJ h3 λ j1 j2 j3=>?_;have g:=g_any GO nd (Q:=λ p H1'=>Q .next ((x,p)::l) H1') hc (nL k1) hn h4 cv (λ e s=>hE l ls e s cv) h;obtain⟨elt,target,iter,ifs,rest,scope,pos,emit,rfl,hh,sc,hf,sh,g⟩:=g;cases hc;refine AS.assignCompG hh hn (cv.storeH nd (p:=.none) h2).1 sc (hf env) sh (zxY hk hn j1 j2 (nL j3)) (AE.mono g ?_);intro p H1' uu;refine q12 uu λ y hy u8=>q22 u8 λ I k hI ht=>?_
 refine⟨y,hy,I,k,hI,ht.mono λ out H' u9=>q12 u9 λ H2' ex hp=>⟨H2',ex,λ a ha=>?_⟩⟩;exact⟨_,(cv.storeH nd h2).2,hp a ha⟩
theorem t_aug (nd:names.Nodup)(x:Nat)(o:Operator)(e:IE):zaQ G names (.aug x o e):=λ {T X rz env ls nm Fs H R Q E ss l} GO hk hn hm cv hE hR h=>by
 refine ybM (mk:=λ i tg v=>.AugAssign tg i.o v i.p) (λ _=>zdA) hm λ s tg v hm=>?_;refine zaL hm λ n hn' hm=>?_;obtain⟨p',rfl⟩:=zaZ hn';refine zcU hm λ h2 h3=>?_;refine ykS h2 λ k1 k2 k3 k4=>?_;rw[<- eq_of_beq k1];have h:(match lkN x l with
  | some old=>w T X e .v l H (R l) λ p H1'=>wAug T o old p H1' λ r H2'=>Q .next ((x,r)::l) H2'
  | Option.none=>False):=h
 cases q:lkN x l with
 | none=>rw[q]at h;exact h.elim
 | some old=>
  rw[q]at h;refine AS.aug hn (cv.storeH nd (p:=.none) k2).1 (cv.get q (eq_of_beq (zaF k2).1)) (AE.mono ((zbL GO nd e).ae (nL k3) hn h3 cv (λ e s=>hE l ls e s cv) h) λ p H1' h=>?_) (beq_eq_false_iff_ne.mpr (bne_iff_ne.mp k4));exact λ A s v w ok R pv pw=>wpAny_mono (zfJ.to h A s v w ok R pv pw) (λ u s' hh=>hh.elim λ p' H' pr R' k hq=>⟨p',H',pr,R',k,_,(cv.storeH nd k2).2,hq⟩) λ _ _ x=>x.elim
theorem t_ite (nd:names.Nodup)(t:IE){a b:IS}(Sa:zaQ G names a)(Sb:zaQ G names b):zaQ G names (.ite t a b):=λ {T X rz env ls nm Fs H R Q E ss l} GO hk hn hm cv hE hR h=>by
 refine yeT (mk:=λ i v=>.If v i.a i.b i.p) (λ _=>zdA) hm λ s v hm=>?_;refine zcU hm λ h2 h3=>?_;refine zpJ h2 λ k1 k2 k3=>?_;refine zpJ h3 λ h3 h4 h5=>?_;refine AS.ite (AT.mono ((zbL GO nd t).at_ (nL k1) hn h3 cv (λ e s=>hE l ls e s cv) h) λ c H1' h=>?_);cases c with
 | true=>exact Sa.ax (nL k2) GO hk hn h4 cv hE hR h
 | false=>exact Sb.ax (nL k3) GO hk hn h5 cv hE hR h
theorem ynO (nd:names.Nodup)(x:Nat)(e:IE)(bs:List IE)(r:IE){a b:IS}(Sa:zaQ G names a)(Sb:zaQ G names b):zaQ G names (.iteL x e bs r a b):=λ {T X rz env ls nm Fs H R Q E ss l} GO hk hn hm cv hE hR h=>by
 refine yeT (mk:=λ i v=>.If v i.a i.b i.p) (λ _=>zdA) hm λ s v hm=>?_;refine zaL hm λ z hz hm=>?_;refine zaL hm λ op hop hm=>?_;refine zaL hm λ rr hrr hm=>?_;refine zaL hm λ cc hcc hm=>?_;refine zaL hm λ g hg hm=>?_;refine zaL hm λ es hes hm=>?_;refine zcU hm λ h1 h2=>?_;refine zcU h1 λ h1 h1'=>?_;refine yoS h1 λ k1 k2 k3 k4 k5 k6=>?_;refine and8 h1' λ c1 c2 c3 c4 c5 c6 c7 c8=>?_;refine zcU h2 λ h2 h3=>?_;refine zpJ h2 λ m1 m2 m3=>?_;refine zcU h3 λ m4 m5=>?_;have hh:=nL c1;obtain⟨q,hv⟩:=zrT hz;obtain⟨q1,hc⟩:=zhF hcc;obtain⟨q2,hl⟩:=ztZ hes;have hv':v=.Compare (.ListComp cc.1 [⟨g.target,.List es q2,[],0⟩] cc.2.2 q1) [.NotEq] [rr] q:=by
  rw[hv,hc,zeY hop,zeY hrr,<- eq_of_beq k1,zeY hg,<- hl,<- zjC rfl (zeJ c6) (eq_of_beq c7)]
 rw[hv'];refine q22 h ?_;clear h;intro P c u0 h;obtain⟨hcd,LK,ht⟩:=u0;refine AS.ite (AT.cmp (AE.forget (AE.compP hh hn (yfD c2) (λ x=>hl▸zjV c4 env x) ygQ (AE.list (AL.lams LK hcd hn (ycR m2).1 ht λ as H1' x1 t1 l1=>⟨?_,λ L hL=>?_⟩)))) (zmP k2))
 ·rw[List.length_map,l1.length];exact Nat.le_of_ble_eq_true c8
 ·have x2:Ext H1' (upd H1' L (.list (as.map .ref))):=λ b o e=>(zaD λ q=>by rw[q,hL]at e;cases e).trans e
  have W:=h ⟨.fn,env,ls⟩ _ L as (x1.trans x2.toP) (t1.extE x2) zaC (l1.length.trans (zvD.length' m2)) (yiO GO nd hn m2 cv (l1.ext x2.toP));cases W with
  | list a' li e1 hl' hz J h0 hk' turn fin=>
   cases e1;refine⟨.list L 0,zdU.list hl',LI L li J,li.length,⟨0,rfl,rfl,Nat.zero_le _,Nat.zero_le _,h0⟩,zzS (T:=T.plus ⟨.fn,env,ls⟩) hh nd (t:=.one x) (fs:=.nil) ypK (zbL (T:=T.plus ⟨.fn,env,ls⟩) GO nd e) cv c3 c5 rfl (nL k3) rfl m1 hz hk' turn λ out H' hJ=>?_⟩;refine q12 (fin out H' hJ) λ H2' ex hq=>?_;intro a2 ha2;refine⟨_,ex.wk.both,AE.mono ((zbL GO nd r).ae (nL k4) hn m3 cv (λ e s=>hE l ls e s cv) (hq a2 (ex.wk.none ha2))) λ q H3 h=>(znK h).noE.mono λ d H4 h=>?_⟩;cases d with
   | true=>exact Sa.ax (nL k5) GO hk hn m4 cv hE hR h
   | false=>exact Sb.ax (nL k6) GO hk hn m5 cv hE hR h
  | rangeF a' lo n e1 hle hl'=>cases e1;rw[zaC]at hl';cases hl'
theorem t_ret (nd:names.Nodup)(e:IE):zaQ G names (.ret e):=λ {T X rz env ls nm Fs H R Q E ss l} GO hk hn hm cv hE hR h=>by
 refine yiJ hm λ s hm=>?_;refine zcU hm λ h1 hm=>?_;refine zaL hm λ v hv hm=>?_;have hs':s=.Return (zaY s).v (zaY s).p:=zdA h1;rw[hs',hv];refine zcU hm λ h2 h3=>?_;exact AS.ret (AE.mono ((zbL GO nd e).ae (nL h2) hn h3 cv (λ e s=>hE l ls e s cv) h) λ p H' h=>⟨l,cv,h⟩)
theorem t_brk:zaQ G names .brk:=λ {T X rz env ls nm Fs H R Q E ss l} GO hk hn hm cv hE hR h=>by
 refine ymQ (mk:=λ i=>.Break i.p) (λ _=>zdA) hm λ s=>?_;exact AS.brk ⟨l,cv,h⟩
theorem yoX:zaQ G names .cont:=λ {T X rz env ls nm Fs H R Q E ss l} GO hk hn hm cv hE hR h=>by
 refine ymQ (mk:=λ i=>.Continue i.p) (λ _=>zdA) hm λ s=>?_;exact AS.cont ⟨l,cv,h⟩
theorem zwH {J:LN->zaA->Prop}{J':Ls->zaA->Prop}{Q:AFl->LN->zaA->Prop}(hJ:∀ l ls H,Cov names l ls->J l H->J' ls H){a:AFl}{ls:Ls}{H:zaA}(h:QS names (zmF J Q) a ls H):zjZ J' (QS names Q) a ls H:=by
 refine q12 h ?_;clear h;intro l cv h;cases a with
 | next=>exact hJ l ls H cv h
 | cont=>exact hJ l ls H cv h
 | brk=>exact⟨l,cv,h⟩
 | ret p=>exact⟨l,cv,h⟩
noncomputable def ykR (names:List Str){α:Type}(L:α->LN)(J:α->zaA->Prop)(ls:Ls)(H:zaA):Prop:=∃ b,Cov names (L b) ls/\J b H
theorem zxO {α:Type}{L:α->LN}{J:α->zaA->Prop}(l:LN)(ls:Ls)(H:zaA)(c:Cov names l ls)(h:zjH L J l H):ykR names L J ls H:=by
 refine q12 h λ b hs hj=>?_;exact⟨b,c.sub hs,hj⟩
theorem t_for (nd:names.Nodup)(t:IT)(it:IE){b:IS}(Sb:zaQ G names b):zaQ G names (.for_ t it b):=λ {T X rz env ls nm Fs H R Q E ss l} GO hk hn hm cv hE hR h=>by
 refine ybM (mk:=λ i tg v=>.For tg v i.a i.b i.p) (λ _=>zdA) hm λ s tg v hm=>?_;refine zcU hm λ h2 h3=>?_;refine and5 h2 λ k2 k3 k4 k5 k6=>?_;refine zpJ h3 λ h3 h4 h5=>?_;rw[zeJ k2];have A0:=(zbL GO nd it).ae (nL k5) hn h3 cv (λ e s=>hE l ls e s cv) h;have body:∀ {Fs':List AF} {v:PV} {l':LN} {ls':Ls} {H':zaA} {J:LN->zaA->Prop} {J':Ls->zaA->Prop} {Q:AFl->LN->zaA->Prop},Cov names l' ls'->(∀ l ls H,Cov names l ls->J l H->J' ls H) ->
   wT T X t v l' H' zqB (λ ls'' H''=>wS b X T ls'' H'' zqB (zmF J Q))->AA T ⟨.fn,env,ls'⟩ Fs' H' tg v (λ ls1 H1'=>AX T env Fs' ls1 H1' (zaY s).a (zjZ J' (QS names Q)) NoE) NoE:=by
  intro Fs' v l' ls' H' J J' Q cv' hJ hw;have:=zrW GO nd t (Fs:=Fs') (E:=NoE) hn h4 cv' zuF hw;rw[nL k4]at this;exact AA.mono this λ ls1 H1' u9=>q12 u9 λ l1 cv1 hx=>AX.mono (Sb.ax (nL k6) GO hk hn h5 cv1 zuF (λ e=>by cases e) hx) λ a ls2 H2' hq=>zwH hJ hq
 refine AS.forTail (λ x=>zjV k3 env x) (AE.mono A0 λ p H1' h=>?_);have h:zkW T p l H1' (λ v ls' H' K=>wT T X t v ls' H' zqB λ ls'' H''=>wS b X T ls'' H'' zqB K) Q:=h;cases h with
 | list a li e1 hl α L J b0 s0 h0 hkp turn fin=>
  refine (zrU (ydD e1 hl (λ i=>ykR names L (J i)) ⟨b0,cv.sub s0,h0⟩ ?_ ?_ ?_))
  ·intro i ls' H' uu;refine q12 uu λ l' _ hJ=>?_;exact hkp i l' H' hJ
  ·intro i v ls' H' Fs' ev uu;refine q12 uu λ l' cv' hJ=>?_
   exact body cv' zxO (turn i v l' H' ev hJ)
  ·intro ls' H' uu;refine q12 uu λ l' cv' hJ=>?_;exact⟨L l',cv',fin l' H' hJ⟩
 | grow a e1 hl α L J n b0 s0 h0 turn=>
  refine (zrU (yjV e1 hl (λ n i=>ykR names L (J n i)) n ⟨b0,cv.sub s0,h0⟩ ?_));intro n i ls' H' uu;refine q12 uu λ l' cv' hJ=>?_
  refine q13 (turn n i l' H' hJ) λ li x1 x2 x3=>?_;exact⟨li,x1,λ v Fs' ev=>body (J:=zjH L λ b2 H2'=>∃ m,m<n/\J m (i+1) b2 H2') cv' (λ l ls H c ⟨b2,hs,m,hm,hj⟩=>⟨m,hm,b2,c.sub hs,hj⟩) (x2 v ev),λ hle=>⟨L l',cv',x3 hle⟩⟩
 | range a n e1 hl hz α L J b0 s0 h0 turn fin=>
  refine (zrU (yeX e1 hl hz (λ i=>ykR names L (J i)) ⟨b0,cv.sub s0,h0⟩ ?_ ?_))
  ·intro i ls' H' Fs' hi uu;refine q12 uu λ l' cv' hJ=>?_
   exact body cv' zxO (turn i l' H' hi hJ)
  ·intro ls' H' uu;refine q12 uu λ l' cv' hJ=>?_;exact⟨L l',cv',fin l' H' hJ⟩
 | set hh a li e1 hl α L J b0 s0 h0 turn fin=>
  refine (ygK hh e1 hl (λ l' i=>ykR names L (J l' i)) (λ l' hp=>⟨b0,cv.sub s0,h0 l' hp⟩) ?_ ?_)
  ·intro l' hp i q ls' H' Fs' ev uu;refine q12 uu λ l2 cv' hJ=>?_
   exact AA.mono (body cv' zxO (turn l' i q l2 H' hp ev hJ)) λ ls1 H1' hx=>AX.mono hx λ a ls2 H2' hq=>by
    cases a with
    | next=>exact hq
    | cont=>exact hq
    | brk=>refine q12 hq λ _ _ h=>?_;exact h.elim
    | ret p=>refine q12 hq λ _ _ h=>?_;exact h.elim
  ·intro l' hp ls' H' uu;refine q12 uu λ l2 cv' hJ=>?_;exact⟨L l2,cv',fin l' l2 H' hp hJ⟩
theorem yjW (nd:names.Nodup)(t:IE){b:IS}(Sb:zaQ G names b):zaQ G names (.while_ t b):=λ {T X rz env ls nm Fs H R Q E ss l} GO hk hn hm cv hE hR h=>by
 refine yeT (mk:=λ i v=>.While v i.a i.b i.p) (λ _=>zdA) hm λ s v hm=>?_;refine zcU hm λ h2 h3=>?_;refine zpJ h2 λ k1 k2 k3=>?_;refine zcU h3 λ h3 h4=>?_;rw[zeJ k1];refine q11 h λ α u8=>q43 u8 λ L I n b0 s0 h0 turn=>?_;refine AS.while_ (λ n ls H=>∃ b,Cov names (L b) ls/\I n b H) n ⟨b0,cv.sub s0,h0⟩ ?_;intro n ls' H' uu;refine q12 uu λ l' cv' hI=>?_
 refine AT.mono ((zbL GO nd t).at_ (R:=noR) (nL k2) hn h3 cv' (λ e s=>zyC) (turn n l' H' hI)) λ c H1' h=>?_;cases c with
 | true=>
  rw[if_pos rfl];exact AX.mono (Sb.ax (nL k3) GO hk hn h4 cv' zuF (λ e=>by cases e) h) λ a ls2 H2' hq=>zwH (J:=zjH L λ b2 H2'=>∃ m,m<n/\I m b2 H2') (λ l ls H c ⟨b2,hs,m,hm,hj⟩=>⟨m,hm,b2,c.sub hs,hj⟩) hq
 | false=>
  rw[if_neg (by decide)];exact⟨L l',cv',h⟩
theorem t_try (x:Str)(Y:String){b h':IS}(Sb:zaQ G names b)(Sh:zaQ G names h'):zaQ G names (.try_ b x Y h'):=λ {T X rz env ls nm Fs H R Q E ss l} GO hk hn hm cv hE hR h=>by
 refine yiJ hm λ s hm=>?_;refine zcU hm λ h1 hm=>?_;refine zaL hm λ hh hv hm=>?_;refine zaL hm λ eb he hm=>?_;refine zaL hm λ n hn' hm=>?_;have hs':s=.Try (zaY s).a (zaY s).h (zaY s).b (zaY s).c (zaY s).p:=zdA h1;obtain⟨p',heb⟩:=zaZ hn';obtain⟨p'',hhe⟩:=ygP he;refine zcU hm λ h2 h3=>?_;refine and8 h2 λ k1 k2 k3 k4 k5 k6 k7 k8=>?_;refine zpJ h3 λ h3 hrz h4=>?_;rw[hs',zeY hv,hhe,heb,zeJ k4,zeJ k5];refine q03 (zmI k2) λ q1 q2 q3=>?_;have g1:=(znO GO k3).2;refine q23 h λ X' QE u0 hb hsu=>?_;obtain⟨ct,hnc⟩:=u0;cases hc:eb.2 with
 | nil=>rw[hc]at k6;cases k6
 | cons b0 suite=>
  rw[hc]at h4;refine AS.try_ (X:=X') (QE:=λ ls' H'=>∃ l',Cov names l' ls'/\QE l' H') (E2:=λ Fs'=>Err T.C env Fs' X λ ls H=>∃ l,Cov names l ls/\R l H) g1.1 hn q1 g1.2 ct.exc ct.tup ct.sub hnc (λ g=>?_) ?_ (λ A a o e s hA hx=>zxF hA hx λ s' hx=>hR hrz _ _ hx) q2 q3
  ·exact Sb.ax (nL k7) GO hk hn h3 cv (λ l' ls' e s cv' hf=>Err.of_thr hf λ H' hq=>⟨l',cv',hq⟩) (λ _ e s hx=>hx) hb
  ·intro Fs' ls' H' uu;refine q12 uu λ l' cv' hq=>?_
   exact Sh.ax (T:=T.inH) (nL k8) GO hk hn h4 cv' (λ l' ls' e s cv' hf=>Err.of_thr hf λ H' hq=>⟨l',cv',hq⟩) (λ _ e s hx=>hx) (hsu l' H' hq)
theorem yjU (x:Str)(Y:String):zaQ G names (.raise_ x Y):=λ {T X rz env ls nm Fs H R Q E ss l} GO hk hn hm cv hE hR h=>by
 refine yiJ hm λ s hm=>?_;refine zcU hm λ h1 hm=>?_;refine zaL hm λ v hv hm=>?_;refine zaL hm λ n hn' hm=>?_;have hs':s=.Raise (zaY s).v (zaY s).v2 (zaY s).p:=zdA h1;obtain⟨p',rfl⟩:=zaZ hn';refine and5 hm λ k1 k3 k4 k5 k6=>?_;rw[hs',hv,yoL k3];refine q03 (zmI k5) λ q1 q2 q3=>?_;have g1:=(znO GO k6).2;refine q04 h ?_;clear h;intro u0;subst u0;intro u1 hnc h;obtain⟨⟨N,I,okc⟩,oks⟩:=u1;cases hh:T.hd with
 | false=>exact λ A s ok' R'=>wpAny_mono (AS.raiseName (QE:=λ ls H=>∃ l,Cov names l ls/\R l H) hh okc oks g1.1 hn q1 g1.2 ⟨l,cv,h⟩ q2 q3 A s ok' R') (λ _ _ x=>x) (hR k1)
 | true=>exact λ A s ok' R'=>wpAny_mono (AS.raiseAny (QE:=λ ls H=>∃ l,Cov names l ls/\R l H) (hnc hh) okc oks g1.1 hn q1 g1.2 ⟨l,cv,h⟩ q2 q3 A s ok' R') (λ _ _ x=>x) (hR k1)
theorem yoI {b:IS}(hs:List (Str×String×Str))(Sb:zaQ G names b):zaQ G names (.tryC b hs):=λ {T X rz env ls nm Fs H R Q E ss l} GO hk hn hm cv hE hR h=>by
 refine yiJ hm λ s hm=>?_;refine yoS hm λ h1 k1 k2 k3 k4 k5=>?_;have hs':s=.Try (zaY s).a (zaY s).h (zaY s).b (zaY s).c (zaY s).p:=zdA h1;refine q13 (yoJ GO k4) λ hl e1 e2 e3=>?_;refine q31 h λ X' QE c u8=>q03 u8 λ pk hb hq=>?_;rw[hs',zeJ k1,zeJ k2,e1];rw[<- e2]at pk;cases hl with
 | nil=>exact nomatch pk
 | cons h₀ hl=>exact AS.tryC (QE:=λ ls' H'=>∃ l',Cov names l' ls'/\QE l' H') hn e3 pk (λ g=>Sb.ax (nL k3) GO hk hn k5 cv (λ l' ls' e s cv' hf=>Err.of_thr hf λ H' hq=>⟨l',cv',hq⟩) (λ _ e s hx=>hx) hb) λ ls' H' u9=>q12 u9 λ l' cv' h=>⟨l',cv',hq l' H' h⟩
theorem ynT (nd:names.Nodup)(t:IT)(it:IE){b:IS}(Sb:zaQ G names b):zaQ G names (.forR t it b):=λ {T X rz env ls nm Fs H R Q E ss l} GO hk hn hm cv hE hR h=>by
 refine ybM (mk:=λ i tg v=>.For tg v i.a i.b i.p) (λ _=>zdA) hm λ s tg v hm=>?_;refine zcU hm λ h2 h3=>?_;refine yoS h2 λ k1 k2 k3 k4 k5 k6=>?_;refine zpJ h3 λ h3 h4 h5=>?_;rw[zeJ k2];have A0:=(zbL GO nd it).ae (nL k5) hn h3 cv (λ e s=>hE l ls e s cv) h;refine AS.forTail (λ x=>zjV k3 env x) (AE.mono A0 λ p H1' h=>?_);have h:zsO T p l H1' _ Q:=h;unfold zsO at h;refine q23 h λ a li e1 hl u8=>q11 u8 λ α u8=>q31 u8 λ L J b0 u8=>q05 u8 λ s0 h0 hkp turn fin=>?_;refine zyH (X:=X) (QE:=λ ls H=>∃ l,Cov names l ls/\R l H) (hR k1) e1 hl (λ i=>ykR names L (J i)) ⟨b0,cv.sub s0,h0⟩ ?_ ?_ ?_
 ·intro i ls' H' uu;refine q12 uu λ l' _ hJ=>?_;exact hkp i l' H' hJ
 ·intro i v ls' H' Fs' ev uu;refine q12 uu λ l' cv' hJ=>?_
  have:=zrW GO nd t (Fs:=Fs') (E:=NoE) hn h4 cv' zuF (turn i v l' H' ev hJ);rw[nL k4]at this;exact AA.mono this λ ls1 H1' u9=>q12 u9 λ l1 cv1 hx=>AX.mono (Sb.ax (E:=Err T.C env Fs' X λ ls H=>∃ l,Cov names l ls/\R l H) (nL k6) GO hk hn h5 cv1 (λ l ls e s cv hf=>Err.of_thr hf λ H hr=>⟨l,cv,hr⟩) (λ _ e s hx=>hx) hx) λ a ls2 H2' hq=>zwH zxO hq
 ·intro ls' H' uu;refine q12 uu λ l' cv' hJ=>?_;exact⟨L l',cv',fin l' H' hJ⟩
theorem zxM (nd:names.Nodup)(is:IS):zaQ G names is:=by
 induction is with
 | skip=>exact ypG
 | seq a b ha hb=>exact t_seq ha hb
 | cut a ha=>exact t_cut ha
 | expr e=>exact ymR nd e
 | assign t e=>exact ygH nd t e
 | assignC x e=>exact ycO nd x e
 | aug x o e=>exact t_aug nd x o e
 | ite t a b ha hb=>exact t_ite nd t ha hb
 | ret e=>exact t_ret nd e
 | iteL x e bs r a b ha hb=>exact ynO nd x e bs r ha hb
 | brk=>exact t_brk
 | cont=>exact yoX
 | for_ t it b hb=>exact t_for nd t it hb
 | while_ t b hb=>exact yjW nd t hb
 | try_ b x Y h hb hh=>exact t_try x Y hb hh
 | raise_ x Y=>exact yjU x Y
 | tryC b hs hb=>exact yoI hs hb
 | forR t it b hb=>exact ynT nd t it hb
end
noncomputable def zmE:Nat->List PV->LN
 | _,[]=>[]
 | n,p::ps=>(n,p)::zmE (n+1) ps
noncomputable def zoU (Q:PV->zaA->Prop)(a:AFl)(_:LN)(H:zaA):Prop:=match a with
 | .next=>Q .none H
 | .ret p=>Q p H
 | _=>False
section
variable {T:Tr}{X:String}{H:zaA}{R:zaA->Prop}
theorem yfE {names:List Str}{ps:List PV}:∀ {n x:Nat} {p:PV},lkN x (zmE n ps)=some p->∃ i,x=n+i/\ps[i]?=some p:=by
 induction ps with
 | nil=>exact λ h=>nomatch h
 | cons q ps ih=>
  intro n x p h;replace h:lkN x ((n,q)::zmE (n+1) ps)=some p:=h;rw[zgS]at h;split at h
  ·cases h;rename_i e;exact⟨0,e,rfl⟩
  ·refine q12 (ih h) λ i e h=>?_
   exact⟨i+1,e.trans (Nat.add_right_comm n 1 i),h⟩
theorem zyP {names nms:List Str}:∀ {ps:List PV} {i:Nat} {s:Str} {p:PV},nms.Nodup->nms[i]?=some s->ps[i]?=some p->(nms.zip ps).lookup s=some p:=by
 induction nms with
 | nil=>exact λ _ h=>nomatch h
 | cons n nms ih=>
  intro ps i s p nd h h';cases ps with
  | nil=>cases h'
  | cons q ps=>
   cases i with
   | zero=>cases h;cases h';exact zdR
   | succ i=>
    obtain⟨n1,n2⟩:=List.nodup_cons.mp nd;exact zbB (beq_eq_false_iff_ne.mpr λ e=>n1 (e▸List.mem_of_getElem? h)) (ih n2 h h')
theorem ybO {names nms:List Str}{ps:List PV}(nd:names.Nodup)(hp:names.take nms.length=nms)(hl:ps.length=nms.length):Cov names (zmE 0 ps) (nms.zip ps):=λ x p h=>by
 refine q12 (yfE (names:=names) h) ?_;intro i u0;subst u0;intro hi;have hlt:=(List.getElem?_eq_some_iff.mp hi).1;rw[hl]at hlt;refine⟨nms[i],?_,zyP (names:=names) (hp▸nd.sublist (List.take_sublist _ _)) (List.getElem?_eq_getElem hlt) hi⟩;have e:nms[i]?=names[0+i]?:=by
  rw[Nat.zero_add]
  conv=>lhs;rw[<- hp]
  rw[List.getElem?_take,if_pos hlt]
 rw[<- e];exact List.getElem?_eq_getElem hlt
@[irreducible] noncomputable def zaE (T:Tr) (X:String) (g:PV) (ps:List PV) (H:zaA) (Q:PV->zaA->Prop) (R:zaA->Prop):Prop:=
 ∀ Fs E,(∀ e s,Fly T.C Fs X R e s->E e s)->zfW T Fs H g ps Q E
theorem zaE.call {g:PV}{ps:List PV}{Q Q':PV->zaA->Prop}(h:zaE T X g ps H Q R)(hq:∀ p H,Q p H->Q' p H):zaG T X g ps H Q' R:=by
 unfold zaE at h;unfold zaG;exact λ Fs E hE=>(h Fs E hE).call.mono hq
theorem zaE.post {g:PV}{ps:List PV}{Q0:PV->zaA->Prop}(h:∀ Q:PV->zaA->Prop,(∀ p H',Q0 p H'->Q p H')->zaE T X g ps H Q R):zaE T X g ps H Q0 R:=h Q0 λ _ _ h=>h
theorem zaE.mono {g:PV}{ps:List PV}{Q Q':PV->zaA->Prop}(h:zaE T X g ps H Q R)(hq:∀ p H,Q p H->Q' p H):zaE T X g ps H Q' R:=by
 unfold zaE at h ⊢;exact λ Fs E hE=>(h Fs E hE).mono hq λ _ _ x=>x
theorem zaE.fn {G:GT}{names nms:List Str}{g:Addr}{fd:FuncData}{body:List Stmt}{ir:IS}{ps:List PV}{Q:PV->zaA->Prop}(GO:GOk T.C G)(nd:names.Nodup)(D:zeM T.C.K g fd nms body)(hp:names.take nms.length=nms)
  (hm:mS G names fd.scope.names ir T.hd true body=true) (hs:ir.isSt=false) (hn:1<=T.n) (hl:ps.length=nms.length) (h:wS ir X T.down (zmE 0 ps) H (λ _ H=>R H) (zoU Q)):zaE T X (.ref g) ps H Q R:=by
 unfold zaE;intro Fs E hE;refine zfW.fnE (X:=X) (QE:=λ ls H=>∃ l,Cov names l ls/\R H) D hl hn (λ e s hf=>hE e s (hf.mono λ H' u9=>q22 u9 λ ls l cv hr=>hr)) λ env he=>?_;refine AX.mono (zaQ.ax (zxM nd ir) (E:=Err T.C env Fs X λ ls H=>∃ l,Cov names l ls/\R H) hs GO (by rw[he];exact D.kind) (congrArg Scope.names he) hm (ybO nd hp hl) (λ l ls e s cv hf=>Err.of_thr hf λ H hr=>⟨l,cv,hr⟩) (λ _ e s hx=>hx) h) ?_;intro a ls H' uu;refine q12 uu λ l cv hq=>?_
 cases a <;> exact hq
theorem zaG.mono {g:PV}{ps:List PV}{Q Q':PV->zaA->Prop}(h:zaG T X g ps H Q R)(hq:∀ p H,Q p H->Q' p H):zaG T X g ps H Q' R:=by
 unfold zaG at h ⊢;exact λ Fs E hE=>(h Fs E hE).mono hq
theorem zaG.of {g:PV}{ps:List PV}{Q:PV->zaA->Prop}(h:∀ Fs,zbH T Fs H g ps Q NoE):zaG T X g ps H Q R:=by
 unfold zaG;exact λ Fs E _=>(h Fs).noE
theorem zdH.of {op:CmpOp}{p q:PV}{Q:Bool->zaA->Prop}(h:∀ Fs,zdC T Fs H op p q Q NoE):zdH T op p q H Q:=by unfold zdH;exact h
theorem STr.of {p:PV}{Q:Bool->zaA->Prop}(h:∀ Fs,ATr T Fs H p Q NoE):STr T p H Q:=by unfold STr;exact h
theorem zfJ.of {op:Value->Value->Sem Value}{p q:PV}{Q:PV->zaA->Prop}(h:∀ Fs,zhL T Fs H op p q Q NoE):zfJ T op p q H Q:=by unfold zfJ;exact h
theorem zcV.of {p i q:PV}{Q:zaA->Prop}(h:∀ Fs,zhW T Fs H p i q Q NoE):zcV T p i q H Q:=by unfold zcV;exact h
theorem zbQ.of {x:Str}{p g:PV}(hc:zhK T.C.K g=true)(h:∀ Fs,zfY T Fs H x p g):zbQ T x p H g:=by unfold zbQ;exact⟨hc,h⟩
theorem zdB.of {p q:PV}{Q:PV->zaA->Prop}(h:∀ Fs value slice,(∀ o i,subscripted slice false o i=operate [o,i] (getItem o i))->zkO T Fs H value slice p q Q NoE):zdB T p q H Q:=by unfold zdB;exact h
theorem zoW.inst {x c d:Addr}{l:Ls}{name:Str}{p:PV}{Q:PV->zaA->Prop}(hc:zsF T.C.K c)(hn:findIn T.C.K (.ref c) name=some none)(hx:H x=some (.inst c d))(hd:H d=some (.attrs l))(hl:l.lookup name=some p)(hp:p.handed=true)(h:Q p H):zoW T name (.ref x) H Q:=by
 unfold zoW;exact λ Fs=>yiI.inst hc hn hx hd hl hp h
theorem zbQ.own {x c d g:Addr}{l:Ls}{name:Str}(hg:zhK T.C.K (.ref g)=true)(hc:zsF T.C.K c)(hf:findIn T.C.K (.ref c) name=some (some (.ref g)))(ht:typeIn T.C.K (.ref g)=some (.type "function"))(hx:H x=some (.inst c d))(hd:H d=some (.attrs l))(hl:l.lookup name=none):zbQ T name (.ref x) H (.ref g):=
 zbQ.of hg λ Fs=>zfY.own hc hf ht hx hd hl
theorem zaR.inst {x c d:Addr}{l:Ls}{name:Str}{p:PV}{Q:zaA->Prop}(hc:zsF T.C.K c)(hn:findIn T.C.K (.ref c) name=some none)(hx:H x=some (.inst c d))(hd:H d=some (.attrs l))(hz:l.length<=10000)(h:Q (upd H d (.attrs ((name,p)::l)))):zaR T name (.ref x) p H Q:=by
 unfold zaR;exact λ Fs=>zjM.inst hc hn hx hd hz h
theorem zdB.list {a:Addr}{l:List PV}{k:Int}{p:PV}{Q:PV->zaA->Prop}(hH:H a=some (.list l))(h0:0<=k)(hk:k<2 ^ 63)(hx:l[k.toNat]?=some p)(h:Q p H):zdB T (.ref a) (.int k) H Q:=
 zdB.of λ Fs v s hs=>zkO.list hH h0 hk hx h λ u=>hs _ _
theorem zdB.tup {l:List PV}{k:Int}{p:PV}{Q:PV->zaA->Prop}(h0:0<=k)(hk:k<2 ^ 63)(hx:l[k.toNat]?=some p)(h:Q p H):zdB T (.tup l) (.int k) H Q:=
 zdB.of λ Fs v s hs=>zkO.tup h0 hk hx h λ a u=>hs _ _
theorem zcV.list {a:Addr}{l:List PV}{k:Int}{q:PV}{Q:zaA->Prop}(hH:H a=some (.list l))(h0:0<=k)(hk:k<l.length)(hz:l.length<=100000)(h:Q (upd H a (.list (l.set k.toNat q)))):zcV T (.ref a) (.int k) q H Q:=zcV.of λ Fs=>zhW.list hH h0 hk hz h
theorem zdD.mk {a:Addr}{l:List PV}{lo hi:Option Int}{Q:PV->zaA->Prop}(hl:LAt T.C H a l)(hz:l.length<=100000)(h:∀ c,H c=Option.none->Q (.ref c) (upd H c (.list (zgF l lo hi)))):zdD T (.ref a) lo hi H Q:=by
 unfold zdD;exact⟨a,l,rfl,hl,hz,h⟩
theorem zbQ.append {a:Addr}{l:List PV}(hH:H a=some (.list l)):zbQ T "append" (.ref a) H (.bi "list.append"):=zbQ.of rfl λ Fs=>zfY.listAppend hH
theorem zaG.append {a:Addr}{l:List PV}{p:PV}{Q:PV->zaA->Prop}(hH:H a=some (.list l))(hz:l.length<=100000)(h:Q .none (upd H a (.list (l++[p])))):zaG T X (.bi "list.append") [.ref a,p] H Q R:=zaG.of λ Fs=>zbH.listAppend hH hz h
theorem zbQ.add {a:Addr}{l:List Pt}(hH:H a=some (.pset l)):zbQ T "add" (.ref a) H (.bi "set.add"):=zbQ.of rfl λ Fs=>zfY.setAdd hH
theorem zaG.add {a:Addr}{l:List Pt}(p:Pt){Q:PV->zaA->Prop}(hH:H a=some (.pset l))(hb:zeL p)(h:∀ l',l'.Nodup->(∀ q,q∈l'↔q=p\/q∈l)->Q .none (upd H a (.pset l'))):zaG T X (.bi "set.add") [.ref a,pt p] H Q R:=zaG.of λ Fs=>zbH.setAdd hH hb h
theorem zbQ.popS {a:Addr}{l:List Pt}(hH:H a=some (.pset l)):zbQ T "pop" (.ref a) H (.bi "set.pop"):=zbQ.of rfl λ Fs=>zfY.setPop hH
theorem zaG.popS {a:Addr}{l:List Pt}{Q:PV->zaA->Prop}(hH:H a=some (.pset l))(hne:l≠[])(h:∀ p l',p∈l->l'.Nodup->(∀ q,q∈l'↔q∈l/\q≠p)->l'.length+1=l.length->Q (pt p) (upd H a (.pset l'))):zaG T X (.bi "set.pop") [.ref a] H Q R:=zaG.of λ Fs=>zbH.setPop hH hne h
theorem zbQ.update {a:Addr}{l:List Pt}(hH:H a=some (.pset l)):zbQ T "update" (.ref a) H (.bi "set.update"):=zbQ.of rfl λ Fs=>zfY.setUpdate hH
theorem zaG.update {a b:Addr}{l m:List Pt}{Q:PV->zaA->Prop}(hH:H a=some (.pset l))(hb:H b=some (.pset m))(hne:a≠b)(h:∀ l',l'.Nodup->(∀ q,q∈l'↔q∈l\/q∈m)->Q .none (upd H a (.pset l'))):zaG T X (.bi "set.update") [.ref a,.ref b] H Q R:=zaG.of λ Fs=>zbH.setUpdate hH hb hne h
theorem zaG.set0 {Q:PV->zaA->Prop}(h:∀ a,H a=Option.none->Q (.ref a) (upd H a (.pset []))):zaG T X (.ty "set") [] H Q R:=zaG.of λ Fs=>zbH.setNew h
theorem zaG.lenL {a:Addr}{l:List PV}{Q:PV->zaA->Prop}(hH:LAt T.C H a l)(hz:l.length<=100000)(h:Q (.int l.length) H):zaG T X (.bi "len") [.ref a] H Q R:=zaG.of λ Fs=>zbH.lenList hH hz h
theorem zaG.lenS {a:Addr}{l:List Pt}{Q:PV->zaA->Prop}(hH:H a=some (.pset l))(h:Q (.int l.length) H):zaG T X (.bi "len") [.ref a] H Q R:=zaG.of λ Fs=>zbH.lenSet hH h
theorem zaG.range1 {n:Int}{Q:PV->zaA->Prop}(h:∀ c,H c=Option.none->Q (.ref c) (upd H c (.range 0 n))):zaG T X (.ty "range") [.int n] H Q R:=zaG.of λ Fs=>zbH.range1 h
theorem zaG.listC {a:Addr}{l:List PV}{Q:PV->zaA->Prop}(hl:LAt T.C H a l)(hz:l.length<=100000)(h:∀ c,H c=Option.none->Q (.ref c) (upd H c (.list l))):zaG T X (.ty "list") [.ref a] H Q R:=zaG.of λ Fs=>zbH.listCopy hl hz h
theorem zaG.cls0 {c:Addr}{Q:PV->zaA->Prop}(hm:makesIn T.C.K c=true)(hi:findIn T.C.K (.ref c) "__init__" = some (some (.builtin "object.__init__")))(h:∀ x d,x≠d->H x=none->H d=none->Q (.ref x) (upd (upd H d (.attrs [])) x (.inst c d))):zaG T X (.ref c) [] H Q R:=
 zaG.of λ Fs=>zfW.call (zfW.cls0 hm hi h)
theorem zaG.cls {c fI:Addr}{ps:List PV}{Q:PV->zaA->Prop}(hm:makesIn T.C.K c=true)(hi:findIn T.C.K (.ref c) "__init__" = some (some (.ref fI)))(ht:typeIn T.C.K (.ref fI)=some (.type "function"))(hn:1<=T.n)
  (h:∀ x d,x≠d->H x=none->H d=none->zaE T.down X (.ref fI) (.ref x::ps) (upd (upd H d (.attrs [])) x (.inst c d)) (λ p H'=>p=.none/\Q (.ref x) H') noR):zaG T X (.ref c) ps H Q R:=by
 refine zaG.of λ Fs=>zfW.call (zfW.cls hm hi ht hn λ x d hxd hx hd=>?_);have:=h x d hxd hx hd;unfold zaE at this;exact this Fs NoE λ e s=>ykV
theorem zdH.inS {a:Addr}{l:List Pt}(p:Pt){Q:Bool->zaA->Prop}(hH:H a=some (.pset l))(hb:zeL p)(h:Q (decide (p∈l)) H):zdH T .In (pt p) (.ref a) H Q:=zdH.of λ Fs=>zdC.inSet hH hb h
theorem zdH.inL {a:Addr}{l:List PV}{p:PV}{ds:List Dat}{d:Dat}{Q:Bool->zaA->Prop}(hl:LAt T.C H a l)(hds:zjR (HD T.C H 8) l ds)(hp:HD T.C H 8 p d)(h:∀ b,(b=true↔d∈ds)->Q b H):zdH T .In p (.ref a) H Q:=zdH.of λ Fs=>zdC.inList hl hds hp h
theorem zdH.eqD {p q:PV}{d e:Dat}{Q:Bool->zaA->Prop}(hp:HD T.C H 9 p d)(hq:HD T.C H 9 q e)(h:∀ b,(b=true↔d=e)->Q b H):zdH T .Eq p q H Q:=zdH.of λ Fs=>zdC.eqData hp hq h
theorem zdH.neD {p q:PV}{d e:Dat}{Q:Bool->zaA->Prop}(hp:HD T.C H 9 p d)(hq:HD T.C H 9 q e)(h:∀ b,(b=true↔d≠e)->Q b H):zdH T .NotEq p q H Q:=zdH.of λ Fs=>zdC.neData hp hq h
theorem zdH.eqB {a b:Bool}{Q:Bool->zaA->Prop}(h:Q (a==b) H):zdH T .Eq (.bool a) (.bool b) H Q:=zdH.of λ Fs=>zdC.eqBool h
theorem STr.list {a:Addr}{l:List PV}{Q:Bool->zaA->Prop}(hH:LAt T.C H a l)(hz:l.length<=100000)(h:Q (!l.isEmpty) H):STr T (.ref a) H Q:=STr.of λ Fs=>ATr.list hH hz h
theorem STr.set {a:Addr}{l:List Pt}{Q:Bool->zaA->Prop}(hH:H a=some (.pset l))(h:Q (!l.isEmpty) H):STr T (.ref a) H Q:=STr.of λ Fs=>ATr.set hH h
theorem zfJ.addL {a b:Addr}{l m:List PV}{Q:PV->zaA->Prop}(hl:LAt T.C H a l)(hm:LAt T.C H b m)(hz:l.length+m.length<=100000)(h:∀ c,H c=Option.none->Q (.ref c) (upd H c (.list (l++m)))):zfJ T (binaryOp .Add) (.ref a) (.ref b) H Q:=zfJ.of λ Fs=>zhL.addList hl hm hz h
theorem zfJ.mulL {a:Addr}{p:PV}{n:Int}{Q:PV->zaA->Prop}(hH:H a=some (.list [p]))(h0:0<=n)(hn:n<=100000)(h:∀ c,H c=Option.none->Q (.ref c) (upd H c (.list (List.replicate n.toNat p)))):zfJ T (binaryOp .Mult) (.ref a) (.int n) H Q:=zfJ.of λ Fs=>zhL.mulList hH h0 hn h
theorem zaK {φ A B:Prop}[Decidable φ](h:φ->A)(h':¬ φ->B):cond (decide φ) A B:=by
 by_cases hp:φ
 ·rw[decide_eq_true hp];exact h hp
 ·rw[decide_eq_false hp];exact h' hp
theorem yjD {φ A B:Prop}[Decidable φ](h:¬ φ->A)(h':φ->B):cond (!decide φ) A B:=by
 by_cases hp:φ
 ·rw[decide_eq_true hp];exact h' hp
 ·rw[decide_eq_false hp];exact h hp
theorem br {b:Bool}{A B:Prop}(h:b=true->A)(h':b=false->B):cond b A B:=by
 cases b with
 | true=>exact h rfl
 | false=>exact h' rfl
theorem yiC {α:Type}[BEq α][LawfulBEq α]{a b:α}{A B:Prop}(h:a=b->A)(h':a≠b->B):cond (a==b) A B:=br (λ e=>h (eq_of_beq e)) λ e=>h' (beq_eq_false_iff_ne.mp e)
theorem yoA {α:Type}[BEq α][LawfulBEq α]{a b:α}{A B:Prop}(h:a≠b->A)(h':a=b->B):cond (a != b) A B:=br (λ e=>h (bne_iff_ne.mp e)) λ e=>h' (by
 by_cases q:a=b
 ·exact q
 ·rw[bne_iff_ne.mpr q]at e;cases e)
theorem M.append {a:Addr}{l:List PV}{p:PV}{Q:PV->zaA->Prop}(hH:H a=some (.list l))(hz:l.length<=100000)(h:Q .none (upd H a (.list (l++[p])))):∃ g,zbQ T "append" (.ref a) H g/\zaG T X g [.ref a,p] H Q R:=⟨_,zbQ.append hH,zaG.append hH hz h⟩
theorem M.add {a:Addr}{l:List Pt}(p:Pt){Q:PV->zaA->Prop}(hH:H a=some (.pset l))(hb:zeL p)(h:∀ l',l'.Nodup->(∀ q,q∈l'↔q=p\/q∈l)->Q .none (upd H a (.pset l'))):∃ g,zbQ T "add" (.ref a) H g/\zaG T X g [.ref a,pt p] H Q R:=⟨_,zbQ.add hH,zaG.add p hH hb h⟩
theorem M.popS {a:Addr}{l:List Pt}{Q:PV->zaA->Prop}(hH:H a=some (.pset l))(hne:l≠[])(h:∀ p l',p∈l->l'.Nodup->(∀ q,q∈l'↔q∈l/\q≠p)->l'.length+1=l.length->Q (pt p) (upd H a (.pset l'))):∃ g,zbQ T "pop" (.ref a) H g/\zaG T X g [.ref a] H Q R:=⟨_,zbQ.popS hH,zaG.popS hH hne h⟩
theorem M.own {x:PV}{m:Str}{g:PV}{ps:List PV}{Q:PV->zaA->Prop}(h:zbQ T m x H g)(hc:zaG T X g (x::ps) H Q R):∃ g,zbQ T m x H g/\zaG T X g (x::ps) H Q R:=⟨_,h,hc⟩
end
theorem fresh {H:zaA}{o:AO}{Q:PV->zaA->Prop}(h:∀ c H',H c=none->Ext H H'->H' c=some o->Q (.ref c) H'):∀ c,H c=none->Q (.ref c) (upd H c o):=λ c hc=>h c _ hc (Ext.upd (Ext.refl _) hc) zaC
theorem yaF {b:Bool}{φ A B:Prop}(hb:b=true↔φ)(h:φ->A)(h':¬ φ->B):cond b A B:=by
 cases b with
 | true=>exact h (hb.mp rfl)
 | false=>exact h' λ q=>by have:=hb.mpr q;cases this
theorem yhU {b:Bool}{φ A B:Prop}(hb:b=true↔φ)(h:¬ φ->A)(h':φ->B):cond (!b) A B:=by
 cases b with
 | true=>exact h' (hb.mp rfl)
 | false=>exact h λ q=>by have:=hb.mpr q;cases this
section
variable {T:Tr}{X:String}{H:zaA}{R:zaA->Prop}
theorem zdB.pt0 {z:Pt}{Q:PV->zaA->Prop}(h:Q (.int z.1) H):zdB T (pt z) (.int 0) H Q:=zdB.tup (l:=[.int z.1,.int z.2]) (by decide) (by decide) rfl h
theorem zdB.pt1 {z:Pt}{Q:PV->zaA->Prop}(h:Q (.int z.2) H):zdB T (pt z) (.int 1) H Q:=zdB.tup (l:=[.int z.1,.int z.2]) (by decide) (by decide) rfl h
theorem zeC {x:Nat}{ls:LN}{p:PV}{Q:PV->zaA->Prop}(h:lkN x ls=some p)(hq:Q p H):w T X (.var x) .v ls H R Q:=by
 show (match lkN x ls with
  | some p=>zhU T .v Q p H
  | Option.none=>False)
 rw[h];exact hq
theorem ymX {b:Bool}{x y:Nat}{p1 p2:PV}{ls:LN}{Q:PV->zaA->Prop}(h1:lkN x ls=some p1)(h2:lkN y ls=some p2)(h:∀ p,p=cond b p1 p2->Q p H):cond b (w T X (.var x) .v ls H R Q) (w T X (.var y) .v ls H R Q):=by
 cases b with
 | true=>exact zeC (X:=X) (R:=R) h1 (h p1 rfl)
 | false=>exact zeC (X:=X) (R:=R) h2 (h p2 rfl)
theorem ygY {a b:IS}{ls:LN}{R:LN->zaA->Prop}{Q:AFl->LN->zaA->Prop} (h:wS a X T ls H R λ fl ls' H'=>match fl with
  | .next=>wS b X T ls' H' R Q
  | fl=>Q fl ls' H'):wS (.seq a b) X T ls H R Q:=h
theorem yhN {t:IE}{a b:IS}{ls:LN}{R:LN->zaA->Prop}{Q:AFl->LN->zaA->Prop} (h:w T X t .t ls H (R ls) λ p H1'=>match p with
  | .bool c=>cond c (wS a X T ls H1' R Q) (wS b X T ls H1' R Q)
  | _=>False):wS (.ite t a b) X T ls H R Q:=h
theorem fm {a b:Int}{m:Nat}(hb:b=m)(h:0<m):∃ k:Nat,a.fmod b=k/\k<m:=by
 subst hb;obtain⟨k,hk⟩:=Int.eq_ofNat_of_zero_le (Int.fmod_nonneg_of_pos a (b:=(m:Int)) (Int.ofNat_lt.mpr h));exact⟨k,hk,Int.ofNat_lt.mp (hk▸Int.fmod_lt_of_pos a (b:=(m:Int)) (Int.ofNat_lt.mpr h))⟩
theorem yfG {a:Int}{n:Nat}(h0:0<n)(h5:n<=1000):((n:Int)≠0/\Builtin.divisionGoesByPylong a (n:Int)=false):=⟨by lia,zbS (by exact Int.natCast_nonneg _) (by exact lq16 h5 rfl)⟩
end
section
variable {T:Tr}{X:String}{Fs:List AF}{H:zaA}{E:Value->Shared->Prop}{R:zaA->Prop}
theorem zkO.str {value slice:Expr}{x:Str}{k:Int}{c:Nat}{Q:PV->zaA->Prop}(h0:0<=k)(hk:k<2 ^ 63)(hx:(seqIndex? k x.length).bind (x.cps[·]?)=some c)(h:Q (.str ⟨#[c]⟩) H)
  (hs:∀ a u,subscripted slice false (.str x a) (.int k u)=operate [.str x a,.int k u] (getItem (.str x a) (.int k u)):=by intro _ _;rfl):zkO T Fs H value slice (.str x) (.int k) Q E:=λ A s v w ok R pv pw=>by
 obtain⟨a,rfl⟩:=pv.str_inv;obtain⟨t,rfl⟩:=pw.int_inv;refine tail_any (typeIs_str s x a) slot_str_getitem.lookup (getItem_str ?_ hx (zaJ (s':={ s with toks:=s.toks+1 }) R PR.str h)) (hs a t);have h1:¬ k < -(2 ^ 63:Int):=by exact lq19 h0 rfl
 have h2:¬ k>=2 ^ 63:=by exact lqc hk
 rw[decide_eq_false h1,decide_eq_false h2];rfl
theorem zdB.bw {k:Int}{Q:PV->zaA->Prop}(h0:0<=k)(hk:k<2)(h:∀ s:Str,s = "b" \/ s = "w" -> (s = "b" ↔ k=0)->Q (.str s) H):zdB T (.str "bw") (.int k) H Q:=by
 have:k=0\/k=1:=by lia
 rcases this with rfl|rfl
 ·exact zdB.of λ Fs v s hs=>zkO.str (c:=98) (by decide) (by decide) (by rfl) (h "b" (.inl rfl) (by simp)) λ a u=>hs _ _
 ·exact zdB.of λ Fs v s hs=>zkO.str (c:=119) (by decide) (by decide) (by rfl) (h "w" (.inr rfl) (by decide +kernel)) λ a u=>hs _ _
end
section
variable {T:Tr}{X:String}{H:zaA}{R:zaA->Prop}
theorem zfE.ok {p q:PV}{Q:PV->zaA->Prop}(h:zdB T p q H Q):zfE T X p q H Q R:=by
 unfold zfE;exact .inl h
theorem zfE.out {a:Addr}{l:List PV}{k:Int}{Q:PV->zaA->Prop}(hX:X = "IndexError")(hh:T.hd=false)(hH:H a=some (.list l))(ho:k < -(l.length:Int)\/(l.length:Int)<=k)(lo:-(2 ^ 63)<=k)(hi:k<2 ^ 63)(hR:R H):zfE T X (.ref a) (.int k) H Q R:=by
 unfold zfE;exact .inr (.inl ⟨hX,hh,hR,a,l,k,rfl,hH,rfl,ho,lo,hi⟩)
theorem zfJ.iaddI {a b:Int}{Q:PV->zaA->Prop}(h:Q (.int (a+b)) H):zfJ T (inplaceOp .Add) (.int a) (.int b) H Q:=zfJ.of λ Fs=>.ofInt h λ _ _ _ _ _ h=>AutoIntOps.iadd_0 h
theorem zsO.list {p:PV}{ls:LN}{step:PV->LN->zaA->(AFl->LN->zaA->Prop)->Prop}{Q:AFl->LN->zaA->Prop}(a:Addr)(l:List PV)(e:p=.ref a)(hl:H a=some (.list l))(α:Type)(L:α->LN)(J:Nat->α->zaA->Prop)(b0:α)(s0:zaX (L b0) ls)(h0:J 0 b0 H)
  (hk:∀ i b H',J i b H'->H' a=some (.list l)) (turn:∀ i v b H',l[i]?=some v->J i b H'->step v (L b) H' (zmF (zjH L (J (i+1))) Q)) (fin:∀ b H',J l.length b H'->Q .next (L b) H'):zsO T p ls H step Q:=by
 unfold zsO;exact⟨a,l,e,hl,α,L,J,b0,s0,h0,hk,turn,fin⟩
end
/-! rules behind which what comes next is a letter: small goals,small proofs -/
section
variable {T:Tr}{X:String}{H:zaA}{R:zaA->Prop}
theorem zaE.callK {g:PV}{ps:List PV}{Q0 Q:PV->zaA->Prop}(h:zaE T X g ps H Q0 R)(hq:∀ K:PV->zaA->Prop,(∀ p H,Q p H->K p H)->∀ p H,Q0 p H->K p H):zaG T X g ps H Q R:=h.call (hq Q λ _ _ h=>h)
end
noncomputable def AFl.goes:AFl->Bool
 | .next=>true
 | .cont=>true
 | _=>false
noncomputable def AFl.nexts:AFl->Bool
 | .next=>true
 | _=>false
theorem zaX.of {K ls:LN}(h:(K.map λ e=>lkN e.1 ls)=K.map λ e=>some e.2):zaX K ls:=by
 induction K with
 | nil=>trivial
 | cons e K ih=>
  obtain⟨h1,h2⟩:=List.cons.inj h;exact⟨h1,ih h2⟩
section
variable {T:Tr}{X:String}{H:zaA}{α:Type}{L:α->LN}{J:α->zaA->Prop}{Q:AFl->LN->zaA->Prop}
theorem zsI (a:AFl)(h:a.goes=true)(b:α)(ls:LN)(H:zaA)(s:zaX (L b) ls)(n:J b H):zmF (zjH L J) Q a ls H:=by
 cases a with
 | next=>exact⟨b,s,n⟩
 | cont=>exact⟨b,s,n⟩
 | brk=>cases h
 | ret p=>cases h
theorem zfU {t:IT}{v:PV}{ls:LN}{b:IS}{R R':LN->zaA->Prop}(h:∀ K:AFl->LN->zaA->Prop,(∀ a,a.goes=true->∀ b ls H,zaX (L b) ls->J b H->K a ls H)->wT T X t v ls H R λ ls'' H''=>wS b X T ls'' H'' R' K):wT T X t v ls H R λ ls'' H''=>wS b X T ls'' H'' R' (zmF (zjH L J) Q):=h _ zsI
theorem ynL {ls:LN}{b:IS}{R:LN->zaA->Prop}(h:∀ K:AFl->LN->zaA->Prop,(∀ a,a.goes=true->∀ b ls H,zaX (L b) ls->J b H->K a ls H)->wS b X T ls H R K):wS b X T ls H R (zmF (zjH L J) Q):=h _ zsI
theorem zwG {P:α->zaA->Prop}{ls:LN}{b:IS}{R:LN->zaA->Prop}(h:∀ K:AFl->LN->zaA->Prop,(∀ a,a.nexts=true->∀ b ls H,zaX (L b) ls->P b H->K a ls H)->wS b X T ls H R K):wS b X T ls H R (cutK L P Q):=h _ λ a ha b ls H s n=>by
 cases a with
 | next=>exact⟨b,s,n⟩
 | cont=>cases ha
 | brk=>cases ha
 | ret p=>cases ha
end
theorem ynQ {ls:LN}{H:zaA}{B:(α:Type)->(α->LN)->(Nat->α->zaA->Prop)->Nat->α->zaA->Prop}(α:Type)(L:α->LN)(I:Nat->α->zaA->Prop)(n:Nat)(b0:α)(s:zaX (L b0) ls)(i:I n b0 H)(k:∀ n b H',I n b H'->B α L I n b H'):
  ∃ (α:Type) (L:α->LN) (I:Nat->α->zaA->Prop) (n:Nat) (b0:α),zaX (L b0) ls/\I n b0 H/\∀ n b H',I n b H'->B α L I n b H':=⟨α,L,I,n,b0,s,i,k⟩
theorem yoD {A B:(α:Type)->(α->LN)->(α->zaA->Prop)->Prop}(α:Type)(L:α->LN)(P:α->zaA->Prop)(h:A α L P)(k:B α L P):∃ (α:Type) (L:α->LN) (P:α->zaA->Prop),A α L P/\B α L P:=⟨α,L,P,h,k⟩
open PySem.SeqAt
/-! the place of a colour,or of none,in ['b','w',None] -/
section
variable {T:Tr}{X:String}{Fs:List AF}{H:zaA}{E:Value->Shared->Prop}{R:zaA->Prop}{a:Addr}{l:List PV}
theorem zfY.listIndex (hH:H a=some (.list l)):zfY T Fs H "index" (.ref a) (.bi "list.index"):=λ A s v pl Q E ok R pv h=>by
 rw[pv.ref_inv]at h ⊢;refine q22 ((R.objs a _ hH).1) λ vs n il r=>?_;exact getMethod_list_of PySem.F.slot_list_index PySem.F.type_list_index il.isList ⟨_,il,rfl⟩ (h _ PR.bi)
noncomputable def isS (c:Str):Value->Bool
 | .str x _=>x==c
 | _=>false
noncomputable def isNo:Value->Bool
 | .none=>true
 | _=>false
theorem zbH.trioIndex {v:PV}{i:Nat}(hH:H a=some (.list [.str "b",.str "w",.none]))(hv:(v=.str "b" /\ i=0)\/(v=.str "w" /\ i=1)\/(v=.none/\i=2)){Q:PV->zaA->Prop}(h:Q (.int i) H):zbH T Fs H (.bi "list.index") [.ref a,v] Q E:=λ A s v ws ok R pv prs=>by
 rw[pv.bi_inv];refine q23 prs.cons_inv ?_;intro w r1 u0;subst u0;intro pw prs;refine q23 prs.cons_inv ?_;intro u r2 u0;subst u0;intro pu prs;rw[prs.nil_inv,pw.ref_inv];refine q22 ((R.objs a _ hH).1) λ vs n il r=>?_;refine q23 r.cons_inv λ v0 q0 e0 p0 r=>?_;refine q23 r.cons_inv λ v1 q1 e1 p1 r=>?_;refine q23 r.cons_inv λ v2 q2 e2 p2 r=>?_;obtain⟨t0,rfl⟩:=p0.str_inv;obtain⟨t1,rfl⟩:=p1.str_inv;rw[p2.none_inv]at e2;rw[r.nil_inv]at e2;subst e2 e1;have e3:vs=#[.str "b" t0,.str "w" t1,.none]:=Array.toList_inj.mp e0;subst e3;rcases hv with ⟨rfl,rfl⟩|⟨rfl,rfl⟩|⟨rfl,rfl⟩
 ·obtain⟨t,rfl⟩:=pu.str_inv
  refine call_meets PySem.F.slot_list_index ⟨_,il,rfl⟩ PySem.F.entry_list_index (PySem.F.args_list_index_2 _ _) (list_indexAt a _ n none #[] _ (isS "b") 0 (by simp) (by decide) rfl (λ m _ h=>absurd h (Nat.not_lt_zero _))) ⟨il,λ y hy=>?_,zaJ (s':={ s with toks:=s.toks+1 }) R PR.int h⟩;simp only[List.mem_toArray,List.mem_cons,List.not_mem_nil,or_false]at hy;rcases hy with rfl|rfl|rfl
  ·exact EqAt.str_str _ _ _ _
  ·exact EqAt.str_str _ _ _ _
  ·exact EqAt.none_str _ _
 ·obtain⟨t,rfl⟩:=pu.str_inv
  refine call_meets PySem.F.slot_list_index ⟨_,il,rfl⟩ PySem.F.entry_list_index (PySem.F.args_list_index_2 _ _) (list_indexAt a _ n none #[] _ (isS "w") 1 (by simp) (by decide) rfl (λ m _ h=>by
   obtain rfl:m=0:=by lia
   show (("b" : Str) == "w")=false
   decide +kernel)) ⟨il,λ y hy=>?_,zaJ (s':={ s with toks:=s.toks+1 }) R PR.int h⟩
  simp only[List.mem_toArray,List.mem_cons,List.not_mem_nil,or_false]at hy;rcases hy with rfl|rfl|rfl
  ·exact EqAt.str_str _ _ _ _
  ·exact EqAt.str_str _ _ _ _
  ·exact EqAt.none_str _ _
 ·rw[pu.none_inv]
  refine call_meets PySem.F.slot_list_index ⟨_,il,rfl⟩ PySem.F.entry_list_index (PySem.F.args_list_index_2 _ _) (list_indexAt a _ n none #[] _ isNo 2 (by simp) (by decide) rfl (λ m _ h=>by
   rcases (show m=0\/m=1 by lia) with rfl|rfl <;> rfl)) ⟨il,λ y hy=>?_,zaJ (s':={ s with toks:=s.toks+1 }) R PR.int h⟩
  simp only[List.mem_toArray,List.mem_cons,List.not_mem_nil,or_false]at hy;rcases hy with rfl|rfl|rfl
  ·exact EqAt.str_none _ _
  ·exact EqAt.str_none _ _
  ·exact EqAt.same _
end
noncomputable def inG (n:Nat)(p:Pt):Prop:=(0<=p.1/\p.1<n)/\0<=p.2/\p.2<n
noncomputable def nb (p:Pt):List Pt:=[(p.1-1,p.2),(p.1+1,p.2),(p.1,p.2-1),(p.1,p.2+1)]
theorem zqP {p q:Pt}(h:q∈nb p):p∈nb q:=by
 obtain⟨a,b⟩:=p;have s (x:Int):x-1+1=x:=Int.sub_add_cancel x 1;have t (x:Int):x+1-1=x:=Int.add_sub_cancel x 1;have one:∀ {z:Pt} {l:List Pt},z∈l->∀ y:Pt,y=z->y∈l:=λ h _ e=>e▸h;rcases List.mem_cons.mp h with rfl|h
 ·exact one (.tail _ (.head _)) _ (by show (a,b)=(a-1+1,b);rw[s])
 rcases List.mem_cons.mp h with rfl|h
 ·exact one (.head _) _ (by show (a,b)=(a+1-1,b);rw[t])
 rcases List.mem_cons.mp h with rfl|h
 ·exact one (.tail _ (.tail _ (.tail _ (.head _)))) _ (by show (a,b)=(a,b-1+1);rw[s])
 ·rw[List.mem_singleton.mp h]
  exact one (.tail _ (.tail _ (.head _))) _ (by show (a,b)=(a,b+1-1);rw[t])
noncomputable def grid (n:Nat):List Pt:=(List.range n).flatMap λ i:Nat=>(List.range n).map λ j:Nat=>(((i:Int),(j:Int)):Pt)
theorem zdG {n:Nat}{p:Pt}:p∈grid n↔inG n p:=by
 obtain⟨a,b⟩:=p;simp only[grid,inG,List.mem_flatMap,List.mem_map,List.mem_range,Prod.mk.injEq];constructor
 ·intro uu;refine q12 uu ?_;clear uu;intro i hi u8;refine q13 u8 ?_;clear u8;intro j hj u0;subst u0;intro u1;subst u1;lia
 ·rintro⟨⟨h1,h2⟩,h3,h4⟩;exact⟨a.toNat,by exact lq14 h1 h2,b.toNat,by exact lq14 h3 h4,by lia,by lia⟩
theorem zgP {n:Nat}:(grid n).length=n*n:=by
 simp only[grid,List.length_flatMap,List.length_map,List.length_range];rw[List.map_const',List.length_range,List.sum_replicate_nat]
theorem ybE {l:List Pt}{f g:Pt->Bool}(h:∀ x,g x=true->f x=true){q:Pt}(hq:q∈l)(h1:f q=true)(h2:g q=false):(l.filter g).length<(l.filter f).length:=by
 induction l with
 | nil=>cases hq
 | cons y l ih=>
  have le:∀ l:List Pt,(l.filter g).length<=(l.filter f).length:=λ l=>by
   induction l with
   | nil=>simp
   | cons z l ih2=>
    rw[List.filter_cons,List.filter_cons];cases hg:g z
    ·rw[if_neg (by decide)];split
     ·rw[List.length_cons];exact lqg ih2
     ·exact ih2
    ·rw[if_pos rfl,if_pos (h z hg),List.length_cons,List.length_cons];lia
  rw[List.filter_cons,List.filter_cons];rcases List.mem_cons.mp hq with rfl|hq
  ·rw[h1,h2];have:=le l;simp;lia
  ·have:=ih hq
   cases hg:g y
   ·rw[if_neg (by decide)];split
    ·rw[List.length_cons];lia
    ·exact this
   ·rw[if_pos rfl,if_pos (h y hg),List.length_cons,List.length_cons];lia
theorem nodup_le {l m:List Pt}(hn:l.Nodup)(h:∀ x∈l,x∈m):l.length<=m.length:=by
 induction l generalizing m with
 | nil=>simp
 | cons y l ih=>
  obtain⟨h1,h2⟩:=List.nodup_cons.mp hn;have hy:=h y (.head _);have:=ih (m:=m.erase y) h2 λ x hx=>(List.mem_erase_of_ne (λ e:x=y=>h1 (e▸hx))).mpr (h x (.tail _ hx));rw[List.length_erase_of_mem hy]at this;have:0<m.length:=List.length_pos_of_mem hy
  simp;lia
noncomputable def left (n:Nat)(P:List Pt):Nat:=((grid n).filter λ z=>!decide (z∈P)).length
theorem left_lt {n:Nat}{P P1:List Pt}{q:Pt}(hq:inG n q)(h1:q∉P)(h2:q∈P1)(h3:∀ z∈P,z∈P1):left n P1<left n P:=by
 refine ybE (q:=q) (λ x hx=>?_) (zdG.mpr hq) (by simp[h1]) (by simp[h2]);simp only[Bool.not_eq_true',decide_eq_false_iff_not]at hx ⊢;exact λ hp=>hx (h3 x hp)
inductive zaV (n:Nat)(G:Pt->Option Str)(c:Str)(p:Pt):Pt->Prop
 | refl:inG n p->G p=some c->zaV n G c p p
 | step {q z:Pt}:zaV n G c p q->z∈nb q->inG n z->G z=some c->zaV n G c p z
section
variable {n:Nat}{G:Pt->Option Str}{c:Str}{p q z:Pt}
theorem zaV.inG (h:zaV n G c p q):inG n q:=by cases h <;> assumption
theorem zaV.col (h:zaV n G c p q):G q=some c:=by cases h <;> assumption
theorem zaV.start (h:zaV n G c p q):AM.Internal.inG n p/\G p=some c:=by
 induction h with
 | refl a b=>exact⟨a,b⟩
 | step _ _ _ _ ih=>exact ih
theorem zaV.trans (h:zaV n G c p q)(h':zaV n G c q z):zaV n G c p z:=by
 induction h' with
 | refl a b=>exact h
 | step _ a b e ih=>exact ih.step a b e
theorem zaV.symm (h:zaV n G c p q):zaV n G c q p:=by
 induction h with
 | refl a b=>exact .refl a b
 | step h1 a b e ih=>exact zaV.trans (.step (.refl b e) (zqP a) h1.inG h1.col) ih
noncomputable def ydU (n:Nat)(G:Pt->Option Str)(q:Pt):Prop:=∃ z∈nb q,inG n z/\G z=none
noncomputable def zjW (n:Nat)(G:Pt->Option Str)(c:Str)(p:Pt):Prop:=∀ q,zaV n G c p q->¬ ydU n G q
structure MG (n:Nat)(G:Pt->Option Str)(c:Str)(p:Pt)(P W:List Pt)(sur:Bool):Prop where
 start:p∈P\/p∈W
 reach:∀ q,q∈P\/q∈W->zaV n G c p q
 closed:∀ q∈P,∀ z∈nb q,AM.Internal.inG n z->G z=some c->z∈P\/z∈W
 sur:sur=true↔∀ q∈P,¬ ydU n G q
 apart:∀ q∈P,q∉W
structure MI (n:Nat)(G:Pt->Option Str)(c:Str)(q:Pt)(P1 W1:List Pt)(sur:Bool)(done:List Pt)(W':List Pt)(sur':Bool):Prop where
 sub:∀ z∈W1,z∈W'
 new:∀ z∈W',z∈W1\/(z∈nb q/\AM.Internal.inG n z/\G z=some c/\z∉P1)
 all:∀ z∈done,AM.Internal.inG n z->G z=some c->z∈P1\/z∈W'
 sur:sur'=true↔sur=true/\∀ z∈done,¬ (AM.Internal.inG n z/\G z=none)
variable {P P1 W W1 W' W'':List Pt}{sur sur':Bool}{dn:List Pt}
theorem MI.nil:MI n G c q P1 W1 sur [] W1 sur:=⟨λ _ h=>h,λ _ h=>.inl h,λ _ h=>by simp at h,by simp⟩
theorem MI.skip (h:MI n G c q P1 W1 sur dn W' sur')(hz:AM.Internal.inG n z->G z≠none/\(G z=some c->z∈P1)):MI n G c q P1 W1 sur (dn++[z]) W' sur':=by
 refine⟨h.sub,h.new,λ y hy hg hc=>?_,?_⟩
 ·rcases List.mem_append.mp hy with hy|hy
  ·exact h.all y hy hg hc
  ·rw[List.mem_singleton.mp hy]at hg hc ⊢;exact .inl ((hz hg).2 hc)
 ·rw[h.sur]
  constructor
  ·rintro⟨a,b⟩
   refine⟨a,λ y hy u9=>q02 u9 λ hg hn=>?_⟩;rcases List.mem_append.mp hy with hy|hy
   ·exact b y hy ⟨hg,hn⟩
   ·rw[List.mem_singleton.mp hy]at hg hn;exact (hz hg).1 hn
  ·rintro⟨a,b⟩;exact⟨a,λ y hy=>b y (List.mem_append_left _ hy)⟩
theorem MI.free (h:MI n G c q P1 W1 sur dn W' sur')(hg:AM.Internal.inG n z)(hn:G z=none):MI n G c q P1 W1 sur (dn++[z]) W' false:=by
 refine⟨h.sub,h.new,λ y hy hg hc=>?_,?_⟩
 ·rcases List.mem_append.mp hy with hy|hy
  ·exact h.all y hy hg hc
  ·rw[List.mem_singleton.mp hy,hn]at hc;cases hc
 ·constructor
  ·intro q;cases q
  ·rintro⟨a,b⟩;exact absurd ⟨hg,hn⟩ (b z (by simp))
theorem MI.more (h:MI n G c q P1 W1 sur dn W' sur')(hb:z∈nb q)(hg:AM.Internal.inG n z)(hc:G z=some c)(hp:z∉P1)(hw:∀ y,y∈W''↔y=z\/y∈W'):MI n G c q P1 W1 sur (dn++[z]) W'' sur':=by
 refine⟨λ y hy=>(hw y).mpr (.inr (h.sub y hy)),λ y hy=>?_,λ y hy hg' hc'=>?_,?_⟩
 ·rcases (hw y).mp hy with rfl|hy
  ·exact .inr ⟨hb,hg,hc,hp⟩
  ·exact h.new y hy
 ·rcases List.mem_append.mp hy with hy|hy
  ·exact (h.all y hy hg' hc').imp id λ e=>(hw y).mpr (.inr e)
  ·exact .inr ((hw y).mpr (.inl (List.mem_singleton.mp hy)))
 ·rw[h.sur]
  constructor
  ·rintro⟨a,b⟩
   refine⟨a,λ y hy u9=>q02 u9 λ hg' hn=>?_⟩;rcases List.mem_append.mp hy with hy|hy
   ·exact b y hy ⟨hg',hn⟩
   ·rw[List.mem_singleton.mp hy,hc]at hn;cases hn
  ·rintro⟨a,b⟩;exact⟨a,λ y hy=>b y (List.mem_append_left _ hy)⟩
theorem MG.first (hg:AM.Internal.inG n p)(hc:G p=some c)(hw:∀ y,y∈W↔y=p\/y∈([]:List Pt)):MG n G c p [] W true:=by
 have hp:p∈W:=(hw p).mpr (.inl rfl);refine⟨.inr hp,λ q h=>?_,λ q h=>by simp at h,by simp,λ q h=>by simp at h⟩;rcases h with h|h
 ·simp at h
 ·have:=(hw q).mp h
  simp at this;subst this;exact .refl hg hc
theorem MG.turn (h:MG n G c p P W sur)(hq:q∈W)(hw:∀ y,y∈W1↔y∈W/\y≠q)(hp:∀ y,y∈P1↔y=q\/y∈P)(hi:MI n G c q P1 W1 sur (nb q) W' sur'):MG n G c p P1 W' sur':=by
 have hr:zaV n G c p q:=h.reach q (.inr hq);have hp1:∀ y∈P,y∈P1:=λ y hy=>(hp y).mpr (.inr hy);have tr:∀ y,y∈P\/y∈W->y∈P1\/y∈W':=λ y hy=>by
  rcases hy with hy|hy
  ·exact .inl (hp1 y hy)
  ·by_cases e:y=q
   ·exact .inl ((hp y).mpr (.inl e))
   ·exact .inr (hi.sub y ((hw y).mpr ⟨hy,e⟩))
 refine⟨tr p h.start,λ y hy=>?_,λ y hy z hz hg hc=>?_,?_,λ y hy hy'=>?_⟩
 ·rcases hy with hy|hy
  ·rcases (hp y).mp hy with rfl|hy
   ·exact hr
   ·exact h.reach y (.inl hy)
  ·rcases hi.new y hy with hy|⟨a,b,e,_⟩
   ·exact h.reach y (.inr ((hw y).mp hy).1)
   ·exact hr.step a b e
 ·rcases (hp y).mp hy with rfl|hy
  ·exact hi.all z hz hg hc
  ·exact tr z (h.closed y hy z hz hg hc)
 ·rw[hi.sur,h.sur]
  constructor
  ·rintro⟨a,b⟩ y hy
   rcases (hp y).mp hy with rfl|hy
   ·intro uu;refine q12 uu λ z hz e=>?_;exact b z hz e
   ·exact a y hy
  ·intro a
   refine⟨λ y hy=>a y (hp1 y hy),λ z hz e=>a q ((hp q).mpr (.inl rfl)) ⟨z,hz,e⟩⟩
 ·rcases hi.new y hy' with hw' | ⟨_,_,_,e⟩
  ·obtain⟨hw',hne⟩:=(hw y).mp hw'
   rcases (hp y).mp hy with rfl|hy
   ·exact hne rfl
   ·exact h.apart y hy hw'
  ·exact e hy
theorem MG.done (h:MG n G c p P [] sur):(∀ q,q∈P↔zaV n G c p q)/\(sur=true↔zjW n G c p):=by
 have h1:∀ q,q∈P↔zaV n G c p q:=λ q=>by
  refine⟨λ hq=>h.reach q (.inl hq),λ hr=>?_⟩
  induction hr with
  | refl a b=>exact h.start.resolve_right (by simp)
  | step _ a b e ih=>exact (h.closed _ ih _ a b e).resolve_right (by simp)
 refine⟨h1,h.sur.trans ?_⟩;unfold zjW;exact⟨λ a q hq=>a q ((h1 q).mpr hq),λ a q hq=>a q ((h1 q).mp hq)⟩
theorem MG.left_lt (h:MG n G c p P W sur)(hq:q∈W)(hp:∀ y,y∈P1↔y=q\/y∈P):left n P1<left n P:=
 AM.Internal.left_lt (h.reach q (.inr hq)).inG (λ e=>h.apart q e hq) ((hp q).mpr (.inl rfl)) λ z hz=>(hp z).mpr (.inr hz)
end
section
variable {n:Nat}{G:Pt->Option Str}{c:Str}{p q z:Pt}
theorem zjW.of_reach (h:zjW n G c p)(r:zaV n G c p q):zjW n G c q:=λ y hy=>h y (r.trans hy)
structure zvW (n:Nat)(G:Pt->Option Str)(z:Pt)(A:Str×List Pt):Prop where
 inG:AM.Internal.inG n z
 col:G z=some A.1
 mem:∀ q,q∈A.2↔zaV n G A.1 z q
 nodup:A.2.Nodup
theorem zvW.self {A:Str×List Pt}(h:zvW n G z A):z∈A.2:=(h.mem z).mpr (.refl h.inG h.col)
structure FSI (n:Nat)(G:Pt->Option Str)(dn:List Pt)(L:List (Str×List Pt))(hdl:List Pt):Prop where
 grp:∀ A∈L,∃ z∈dn,zvW n G z A/\zjW n G A.1 z
 apart:L.Pairwise λ A B=>∀ q∈A.2,q∉B.2
 seen:∀ z∈dn,AM.Internal.inG n z->G z≠none->z∈hdl
 from_:∀ q∈hdl,∃ c z,z∈dn/\zaV n G c z q
 closed:∀ q∈hdl,∀ c z,zaV n G c q z->z∈hdl
 sub:∀ A∈L,∀ q∈A.2,q∈hdl
 all:∀ z∈dn,AM.Internal.inG n z->∀ c,G z=some c->zjW n G c z->∃ P,(c,P)∈L/\z∈P
variable {dn:List Pt}{L:List (Str×List Pt)}{hdl hdl':List Pt}
theorem FSI.nil:FSI n G [] [] []:=⟨by simp,by simp,by simp,by simp,by simp,by simp,by simp⟩
theorem FSI.skip (h:FSI n G dn L hdl)(hz:AM.Internal.inG n z->G z=none):FSI n G (dn++[z]) L hdl:=by
 refine⟨λ A hA=>?_,h.apart,λ y hy hg hn=>?_,λ q hq=>?_,h.closed,h.sub,λ y hy hg c hc hs=>?_⟩
 ·refine q12 (h.grp A hA) λ y hy e=>?_;exact⟨y,List.mem_append_left _ hy,e⟩
 ·rcases List.mem_append.mp hy with hy|hy
  ·exact h.seen y hy hg hn
  ·rw[List.mem_singleton.mp hy]at hg hn;exact absurd (hz hg) hn
 ·refine q22 (h.from_ q hq) λ c y hy e=>?_;exact⟨c,y,List.mem_append_left _ hy,e⟩
 ·rcases List.mem_append.mp hy with hy|hy
  ·exact h.all y hy hg c hc hs
  ·rw[List.mem_singleton.mp hy]at hg hc;rw[hz hg]at hc;cases hc
theorem FSI.again (h:FSI n G dn L hdl)(hz:z∈hdl):FSI n G (dn++[z]) L hdl:=by
 refine⟨λ A hA=>?_,h.apart,λ y hy hg hn=>?_,λ q hq=>?_,h.closed,h.sub,λ y hy hg c hc hs=>?_⟩
 ·refine q12 (h.grp A hA) λ y hy e=>?_;exact⟨y,List.mem_append_left _ hy,e⟩
 ·rcases List.mem_append.mp hy with hy|hy
  ·exact h.seen y hy hg hn
  ·rw[List.mem_singleton.mp hy];exact hz
 ·refine q22 (h.from_ q hq) λ c y hy e=>?_;exact⟨c,y,List.mem_append_left _ hy,e⟩
 ·rcases List.mem_append.mp hy with hy|hy
  ·exact h.all y hy hg c hc hs
  ·rw[List.mem_singleton.mp hy]at hg hc hs ⊢
   refine q22 (h.from_ z hz) λ c' y' hy' e=>?_;have:c=c':=Option.some.inj (hc.symm.trans e.col);subst this;refine q12 (h.all y' hy' e.start.1 c e.start.2 (hs.of_reach e.symm)) λ P hP hm=>?_;refine q13 (h.grp _ hP) λ w _ hw _=>?_;exact⟨P,hP,(hw.mem z).mpr (((hw.mem y').mp hm).trans e)⟩
theorem FSI.new {A:Str×List Pt}(h:FSI n G dn L hdl)(hz:z∉hdl)(hA:zvW n G z A)(sur:Bool)(hs:sur=true↔zjW n G A.1 z)(hh:∀ q,q∈hdl'↔q∈hdl\/q∈A.2):
  FSI n G (dn++[z]) (if sur then L++[A] else L) hdl':=by
 have hm:z∈dn++[z]:=by simp
 refine⟨λ B hB=>?_,?_,λ y hy hg hn=>?_,λ q hq=>?_,λ q hq c y hr=>?_,λ B hB q hq=>?_,λ y hy hg c hc hsy=>?_⟩
 ·have:B∈L\/(sur=true/\B=A):=by
   cases sur with
   | true=>simpa using hB
   | false=>exact .inl hB
  rcases this with hB|⟨hsu,rfl⟩
  ·refine q12 (h.grp B hB) λ y hy e=>?_;exact⟨y,List.mem_append_left _ hy,e⟩
  ·exact⟨z,hm,hA,hs.mp hsu⟩
 ·cases sur with
  | false=>exact h.apart
  | true=>
   refine List.pairwise_append.mpr ⟨h.apart,by simp,λ B hB B' hB' q hq hq'=>?_⟩;rw[List.mem_singleton.mp hB']at hq';exact hz (h.closed q (h.sub B hB q hq) _ z ((hA.mem q).mp hq').symm)
 ·rcases List.mem_append.mp hy with hy|hy
  ·exact (hh y).mpr (.inl (h.seen y hy hg hn))
  ·rw[List.mem_singleton.mp hy];exact (hh z).mpr (.inr hA.self)
 ·rcases (hh q).mp hq with hq|hq
  ·refine q22 (h.from_ q hq) λ c y hy e=>?_;exact⟨c,y,List.mem_append_left _ hy,e⟩
  ·exact⟨A.1,z,hm,(hA.mem q).mp hq⟩
 ·rcases (hh q).mp hq with hq|hq
  ·exact (hh y).mpr (.inl (h.closed q hq c y hr))
  ·have r:=(hA.mem q).mp hq
   have:c=A.1:=Option.some.inj (hr.start.2.symm.trans r.col);subst this;exact (hh y).mpr (.inr ((hA.mem y).mpr (r.trans hr)))
 ·have:B∈L\/B=A:=by
   cases sur with
   | true=>simpa using hB
   | false=>exact .inl hB
  rcases this with hB|rfl
  ·exact (hh q).mpr (.inl (h.sub B hB q hq))
  ·exact (hh q).mpr (.inr hq)
 ·rcases List.mem_append.mp hy with hy|hy
  ·refine q12 (h.all y hy hg c hc hsy) λ P hP e=>?_
   refine⟨P,?_,e⟩;cases sur with
   | true=>simp[hP]
   | false=>exact hP
  ·rw[List.mem_singleton.mp hy]at hg hc hsy ⊢
   have:c=A.1:=Option.some.inj (hc.symm.trans hA.col);subst this;rw[hs.mpr hsy];exact⟨A.2,by simp,hA.self⟩
end
noncomputable def put (G:Pt->Option Str)(p:Pt)(v:Option Str):Pt->Option Str:=λ q=>if q=p then v else G q
noncomputable def rm (G:Pt->Option Str)(l:List Pt):Pt->Option Str:=λ q=>if q∈l then none else G q
theorem ztG {G:Pt->Option Str}:rm G []=G:=by funext q;simp[rm]
theorem ykL {G:Pt->Option Str}{l:List Pt}{p:Pt}:put (rm G l) p none=rm G (l++[p]):=by
 funext q
 simp only[put,rm,List.mem_append,List.mem_singleton]
 by_cases h1:q=p <;> by_cases h2:q∈l <;> simp[h1,h2]
theorem ybL {G:Pt->Option Str}{l m:List Pt}:rm (rm G l) m=rm G (l++m):=by
 funext q
 simp only[rm,List.mem_append]
 by_cases h1:q∈m <;> by_cases h2:q∈l <;> simp[h1,h2]
theorem zrG {G:Pt->Option Str}{l m:List Pt}(h:∀ q,q∈l↔q∈m):rm G l=rm G m:=by
 funext q
 simp only[rm,h q]
noncomputable def zgN (opp:Str)(L:List (Str×List Pt)):List (Str×List Pt):=if L.length=1 then L else L.filter λ A=>A.1==opp
noncomputable def ziM:List Pt->Option Pt
 | [q]=>some q
 | _=>none
noncomputable def ztM:List (Str×List Pt)->Option (List Pt)
 | [A]=>some A.2
 | _=>none
noncomputable def zoL (col opp:Str)(L:List (Str×List Pt)):Option Pt:=cond (Nat.ble L.length 1) none (((ztM (L.filter λ A=>A.1==opp)).bind ziM).bind λ q=>((L.filter λ A=>A.1==col).head?.bind λ A=>ziM A.2).map λ _=>q)
theorem zmV {l:List Pt}(h:l.length≠1):ziM l=none:=by
 cases l with
 | nil=>rfl
 | cons a l=>cases l with
  | nil=>exact absurd rfl h
  | cons b l=>rfl
theorem zvO {l:List (Str×List Pt)}(h:l.length≠1):ztM l=none:=by
 cases l with
 | nil=>rfl
 | cons a l=>cases l with
  | nil=>exact absurd rfl h
  | cons b l=>rfl
theorem zvH {col opp:Str}{L:List (Str×List Pt)}(h:(((ztM (L.filter λ A=>A.1==opp)).bind ziM).bind λ q=>((L.filter λ A=>A.1==col).head?.bind λ A=>ziM A.2).map λ _=>q)=none):zoL col opp L=none:=by
 unfold zoL;cases Nat.ble L.length 1 with
 | true=>rfl
 | false=>exact h
noncomputable def zxZ (n:Nat)(L:List (Str×List Pt)):Bool:=match L with
 | [A]=>decide (A.2.length=n*n)
 | _=>false
theorem yeW {n:Nat}{L:List (Str×List Pt)}(h:2<=L.length):zxZ n L=false:=by
 cases L with
 | nil=>rfl
 | cons a r=>
  cases r with
  | nil=>exact absurd h (Nat.lt_irrefl 1)
  | cons b r=>rfl
noncomputable def zcF (L:List (Str×List Pt)):List Pt:=L.flatMap (·.2)
noncomputable def ykN:Option Pt->PV
 | none=>.none
 | some q=>pt q
theorem ykZ {col opp:Str}{L:List (Str×List Pt)}(h:(L.filter λ A=>A.1==opp).length≠1):zoL col opp L=none:=zvH (by rw[zvO h];rfl)
theorem ymL {col opp:Str}{L:List (Str×List Pt)}{A:Str×List Pt}(h:(L.filter λ A=>A.1==opp)=[A])(h':A.2.length≠1):zoL col opp L=none:=zvH (by
 have e:(ztM [A]).bind ziM=none:=zmV h';rw[h,e];rfl)
theorem ypJ {col opp:Str}{L:List (Str×List Pt)}{B:Str×List Pt}{r:List (Str×List Pt)}(hs:(L.filter λ A=>A.1==col)=B::r)(h':B.2.length≠1):zoL col opp L=none:=zvH (by
 have e:((B::r).head?.bind λ A=>ziM A.2)=none:=zmV h';rw[hs,e];cases (ztM (L.filter λ A=>A.1==opp)).bind ziM <;> rfl)
theorem yhI {col opp o s:Str}{L:List (Str×List Pt)}{q q':Pt}{r:List (Str×List Pt)}(h2:2<=L.length)(h:(L.filter λ A=>A.1==opp)=[(o,[q])])(hs:(L.filter λ A=>A.1==col)=(s,[q'])::r):zoL col opp L=some q:=by
 have e:Nat.ble L.length 1=false:=by
  cases hb:Nat.ble L.length 1 with
  | false=>rfl
  | true=>exact absurd (Nat.le_of_ble_eq_true hb) (by lia)
 unfold zoL;rw[e,h,hs];rfl
theorem zoF {l:List Pt}{q:Pt}(h:ziM l=some q):l=[q]:=by
 cases l with
 | nil=>cases h
 | cons a l=>cases l with
  | nil=>cases h;rfl
  | cons b l=>cases h
theorem zsV {col opp:Str}{L:List (Str×List Pt)}{q:Pt}(e:zoL col opp L=some q):∃ o s r t,(L.filter λ A=>A.1==opp)=[(o,[q])]/\(L.filter λ A=>A.1==col)=(s,[r])::t:=by
 unfold zoL at e;generalize (L.filter λ A=>A.1==opp)=F at e;generalize (L.filter λ A=>A.1==col)=F' at e;cases hb:Nat.ble L.length 1 with
 | true=>rw[hb]at e;cases e
 | false=>
  rw[hb]at e;refine q12 (Option.bind_eq_some_iff.mp e) λ y h1 e=>?_;refine q12 (Option.bind_eq_some_iff.mp h1) λ P h2 h1=>?_;refine q12 (Option.map_eq_some_iff.mp e) λ r h3 e=>?_;refine q12 (Option.bind_eq_some_iff.mp h3) λ B h4 h3=>?_;subst e;cases F with
  | nil=>cases h2
  | cons A l=>cases l with
   | cons _ _=>cases h2
   | nil=>
    obtain⟨o,P'⟩:=A;cases h2;cases F' with
    | nil=>cases h4
    | cons C t=>
     obtain⟨s,P''⟩:=C;cases h4;exact⟨o,s,r,t,by rw[show P'=[y] from zoF h1],by rw[show P''=[r] from zoF h3]⟩
theorem ybD {col opp:Str}{L:List (Str×List Pt)}(hc:∀ A∈L,A.1=col\/A.1=opp)(h2:2<=L.length)(h1:(L.filter λ A=>A.1==opp).length=1):∃ A r,(L.filter λ A=>A.1==col)=A::r:=by
 cases e:L.filter (λ A=>A.1==col) with
 | cons A r=>exact⟨A,r,rfl⟩
 | nil=>
  have:L.filter (λ A=>A.1==opp)=L:=List.filter_eq_self.mpr λ A hA=>by
   rcases hc A hA with q|q
   ·have hm:A∈L.filter (λ A=>A.1==col):=List.mem_filter.mpr ⟨hA,by simp[q]⟩
    rw[e]at hm;cases hm
   ·simp[q]
  rw[this]at h1;lia
theorem zsH {n:Nat}{S:Pt->Prop}(f:Nat->Pt)(hf:∀ k,f (k+1)∈nb (f k))(hS:∀ p z,S p->z∈nb p->inG n z->S z)(k m:Nat)(h:∀ i ≤ k+m,inG n (f i)):S (f k)↔S (f (k+m)):=by
 induction m with
 | zero=>exact Iff.rfl
 | succ m ih=>exact (ih λ i hi=>h i (Nat.le_succ_of_le hi)).trans ⟨λ s=>hS _ _ s (hf _) (h _ (Nat.le_refl _)),λ s=>hS _ _ s (zqP (hf _)) (h _ (Nat.le_succ _))⟩
theorem zzY {n:Nat}{S:Pt->Prop}(f:Nat->Pt)(hf:∀ k,f (k+1)∈nb (f k))(hS:∀ p z,S p->z∈nb p->inG n z->S z)(hg:∀ i<n,inG n (f i)){i j:Nat}(hi:i<n)(hj:j<n):S (f i)↔S (f j):=by
 rcases Nat.le_total i j with h|h
 ·obtain⟨m,rfl⟩:=Nat.exists_eq_add_of_le h
  exact zsH f hf hS i m λ k hk=>hg k (Nat.lt_of_le_of_lt hk hj)
 ·obtain⟨m,rfl⟩:=Nat.exists_eq_add_of_le h
  exact (zsH f hf hS j m λ k hk=>hg k (Nat.lt_of_le_of_lt hk hi)).symm
theorem ycY {n:Nat}{S:Pt->Prop}(hS:∀ p z,S p->z∈nb p->inG n z->S z)(p q:Pt)(hp:inG n p)(hq:inG n q)(h:S p):S q:=by
 obtain⟨a,b⟩:=p;obtain⟨c,d⟩:=q;refine q03 hp λ u0 p3 p4=>?_;obtain⟨p1,p2⟩:=u0;refine q03 hq λ u0 q3 q4=>?_;obtain⟨q1,q2⟩:=u0;obtain⟨a,rfl⟩:=Int.eq_ofNat_of_zero_le p1;obtain⟨b,rfl⟩:=Int.eq_ofNat_of_zero_le p3;obtain⟨c,rfl⟩:=Int.eq_ofNat_of_zero_le q1;obtain⟨d,rfl⟩:=Int.eq_ofNat_of_zero_le q3;have p2:=Int.ofNat_lt.mp p2;have p4:=Int.ofNat_lt.mp p4;have q2:=Int.ofNat_lt.mp q2;have q4:=Int.ofNat_lt.mp q4;have g:∀ i j:Nat,i<n->j<n->inG n ((i:Int),(j:Int)):=λ i j hi hj=>⟨⟨Int.natCast_nonneg _,Int.ofNat_lt.mpr hi⟩,Int.natCast_nonneg _,Int.ofNat_lt.mpr hj⟩
 have h1:S ((c:Int),(b:Int)):=(zzY (λ i=>((i:Int),(b:Int))) (λ k=>.tail _ (.head _)) hS (λ i hi=>g i b hi p4) p2 q2).mp h;exact (zzY (λ i=>((c:Int),(i:Int))) (λ k=>.tail _ (.tail _ (.tail _ (.head _)))) hS (λ i hi=>g c i q2 hi) p4 q4).mp h1
theorem zzA {n:Nat}:(grid n).Nodup:=by
 unfold grid;refine List.nodup_iff_pairwise_ne.mpr ?_;rw[List.pairwise_flatMap];constructor
 ·intro i _
  rw[List.pairwise_map];exact (List.nodup_iff_pairwise_ne.mp List.nodup_range).imp λ h e=>h (by have:=congrArg Prod.snd e;exact Int.ofNat.inj (by simpa using this))
 ·refine (List.nodup_iff_pairwise_ne.mp List.nodup_range).imp λ h x hx y hy e=>?_
  refine q12 (List.mem_map.mp hx) λ i _ u0=>?_;subst u0;refine q12 (List.mem_map.mp hy) λ j _ u0=>?_;subst u0;exact h (by have:=congrArg Prod.fst e;exact Int.ofNat.inj (by simpa using this))
theorem zyU {n:Nat}{l:List Pt}(hn:l.Nodup)(hg:∀ z∈l,inG n z)(hl:l.length=n*n){z:Pt}(hz:inG n z):z∈l:=by
 by_cases h:z∈l
 ·exact h
 ·have:=nodup_le (l:=z::l) (m:=grid n) (List.nodup_cons.mpr ⟨h,hn⟩) λ x hx=>by
   rcases List.mem_cons.mp hx with rfl|hx
   ·exact zdG.mpr hz
   ·exact zdG.mpr (hg x hx)
  rw[List.length_cons,zgP]at this;lia
theorem zjP {l:List Pt}{q:Pt}(hn:l.Nodup)(h:∀ z,z∈l↔z=q):l=[q]:=by
 match l,hn,h with
 | [],_,h=>exact absurd ((h q).mpr rfl) (by simp)
 | [a],_,h=>rw[(h a).mp (.head _)]
 | a::b::r,hn,h=>
  have e1:=(h a).mp (.head _);have e2:=(h b).mp (.tail _ (.head _));rw[e1,e2]at hn;exact absurd (List.mem_cons_self) (List.nodup_cons.mp hn).1
section
variable {n:Nat}{G:Pt->Option Str}{col opp:Str}{p:Pt}{L:List (Str×List Pt)}{hdl:List Pt}
structure yiX (n:Nat)(G:Pt->Option Str)(col opp:Str)(p:Pt):Prop where
 hp:inG n p
 hG:G p=some col
 hne:col≠opp
 hval:∀ q s,G q=some s->s=col\/s=opp
 hsup:∀ z,G z≠none->inG n z
noncomputable def Tk (n:Nat)(G:Pt->Option Str)(opp:Str)(p q:Pt):Prop:=∃ z∈nb p,inG n z/\G z=some opp/\zjW n G opp z/\zaV n G opp z q
variable (S:yiX n G col opp p)(F:FSI n G (p::nb p) L hdl)
theorem zdT {q:Pt}:q∈zcF L↔∃ A∈L,q∈A.2:=by simp[zcF]
include S F in
theorem ymE {A:Str×List Pt}(hA:A∈L):A.1=col\/A.1=opp:=by
 refine q13 (F.grp A hA) λ z _ hz _=>?_;exact S.hval z _ hz.col
include S F in
theorem zhR {A:Str×List Pt}(hA:A∈L)(hc:A.1=col):p∈A.2/\zjW n G col p/\∀ q,q∈A.2↔zaV n G col p q:=by
 refine q13 (F.grp A hA) λ z hz g sr=>?_;have gc:=g.col;rw[hc]at gc sr;have r:zaV n G col z p:=by
  rcases List.mem_cons.mp hz with rfl|hz
  ·exact .refl S.hp S.hG
  ·exact .step (.refl g.inG gc) (zqP hz) S.hp S.hG
 refine⟨(g.mem p).mpr (hc▸r),sr.of_reach r,λ q=>?_⟩;rw[g.mem q,hc];exact⟨λ h=>r.symm.trans h,λ h=>r.trans h⟩
include S F in
theorem zkE {q:Pt}:q∈zcF (L.filter λ A=>A.1==opp)↔Tk n G opp p q:=by
 rw[zdT];constructor
 ·intro uu;refine q12 uu λ A hA hq=>?_
  obtain⟨hA,hc⟩:=List.mem_filter.mp hA;have hc:A.1=opp:=by simpa using hc
  refine q13 (F.grp A hA) λ z hz g sr=>?_;have gc:=g.col;rw[hc]at gc sr;rcases List.mem_cons.mp hz with rfl|hz
  ·rw[S.hG]at gc;exact absurd (Option.some.inj gc) S.hne
  ·exact⟨z,hz,g.inG,gc,sr,hc▸(g.mem q).mp hq⟩
 ·intro uu;refine q15 uu λ z hz hg hc hs hr=>?_
  refine q12 (F.all z (.tail _ hz) hg opp hc hs) λ P hP hm=>?_;refine q13 (F.grp _ hP) λ w _ g _=>?_;exact⟨_,List.mem_filter.mpr ⟨hP,by simp⟩,(g.mem q).mpr (((g.mem z).mp hm).trans hr)⟩
include S F in
theorem yjN {q:Pt}:q∈zcF (L.filter λ A=>A.1==col)↔zjW n G col p/\zaV n G col p q:=by
 rw[zdT];constructor
 ·intro uu;refine q12 uu λ A hA hq=>?_
  obtain⟨hA,hc⟩:=List.mem_filter.mp hA;refine q03 (zhR S F hA (by simpa using hc)) λ _ h2 h3=>?_;exact⟨h2,(h3 q).mp hq⟩
 ·rintro⟨hs,hr⟩
  refine q12 (F.all p (.head _) S.hp col S.hG hs) λ P hP hm=>?_;exact⟨_,List.mem_filter.mpr ⟨hP,by simp⟩,((zhR S F hP rfl).2.2 q).mpr hr⟩
theorem yhB {p:Pt}:∀ {M:List (Str×List Pt)},(M.Pairwise λ A B=>∀ q∈A.2,q∉B.2)->(∀ A∈M,p∈A.2)->M.length<=1
 | [],_,_=>by simp
 | [A],_,_=>by simp
 | A::B::r,hp,h=>absurd (h B (.tail _ (.head _))) ((List.pairwise_cons.mp hp).1 B (.head _) p (h A (.head _)))
include S F in
theorem ycG:(L.filter λ A=>A.1==col).length<=1:=
 yhB (F.apart.filter (λ A=>A.1==col)) λ A hA=>by
  obtain⟨hA,cA⟩:=List.mem_filter.mp hA;exact (zhR S F hA (by simpa using cA)).1
theorem znV {M:List (Str×List Pt)}{A:Str×List Pt}(h:M.length<=1)(hA:A∈M):M=[A]:=by
 match M,h,hA with
 | [B],_,hA=>rw[List.mem_singleton.mp hA]
 | B::C::r,h,_=>simp at h
include F in
theorem yhH {A:Str×List Pt}(hA:A∈L):∃ z,z∈A.2:=let ⟨z,_,g,_⟩:=F.grp A hA;⟨z,g.self⟩
include S F in
theorem ydA (h:∀ q,¬ Tk n G opp p q):(L.filter λ A=>A.1==col)=L:=List.filter_eq_self.mpr λ A hA=>by
 rcases ymE S F hA with q|q
 ·simp[q]
 ·obtain⟨z,hz⟩:=yhH F hA
  exact absurd ((zkE S F).mp (zdT.mpr ⟨A,List.mem_filter.mpr ⟨hA,by simp[q]⟩,hz⟩)) (h z)
include S F in
theorem yiD {q0 q:Pt}(h:Tk n G opp p q0):q∈zcF (zgN opp L)↔Tk n G opp p q:=by
 rw[<- zkE S F (q:=q)];have h0:=(zkE S F).mpr h;unfold zgN;split
 ·rename_i hl
  obtain⟨A,rfl⟩:=List.length_eq_one_iff.mp hl;refine q12 (zdT.mp h0) λ B hB _=>?_;obtain⟨hB,hc⟩:=List.mem_filter.mp hB;rw[List.mem_singleton.mp hB]at hc;rw[List.filter_cons,if_pos hc,List.filter_nil]
 ·exact Iff.rfl
include S F in
theorem zuX {q:Pt}(h:∀ q,¬ Tk n G opp p q):q∈zcF (zgN opp L)↔zjW n G col p/\zaV n G col p q:=by
 rw[<- yjN S F];have hc:=ydA S F h;have hl:=ycG S F;rw[hc]at hl ⊢;unfold zgN;split
 ·exact Iff.rfl
 ·have:L=[]:=List.length_eq_zero_iff.mp (by lia)
  subst this;exact Iff.rfl
noncomputable def zgK (tk ow:List Pt):List Pt:=if tk=[] then ow else tk
noncomputable def yjS (n:Nat)(G:Pt->Option Str)(col:Str)(p:Pt)(ow:List Pt):Prop:=(¬ zjW n G col p/\ow=[])\/(zjW n G col p/\zvW n G p (col,ow))
variable {tk ow:List Pt}
include S F in
theorem ymC (ht:∀ q,q∈tk↔Tk n G opp p q)(ho:yjS n G col p ow)(q:Pt):q∈zcF (zgN opp L)↔q∈zgK tk ow:=by
 unfold zgK;split
 ·rename_i e
  rw[zuX S F λ z hz=>by have:=(ht z).mpr hz;rw[e]at this;cases this];rcases ho with ⟨h,rfl⟩|⟨h,g⟩
  ·simp[h]
  ·rw[g.mem q];simp[h]
 ·rename_i e
  obtain⟨z,hz⟩:=List.exists_mem_of_ne_nil _ e;rw[yiD S F ((ht z).mp hz),ht q]
include S F in
theorem ko_eq (ht:∀ q,q∈tk↔Tk n G opp p q)(hn:tk.Nodup)(ho:yjS n G col p ow):zoL col opp L=if tk.length=1/\ow=[p] then tk.head? else none:=by
 have hnd:∀ A∈L,A.2.Nodup:=λ A hA=>let ⟨z,_,g,_⟩:=F.grp A hA;g.nodup
 split
 ·rename_i h
  obtain⟨h1,rfl⟩:=h;obtain⟨q,rfl⟩:=List.length_eq_one_iff.mp h1;have hs:zjW n G col p/\zvW n G p (col,[p]):=by
   rcases ho with ⟨_,e⟩|h
   ·cases e
   ·exact h
  refine q12 (F.all p (.head _) S.hp col S.hG hs.1) λ P hP hm=>?_;have hPp:P=[p]:=zjP (hnd _ hP) λ z=>by
   rw[(zhR S F hP rfl).2.2 z,<- hs.2.mem z];simp
  subst hPp;have hc:(L.filter λ A=>A.1==col)=[(col,[p])]:=by
   exact znV (ycG S F) (List.mem_filter.mpr ⟨hP,by simp⟩)
  have hq:=(zkE S F).mpr ((ht q).mp (.head _));have hop:∀ A∈L.filter (λ A=>A.1==opp),A=(opp,[q]):=λ A hA=>by
   obtain⟨hA',hc'⟩:=List.mem_filter.mp hA;have sub:∀ z∈A.2,z=q:=λ z hz=>List.mem_singleton.mp ((ht z).mpr ((zkE S F).mp (zdT.mpr ⟨A,hA,hz⟩)));obtain⟨z,hz⟩:=yhH F hA';have:=zjP (hnd A hA') (q:=q) λ y=>⟨sub y,λ e=>by rw[e,<- sub z hz];exact hz⟩
   exact Prod.ext (by simpa using hc') this
  have ho1:(L.filter λ A=>A.1==opp)=[(opp,[q])]:=by
   refine znV (yhB (p:=q) (F.apart.filter _) λ A hA=>?_) ?_
   ·rw[hop A hA];exact .head _
   ·refine q12 (zdT.mp hq) λ A hA _=>?_
    exact hop A hA▸hA
  refine yhI (q':=p) (s:=col) (o:=opp) (r:=[]) ?_ ho1 hc
  match L,hc,ho1 with
  | [],hc,_=>cases hc
  | [A],hc,ho1=>
   rw[List.filter_cons,List.filter_nil]at hc ho1;split at hc
   ·split at ho1
    ·cases hc;simp at ho1;exact absurd ho1.1 S.hne
    ·cases ho1
   ·cases hc
  | A::B::r,_,_=>simp
 ·rename_i h
  cases e:zoL col opp L with
  | none=>rfl
  | some q=>
   exfalso
   apply h;refine q42 (zsV e) λ o' s' r' r'' ho1 hc1=>?_;have h1:tk=[q]:=zjP hn λ z=>by
    rw[ht z,<- zkE S F,ho1];simp[zcF]
   have hm:(s',[r'])∈L.filter λ A=>A.1==col:=by rw[hc1];exact .head _
   obtain⟨hm,hcc⟩:=List.mem_filter.mp hm;refine q03 (zhR S F hm (by simpa using hcc)) λ o1 o2 o3=>?_;have hr:r'=p:=(List.mem_singleton.mp o1).symm;subst hr;refine⟨by rw[h1];rfl,?_⟩;rcases ho with ⟨x,_⟩|⟨_,g⟩
   ·exact absurd o2 x
   ·exact zjP g.nodup λ z=>by rw[g.mem z,<- o3 z];simp
include S F in
theorem em_eq:zxZ n L=true↔∀ z,rm G (zcF (zgN opp L)) z=none:=by
 constructor
 ·intro h z
  cases L with
  | nil=>cases h
  | cons A r=>
  cases r with
  | cons=>cases h
  | nil=>
   replace h:A.2.length=n*n:=of_decide_eq_true h;refine q13 (F.grp A (.head _)) λ y _ g _=>?_
   by_cases hz:inG n z
   ·have:=zyU g.nodup (λ x hx=>((g.mem x).mp hx).inG) h hz
    unfold rm;rw[if_pos (zdT.mpr ⟨A,by simp[zgN],this⟩)]
   ·unfold rm
    split
    ·rfl
    ·cases q:G z with
     | none=>rfl
     | some c=>exact absurd (S.hsup z (by rw[q];simp)) hz
 ·intro h
  have hr:∀ z,G z≠none->z∈zcF (zgN opp L):=λ z hz=>by
   by_cases q:z∈zcF (zgN opp L)
   ·exact q
   ·have:=h z;unfold rm at this;rw[if_neg q]at this;exact absurd this hz
  have hpc:=hr p (by rw[S.hG];simp);have hnt:∀ q,¬ Tk n G opp p q:=λ q hq=>by
   refine q15 ((yiD S F hq).mp hpc) λ z _ _ _ _ hrz=>?_;have:=hrz.col;rw[S.hG]at this;exact S.hne (Option.some.inj this)
  have hs:=((zuX S F hnt).mp hpc).1;have hreach:∀ z,inG n z->zaV n G col p z:=λ z hz=>by
   refine ycY (n:=n) (S:=λ z=>zaV n G col p z) (λ y w hy hw hg=>?_) p z S.hp hz (.refl S.hp S.hG);have:G w≠none:=λ e=>hs y hy ⟨w,hw,hg,e⟩;exact ((zuX S F hnt).mp (hr w this)).2
  refine q12 (F.all p (.head _) S.hp col S.hG hs) λ P hP hm=>?_;have hc:=ydA S F hnt;have hl:=ycG S F;rw[hc]at hl;have hL:L=[(col,P)]:=znV hl hP;subst hL;refine decide_eq_true (p:=P.length=n*n) ?_;refine q13 (F.grp _ hP) λ _ _ g _=>?_;have o3:=(zhR S F hP rfl).2.2;have l1:=nodup_le g.nodup (m:=grid n) λ x hx=>zdG.mpr (((o3 x).mp hx).inG);have l2:=nodup_le (zzA (n:=n)) (m:=P) λ x hx=>(o3 x).mpr (hreach x (zdG.mp hx));rw[zgP]at l1 l2;exact Nat.le_antisymm l1 l2
end
section
variable {n:Nat}{G:Pt->Option Str}{opp:Str}{z:Pt}{dn tk gl:List Pt}
theorem zjX (h:n<=5):n*n<=25:=Nat.mul_le_mul h h
end
noncomputable def pOf (n k:Nat):Pt:=(((k / n:Nat):Int),((k % n:Nat):Int))
noncomputable def zsD (n k:Nat):List Nat:=(if n<=k then [k-n] else [])++(if k+n<n*n then [k+n] else [])++(if 0<k % n then [k-1] else [])++(if k % n+1<n then [k+1] else [])
noncomputable def yeM (n k:Nat):List Int:=(if (n:Int)<=k then [(k:Int)-n] else [])++(if (k:Int)<n*n-n then [(k:Int)+n] else [])++(if 0<Int.fmod k n then [(k:Int)-1] else [])++(if Int.fmod k n<n-1 then [(k:Int)+1] else [])
theorem yaY:∀ n<6,∀ k<25,k<n*n->yeM n k=(zsD n k).map λ j:Nat=>(j:Int):=by decide +kernel
theorem ycF:∀ n<6,∀ k<25,k<n*n->∀ j∈zsD n k,j<n*n:=by decide +kernel
theorem ybW:∀ n<6,∀ k<25,k<n*n->∀ j<25,j<n*n->(decide (j∈zsD n k)=decide (pOf n j∈nb (pOf n k))):=by decide +kernel
theorem ypR {n k:Nat}(h:n<=5)(hk:k<n*n):k<25:=Nat.lt_of_lt_of_le hk (zjX h)
theorem yfN {n k:Nat}(h:n<=5)(hk:k<n*n):yeM n k=(zsD n k).map λ j:Nat=>(j:Int):=yaY n (Nat.lt_succ_of_le h) k (ypR h hk) hk
theorem zqX {n k j:Nat}(h:n<=5)(hk:k<n*n)(hj:j∈zsD n k):j<n*n:=ycF n (Nat.lt_succ_of_le h) k (ypR h hk) hk j hj
theorem zmQ {n k j:Nat}(h:n<=5)(hk:k<n*n)(hj:j<n*n):j∈zsD n k↔pOf n j∈nb (pOf n k):=decide_eq_decide.mp (ybW n (Nat.lt_succ_of_le h) k (ypR h hk) hk j (ypR h hj) hj)
theorem zeP {n k:Nat}(hk:k<n*n):inG n (pOf n k):=by
 have h0:0<n:=Nat.pos_of_ne_zero λ q=>by subst q;exact absurd hk (Nat.not_lt_zero _)
 exact⟨⟨Int.natCast_nonneg _,Int.ofNat_lt.mpr (Nat.div_lt_of_lt_mul hk)⟩,Int.natCast_nonneg _,Int.ofNat_lt.mpr (Nat.mod_lt _ h0)⟩
theorem ziH {n k j:Nat}(h:pOf n k=pOf n j):k=j:=by
 have h1:=Int.ofNat.inj (congrArg Prod.fst h);have h2:=Int.ofNat.inj (congrArg Prod.snd h);rw[<- Nat.div_add_mod k n,<- Nat.div_add_mod j n,h1,h2]
theorem zfK {n:Nat}{z:Pt}(h:inG n z):∃ k,k<n*n/\pOf n k=z:=by
 obtain⟨a,b⟩:=z;refine q03 h λ u0 h3 h4=>?_;obtain⟨h1,h2⟩:=u0;obtain⟨a,rfl⟩:=Int.eq_ofNat_of_zero_le h1;obtain⟨b,rfl⟩:=Int.eq_ofNat_of_zero_le h3;have h2:a<n:=Int.ofNat_lt.mp h2;have h4:b<n:=Int.ofNat_lt.mp h4;have h0:0<n:=Nat.lt_of_le_of_lt (Nat.zero_le _) h4;refine⟨n*a+b,Nat.lt_of_lt_of_le (Nat.add_lt_add_left h4 _) (by rw[<- Nat.mul_succ];exact Nat.mul_le_mul_left _ h2),?_⟩;unfold pOf;rw[Nat.mul_add_div h0,Nat.div_eq_of_lt h4,Nat.mul_add_mod,Nat.mod_eq_of_lt h4,Nat.add_zero]
noncomputable def znY (n:Nat)(G:Pt->Option Str)(k:Nat):Prop:=∃ c,G (pOf n k)=some c/\¬ zjW n G c (pOf n k)
noncomputable def zuN (n:Nat)(G:Pt->Option Str)(k:Nat):Prop:=∃ c,G (pOf n k)=some c/\zjW n G c (pOf n k)
section
variable {n:Nat}{G:Pt->Option Str}{k j:Nat}
theorem znY.step (h5:n<=5)(hk:k<n*n)(hj:j∈zsD n k)(h:znY n G k)(e:G (pOf n j)=G (pOf n k)):znY n G j:=by
 refine q12 h λ c hc hs=>?_;have hj':=zqX h5 hk hj;have r:zaV n G c (pOf n k) (pOf n j):=.step (.refl (zeP hk) hc) ((zmQ h5 hk hj').mp hj) (zeP hj') (e.trans hc);exact⟨c,e.trans hc,λ s=>hs (s.of_reach r.symm)⟩
theorem znY.free {c:Str}(hk:k<n*n)(hc:G (pOf n k)=some c)(hf:ydU n G (pOf n k)):znY n G k:=⟨c,hc,λ s=>s _ (.refl (zeP hk) hc) hf⟩
theorem ztD (h5:n<=5)(hk:k<n*n):ydU n G (pOf n k)↔∃ j∈zsD n k,G (pOf n j)=none:=by
 constructor
 ·intro uu;refine q13 uu λ z hz hg hn=>?_
  refine q12 (zfK hg) λ j hj u0=>?_;subst u0;exact⟨j,(zmQ h5 hk hj).mpr hz,hn⟩
 ·intro uu;refine q12 uu λ j hj hn=>?_
  have hj':=zqX h5 hk hj;exact⟨_,(zmQ h5 hk hj').mp hj,zeP hj',hn⟩
structure LV (n:Nat)(G:Pt->Option Str)(gl:List Nat)(i:Nat):Prop where
 seed:∀ k<n*n,G (pOf n k)≠none->ydU n G (pOf n k)->k∈gl
 alive:∀ k∈gl,k<n*n/\znY n G k
 closed:∀ a k,a<i->gl[a]?=some k->∀ j∈zsD n k,G (pOf n j)=G (pOf n k)->j∈gl
 nd:gl.Nodup
 le:i<=gl.length
theorem LV.more {gl:List Nat}{i:Nat}(h:LV n G gl i)(hj:j<n*n)(ha:znY n G j)(hin:j∉gl):LV n G (gl++[j]) i:=by
 refine⟨λ k hk hc hf=>List.mem_append_left _ (h.seed k hk hc hf),λ k hk=>?_,λ a k hai hg j' hj' e=>?_,?_,?_⟩
 ·rcases List.mem_append.mp hk with hk|hk
  ·exact h.alive k hk
  ·rw[List.mem_singleton.mp hk];exact⟨hj,ha⟩
 ·rw[List.getElem?_append_left (Nat.lt_of_lt_of_le hai h.le)]at hg
  exact List.mem_append_left _ (h.closed a k hai hg j' hj' e)
 ·exact List.nodup_append.mpr ⟨h.nd,List.nodup_cons.mpr ⟨by simp,List.nodup_nil⟩,λ a ha b hb e=>hin (by rw[List.mem_singleton.mp hb]at e;rw[<- e];exact ha)⟩
 ·rw[List.length_append];exact Nat.le_trans h.le (Nat.le_add_right _ _)
theorem LV.turn {gl:List Nat}{i:Nat}(h:LV n G gl i)(hk:gl[i]?=some k)(hc:∀ j∈zsD n k,G (pOf n j)=G (pOf n k)->j∈gl):LV n G gl (i+1):=by
 refine⟨h.seed,h.alive,λ a k' hai hg=>?_,h.nd,(List.getElem?_eq_some_iff.mp hk).1⟩;rcases Nat.lt_or_eq_of_le (Nat.le_of_lt_succ hai) with q|rfl
 ·exact h.closed a k' q hg
 ·rw[hk]at hg;cases hg;exact hc
theorem LV.done {gl:List Nat}(h5:n<=5)(h:LV n G gl gl.length)(hk:k<n*n):k∈gl↔znY n G k:=by
 refine⟨λ hm=>(h.alive k hm).2,λ u9=>q12 u9 λ c hc hs=>?_⟩;have h1:∃ q,zaV n G c (pOf n k) q/\ydU n G q:=by
  refine Classical.byContradiction λ hno=>hs λ q hq hf=>hno ⟨q,hq,hf⟩
 refine q12 h1 λ q hq hf=>?_;have key:∀ z,zaV n G c q z->∀ j<n*n,pOf n j=z->j∈gl:=λ z hz=>by
  induction hz with
  | refl a b=>
   intro j hj e;exact h.seed j hj (by rw[e,b];simp) (by rw[e];exact hf)
  | step hr hnb hg hcz ih=>
   intro j hj e;refine q12 (zfK hr.inG) λ i hi ei=>?_;have hm:=ih i hi ei;obtain⟨a,ha⟩:=List.getElem?_of_mem hm;refine h.closed a i (List.getElem?_eq_some_iff.mp ha).1 ha j ((zmQ h5 hi hj).mpr (by rw[e,ei];exact hnb)) ?_;rw[e,ei,hcz,hr.col]
 exact key _ hq.symm k hk rfl
theorem LV.len {gl:List Nat}{i:Nat}(h:LV n G gl i):gl.length<=n*n:=by
 have e:(gl.map (pOf n)).length<=(grid n).length:=nodup_le (List.Pairwise.map _ (λ a b hab e=>hab (ziH e)) h.nd) λ z hz=>by
  refine q12 (List.mem_map.mp hz) λ k hk u0=>?_;subst u0;exact zdG.mpr (zeP (h.alive k hk).1)
 rwa [List.length_map,zgP]at e
theorem yeS {c:Str}(hc:G (pOf n k)=some c):¬ znY n G k↔zuN n G k:=by
 constructor
 ·intro h
  exact⟨c,hc,Classical.byContradiction λ s=>h ⟨c,hc,s⟩⟩
 ·rintro⟨c',hc',s⟩ ⟨c'',hc'',s'⟩
  rw[hc']at hc'';cases hc'';exact s' s
end
noncomputable def zmX (n:Nat)(G:Pt->Option Str):Prop:=∀ q c,inG n q->G q=some c->¬ zjW n G c q
theorem zmK {n:Nat}{G:Pt->Option Str}{c:Str}{q:Pt}(h:¬ zjW n G c q):∃ x,zaV n G c q x/\ydU n G x:=
 Classical.byContradiction λ hno=>h λ x hx hf=>hno ⟨x,hx,hf⟩
theorem zaV.mono {n:Nat}{G G':Pt->Option Str}{c:Str}{p q:Pt}(h:zaV n G c p q)(hg:∀ z,zaV n G c p z->G' z=some c):zaV n G' c p q:=by
 induction h with
 | refl a b=>exact .refl a (hg _ (.refl a b))
 | step hr a b e ih=>exact .step ih a b (hg _ (.step hr a b e))
section
variable {n:Nat}{G:Pt->Option Str}{col:Str}{p q:Pt}{c:Str}
theorem zwQ {v:Option Str}(h:q≠p):put G p v q=G q:=if_neg h
theorem zfI {v:Option Str}:put G p v p=v:=if_pos rfl
theorem zwI (leg:zmX n G)(hp:G p=none)(hpn:inG n p)(hq:put G p (some col) q=some c)(hqn:inG n q)(hs:zjW n (put G p (some col)) c q):
  (c=col/\zaV n (put G p (some col)) col p q)\/(c≠col/\∃ z∈nb p,zaV n (put G p (some col)) c z q):=by
 by_cases e:q=p
 ·subst e
  rw[zfI]at hq;cases hq;exact .inl ⟨rfl,.refl hqn zfI⟩
 have hG:G q=some c:=by rw[zwQ e]at hq;exact hq
 refine q12 (zmK (leg q c hqn hG)) λ x hx u8=>q13 u8 λ z hz hzn hz0=>?_;have up:∀ {y},zaV n G c q y->zaV n (put G p (some col)) c q y:=λ h=>h.mono λ w hw=>by
  rw[zwQ λ q=>by subst q;have:=hw.col;rw[hp]at this;cases this];exact hw.col
 have hzp:z=p:=Classical.byContradiction λ hne=>hs x (up hx) ⟨z,hz,hzn,by rw[zwQ hne];exact hz0⟩;subst hzp
 by_cases hc:c=col
 ·subst hc
  exact .inl ⟨rfl,(zaV.step (up hx) hz hpn zfI).symm⟩
 ·exact .inr ⟨hc,x,zqP hz,(up hx).symm⟩
end
noncomputable def zcG (n:Nat)(f:Nat->Bool):List Nat:=(List.range (n*n)).filter f
noncomputable def zdX (n:Nat)(G:Pt->Option Str)(col:Str)(f:Nat->Bool):List Nat:=(zcG n f).filter λ j=>!(G (pOf n j)==some col)
noncomputable def zhN (n:Nat)(G:Pt->Option Str)(col:Str)(f:Nat->Bool):List Nat:=if zdX n G col f=[] then zcG n f else zdX n G col f
noncomputable def koL (n:Nat)(G:Pt->Option Str)(col:Str)(f:Nat->Bool):Option Nat:=if (zdX n G col f).length=1/\(zcG n f).length=2 then (zdX n G col f).head? else none
section
variable {n:Nat}{G G1:Pt->Option Str}{col opp:Str}{p:Pt}{f:Nat->Bool}{L:List (Str×List Pt)}{hdl:List Pt}
theorem zcX {j:Nat}:j∈zcG n f↔j<n*n/\f j=true:=by unfold zcG;rw[List.mem_filter,List.mem_range]
theorem ycK:(zcG n f).Nodup:=List.nodup_range.filter _
theorem ztV (S:yiX n G1 col opp p)(leg:zmX n G)(hp:G p=none)(e:G1=put G p (some col))(hf:∀ k<n*n,f k=true↔zuN n G1 k)(q:Pt):q∈(zdX n G1 col f).map (pOf n)↔Tk n G1 opp p q:=by
 rw[List.mem_map];constructor
 ·intro uu;refine q12 uu ?_;clear uu;intro j hj0 u0;subst u0
  obtain⟨hj1,hc⟩:=List.mem_filter.mp hj0;obtain⟨hj,hfj⟩:=zcX.mp hj1;clear hj0 hj1;refine q12 ((hf j hj).mp hfj) λ c hcj hs=>?_;have hco:c≠col:=λ q=>by rw[hcj,q]at hc;simp at hc
  have hcp:c=opp:=(S.hval _ _ hcj).resolve_left hco;subst hcp;subst e;rcases zwI leg hp S.hp hcj (zeP hj) hs with ⟨h,_⟩|⟨_,z,hz,hr⟩
  ·exact absurd h hco
  ·exact⟨z,hz,hr.start.1,hr.start.2,hs.of_reach hr.symm,hr⟩
 ·intro uu;refine q15 uu λ z hz hzn hzc hs hr=>?_
  refine q12 (zfK hr.inG) λ j hj u0=>?_;subst u0;refine⟨j,List.mem_filter.mpr ⟨zcX.mpr ⟨hj,(hf j hj).mpr ⟨opp,hr.col,hs.of_reach hr⟩⟩,?_⟩,rfl⟩;rw[hr.col]
  simpa using λ q=>S.hne q.symm
theorem yfB:((zdX n G1 col f).map (pOf n)).Nodup:=List.Pairwise.map _ (λ a b hab e=>hab (ziH e)) (ycK.filter _)
noncomputable def zzD (n:Nat)(G:Pt->Option Str)(col:Str)(f:Nat->Bool):List Nat:=(zcG n f).filter λ j=>G (pOf n j)==some col
theorem yiG (S:yiX n G1 col opp p)(leg:zmX n G)(hp:G p=none)(e:G1=put G p (some col))(hf:∀ k<n*n,f k=true↔zuN n G1 k):yjS n G1 col p ((zzD n G1 col f).map (pOf n)):=by
 have mem:∀ q,q∈(zzD n G1 col f).map (pOf n)↔zaV n G1 col p q/\zjW n G1 col p:=λ q=>by
  rw[List.mem_map];constructor
  ·intro uu;refine q12 uu ?_;clear uu;intro j hj0 u0;subst u0
   obtain⟨hj1,hc⟩:=List.mem_filter.mp hj0;obtain⟨hj,hfj⟩:=zcX.mp hj1;clear hj0 hj1;refine q12 ((hf j hj).mp hfj) λ c hcj hs=>?_;have hco:c=col:=by rw[hcj]at hc;simpa using hc
   subst hco;subst e;rcases zwI leg hp S.hp hcj (zeP hj) hs with ⟨_,hr⟩|⟨h,_⟩
   ·exact⟨hr,hs.of_reach hr.symm⟩
   ·exact absurd rfl h
  ·rintro⟨hr,hs⟩
   refine q12 (zfK hr.inG) λ j hj u0=>?_;subst u0;refine⟨j,List.mem_filter.mpr ⟨zcX.mpr ⟨hj,(hf j hj).mpr ⟨col,hr.col,hs.of_reach hr⟩⟩,?_⟩,rfl⟩;rw[hr.col];simp
 by_cases hs:zjW n G1 col p
 ·exact .inr ⟨hs,S.hp,S.hG,λ q=>(mem q).trans ⟨λ h=>h.1,λ h=>⟨h,hs⟩⟩,List.Pairwise.map _ (λ a b hab e=>hab (ziH e)) (ycK.filter _)⟩
 ·refine .inl ⟨hs,?_⟩
  cases h:(zzD n G1 col f).map (pOf n) with
  | nil=>rfl
  | cons a l=>exact absurd ((mem a).mp (by rw[h];exact .head _)).2 hs
theorem yeR (l:List Nat)(g:Nat->Bool):l.length=(l.filter g).length+(l.filter λ j=>!g j).length:=by
 induction l with
 | nil=>rfl
 | cons a l ih=>
  rw[List.filter_cons,List.filter_cons,List.length_cons,ih];cases g a
  ·exact Nat.add_assoc ..
  ·exact Nat.add_right_comm ..
theorem ycU (S:yiX n G1 col opp p)(leg:zmX n G)(hp:G p=none)(e:G1=put G p (some col))(hf:∀ k<n*n,f k=true↔zuN n G1 k):(zhN n G1 col f).map (pOf n)=zgK ((zdX n G1 col f).map (pOf n)) ((zzD n G1 col f).map (pOf n)):=by
 unfold zhN zgK
 by_cases h:zdX n G1 col f=[]
 ·rw[if_pos h,if_pos (by rw[h];rfl)]
  congr 1
  unfold zzD;refine (List.filter_eq_self.mpr λ j hj=>?_).symm;have:=List.filter_eq_nil_iff.mp h j hj
  simpa using this
 ·rw[if_neg h,if_neg (by simpa using h)]
theorem yaV (F:FSI n G1 (p::nb p) L hdl)(S:yiX n G1 col opp p)(leg:zmX n G)(hp:G p=none)(e:G1=put G p (some col))(hf:∀ k<n*n,f k=true↔zuN n G1 k):
  rm G1 (zcF (zgN opp L))=rm G1 ((zhN n G1 col f).map (pOf n))/\zoL col opp L=(koL n G1 col f).map (pOf n):=by
 have ht:=ztV S leg hp e hf;have ho:=yiG S leg hp e hf;refine⟨zrG λ q=>by rw[ycU S leg hp e hf];exact ymC S F ht ho q,?_⟩;rw[ko_eq S F ht yfB ho];unfold koL;have hl:=yeR (zcG n f) λ j=>G1 (pOf n j)==some col;have hl:(zcG n f).length=(zzD n G1 col f).length+(zdX n G1 col f).length:=hl;have hown:(zzD n G1 col f).length=1↔(zzD n G1 col f).map (pOf n)=[p]:=by
  constructor
  ·intro h
   rcases ho with ⟨_,q⟩|⟨_,g⟩
   ·have:(zzD n G1 col f).length=0:=by simpa using congrArg List.length q
    lia
   ·obtain⟨a,ha⟩:=List.length_eq_one_iff.mp h
    have:=g.self;rw[show (col,(zzD n G1 col f).map (pOf n)).2=(zzD n G1 col f).map (pOf n) from rfl,ha]at this;rw[ha];exact congrArg (λ x=>[x]) (List.mem_singleton.mp this).symm
  ·intro h
   simpa using congrArg List.length h
 by_cases hc:((zdX n G1 col f).map (pOf n)).length=1/\(zzD n G1 col f).map (pOf n)=[p]
 ·have h1:(zdX n G1 col f).length=1:=by simpa using hc.1
  rw[if_pos hc,if_pos ⟨h1,by have:=hown.mpr hc.2;lia⟩,List.head?_map]
 ·rw[if_neg hc,if_neg λ q=>hc ⟨by simpa using q.1,hown.mp (by lia)⟩];rfl
theorem zmX.move (S:yiX n G1 col opp p)(leg:zmX n G)(hp:G p=none)(e:G1=put G p (some col))(hf:∀ k<n*n,f k=true↔zuN n G1 k):zmX n (rm G1 ((zhN n G1 col f).map (pOf n))):=by
 have ht:=ztV S leg hp e hf;have ho:=yiG S leg hp e hf;rw[ycU S leg hp e hf];generalize (zdX n G1 col f).map (pOf n)=tk at ht;generalize (zzD n G1 col f).map (pOf n)=ow at ho;have cl:∀ c x y,zaV n G1 c x y->y∈zgK tk ow->x∈zgK tk ow:=λ c x y hr hy=>by
  unfold zgK at hy ⊢;split
  ·rename_i h
   rw[if_pos h]at hy;rcases ho with ⟨_,q⟩|⟨hs,g⟩
   ·rw[q]at hy;cases hy
   ·have ry:=(g.mem y).mp hy
    have:c=col:=Option.some.inj (hr.col.symm.trans ry.col);subst this;exact (g.mem x).mpr (ry.trans hr.symm)
  ·rename_i h
   rw[if_neg h]at hy;refine q15 ((ht y).mp hy) λ z hz hzn hzc hs ry=>?_;have:c=opp:=Option.some.inj (hr.col.symm.trans ry.col);subst this;exact (ht x).mpr ⟨z,hz,hzn,hzc,hs,ry.trans hr.symm⟩
 intro q c hqn hq hs;have hqm:q∉zgK tk ow:=λ h=>by unfold rm at hq;rw[if_pos h]at hq;cases hq
 have hq1:G1 q=some c:=by unfold rm at hq;rw[if_neg hqm]at hq;exact hq
 have up:∀ {y},zaV n G1 c q y->zaV n (rm G1 (zgK tk ow)) c q y:=λ h=>h.mono λ w hw=>by
  unfold rm;rw[if_neg λ hm=>hqm (cl c q w hw hm)];exact hw.col
 by_cases hs1:zjW n G1 c q
 ·have hs1':=hs1
  subst e;rcases zwI leg hp S.hp hq1 hqn hs1 with ⟨rfl,hr⟩|⟨hc,z,hz,hr⟩
  ·have sp:=hs1.of_reach hr.symm
   have hne:tk≠[]:=λ q0=>by
    apply hqm;unfold zgK;rw[if_pos q0];rcases ho with ⟨x,_⟩|⟨_,g⟩
    ·exact absurd sp x
    ·exact (g.mem q).mpr hr
   obtain⟨t,ht0⟩:=List.exists_mem_of_ne_nil _ hne;refine q15 ((ht t).mp ht0) λ z hz hzn hzc hsz rz=>?_;have hzm:z∈zgK tk ow:=by
    unfold zgK;rw[if_neg hne];exact (ht z).mpr ⟨z,hz,hzn,hzc,hsz,.refl hzn hzc⟩
   refine hs p (up hr.symm) ⟨z,hz,hzn,?_⟩;unfold rm;rw[if_pos hzm]
  ·apply hqm
   have hco:c=opp:=(S.hval q c hq1).resolve_left hc;subst hco;have hm:q∈tk:=(ht q).mpr ⟨z,hz,hr.start.1,hr.start.2,hs1.of_reach hr.symm,hr⟩;unfold zgK;rw[if_neg λ q0=>by rw[q0]at hm;cases hm];exact hm
 ·refine q12 (zmK hs1) λ x hx u8=>q13 u8 λ z hz hzn hz0=>?_
  refine hs x (up hx) ⟨z,hz,hzn,?_⟩;unfold rm;split
  ·rfl
  ·exact hz0
end
open Classical in
section
variable {n:Nat}{lies:Bool}{line gap:Nat}{stone c:Str}{G:Pt->Option Str}{h:Bool}{p q x z:Pt}
end
noncomputable def zoH (n:Nat)(G:Pt->Option Str):Nat->Bool:=λ k=>@decide (zuN n G k) (Classical.propDecidable _)
theorem zcQ {n:Nat}{G:Pt->Option Str}{k:Nat}:zoH n G k=true↔zuN n G k:=@decide_eq_true_iff _ (Classical.propDecidable _)
theorem zoJ {n:Nat}{f g:Nat->Bool}(h:∀ k<n*n,f k=true↔g k=true):zcG n f=zcG n g:=List.filter_congr λ k hk=>Bool.eq_iff_iff.mpr (h k (List.mem_range.mp hk))
theorem zmU {n:Nat}{G:Pt->Option Str}{col:Str}{f g:Nat->Bool}(h:zcG n f=zcG n g):zdX n G col f=zdX n G col g:=by unfold zdX;rw[h]
theorem zyR {n:Nat}{G:Pt->Option Str}{col:Str}{f g:Nat->Bool}(h:zcG n f=zcG n g):zhN n G col f=zhN n G col g:=by unfold zhN;rw[zmU h,h]
theorem yeE {n:Nat}{G:Pt->Option Str}{col:Str}{f g:Nat->Bool}(h:zcG n f=zcG n g):koL n G col f=koL n G col g:=by unfold koL;rw[zmU h,h]
noncomputable def mvG (n:Nat)(G:Pt->Option Str)(p:Pt)(col:Str):Pt->Option Str:=rm (put G p (some col)) ((zhN n (put G p (some col)) col (zoH n (put G p (some col)))).map (pOf n))
noncomputable def mvK (n:Nat)(G:Pt->Option Str)(p:Pt)(col:Str):Option Nat:=koL n (put G p (some col)) col (zoH n (put G p (some col)))
theorem mv_of {n:Nat}{G:Pt->Option Str}{p:Pt}{col:Str}{f:Nat->Bool}(hf:∀ k<n*n,f k=true↔zuN n (put G p (some col)) k):
  rm (put G p (some col)) ((zhN n (put G p (some col)) col f).map (pOf n))=mvG n G p col/\koL n (put G p (some col)) col f=mvK n G p col:=by
 have h:zcG n f=zcG n (zoH n (put G p (some col))):=zoJ λ k hk=>(hf k hk).trans zcQ.symm;exact⟨by unfold mvG;rw[zyR h],yeE h⟩
section
variable {n:Nat}{lies:Bool}{line gap:Nat}{stone col opp:Str}{G:Pt->Option Str}{h:Bool}{p:Pt}
noncomputable def zpG (n:Nat)(G:Pt->Option Str)(p:Pt)(col:Str):Pt->Option Str:=match G p with
 | none=>mvG n G p col
 | some _=>G
noncomputable def zyY (n:Nat)(G:Pt->Option Str)(p:Pt)(col:Str):Option (Option Nat):=match G p with
 | none=>some (mvK n G p col)
 | some _=>none
theorem ziT (e:G p=none):zpG n G p col=mvG n G p col/\zyY n G p col=some (mvK n G p col):=by unfold zpG zyY;rw[e];exact⟨rfl,rfl⟩
theorem zrD {c:Str}(e:G p=some c):zpG n G p col=G/\zyY n G p col=none:=by unfold zpG zyY;rw[e];exact⟨rfl,rfl⟩
end
section
variable {n:Nat}{lies:Bool}{line gap:Nat}{stone:Str}
end
noncomputable def zuM (c o:Str):Prop:=(c = "b" /\ o = "w")\/(c = "w" /\ o = "b")
theorem zuM.ne {c o:Str}(h:zuM c o):c≠o:=by rcases h with ⟨rfl,rfl⟩|⟨rfl,rfl⟩ <;> decide +kernel
structure zkD (n:Nat)(G:Pt->Option Str):Prop where
 leg:zmX n G
 sup:∀ z,G z≠none->inG n z
 val:∀ q s,G q=some s->s = "b" \/ s = "w"
theorem zkD.strOk {n:Nat}{G:Pt->Option Str}(P:zkD n G):∀ z c,G z=some c->PyData.strOk c=true:=λ z c h=>by
 rcases P.val z c h with rfl|rfl <;> decide +kernel
theorem zkD.set1 {n:Nat}{G:Pt->Option Str}{p:Pt}{col opp:Str}(P:zkD n G)(hp:inG n p)(hco:zuM col opp):yiX n (put G p (some col)) col opp p:=by
 refine⟨hp,zfI,hco.ne,λ q s e=>?_,λ z e=>?_⟩
 ·unfold put at e
  split at e
  ·exact .inl (Option.some.inj e).symm
  ·rcases P.val q s e with rfl|rfl <;> rcases hco with ⟨rfl,rfl⟩|⟨rfl,rfl⟩ <;> simp
 ·unfold put at e
  split at e
  ·rename_i q;rw[q];exact hp
  ·exact P.sup z e
theorem zkD.act {n:Nat}{G:Pt->Option Str}{p:Pt}{col opp:Str}(P:zkD n G)(hp:inG n p)(hco:zuM col opp):zkD n (zpG n G p col):=by
 cases e:G p with
 | some s=>rw[(zrD (n:=n) (col:=col) e).1];exact P
 | none=>
  rw[(ziT (n:=n) (col:=col) e).1];have S:=P.set1 hp hco;refine⟨zmX.move S P.leg e rfl λ k hk=>zcQ,λ z hz=>?_,λ q s e=>?_⟩
  ·unfold mvG rm at hz
   split at hz
   ·exact absurd rfl hz
   ·exact S.hsup z hz
  ·unfold mvG rm at e
   split at e
   ·cases e
   ·rcases S.hval q s e with rfl|rfl <;> rcases hco with ⟨rfl,rfl⟩|⟨rfl,rfl⟩ <;> simp
theorem ygI {n:Nat}{G:Pt->Option Str}{z:Pt}{col opp:Str}{L:List (Str×List Pt)}{hdl:List Pt}(P:zkD n G)(hp:inG n z)(hco:zuM col opp)(g0:G z=none)(fs:FSI n (AM.Internal.put G z (some col)) (z::nb z) L hdl):
  rm (AM.Internal.put G z (some col)) (zcF (zgN opp L))=zpG n G z col/\(∃ o,zyY n G z col=some o/\zoL col opp L=o.map (pOf n))/\(zxZ n L=true↔∀ z',zpG n G z col z'=none):=by
 have S:=P.set1 hp hco;obtain⟨h1,h2⟩:=yaV (f:=zoH n (AM.Internal.put G z (some col))) fs S P.leg g0 rfl λ k hk=>zcQ
 have e1:rm (AM.Internal.put G z (some col)) (zcF (zgN opp L))=zpG n G z col:=by rw[(ziT (n:=n) (col:=col) g0).1];exact h1
 refine⟨e1,⟨_,(ziT (n:=n) (col:=col) g0).2,h2⟩,?_⟩;rw[<- e1];exact em_eq S fs
section
variable {n:Nat}{G:Pt->Option Str}{l:List (Pt×PV)}{e:Pt×PV}
end
section
variable {n:Nat}{G:Pt->Option Str}{p:Pt}{col:Str}{L F:List Pt}
end
/-! a setup: all groups without a free point go -/
section
variable {n:Nat}{S:Pt->Option Str}{L:List (Str×List Pt)}{hdl:List Pt}
theorem yiV (fs:FSI n S (grid n) L hdl){z:Pt}:z∈zcF L↔inG n z/\∃ c,S z=some c/\zjW n S c z:=by
 rw[zdT];constructor
 ·intro uu;refine q12 uu λ A hA hz=>?_
  refine q13 (fs.grp A hA) λ y _ g hs=>?_;have hr:=(g.mem z).mp hz;exact⟨hr.inG,A.1,hr.col,hs.of_reach hr⟩
 ·intro uu;refine q02 uu λ hg u8=>q12 u8 λ c hc hs=>?_
  refine q12 (fs.all z (zdG.mpr hg) hg c hc hs) λ P hP hz=>?_;exact⟨_,hP,hz⟩
theorem set_nil (fs:FSI n S (grid n) L hdl)(h:∀ z,z∉zcF L):L=[]:=by
 cases L with
 | nil=>rfl
 | cons A L=>
  refine q13 (fs.grp A (.head _)) λ y _ g _=>?_;exact absurd (zdT.mpr ⟨A,.head _,g.self⟩) (h y)
variable {Lv:List Pt}
end
noncomputable def tops:List Stmt:=PySem.Challenge.rw_md0058_03.row.toRowW.prog.main.body
noncomputable def zcP (i:Nat):Stmt:=(tops[i]?).getD (.Pass ⟨0,0,0,0⟩)
noncomputable def zdE (i j:Nat):Stmt:=match zcP i with
 | .ClassDef _ _ _ b _ _ _ _ _ _ _=>(b[j]?).getD (.Pass ⟨0,0,0,0⟩)
 | _=>.Pass ⟨0,0,0,0⟩
noncomputable def zaM (st:Stmt):List Stmt:=match st with
 | .FunctionDef _ _ b _ _ _ _ _ _ _=>b
 | _=>[]
noncomputable def zcY (st:Stmt)(q m:String)(t c:Nat):FuncData:=match st with
 | .FunctionDef n ps b _ _ _ sc _ _ _=>{ name:=n,qualname:=Str.ofString q,params:=ps,body:=.stmts b,scope:=sc,globals:=3,closure:=[],defaults:=.none,kwdefaults:=.none,pyModule:=.str (Str.ofString m) t,code:=.ref c }
 | _=>default
noncomputable def zeQ (st:Stmt)(q m:String)(t c:Nat):Obj:={ cls:=.type "function",data:=.func (zcY st q m t c) }
noncomputable abbrev s (x:String):Str:=Str.ofString x
noncomputable abbrev kh (P:Params)(x:Str):Int:=PyData.keyHash P x
noncomputable def heapK:Params->Frag:=λ P=>[(2,{ cls:=.none,data:=Data.dict #[] }),
 (3,{ cls:=.type "dict",data:=Data.dict #[{ hash:=kh P (s "__name__"),key:=.str (s "__name__") 165,val:=.str (s "law_md0058_03") 382 },{ hash:=kh P (s "__doc__"),key:=.str (s "__doc__") 166,val:=.none },{ hash:=kh P (s "__package__"),key:=.str (s "__package__") 167,val:=.none },{ hash:=kh P (s "__loader__"),key:=.str (s "__loader__") 168,val:=Value.builtin "__main__.__loader__#opaque" },{ hash:=kh P (s "__spec__"),key:=.str (s "__spec__") 169,val:=.none },{ hash:=kh P (s "__annotations__"),key:=.str (s "__annotations__") 170,val:=.ref 6 },{ hash:=kh P (s "__builtins__"),key:=.str (s "__builtins__") 171,val:=.ref 4 },{ hash:=kh P (s "__file__"),key:=.str (s "__file__") 173,val:=.str (s "/claim/cut.py") 172 },{ hash:=kh P (s "__cached__"),key:=.str (s "__cached__") 174,val:=.none },{ hash:=kh P (s "_wall"),key:=.str (s "_wall") 193,val:=.ref 21 },{ hash:=kh P (s "_opponents"),key:=.str (s "_opponents") 202,val:=.ref 22 },{ hash:=kh P (s "opponent_of"),key:=.str (s "opponent_of") 209,val:=.ref 29 },{ hash:=kh P (s "_Group"),key:=.str (s "_Group") 231,val:=.ref 39 },{ hash:=kh P (s "Board"),key:=.str (s "Board") 381,val:=.ref 131 },{ hash:=kh P (s "_law_near"),key:=.str (s "_law_near") 392,val:=.ref 142 },{ hash:=kh P (s "_law_breathless"),key:=.str (s "_law_breathless") 398,val:=.ref 147 },{ hash:=kh P (s "_law_move"),key:=.str (s "_law_move") 404,val:=.ref 152 },{ hash:=kh P (s "_law_way"),key:=.str (s "_law_way") 415,val:=.ref 159 },{ hash:=kh P (s "_law_set"),key:=.str (s "_law_set") 426,val:=.ref 166 },{ hash:=kh P (s "_law_told"),key:=.str (s "_law_told") 437,val:=.ref 173 },{ hash:=kh P (s "_law_again"),key:=.str (s "_law_again") 450,val:=.ref 180 },{ hash:=kh P (s "_law_refused"),key:=.str (s "_law_refused") 457,val:=.ref 187 },{ hash:=kh P (s "_law_shows"),key:=.str (s "_law_shows") 463,val:=.ref 192 },{ hash:=kh P (s "law"),key:=.str (s "law") 469,val:=.ref 197 }] 24 }),
 (20,{ cls:=.type "code",data:=Data.fields #[.str (s "_wall") 187,.str (s "_wall") 188,.str (s "/claim/cut.py") 189,.int 1 0,.int 1 0,.int 0 0,.int 0 0,.int 3 0,.ref 15,.bool true,.int 181 0,.ref 16,.none,.ref 17,.ref 18,.ref 19,.int 191 0,.int 1 0,.str (s "/claim/cut.py") 192] }),
 (21,zeQ (zcP 0) "_wall" "__main__" 164 20),
 (22,{ cls:=.type "dict",data:=Data.dict #[{ hash:=kh P (s "b"),key:=.str (s "b") 196,val:=.str (s "w") 197 },{ hash:=kh P (s "w"),key:=.str (s "w") 198,val:=.str (s "b") 199 }] 2 }),
 (28,{ cls:=.type "code",data:=Data.fields #[.str (s "opponent_of") 203,.str (s "opponent_of") 204,.str (s "/claim/cut.py") 205,.int 6 0,.int 1 0,.int 0 0,.int 0 0,.int 3 0,.ref 23,.bool true,.int 181 0,.ref 24,.none,.ref 25,.ref 26,.ref 27,.int 207 0,.int 6 0,.str (s "/claim/cut.py") 208] }),
 (29,zeQ (zcP 3) "opponent_of" "sgfmill.common" 194 28),
 (38,{ cls:=.type "dict",data:=Data.dict #[{ hash:=kh P (s "__module__"),key:=.str (s "__module__") 219,val:=.str (s "sgfmill.boards") 210 },{ hash:=kh P (s "__firstlineno__"),key:=.str (s "__firstlineno__") 223,val:=.int 12 222 },{ hash:=kh P (s "__static_attributes__"),key:=.str (s "__static_attributes__") 224,val:=.ref 37 },{ hash:=kh P (s "__dict__"),key:=.str (s "__dict__") 226,val:=.ref 40 },{ hash:=kh P (s "__weakref__"),key:=.str (s "__weakref__") 228,val:=.ref 41 },{ hash:=kh P (s "__doc__"),key:=.str (s "__doc__") 229,val:=.none }] 4 }),
 (39,{ cls:=.type "type",data:=Data.cls { name:=s "_Group",bases:=[.type "object"],mro:=[.ref 39,.type "object"],ns:=38,qualname:=s "_Group" },slots:=#[none,none,some (.str (s "_Group") 212),some (.str (s "_Group") 220),some (Value.builtin "object.__new__"),some (.bool true)] }),
 (54,{ cls:=.type "code",data:=Data.fields #[.str (s "__init__") 244,.str (s "Board.__init__") 245,.str (s "/claim/cut.py") 246,.int 16 0,.int 2 0,.int 0 0,.int 0 0,.int 3 0,.ref 51,.bool true,.int 181 0,.ref 52,.none,.none,.none,.ref 53,.int 247 0,.int 16 0,.str (s "/claim/cut.py") 248] }),
 (55,zeQ (zdE 6 0) "Board.__init__" "sgfmill.boards" 210 54),
 (59,{ cls:=.type "code",data:=Data.fields #[.str (s "copy") 250,.str (s "Board.copy") 251,.str (s "/claim/cut.py") 252,.int 26 0,.int 1 0,.int 0 0,.int 0 0,.int 3 0,.ref 56,.bool true,.int 181 0,.ref 57,.none,.none,.none,.ref 58,.int 253 0,.int 26 0,.str (s "/claim/cut.py") 254] }),
 (60,zeQ (zdE 6 1) "Board.copy" "sgfmill.boards" 210 59),
 (66,{ cls:=.type "code",data:=Data.fields #[.str (s "_make_group") 256,.str (s "Board._make_group") 257,.str (s "/claim/cut.py") 258,.int 32 0,.int 4 0,.int 0 0,.int 0 0,.int 3 0,.ref 61,.bool true,.int 181 0,.ref 62,.none,.ref 63,.ref 64,.ref 65,.int 274 0,.int 32 0,.str (s "/claim/cut.py") 275] }),
 (67,zeQ (zdE 6 2) "Board._make_group" "sgfmill.boards" 210 66),
 (73,{ cls:=.type "code",data:=Data.fields #[.str (s "_make_empty_region") 277,.str (s "Board._make_empty_region") 278,.str (s "/claim/cut.py") 279,.int 57 0,.int 3 0,.int 0 0,.int 0 0,.int 3 0,.ref 68,.bool true,.int 181 0,.ref 69,.none,.ref 70,.ref 71,.ref 72,.int 283 0,.int 57 0,.str (s "/claim/cut.py") 284] }),
 (74,zeQ (zdE 6 3) "Board._make_empty_region" "sgfmill.boards" 210 73),
 (80,{ cls:=.type "code",data:=Data.fields #[.str (s "_find_surrounded_groups") 286,.str (s "Board._find_surrounded_groups") 287,.str (s "/claim/cut.py") 288,.int 60 0,.int 3 0,.int 0 0,.int 0 0,.int 3 0,.ref 75,.bool true,.int 181 0,.ref 76,.none,.ref 77,.ref 78,.ref 79,.int 299 0,.int 60 0,.str (s "/claim/cut.py") 300] }),
 (81,zeQ (zdE 6 4) "Board._find_surrounded_groups" "sgfmill.boards" 210 80),
 (87,{ cls:=.type "code",data:=Data.fields #[.str (s "_find_all_surrounded_groups") 302,.str (s "Board._find_all_surrounded_groups") 303,.str (s "/claim/cut.py") 304,.int 78 0,.int 1 0,.int 0 0,.int 0 0,.int 3 0,.ref 82,.bool true,.int 181 0,.ref 83,.none,.ref 84,.ref 85,.ref 86,.int 313 0,.int 78 0,.str (s "/claim/cut.py") 314] }),
 (88,zeQ (zdE 6 5) "Board._find_all_surrounded_groups" "sgfmill.boards" 210 87),
 (94,{ cls:=.type "code",data:=Data.fields #[.str (s "is_empty") 316,.str (s "Board.is_empty") 317,.str (s "/claim/cut.py") 318,.int 94 0,.int 1 0,.int 0 0,.int 0 0,.int 3 0,.ref 89,.bool true,.int 181 0,.ref 90,.none,.ref 91,.ref 92,.ref 93,.int 320 0,.int 94 0,.str (s "/claim/cut.py") 321] }),
 (95,zeQ (zdE 6 6) "Board.is_empty" "sgfmill.boards" 210 94),
 (101,{ cls:=.type "code",data:=Data.fields #[.str (s "get") 323,.str (s "Board.get") 324,.str (s "/claim/cut.py") 325,.int 97 0,.int 3 0,.int 0 0,.int 0 0,.int 3 0,.ref 96,.bool true,.int 181 0,.ref 97,.none,.ref 98,.ref 99,.ref 100,.int 329 0,.int 97 0,.str (s "/claim/cut.py") 330] }),
 (102,zeQ (zdE 6 7) "Board.get" "sgfmill.boards" 210 101),
 (106,{ cls:=.type "code",data:=Data.fields #[.str (s "play") 332,.str (s "Board.play") 333,.str (s "/claim/cut.py") 334,.int 102 0,.int 4 0,.int 0 0,.int 0 0,.int 3 0,.ref 103,.bool true,.int 181 0,.ref 104,.none,.none,.none,.ref 105,.int 335 0,.int 102 0,.str (s "/claim/cut.py") 336] }),
 (107,zeQ (zdE 6 8) "Board.play" "sgfmill.boards" 210 106),
 (113,{ cls:=.type "code",data:=Data.fields #[.str (s "apply_setup") 338,.str (s "Board.apply_setup") 339,.str (s "/claim/cut.py") 340,.int 128 0,.int 4 0,.int 0 0,.int 0 0,.int 3 0,.ref 108,.bool true,.int 181 0,.ref 109,.none,.ref 110,.ref 111,.ref 112,.int 349 0,.int 128 0,.str (s "/claim/cut.py") 350] }),
 (114,zeQ (zdE 6 9) "Board.apply_setup" "sgfmill.boards" 210 113),
 (120,{ cls:=.type "code",data:=Data.fields #[.str (s "list_occupied_points") 352,.str (s "Board.list_occupied_points") 353,.str (s "/claim/cut.py") 354,.int 149 0,.int 1 0,.int 0 0,.int 0 0,.int 3 0,.ref 115,.bool true,.int 181 0,.ref 116,.none,.ref 117,.ref 118,.ref 119,.int 360 0,.int 149 0,.str (s "/claim/cut.py") 361] }),
 (121,zeQ (zdE 6 10) "Board.list_occupied_points" "sgfmill.boards" 210 120),
 (127,{ cls:=.type "code",data:=Data.fields #[.str (s "area_score") 363,.str (s "Board.area_score") 364,.str (s "/claim/cut.py") 365,.int 157 0,.int 1 0,.int 0 0,.int 0 0,.int 3 0,.ref 122,.bool true,.int 181 0,.ref 123,.none,.ref 124,.ref 125,.ref 126,.int 367 0,.int 157 0,.str (s "/claim/cut.py") 368] }),
 (128,zeQ (zdE 6 11) "Board.area_score" "sgfmill.boards" 210 127),
 (130,{ cls:=.type "dict",data:=Data.dict #[{ hash:=kh P (s "__module__"),key:=.str (s "__module__") 239,val:=.str (s "sgfmill.boards") 210 },{ hash:=kh P (s "__firstlineno__"),key:=.str (s "__firstlineno__") 243,val:=.int 14 242 },{ hash:=kh P (s "__init__"),key:=.str (s "__init__") 249,val:=.ref 55 },{ hash:=kh P (s "copy"),key:=.str (s "copy") 255,val:=.ref 60 },{ hash:=kh P (s "_make_group"),key:=.str (s "_make_group") 276,val:=.ref 67 },{ hash:=kh P (s "_make_empty_region"),key:=.str (s "_make_empty_region") 285,val:=.ref 74 },{ hash:=kh P (s "_find_surrounded_groups"),key:=.str (s "_find_surrounded_groups") 301,val:=.ref 81 },{ hash:=kh P (s "_find_all_surrounded_groups"),key:=.str (s "_find_all_surrounded_groups") 315,val:=.ref 88 },{ hash:=kh P (s "is_empty"),key:=.str (s "is_empty") 322,val:=.ref 95 },{ hash:=kh P (s "get"),key:=.str (s "get") 331,val:=.ref 102 },{ hash:=kh P (s "play"),key:=.str (s "play") 337,val:=.ref 107 },{ hash:=kh P (s "apply_setup"),key:=.str (s "apply_setup") 351,val:=.ref 114 },{ hash:=kh P (s "list_occupied_points"),key:=.str (s "list_occupied_points") 362,val:=.ref 121 },{ hash:=kh P (s "area_score"),key:=.str (s "area_score") 369,val:=.ref 128 },{ hash:=kh P (s "__static_attributes__"),key:=.str (s "__static_attributes__") 374,val:=.ref 129 },{ hash:=kh P (s "__dict__"),key:=.str (s "__dict__") 376,val:=.ref 132 },{ hash:=kh P (s "__weakref__"),key:=.str (s "__weakref__") 378,val:=.ref 133 },{ hash:=kh P (s "__doc__"),key:=.str (s "__doc__") 379,val:=.none }] 4 }),
 (131,{ cls:=.type "type",data:=Data.cls { name:=s "Board",bases:=[.type "object"],mro:=[.ref 131,.type "object"],ns:=130,qualname:=s "Board" },slots:=#[none,none,some (.str (s "Board") 232),some (.str (s "Board") 240),some (Value.builtin "object.__new__"),some (.bool true)] }),
 (141,{ cls:=.type "code",data:=Data.fields #[.str (s "_law_near") 384,.str (s "_law_near") 385,.str (s "/claim/cut.py") 386,.int 160 0,.int 2 0,.int 0 0,.int 0 0,.int 3 0,.ref 136,.bool true,.int 181 0,.ref 137,.none,.ref 138,.ref 139,.ref 140,.int 390 0,.int 160 0,.str (s "/claim/cut.py") 391] }),
 (142,zeQ (zcP 8) "_law_near" "law_md0058_03" 382 141),
 (146,{ cls:=.type "code",data:=Data.fields #[.str (s "_law_breathless") 393,.str (s "_law_breathless") 394,.str (s "/claim/cut.py") 395,.int 171 0,.int 2 0,.int 0 0,.int 0 0,.int 3 0,.ref 143,.bool true,.int 181 0,.ref 144,.none,.none,.none,.ref 145,.int 396 0,.int 171 0,.str (s "/claim/cut.py") 397] }),
 (147,zeQ (zcP 9) "_law_breathless" "law_md0058_03" 382 146),
 (151,{ cls:=.type "code",data:=Data.fields #[.str (s "_law_move") 399,.str (s "_law_move") 400,.str (s "/claim/cut.py") 401,.int 181 0,.int 4 0,.int 0 0,.int 0 0,.int 3 0,.ref 148,.bool true,.int 181 0,.ref 149,.none,.none,.none,.ref 150,.int 402 0,.int 181 0,.str (s "/claim/cut.py") 403] }),
 (152,zeQ (zcP 10) "_law_move" "law_md0058_03" 382 151),
 (158,{ cls:=.type "code",data:=Data.fields #[.str (s "_law_way") 405,.str (s "_law_way") 406,.str (s "/claim/cut.py") 407,.int 189 0,.int 3 0,.int 0 0,.int 0 0,.int 3 0,.ref 153,.bool true,.int 181 0,.ref 154,.none,.ref 155,.ref 156,.ref 157,.int 413 0,.int 189 0,.str (s "/claim/cut.py") 414] }),
 (159,zeQ (zcP 11) "_law_way" "law_md0058_03" 382 158),
 (165,{ cls:=.type "code",data:=Data.fields #[.str (s "_law_set") 416,.str (s "_law_set") 417,.str (s "/claim/cut.py") 418,.int 195 0,.int 4 0,.int 0 0,.int 0 0,.int 3 0,.ref 160,.bool true,.int 181 0,.ref 161,.none,.ref 162,.ref 163,.ref 164,.int 424 0,.int 195 0,.str (s "/claim/cut.py") 425] }),
 (166,zeQ (zcP 12) "_law_set" "law_md0058_03" 382 165),
 (172,{ cls:=.type "code",data:=Data.fields #[.str (s "_law_told") 427,.str (s "_law_told") 428,.str (s "/claim/cut.py") 429,.int 198 0,.int 4 0,.int 0 0,.int 0 0,.int 3 0,.ref 167,.bool true,.int 181 0,.ref 168,.none,.ref 169,.ref 170,.ref 171,.int 435 0,.int 198 0,.str (s "/claim/cut.py") 436] }),
 (173,zeQ (zcP 13) "_law_told" "law_md0058_03" 382 172),
 (179,{ cls:=.type "code",data:=Data.fields #[.str (s "_law_again") 438,.str (s "_law_again") 439,.str (s "/claim/cut.py") 440,.int 204 0,.int 4 0,.int 0 0,.int 0 0,.int 3 0,.ref 174,.bool true,.int 181 0,.ref 175,.none,.ref 176,.ref 177,.ref 178,.int 448 0,.int 204 0,.str (s "/claim/cut.py") 449] }),
 (180,zeQ (zcP 14) "_law_again" "law_md0058_03" 382 179),
 (186,{ cls:=.type "code",data:=Data.fields #[.str (s "_law_refused") 451,.str (s "_law_refused") 452,.str (s "/claim/cut.py") 453,.int 209 0,.int 1 0,.int 0 0,.int 0 0,.int 3 0,.ref 181,.bool true,.int 181 0,.ref 182,.none,.ref 183,.ref 184,.ref 185,.int 455 0,.int 209 0,.str (s "/claim/cut.py") 456] }),
 (187,zeQ (zcP 15) "_law_refused" "law_md0058_03" 382 186),
 (191,{ cls:=.type "code",data:=Data.fields #[.str (s "_law_shows") 458,.str (s "_law_shows") 459,.str (s "/claim/cut.py") 460,.int 217 0,.int 3 0,.int 0 0,.int 0 0,.int 3 0,.ref 188,.bool true,.int 181 0,.ref 189,.none,.none,.none,.ref 190,.int 461 0,.int 217 0,.str (s "/claim/cut.py") 462] }),
 (192,zeQ (zcP 16) "_law_shows" "law_md0058_03" 382 191),
 (196,{ cls:=.type "code",data:=Data.fields #[.str (s "law") 464,.str (s "law") 465,.str (s "/claim/cut.py") 466,.int 220 0,.int 1 0,.int 0 0,.int 0 0,.int 3 0,.ref 193,.bool true,.int 181 0,.ref 194,.none,.none,.none,.ref 195,.int 467 0,.int 220 0,.str (s "/claim/cut.py") 468] }),
 (197,zeQ (zcP 17) "law" "law_md0058_03" 382 196)]
noncomputable def viewQ:Program:={ PySem.Challenge.rw_md0058_03.row.toRowW.prog with main:={ PySem.Challenge.rw_md0058_03.row.toRowW.prog.main with body:=[0,2,3,5,6,8,9,10,11,12,13,14,15,16,17].map zcP } }
noncomputable abbrev hookK:Hook:=kHook heapK [2,3,20,21,22,28,29,38,39,54,55,59,60,66,67,73,74,80,81,87,88,94,95,101,102,106,107,113,114,120,121,127,128,130,131,141,142,146,147,151,152,158,159,165,166,172,173,179,180,186,187,191,192,196,197] (λ _=>by kernel_rfl)
noncomputable abbrev looseK:List Str:=["_opponents"]
noncomputable abbrev stepsK:Nat:=2554
noncomputable abbrev zcW:Nat:=29
noncomputable abbrev ziN:Stmt:=(zcP 3)
noncomputable def ziZ:FuncData:=zcY (zcP 3) "opponent_of" "sgfmill.common" 194 28
noncomputable abbrev yaQ:Nat:=55
noncomputable abbrev yhT:Stmt:=(zdE 6 0)
noncomputable def yhW:FuncData:=zcY (zdE 6 0) "Board.__init__" "sgfmill.boards" 210 54
noncomputable abbrev zpC:Nat:=60
noncomputable abbrev yhZ:Stmt:=(zdE 6 1)
noncomputable def yhO:FuncData:=zcY (zdE 6 1) "Board.copy" "sgfmill.boards" 210 59
noncomputable abbrev zfR:Nat:=67
noncomputable abbrev zkX:Stmt:=(zdE 6 2)
noncomputable def zkV:FuncData:=zcY (zdE 6 2) "Board._make_group" "sgfmill.boards" 210 66
noncomputable abbrev zaU:Nat:=81
noncomputable abbrev zdK:Stmt:=(zdE 6 4)
noncomputable def zdN:FuncData:=zcY (zdE 6 4) "Board._find_surrounded_groups" "sgfmill.boards" 210 80
noncomputable abbrev zaO:Nat:=88
noncomputable abbrev zcM:Stmt:=(zdE 6 5)
noncomputable def zcO:FuncData:=zcY (zdE 6 5) "Board._find_all_surrounded_groups" "sgfmill.boards" 210 87
noncomputable abbrev zhT:Nat:=95
noncomputable abbrev zpT:Stmt:=(zdE 6 6)
noncomputable def zqI:FuncData:=zcY (zdE 6 6) "Board.is_empty" "sgfmill.boards" 210 94
noncomputable abbrev zvG:Nat:=102
noncomputable abbrev ymH:Stmt:=(zdE 6 7)
noncomputable def ypM:FuncData:=zcY (zdE 6 7) "Board.get" "sgfmill.boards" 210 101
noncomputable abbrev ziX:Nat:=107
noncomputable abbrev ygT:Stmt:=(zdE 6 8)
noncomputable def yhL:FuncData:=zcY (zdE 6 8) "Board.play" "sgfmill.boards" 210 106
noncomputable abbrev zaS:Nat:=114
noncomputable abbrev ziY:Stmt:=(zdE 6 9)
noncomputable def zjI:FuncData:=zcY (zdE 6 9) "Board.apply_setup" "sgfmill.boards" 210 113
noncomputable abbrev zbG:Nat:=121
noncomputable abbrev zcI:Stmt:=(zdE 6 10)
noncomputable def zcK:FuncData:=zcY (zdE 6 10) "Board.list_occupied_points" "sgfmill.boards" 210 120
noncomputable abbrev zeW:Nat:=142
noncomputable abbrev zqJ:Stmt:=(zcP 8)
noncomputable def zqH:FuncData:=zcY (zcP 8) "_law_near" "law_md0058_03" 382 141
noncomputable abbrev zaW:Nat:=147
noncomputable abbrev zgY:Stmt:=(zcP 9)
noncomputable def zhA:FuncData:=zcY (zcP 9) "_law_breathless" "law_md0058_03" 382 146
noncomputable abbrev zeX:Nat:=152
noncomputable abbrev zpQ:Stmt:=(zcP 10)
noncomputable def zqA:FuncData:=zcY (zcP 10) "_law_move" "law_md0058_03" 382 151
noncomputable abbrev zhO:Nat:=159
noncomputable abbrev ztK:Stmt:=(zcP 11)
noncomputable def zuH:FuncData:=zcY (zcP 11) "_law_way" "law_md0058_03" 382 158
noncomputable abbrev zeK:Nat:=166
noncomputable abbrev zuC:Stmt:=(zcP 12)
noncomputable def ztU:FuncData:=zcY (zcP 12) "_law_set" "law_md0058_03" 382 165
noncomputable abbrev zcC:Nat:=173
noncomputable abbrev zpR:Stmt:=(zcP 13)
noncomputable def zqD:FuncData:=zcY (zcP 13) "_law_told" "law_md0058_03" 382 172
noncomputable abbrev zcT:Nat:=180
noncomputable abbrev znX:Stmt:=(zcP 14)
noncomputable def znD:FuncData:=zcY (zcP 14) "_law_again" "law_md0058_03" 382 179
noncomputable abbrev zdZ:Nat:=187
noncomputable abbrev zjB:Stmt:=(zcP 15)
noncomputable def ziV:FuncData:=zcY (zcP 15) "_law_refused" "law_md0058_03" 382 186
noncomputable abbrev zcR:Nat:=192
noncomputable abbrev zoC:Stmt:=(zcP 16)
noncomputable def znB:FuncData:=zcY (zcP 16) "_law_shows" "law_md0058_03" 382 191
noncomputable abbrev a_law:Nat:=197
noncomputable abbrev ypN:Stmt:=(zcP 17)
noncomputable def ypS:FuncData:=zcY (zcP 17) "law" "law_md0058_03" 382 196
noncomputable abbrev zfG:Nat:=22
noncomputable abbrev zqR:Nat:=39
noncomputable abbrev zdS:Nat:=131
noncomputable abbrev t_w:Nat:=197
noncomputable abbrev t_b:Nat:=199
noncomputable def ziS:List Str := "colour" :: []
noncomputable def zjN:IS:=
 (.seq (.try_ (.seq (.ret (.subR (.glob (.ref zfG)) (.var 0)))
  .skip)
 "KeyError" "KeyError"
 (.seq (.raise_ "ValueError" "ValueError")
  .skip))
 .skip)
noncomputable def ygS:List Str := "self" :: "side" :: "row" :: "_row" :: "_col" :: []
noncomputable def yhC:IS:=
 (.seq (.assign (.attr (.var 0) "side") (.var 1))
 (.seq (.ite (.cmp .Lt (.var 1) (.int 2))
 (.seq (.raise_ "ValueError" "ValueError")
  .skip)
 .skip)
 (.seq (.assign (.attr (.var 0) "board_points") (.compRR 3 4 (.call (.ty "range") (.cons (.var 1) .nil)) (.call (.ty "range") (.cons (.var 1) .nil)) .nil (.tup (.cons (.var 3) (.cons (.var 4) .nil)))))
 (.seq (.assign (.attr (.var 0) "board") (.list .nil))
 (.seq (.for_ (.var 2) (.call (.ty "range") (.cons (.var 1) .nil))
 (.seq (.expr (.meth (.attr (.var 0) "board") "append" (.cons (.bin .Mult (.list (.cons .none .nil)) (.var 1)) .nil)))
  .skip))
 (.seq (.assign (.attr (.var 0) "_is_empty") (.bool true))
 .skip))))))
noncomputable def yiH:List Str := "self" :: "b" :: "i" :: []
noncomputable def yiA:IS:=
 (.seq (.assign (.var 1) (.call (.ref zdS) (.cons (.attr (.var 0) "side") .nil)))
 (.seq (.assign (.attr (.var 1) "board") (.comp (.one 2) (.call (.ty "range") (.cons (.attr (.var 0) "side") .nil)) .nil (.slice (.sub (.attr (.var 0) "board") (.var 2)) .none .none)))
 (.seq (.assign (.attr (.var 1) "_is_empty") (.attr (.var 0) "_is_empty"))
 (.seq (.ret (.var 1))
 .skip))))
noncomputable def zkR:List Str := "self" :: "row" :: "col" :: "colour" :: "points" :: "is_surrounded" :: "to_handle" :: "group" :: "point" :: "neighbour" :: "r" :: "c" :: "neigh_colour" :: "r1" :: "c1" :: []
noncomputable def zkN:IS:=
 (.seq (.assign (.var 4) (.call (.ty "set") .nil))
 (.seq (.assign (.var 5) (.bool true))
 (.seq (.assign (.var 6) (.call (.ty "set") .nil))
 (.seq (.expr (.meth (.var 6) "add" (.cons (.tup (.cons (.var 1) (.cons (.var 2) .nil))) .nil)))
 (.seq (.while_ (.var 6)
 (.seq (.assign (.var 8) (.meth (.var 6) "pop" .nil))
  (.seq (.expr (.meth (.var 4) "add" (.cons (.var 8) .nil)))
  (.seq (.assign (.tup (.cons (.var 10) (.cons (.var 11) .nil))) (.var 8))
  (.seq (.for_ (.var 9) (.list (.cons (.tup (.cons (.bin .Sub (.var 10) (.int 1)) (.cons (.var 11) .nil))) (.cons (.tup (.cons (.bin .Add (.var 10) (.int 1)) (.cons (.var 11) .nil))) (.cons (.tup (.cons (.var 10) (.cons (.bin .Sub (.var 11) (.int 1)) .nil))) (.cons (.tup (.cons (.var 10) (.cons (.bin .Add (.var 11) (.int 1)) .nil))) .nil)))))
  (.seq (.assign (.tup (.cons (.var 13) (.cons (.var 14) .nil))) (.var 9))
   (.seq (.ite (.un .Not (.boolop .And (.cons (.cmp2 .LtE .Lt (.int 0) (.var 13) (.attr (.var 0) "side")) (.cons (.cmp2 .LtE .Lt (.int 0) (.var 14) (.attr (.var 0) "side")) .nil))))
   (.seq .cont
    .skip)
   .skip)
   (.seq (.assign (.var 12) (.sub (.sub (.attr (.var 0) "board") (.var 13)) (.var 14)))
   (.seq (.ite (.cmp .Is (.var 12) .none)
   (.seq (.assign (.var 5) (.bool false))
    .skip)
   (.seq (.ite (.cmp .Eq (.var 12) (.var 3))
    (.seq (.ite (.cmp .NotIn (.var 9) (.var 4))
     (.seq (.expr (.meth (.var 6) "add" (.cons (.var 9) .nil)))
      .skip)
     .skip)
     .skip)
    .skip)
    .skip))
   .skip)))))
  .skip)))))
 (.seq (.assign (.var 7) (.call (.ref zqR) .nil))
 (.seq (.assign (.attr (.var 7) "colour") (.var 3))
 (.seq (.assign (.attr (.var 7) "points") (.var 4))
 (.seq (.assign (.attr (.var 7) "is_surrounded") (.var 5))
 (.seq (.ret (.var 7))
 .skip))))))))))
noncomputable def zdQ:List Str := "self" :: "r" :: "c" :: "surrounded" :: "handled" :: "row" :: "col" :: "colour" :: "point" :: "group" :: []
noncomputable def zdO:IS:=
 (.seq (.assign (.var 3) (.list .nil))
 (.seq (.assign (.var 4) (.call (.ty "set") .nil))
 (.seq (.for_ (.tup (.cons (.var 5) (.cons (.var 6) .nil))) (.list (.cons (.tup (.cons (.var 1) (.cons (.var 2) .nil))) (.cons (.tup (.cons (.bin .Sub (.var 1) (.int 1)) (.cons (.var 2) .nil))) (.cons (.tup (.cons (.bin .Add (.var 1) (.int 1)) (.cons (.var 2) .nil))) (.cons (.tup (.cons (.var 1) (.cons (.bin .Sub (.var 2) (.int 1)) .nil))) (.cons (.tup (.cons (.var 1) (.cons (.bin .Add (.var 2) (.int 1)) .nil))) .nil))))))
 (.seq (.ite (.un .Not (.boolop .And (.cons (.cmp2 .LtE .Lt (.int 0) (.var 5) (.attr (.var 0) "side")) (.cons (.cmp2 .LtE .Lt (.int 0) (.var 6) (.attr (.var 0) "side")) .nil))))
  (.seq .cont
   .skip)
  .skip)
  (.seq (.assign (.var 7) (.sub (.sub (.attr (.var 0) "board") (.var 5)) (.var 6)))
  (.seq (.ite (.cmp .Is (.var 7) .none)
  (.seq .cont
   .skip)
  .skip)
  (.seq (.assign (.var 8) (.tup (.cons (.var 5) (.cons (.var 6) .nil))))
  (.seq (.ite (.cmp .In (.var 8) (.var 4))
  (.seq .cont
   .skip)
  .skip)
  (.seq (.assign (.var 9) (.meth (.var 0) "_make_group" (.cons (.var 5) (.cons (.var 6) (.cons (.var 7) .nil)))))
  (.seq (.ite (.attr (.var 9) "is_surrounded")
  (.seq (.expr (.meth (.var 3) "append" (.cons (.var 9) .nil)))
   .skip)
  .skip)
  (.seq (.expr (.meth (.var 4) "update" (.cons (.attr (.var 9) "points") .nil)))
  .skip)))))))))
 (.seq (.ret (.var 3))
 .skip))))
noncomputable def zcN:List Str := "self" :: "surrounded" :: "handled" :: "row" :: "col" :: "colour" :: "point" :: "group" :: []
noncomputable def zcL:IS:=
 (.seq (.assign (.var 1) (.list .nil))
 (.seq (.assign (.var 2) (.call (.ty "set") .nil))
 (.seq (.for_ (.tup (.cons (.var 3) (.cons (.var 4) .nil))) (.attr (.var 0) "board_points")
 (.seq (.assign (.var 5) (.sub (.sub (.attr (.var 0) "board") (.var 3)) (.var 4)))
  (.seq (.ite (.cmp .Is (.var 5) .none)
  (.seq .cont
   .skip)
  .skip)
  (.seq (.assign (.var 6) (.tup (.cons (.var 3) (.cons (.var 4) .nil))))
  (.seq (.ite (.cmp .In (.var 6) (.var 2))
  (.seq .cont
   .skip)
  .skip)
  (.seq (.assign (.var 7) (.meth (.var 0) "_make_group" (.cons (.var 3) (.cons (.var 4) (.cons (.var 5) .nil)))))
  (.seq (.ite (.attr (.var 7) "is_surrounded")
  (.seq (.expr (.meth (.var 1) "append" (.cons (.var 7) .nil)))
   .skip)
  .skip)
  (.seq (.expr (.meth (.var 2) "update" (.cons (.attr (.var 7) "points") .nil)))
  .skip))))))))
 (.seq (.ret (.var 1))
 .skip))))
noncomputable def zpM:List Str := "self" :: []
noncomputable def zqG:IS:=
 (.seq (.ret (.attr (.var 0) "_is_empty"))
 .skip)
noncomputable def ykW:List Str := "self" :: "row" :: "col" :: []
noncomputable def ypC:IS:=
 (.seq (.ite (.boolop .Or (.cons (.cmp .Lt (.var 1) (.int 0)) (.cons (.cmp .Lt (.var 2) (.int 0)) .nil)))
 (.seq (.raise_ "IndexError" "IndexError")
  .skip)
 .skip)
 (.seq (.ret (.subR (.subR (.attr (.var 0) "board") (.var 1)) (.var 2)))
 .skip))
noncomputable def ygZ:List Str := "self" :: "row" :: "col" :: "colour" :: "opponent" :: "surrounded" :: "simple_ko_point" :: "group" :: "to_capture" :: "self_capture" :: "r" :: "c" :: []
noncomputable def yhK:IS:=
 (.seq (.ite (.boolop .Or (.cons (.cmp .Lt (.var 1) (.int 0)) (.cons (.cmp .Lt (.var 2) (.int 0)) .nil)))
 (.seq (.raise_ "IndexError" "IndexError")
  .skip)
 .skip)
 (.seq (.assign (.var 4) (.call (.ref zcW) (.cons (.var 3) .nil)))
 (.seq (.ite (.cmp .IsNot (.subR (.subR (.attr (.var 0) "board") (.var 1)) (.var 2)) .none)
 (.seq (.raise_ "ValueError" "ValueError")
  .skip)
 .skip)
 (.seq (.assign (.sub (.sub (.attr (.var 0) "board") (.var 1)) (.var 2)) (.var 3))
 (.seq (.assign (.attr (.var 0) "_is_empty") (.bool false))
 (.seq (.assign (.var 5) (.meth (.var 0) "_find_surrounded_groups" (.cons (.var 1) (.cons (.var 2) .nil))))
 (.seq (.assign (.var 6) .none)
 (.seq (.ite (.var 5)
 (.seq (.cut (.ite (.cmp .Eq (.call (.bi "len") (.cons (.var 5) .nil)) (.int 1))
  (.seq (.assign (.var 8) (.var 5))
   (.seq (.ite (.cmp .Eq (.call (.bi "len") (.cons (.attr (.sub (.var 8) (.int 0)) "points") .nil)) (.bin .Mult (.attr (.var 0) "side") (.attr (.var 0) "side")))
   (.seq (.assign (.attr (.var 0) "_is_empty") (.bool true))
    .skip)
   .skip)
   .skip))
  (.seq (.assignC 8 (.comp (.one 7) (.var 5) (.cons (.cmp .Eq (.attr (.var 7) "colour") (.var 4)) .nil) (.var 7)))
   (.seq (.ite (.boolop .And (.cons (.cmp .Eq (.call (.bi "len") (.cons (.var 8) .nil)) (.int 1)) (.cons (.cmp .Eq (.call (.bi "len") (.cons (.attr (.sub (.var 8) (.int 0)) "points") .nil)) (.int 1)) .nil)))
   (.seq (.assignC 9 (.comp (.one 7) (.var 5) (.cons (.cmp .Eq (.attr (.var 7) "colour") (.var 3)) .nil) (.var 7)))
    (.seq (.ite (.cmp .Eq (.call (.bi "len") (.cons (.attr (.sub (.var 9) (.int 0)) "points") .nil)) (.int 1))
    (.seq (.assign (.tupS (.var 6)) (.attr (.sub (.var 8) (.int 0)) "points"))
     .skip)
    .skip)
    .skip))
   .skip)
   .skip))))
  (.seq (.for_ (.var 7) (.var 8)
  (.seq (.for_ (.tup (.cons (.var 10) (.cons (.var 11) .nil))) (.attr (.var 7) "points")
   (.seq (.assign (.sub (.sub (.attr (.var 0) "board") (.var 10)) (.var 11)) .none)
    .skip))
   .skip))
  .skip))
 .skip)
 (.seq (.ret (.var 6))
 .skip)))))))))
noncomputable def zjF:List Str := "self" :: "black_points" :: "white_points" :: "empty_points" :: "captured" :: "group" :: "row" :: "col" :: []
noncomputable def zjJ:IS:=
 (.seq (.forR (.tup (.cons (.var 6) (.cons (.var 7) .nil))) (.bin .Add (.bin .Add (.call (.ty "list") (.cons (.var 1) .nil)) (.call (.ty "list") (.cons (.var 2) .nil))) (.call (.ty "list") (.cons (.var 3) .nil)))
 (.seq (.ite (.boolop .Or (.cons (.cmp .Lt (.var 6) (.int 0)) (.cons (.cmp .Lt (.var 7) (.int 0)) (.cons (.cmp .GtE (.var 6) (.attr (.var 0) "side")) (.cons (.cmp .GtE (.var 7) (.attr (.var 0) "side")) .nil)))))
  (.seq (.raise_ "IndexError" "IndexError")
   .skip)
  .skip)
  .skip))
 (.seq (.for_ (.tup (.cons (.var 6) (.cons (.var 7) .nil))) (.var 1)
 (.seq (.assign (.sub (.sub (.attr (.var 0) "board") (.var 6)) (.var 7)) (.str "b"))
  .skip))
 (.seq (.for_ (.tup (.cons (.var 6) (.cons (.var 7) .nil))) (.var 2)
 (.seq (.assign (.sub (.sub (.attr (.var 0) "board") (.var 6)) (.var 7)) (.str "w"))
  .skip))
 (.seq (.for_ (.tup (.cons (.var 6) (.cons (.var 7) .nil))) (.var 3)
 (.seq (.assign (.sub (.sub (.attr (.var 0) "board") (.var 6)) (.var 7)) .none)
  .skip))
 (.seq (.assign (.var 4) (.meth (.var 0) "_find_all_surrounded_groups" .nil))
 (.seq (.for_ (.var 5) (.var 4)
 (.seq (.for_ (.tup (.cons (.var 6) (.cons (.var 7) .nil))) (.attr (.var 5) "points")
  (.seq (.assign (.sub (.sub (.attr (.var 0) "board") (.var 6)) (.var 7)) .none)
   .skip))
  .skip))
 (.seq (.assign (.attr (.var 0) "_is_empty") (.bool true))
 (.seq (.for_ (.tup (.cons (.var 6) (.cons (.var 7) .nil))) (.attr (.var 0) "board_points")
 (.seq (.ite (.cmp .IsNot (.sub (.sub (.attr (.var 0) "board") (.var 6)) (.var 7)) .none)
  (.seq (.assign (.attr (.var 0) "_is_empty") (.bool false))
   (.seq .brk
   .skip))
  .skip)
  .skip))
 (.seq (.ret (.un .Not (.var 4)))
 .skip)))))))))
noncomputable def zcJ:List Str := "self" :: "result" :: "row" :: "col" :: "colour" :: []
noncomputable def zcH:IS:=
 (.seq (.assign (.var 1) (.list .nil))
 (.seq (.for_ (.tup (.cons (.var 2) (.cons (.var 3) .nil))) (.attr (.var 0) "board_points")
 (.seq (.assign (.var 4) (.sub (.sub (.attr (.var 0) "board") (.var 2)) (.var 3)))
  (.seq (.ite (.cmp .IsNot (.var 4) .none)
  (.seq (.expr (.meth (.var 1) "append" (.cons (.tup (.cons (.var 4) (.cons (.tup (.cons (.var 2) (.cons (.var 3) .nil))) .nil))) .nil)))
   .skip)
  .skip)
  .skip)))
 (.seq (.ret (.var 1))
 .skip)))
noncomputable def zpO:List Str := "spot" :: "side" :: "out" :: []
noncomputable def zpP:IS:=
 (.seq (.assign (.var 2) (.list .nil))
 (.seq (.cut (.ite (.cmp .GtE (.var 0) (.var 1))
 (.seq (.expr (.meth (.var 2) "append" (.cons (.bin .Sub (.var 0) (.var 1)) .nil)))
  .skip)
 .skip))
 (.seq (.cut (.ite (.cmp .Lt (.var 0) (.bin .Sub (.bin .Mult (.var 1) (.var 1)) (.var 1)))
 (.seq (.expr (.meth (.var 2) "append" (.cons (.bin .Add (.var 0) (.var 1)) .nil)))
  .skip)
 .skip))
 (.seq (.cut (.ite (.cmp .Gt (.bin .Mod (.var 0) (.var 1)) (.int 0))
 (.seq (.expr (.meth (.var 2) "append" (.cons (.bin .Sub (.var 0) (.int 1)) .nil)))
  .skip)
 .skip))
 (.seq (.cut (.ite (.cmp .Lt (.bin .Mod (.var 0) (.var 1)) (.bin .Sub (.var 1) (.int 1)))
 (.seq (.expr (.meth (.var 2) "append" (.cons (.bin .Add (.var 0) (.int 1)) .nil)))
  .skip)
 .skip))
 (.seq (.ret (.var 2))
 .skip))))))
noncomputable def zhC:List Str := "cells" :: "side" :: "living" :: "spot" :: "by" :: []
noncomputable def zgZ:IS:=
 (.seq (.assign (.var 2) (.list .nil))
 (.seq (.for_ (.var 3) (.call (.ty "range") (.cons (.bin .Mult (.var 1) (.var 1)) .nil))
 (.seq (.ite (.boolop .And (.cons (.cmp .IsNot (.sub (.var 0) (.var 3)) .none) (.cons (.cmp .In .none (.comp (.one 4) (.call (.ref zeW) (.cons (.var 3) (.cons (.var 1) .nil))) .nil (.sub (.var 0) (.var 4)))) .nil)))
  (.seq (.expr (.meth (.var 2) "append" (.cons (.var 3) .nil)))
   .skip)
  .skip)
  .skip))
 (.seq (.for_ (.var 3) (.var 2)
 (.seq (.for_ (.var 4) (.call (.ref zeW) (.cons (.var 3) (.cons (.var 1) .nil)))
  (.seq (.ite (.boolop .And (.cons (.cmp .Eq (.sub (.var 0) (.var 4)) (.sub (.var 0) (.var 3))) (.cons (.cmp .NotIn (.var 4) (.var 2)) .nil)))
   (.seq (.expr (.meth (.var 2) "append" (.cons (.var 4) .nil)))
    .skip)
   .skip)
   .skip))
  .skip))
 (.seq (.ret (.comp (.one 3) (.call (.ty "range") (.cons (.bin .Mult (.var 1) (.var 1)) .nil)) (.cons (.boolop .And (.cons (.cmp .IsNot (.sub (.var 0) (.var 3)) .none) (.cons (.cmp .NotIn (.var 3) (.var 2)) .nil))) .nil) (.var 3)))
 .skip))))
noncomputable def zqK:List Str := "cells" :: "side" :: "spot" :: "colour" :: "laid" :: "dead" :: "taken" :: "gone" :: "after" :: "ko" :: "one" :: []
noncomputable def zpI:IS:=
 (.seq (.assign (.var 4) (.bin .Add (.bin .Add (.slice (.var 0) .none (.var 2)) (.list (.cons (.var 3) .nil))) (.slice (.var 0) (.bin .Add (.var 2) (.int 1)) .none)))
 (.seq (.assign (.var 5) (.call (.ref zaW) (.cons (.var 4) (.cons (.var 1) .nil))))
 (.seq (.assignC 6 (.comp (.one 10) (.var 5) (.cons (.cmp .NotEq (.sub (.var 4) (.var 10)) (.var 3)) .nil) (.var 10)))
 (.seq (.assign (.var 7) (.ife (.var 6) (.var 6) (.var 5)))
 (.seq (.assignC 8 (.comp (.one 10) (.call (.ty "range") (.cons (.bin .Mult (.var 1) (.var 1)) .nil)) .nil (.ife (.cmp .In (.var 10) (.var 7)) .none (.sub (.var 4) (.var 10)))))
 (.seq (.assign (.var 9) (.ife (.boolop .And (.cons (.cmp .Eq (.call (.bi "len") (.cons (.var 6) .nil)) (.int 1)) (.cons (.cmp .Eq (.call (.bi "len") (.cons (.var 5) .nil)) (.int 2)) .nil))) (.sub (.var 6) (.int 0)) .none))
 (.seq (.ret (.tup (.cons (.var 8) (.cons (.var 9) .nil))))
 .skip)))))))
noncomputable def zsK:List Str := "cells" :: "aim" :: "side" :: "lists" :: "spot" :: []
noncomputable def ztA:IS:=
 (.seq (.assign (.var 3) (.list (.cons (.list .nil) (.cons (.list .nil) (.cons (.list .nil) .nil)))))
 (.seq (.for_ (.var 4) (.call (.ty "range") (.cons (.bin .Mult (.var 2) (.var 2)) .nil))
 (.seq (.ite (.cmp .NotEq (.sub (.var 0) (.var 4)) (.sub (.var 1) (.var 4)))
  (.seq (.expr (.meth (.sub (.var 3) (.meth (.list (.cons (.str "b") (.cons (.str "w") (.cons .none .nil)))) "index" (.cons (.sub (.var 1) (.var 4)) .nil))) "append" (.cons (.tup (.cons (.bin .FloorDiv (.var 4) (.var 2)) (.cons (.bin .Mod (.var 4) (.var 2)) .nil))) .nil)))
   .skip)
  .skip)
  .skip))
 (.seq (.ret (.var 3))
 .skip)))
noncomputable def zuK:List Str := "board" :: "cells" :: "aim" :: "side" :: "lists" :: []
noncomputable def zuD:IS:=
 (.seq (.assign (.var 4) (.call (.ref zhO) (.cons (.var 1) (.cons (.var 2) (.cons (.var 3) .nil)))))
 (.seq (.ret (.meth (.var 0) "apply_setup" (.cons (.sub (.var 4) (.int 0)) (.cons (.sub (.var 4) (.int 1)) (.cons (.sub (.var 4) (.int 2)) .nil)))))
 .skip))
noncomputable def zqL:List Str := "board" :: "side" :: "spot" :: "colour" :: "point" :: []
noncomputable def zpN:IS:=
 (.seq (.tryC (.seq (.assign (.var 4) (.meth (.var 0) "play" (.cons (.bin .FloorDiv (.var 2) (.var 1)) (.cons (.bin .Mod (.var 2) (.var 1)) (.cons (.var 3) .nil)))))
  .skip)
 [("ValueError", "ValueError", "taken")])
 (.seq (.ret (.ife (.cmp .Is (.var 4) .none) (.var 4) (.bin .Add (.bin .Mult (.sub (.var 4) (.int 0)) (.var 1)) (.sub (.var 4) (.int 1)))))
 .skip))
noncomputable def znE:List Str := "board" :: "side" :: "cells" :: "step" :: "spot" :: "what" :: "due" :: []
noncomputable def zoG:IS:=
 (.seq (.assign (.tup (.cons (.var 4) (.cons (.var 5) (.cons (.var 6) .nil)))) (.var 3))
 (.seq (.ite (.cmp .Lt (.var 4) (.int 0))
 (.seq (.ret (.cmp .Eq (.call (.ref zeK) (.cons (.var 0) (.cons (.var 2) (.cons (.var 5) (.cons (.var 1) .nil))))) (.var 6)))
  .skip)
 .skip)
 (.seq (.ret (.cmp .Eq (.call (.ref zcC) (.cons (.var 0) (.cons (.var 1) (.cons (.var 4) (.cons (.var 5) .nil))))) (.var 6)))
 .skip)))
noncomputable def ziP:List Str := "work" :: []
noncomputable def zjQ:IS:=
 (.seq (.tryC (.seq (.expr (.callV 0))
  .skip)
 [("IndexError", "IndexError", "index"),("ValueError", "ValueError", "value")])
 (.seq (.ret (.str "none"))
 .skip))
noncomputable def znT:List Str := "board" :: "cells" :: "side" :: "stones" :: "spot" :: []
noncomputable def znC:IS:=
 (.seq (.assignC 3 (.comp (.one 4) (.call (.ty "range") (.cons (.bin .Mult (.var 2) (.var 2)) .nil)) (.cons (.cmp .IsNot (.sub (.var 1) (.var 4)) .none) .nil) (.tup (.cons (.sub (.var 1) (.var 4)) (.cons (.tup (.cons (.bin .FloorDiv (.var 4) (.var 2)) (.cons (.bin .Mod (.var 4) (.var 2)) .nil))) .nil)))))
 (.seq (.ret (.boolop .And (.cons (.cmp .Eq (.meth (.var 0) "list_occupied_points" .nil) (.var 3)) (.cons (.cmp .Eq (.meth (.var 0) "is_empty" .nil) (.cmp .Eq (.var 3) (.list .nil))) .nil))))
 .skip))
noncomputable def ykU:List Str := "script" :: "numbers" :: "side" :: "size" :: "drawn" :: "start" :: "dead" :: "nothing" :: "board" :: "past" :: "record" :: "at" :: "left" :: "number" :: "again" :: "turn" :: "rest" :: "kind" :: "one" :: "cells" :: "spot" :: "aim" :: "step" :: "colour" :: "due" :: "after" :: "fair" :: "beyond" :: "off" :: "work" :: []
noncomputable def yhX:IS:=
 (.seq (.ite (.boolop .Or (.cons (.un .Not (.call (.ref zcR) (.cons (.var 18) (.cons (.var 19) (.cons (.var 2) .nil))))) (.cons (.cmp .NotEq (.comp (.one 20) (.call (.ty "range") (.cons (.var 3) .nil)) .nil (.meth (.var 18) "get" (.cons (.bin .FloorDiv (.var 20) (.var 2)) (.cons (.bin .Mod (.var 20) (.var 2)) .nil)))) (.var 19)) .nil)))
  (.seq (.ret (.bool false))
   .skip)
  .skip)
  .skip)
noncomputable def i_t9:IS:=
 (.seq (.for_ (.tup (.cons (.var 18) (.cons (.var 19) .nil))) (.var 12)
 yhX)
 (.seq (.ret (.bool true))
 .skip))
noncomputable def i_t8:IS:=
 (.seq (.expr (.meth (.var 12) "append" (.cons (.tup (.cons (.var 14) (.cons (.sub (.var 9) (.bin .Sub (.call (.bi "len") (.cons (.var 9) .nil)) (.int 1))) .nil))) .nil)))
 i_t9)
noncomputable def zxE:IS:=
 (.seq (.ite (.un .Not (.call (.ref zcT) (.cons (.var 14) (.cons (.var 2) (.cons (.sub (.var 9) (.var 15)) (.cons (.sub (.var 10) (.var 15)) .nil))))))
  (.seq (.ret (.bool false))
   .skip)
  .skip)
  .skip)
noncomputable def i_t7:IS:=
 (.seq (.for_ (.var 15) (.call (.ty "range") (.cons (.call (.bi "len") (.cons (.var 10) .nil)) .nil))
 zxE)
 i_t8)
noncomputable def i_t6:IS:=
 (.seq (.assign (.var 14) (.call (.ref zdS) (.cons (.var 2) .nil)))
 (.seq (.ite (.un .Not (.call (.ref zeK) (.cons (.var 14) (.cons (.var 7) (.cons (.var 5) (.cons (.var 2) .nil))))))
 (.seq (.ret (.bool false))
  .skip)
 .skip)
 i_t7))
noncomputable def i_k2c:IS:=
 (.seq (.assign (.var 9) (.bin .Add (.slice (.var 9) .none (.bin .Add (.var 11) (.int 1))) (.list (.cons (.comp (.one 18) (.call (.ty "range") (.cons (.var 3) .nil)) .nil (.ife (.cmp .In (.var 18) (.var 6)) .none (.sub (.var 21) (.var 18)))) .nil))))
   (.seq (.assign (.var 10) (.bin .Add (.slice (.var 10) .none (.var 11)) (.list (.cons (.var 22) .nil))))
   (.seq (.aug 11 .Add (.int 1))
   .skip)))
noncomputable def ynU:IS:=
 (.seq (.assign (.var 22) (.tup (.cons (.un .USub (.int 1)) (.cons (.var 21) (.cons (.cmp .Eq (.var 6) (.list .nil)) .nil)))))
   (.seq (.ite (.un .Not (.call (.ref zcT) (.cons (.var 8) (.cons (.var 2) (.cons (.sub (.var 9) (.var 11)) (.cons (.var 22) .nil))))))
   (.seq (.ret (.bool false))
    .skip)
   .skip)
   i_k2c))
noncomputable def i_k2:IS:=
 (.seq (.assign (.var 21) (.comp (.one 18) (.call (.ty "range") (.cons (.var 3) .nil)) .nil (.sub (.list (.cons (.sub (.sub (.var 9) (.var 11)) (.var 18)) (.cons (.str "b") (.cons (.str "w") (.cons .none .nil))))) (.bin .Mod (.bin .FloorDiv (.var 16) (.bin .Pow (.int 4) (.var 18))) (.int 4)))))
   (.seq (.assign (.var 6) (.call (.ref zaW) (.cons (.var 21) (.cons (.var 2) .nil))))
   ynU))
noncomputable def ynH:IS:=
 (.seq (.ite (.cmp .NotEq (.call (.ref zcC) (.cons (.var 8) (.cons (.var 2) (.cons (.var 20) (.cons (.var 23) .nil))))) (.var 24))
    (.seq (.ret (.bool false))
     .skip)
    .skip)
    .skip)
noncomputable def yoT:IS:=
 (.seq (.assign (.var 24) (.str "taken"))
    (.seq (.cut (.ite (.cmp .Is (.sub (.sub (.var 9) (.var 11)) (.var 20)) .none)
    (.seq (.assign (.tup (.cons (.var 25) (.cons (.var 24) .nil))) (.call (.ref zeX) (.cons (.sub (.var 9) (.var 11)) (.cons (.var 2) (.cons (.var 20) (.cons (.var 23) .nil))))))
     (.seq (.assign (.var 9) (.bin .Add (.slice (.var 9) .none (.bin .Add (.var 11) (.int 1))) (.list (.cons (.var 25) .nil))))
     (.seq (.assign (.var 10) (.bin .Add (.slice (.var 10) .none (.var 11)) (.list (.cons (.tup (.cons (.var 20) (.cons (.var 23) (.cons (.var 24) .nil)))) .nil))))
     (.seq (.aug 11 .Add (.int 1))
     .skip))))
    .skip))
    ynH))
noncomputable def i_k3:IS:=
 (.seq (.assign (.var 23) (.sub (.str "bw") (.bin .Mod (.var 16) (.int 2))))
    (.seq (.assign (.var 20) (.bin .Mod (.bin .FloorDiv (.var 16) (.int 2)) (.var 3)))
    (.seq (.cut (.ite (.cmp .Eq (.var 17) (.int 3))
    (.seq (.assign (.var 20) (.sub (.comp (.one 18) (.call (.ty "range") (.cons (.var 20) (.cons (.bin .Add (.var 20) (.var 3)) .nil))) (.cons (.cmp .Is (.sub (.sub (.var 9) (.var 11)) (.bin .Mod (.var 18) (.var 3))) .none) .nil) (.bin .Mod (.var 18) (.var 3))) (.int 0)))
     .skip)
    .skip))
    yoT)))
noncomputable def yoK:IS:=
 (.seq (.assign (.var 8) (.meth (.var 8) "copy" .nil))
     (.seq (.ite (.boolop .Or (.cons (.un .Not (.call (.ref zcR) (.cons (.var 8) (.cons (.sub (.var 9) (.var 11)) (.cons (.var 2) .nil))))) (.cons (.un .Not (.call (.ref zeK) (.cons (.var 8) (.cons (.sub (.var 9) (.var 11)) (.cons (.sub (.var 9) (.var 21)) (.cons (.var 2) .nil)))))) .nil)))
     (.seq (.ret (.bool false))
      .skip)
     .skip)
     (.seq (.assign (.var 11) (.var 21))
     .skip)))
noncomputable def i_k4:IS:=
 (.seq (.cut (.assign (.var 21) (.ife (.cmp .Eq (.var 17) (.int 4)) (.bin .Sub (.var 11) (.bin .Mod (.var 16) (.bin .Add (.var 11) (.int 1)))) (.bin .Add (.var 11) (.bin .Mod (.var 16) (.bin .Sub (.call (.bi "len") (.cons (.var 9) .nil)) (.var 11)))))))
     (.seq (.expr (.meth (.var 12) "append" (.cons (.tup (.cons (.var 8) (.cons (.sub (.var 9) (.var 11)) .nil))) .nil)))
     yoK))
noncomputable def yiK:IS:=
 (.seq (.ite (.un .Not (.call (.ref zcT) (.cons (.var 8) (.cons (.var 2) (.cons (.sub (.var 9) (.var 11)) (.cons (.sub (.var 10) (.var 11)) .nil))))))
       (.seq (.ret (.bool false))
        .skip)
       .skip)
       (.seq (.aug 11 .Add (.int 1))
       (.seq (.ite (.un .Not (.call (.ref zcR) (.cons (.var 8) (.cons (.sub (.var 9) (.var 11)) (.cons (.var 2) .nil)))))
       (.seq (.ret (.bool false))
        .skip)
       .skip)
       .skip)))
noncomputable def i_k5:IS:=
 (.seq (.for_ (.var 15) (.call (.ty "range") (.cons (.bin .Mod (.var 16) (.bin .Sub (.call (.bi "len") (.cons (.var 9) .nil)) (.var 11))) .nil))
      yiK)
      .skip)
noncomputable def yaL:List IE:=[(.meth (.var 8) "play" (.cons (.sub (.var 28) (.int 0)) (.cons (.sub (.var 28) (.int 1)) (.cons (.sub (.str "bw") (.bin .Mod (.bin .FloorDiv (.var 16) (.int 1024)) (.int 2))) .nil)))),(.meth (.var 8) "get" (.cons (.sub (.var 28) (.int 0)) (.cons (.sub (.var 28) (.int 1)) .nil))),(.meth (.var 8) "apply_setup" (.cons (.list (.cons (.var 26) (.cons (.var 28) .nil))) (.cons (.list .nil) (.cons (.list .nil) .nil)))),(.meth (.var 8) "apply_setup" (.cons (.list .nil) (.cons (.list (.cons (.var 26) (.cons (.var 28) .nil))) (.cons (.list .nil) .nil)))),(.meth (.var 8) "apply_setup" (.cons (.list .nil) (.cons (.list .nil) (.cons (.list (.cons (.var 26) (.cons (.var 28) .nil))) .nil)))),(.meth (.var 8) "play" (.cons (.sub (.var 26) (.int 0)) (.cons (.sub (.var 26) (.int 1)) (.cons (.sub (.list (.cons (.str "") (.cons (.str "B") (.cons (.str "white") (.cons (.str "bw") .nil))))) (.bin .Mod (.bin .FloorDiv (.var 16) (.int 2048)) (.int 4))) .nil))))]
noncomputable def ykT:IS:=
 (.seq (.iteL 29 (.call (.ref zdZ) (.cons (.var 29) .nil)) yaL
      (.list (.cons (.str "index") (.cons (.str "index") (.cons (.str "index") (.cons (.str "index") (.cons (.str "index") (.cons (.str "value") .nil)))))))
      (.seq (.ret (.bool false))
       .skip)
      .skip)
      .skip)
noncomputable def i_k7c:IS:=
 (.seq (.assign (.var 28) (.sub (.list (.cons (.tup (.cons (.var 27) (.cons (.sub (.var 26) (.int 1)) .nil))) (.cons (.tup (.cons (.sub (.var 26) (.int 0)) (.cons (.var 27) .nil))) (.cons (.tup (.cons (.var 27) (.cons (.var 27) .nil))) .nil)))) (.bin .Mod (.bin .FloorDiv (.var 16) (.int 256)) (.int 3))))
      ykT)
noncomputable def ynX:IS:=
 (.seq (.assign (.var 27) (.sub (.list (.cons (.un .USub (.int 1)) (.cons (.un .USub (.var 2)) (.cons (.var 2) (.cons (.bin .Add (.var 2) (.int 7)) .nil))))) (.bin .Mod (.bin .FloorDiv (.var 16) (.int 64)) (.int 4))))
      i_k7c)
noncomputable def i_k7:IS:=
 (.seq (.assign (.var 26) (.tup (.cons (.bin .Mod (.var 16) (.var 2)) (.cons (.bin .Mod (.bin .FloorDiv (.var 16) (.int 8)) (.var 2)) .nil))))
      ynX)
noncomputable def yiE:IS:=
 (.seq (.assign (.var 16) (.bin .Mod (.bin .FloorDiv (.var 13) (.int 8)) (.bin .Pow (.int 8) (.int 12))))
  (.seq (.assign (.var 17) (.bin .Mod (.var 13) (.int 8)))
  (.seq (.cut (.ite (.cmp .Eq (.var 17) (.int 2))
  i_k2
  (.seq (.ite (.cmp .Lt (.var 17) (.int 4))
   i_k3
   (.seq (.ite (.boolop .Or (.cons (.cmp .Eq (.var 17) (.int 4)) (.cons (.cmp .Eq (.var 17) (.int 6)) .nil)))
    i_k4
    (.seq (.ite (.cmp .Eq (.var 17) (.int 5))
     i_k5
     i_k7)
     .skip))
    .skip))
   .skip)))
  (.seq (.ite (.un .Not (.call (.ref zcR) (.cons (.var 8) (.cons (.sub (.var 9) (.var 11)) (.cons (.var 2) .nil)))))
  (.seq (.ret (.bool false))
   .skip)
  .skip)
  .skip))))
noncomputable def i_t5:IS:=
 (.seq (.for_ (.var 13) (.bin .Add (.slice (.var 0) (.int 2) (.int 10)) (.list (.cons (.int 3) (.cons (.int 12) (.cons (.int 13) .nil)))))
 yiE)
 (.seq (.expr (.meth (.var 12) "append" (.cons (.tup (.cons (.var 8) (.cons (.sub (.var 9) (.var 11)) .nil))) .nil)))
 i_t6))
noncomputable def i_t4:IS:=
 (.seq (.assign (.var 9) (.list (.cons (.var 5) .nil)))
 (.seq (.assign (.var 10) (.list .nil))
 (.seq (.assign (.var 11) (.int 0))
 (.seq (.assign (.var 12) (.list .nil))
 i_t5))))
noncomputable def i_t3:IS:=
 (.seq (.assign (.var 7) (.bin .Mult (.list (.cons .none .nil)) (.var 3)))
 (.seq (.assign (.var 8) (.call (.ref zdS) (.cons (.var 2) .nil)))
 (.seq (.ite (.un .Not (.call (.ref zeK) (.cons (.var 8) (.cons (.var 7) (.cons (.var 5) (.cons (.var 2) .nil))))))
 (.seq (.ret (.bool false))
  .skip)
 .skip)
 i_t4)))
noncomputable def i_t2:IS:=
 (.seq (.assign (.var 6) (.call (.ref zaW) (.cons (.var 5) (.cons (.var 2) .nil))))
 (.seq (.assign (.var 5) (.comp (.one 20) (.call (.ty "range") (.cons (.var 3) .nil)) .nil (.ife (.cmp .In (.var 20) (.var 6)) .none (.sub (.var 5) (.var 20)))))
 i_t3))
noncomputable def i_t1:IS:=
 (.seq (.assign (.var 4) (.bin .Mod (.sub (.var 1) (.int 1)) (.bin .Pow (.int 3) (.var 3))))
 (.seq (.assign (.var 5) (.comp (.one 20) (.call (.ty "range") (.cons (.var 3) .nil)) .nil (.sub (.list (.cons .none (.cons (.str "b") (.cons (.str "w") .nil)))) (.bin .Mod (.bin .FloorDiv (.var 4) (.bin .Pow (.int 3) (.var 20))) (.int 3)))))
 i_t2))
noncomputable def ykE:IS:=
 (.seq (.assign (.var 1) (.bin .Add (.slice (.var 0) .none (.int 2)) (.list (.cons (.int 0) (.cons (.int 0) .nil)))))
 (.seq (.assign (.var 2) (.bin .Add (.bin .Mod (.sub (.var 1) (.int 0)) (.int 3)) (.int 2)))
 (.seq (.assign (.var 3) (.bin .Mult (.var 2) (.var 2)))
 i_t1)))
noncomputable def ymJ:IS:=
 ykE
noncomputable def znL:GT:=[("KeyError",.ty "KeyError",false),("_opponents",.ref zfG,false),("ValueError",.ty "ValueError",false),("range",.ty "range",true),("Board",.ref zdS,true),("_Group",.ref zqR,true),("set",.ty "set",true),("IndexError",.ty "IndexError",false),("len",.bi "len",true),("opponent_of",.ref zcW,true),("list",.ty "list",true),("_law_near",.ref zeW,true),("_law_breathless",.ref zaW,true),("_law_way",.ref zhO,true),("_law_told",.ref zcC,true),("_law_set",.ref zeK,true),("_law_shows",.ref zcR,true),("_law_again",.ref zcT,true),("_law_move",.ref zeX,true),("_law_refused",.ref zdZ,true)]
structure L1 (C:Cx):Prop where
 K:C.K=heapK C.w.params
 miss:∀ x∈(["IndexError", "KeyError", "ValueError", "len", "list", "range", "set"]:List Str),C.mg x=none
 nc:C.nc = "ValueError"
theorem L1.fd {C:Cx}(h:L1 C){a:Addr}{x:Str}{v}(e:findIn (heapK C.w.params) (.ref a) x=v):findIn C.K (.ref a) x=v:=by rw[h.K];exact e
theorem L1.ft {C:Cx}(h:L1 C){a:Addr}{v}(e:typeIn (heapK C.w.params) (.ref a)=v):typeIn C.K (.ref a)=v:=by rw[h.K];exact e
theorem L1.cal {C:Cx}(h:L1 C){g:PV}(e:zhK (heapK C.w.params) g=true):zhK C.K g=true:=by rw[h.K];exact e
theorem L1.mks {C:Cx}(h:L1 C){a:Addr}(e:makesIn (heapK C.w.params) a=true):makesIn C.K a=true:=by rw[h.K];exact e
theorem L1.ref {C:Cx}(h:L1 C){x:Str}{a:Addr}{c:Bool}(e:nsIn (heapK C.w.params) mainGlobals x=some (some (.ref a)))(hc:c=true->zhK (heapK C.w.params) (.ref a)=true):yjP C x (.ref a) c:=⟨λ q=>h.cal (hc q),by rw[h.K];exact e⟩
theorem L1.ty {C:Cx}(h:L1 C){x:Str}{n:String}{c:Bool}(e:bootBuiltins x=some (.type n))(hm:x∈(["IndexError", "KeyError", "ValueError", "len", "list", "range", "set"]:List Str)):yjP C x (.ty n) c:=⟨λ _=>rfl,h.miss x hm,e⟩
theorem L1.bi {C:Cx}(h:L1 C){x:Str}{n:String}{c:Bool}(e:bootBuiltins x=some (.builtin n))(hm:x∈(["IndexError", "KeyError", "ValueError", "len", "list", "range", "set"]:List Str)):yjP C x (.bi n) c:=⟨λ _=>rfl,h.miss x hm,e⟩
theorem GOk.nil {C:Cx}:GOk C []:=λ _ h=>by cases h
theorem GOk.cons {C:Cx}{x:Str}{p:PV}{c:Bool}{G:GT}(h:yjP C x p c)(t:GOk C G):GOk C ((x,p,c)::G):=λ e he=>by
 rcases List.mem_cons.mp he with rfl|he
 ·exact h
 ·exact t e he
theorem L1.go {C:Cx}(h:L1 C):GOk C znL:=(GOk.cons (h.ty PyProof.Rows.Boot.«KeyError» (by decide +kernel)) (GOk.cons (h.ref (by kernel_rfl) (λ q=>by cases q)) (GOk.cons (h.ty PyProof.Rows.Boot.«ValueError» (by decide +kernel)) (GOk.cons (h.ty PyProof.Rows.Boot.«range» (by decide +kernel)) (GOk.cons (h.ref (by kernel_rfl) (λ _=>by kernel_rfl)) (GOk.cons (h.ref (by kernel_rfl) (λ _=>by kernel_rfl)) (GOk.cons (h.ty PyProof.Rows.Boot.«set» (by decide +kernel)) (GOk.cons (h.ty PyProof.Rows.Boot.«IndexError» (by decide +kernel)) (GOk.cons (h.bi PyProof.Rows.Boot.«len» (by decide +kernel)) (GOk.cons (h.ref (by kernel_rfl) (λ _=>by kernel_rfl)) (GOk.cons (h.ty PyProof.Rows.Boot.«list» (by decide +kernel)) (GOk.cons (h.ref (by kernel_rfl) (λ _=>by kernel_rfl)) (GOk.cons (h.ref (by kernel_rfl) (λ _=>by kernel_rfl)) (GOk.cons (h.ref (by kernel_rfl) (λ _=>by kernel_rfl)) (GOk.cons (h.ref (by kernel_rfl) (λ _=>by kernel_rfl)) (GOk.cons (h.ref (by kernel_rfl) (λ _=>by kernel_rfl)) (GOk.cons (h.ref (by kernel_rfl) (λ _=>by kernel_rfl)) (GOk.cons (h.ref (by kernel_rfl) (λ _=>by kernel_rfl)) (GOk.cons (h.ref (by kernel_rfl) (λ _=>by kernel_rfl)) (GOk.cons (h.ref (by kernel_rfl) (λ _=>by kernel_rfl)) GOk.nil))))))))))))))))))))
section
variable {T:Tr}{X:String}{H:zaA}{R:zaA->Prop}{Q:PV->zaA->Prop}{ps:List PV}
theorem L1.D_opponent_of {C:Cx}(h:L1 C):zeM C.K zcW ziZ ["colour"] (zaM ziN):=by
 rw[h.K];refine⟨⟨.type "function",none,#[],?_⟩,?_,?_,?_,?_,?_,zgV λ _=>?_,?_,?_,?_,?_,?_,?_,?_⟩ <;> first|kernel_rfl|decide +kernel
theorem zrH:mS znL ziS ziZ.scope.names zjN false true (zaM ziN)=true:=by decide +kernel
theorem zrK:ziS.Nodup:=by decide +kernel
theorem L1.f_opponent_of (h:L1 T.C)(hh:T.hd=false)(hn:1<=T.n)(hl:ps.length=1)(e:wS zjN X T.down (zmE 0 ps) H (λ _ H=>R H) (zoU Q)):zaE T X (.ref zcW) ps H Q R:=
 zaE.fn h.go zrK h.D_opponent_of rfl (by rw[hh];exact zrH) rfl hn hl e
theorem L1.D_init {C:Cx}(h:L1 C):zeM C.K yaQ yhW ["self", "side"] (zaM yhT):=by
 rw[h.K];refine⟨⟨.type "function",none,#[],?_⟩,?_,?_,?_,?_,?_,zqW λ _ _=>?_,?_,?_,?_,?_,?_,?_,?_⟩ <;> first|kernel_rfl|decide +kernel
theorem yoH:mS znL ygS yhW.scope.names yhC false true (zaM yhT)=true:=by decide +kernel
theorem ymU:ygS.Nodup:=by decide +kernel
theorem L1.f_init (h:L1 T.C)(hh:T.hd=false)(hn:1<=T.n)(hl:ps.length=2)(e:wS yhC X T.down (zmE 0 ps) H (λ _ H=>R H) (zoU Q)):zaE T X (.ref yaQ) ps H Q R:=
 zaE.fn h.go ymU h.D_init rfl (by rw[hh];exact yoH) rfl hn hl e
theorem L1.D_copy {C:Cx}(h:L1 C):zeM C.K zpC yhO ["self"] (zaM yhZ):=by
 rw[h.K];refine⟨⟨.type "function",none,#[],?_⟩,?_,?_,?_,?_,?_,zgV λ _=>?_,?_,?_,?_,?_,?_,?_,?_⟩ <;> first|kernel_rfl|decide +kernel
theorem yoE:mS znL yiH yhO.scope.names yiA false true (zaM yhZ)=true:=by decide +kernel
theorem ymK:yiH.Nodup:=by decide +kernel
theorem L1.f_copy (h:L1 T.C)(hh:T.hd=false)(hn:1<=T.n)(hl:ps.length=1)(e:wS yiA X T.down (zmE 0 ps) H (λ _ H=>R H) (zoU Q)):zaE T X (.ref zpC) ps H Q R:=
 zaE.fn h.go ymK h.D_copy rfl (by rw[hh];exact yoE) rfl hn hl e
theorem L1.D_make_group {C:Cx}(h:L1 C):zeM C.K zfR zkV ["self", "row", "col", "colour"] (zaM zkX):=by
 rw[h.K];refine⟨⟨.type "function",none,#[],?_⟩,?_,?_,?_,?_,?_,zgT λ _ _ _ _=>?_,?_,?_,?_,?_,?_,?_,?_⟩ <;> first|kernel_rfl|decide +kernel
theorem ztO:mS znL zkR zkV.scope.names zkN false true (zaM zkX)=true:=by decide +kernel
theorem ztI:zkR.Nodup:=by decide +kernel
theorem L1.f_make_group (h:L1 T.C)(hh:T.hd=false)(hn:1<=T.n)(hl:ps.length=4)(e:wS zkN X T.down (zmE 0 ps) H (λ _ H=>R H) (zoU Q)):zaE T X (.ref zfR) ps H Q R:=
 zaE.fn h.go ztI h.D_make_group rfl (by rw[hh];exact ztO) rfl hn hl e
theorem L1.D_find_surrounded_groups {C:Cx}(h:L1 C):zeM C.K zaU zdN ["self", "r", "c"] (zaM zdK):=by
 rw[h.K];refine⟨⟨.type "function",none,#[],?_⟩,?_,?_,?_,?_,?_,zmN λ _ _ _=>?_,?_,?_,?_,?_,?_,?_,?_⟩ <;> first|kernel_rfl|decide +kernel
theorem zgB:mS znL zdQ zdN.scope.names zdO false true (zaM zdK)=true:=by decide +kernel
theorem zgA:zdQ.Nodup:=by decide +kernel
theorem L1.f_find_surrounded_groups (h:L1 T.C)(hh:T.hd=false)(hn:1<=T.n)(hl:ps.length=3)(e:wS zdO X T.down (zmE 0 ps) H (λ _ H=>R H) (zoU Q)):zaE T X (.ref zaU) ps H Q R:=
 zaE.fn h.go zgA h.D_find_surrounded_groups rfl (by rw[hh];exact zgB) rfl hn hl e
theorem L1.D_find_all_surrounded_groups {C:Cx}(h:L1 C):zeM C.K zaO zcO ["self"] (zaM zcM):=by
 rw[h.K];refine⟨⟨.type "function",none,#[],?_⟩,?_,?_,?_,?_,?_,zgV λ _=>?_,?_,?_,?_,?_,?_,?_,?_⟩ <;> first|kernel_rfl|decide +kernel
theorem zeR:mS znL zcN zcO.scope.names zcL false true (zaM zcM)=true:=by decide +kernel
theorem zeU:zcN.Nodup:=by decide +kernel
theorem L1.f_find_all_surrounded_groups (h:L1 T.C)(hh:T.hd=false)(hn:1<=T.n)(hl:ps.length=1)(e:wS zcL X T.down (zmE 0 ps) H (λ _ H=>R H) (zoU Q)):zaE T X (.ref zaO) ps H Q R:=
 zaE.fn h.go zeU h.D_find_all_surrounded_groups rfl (by rw[hh];exact zeR) rfl hn hl e
theorem L1.D_is_empty {C:Cx}(h:L1 C):zeM C.K zhT zqI ["self"] (zaM zpT):=by
 rw[h.K];refine⟨⟨.type "function",none,#[],?_⟩,?_,?_,?_,?_,?_,zgV λ _=>?_,?_,?_,?_,?_,?_,?_,?_⟩ <;> first|kernel_rfl|decide +kernel
theorem zxT:mS znL zpM zqI.scope.names zqG false true (zaM zpT)=true:=by decide +kernel
theorem zxR:zpM.Nodup:=by decide +kernel
theorem L1.f_is_empty (h:L1 T.C)(hh:T.hd=false)(hn:1<=T.n)(hl:ps.length=1)(e:wS zqG X T.down (zmE 0 ps) H (λ _ H=>R H) (zoU Q)):zaE T X (.ref zhT) ps H Q R:=
 zaE.fn h.go zxR h.D_is_empty rfl (by rw[hh];exact zxT) rfl hn hl e
theorem L1.D_get {C:Cx}(h:L1 C):zeM C.K zvG ypM ["self", "row", "col"] (zaM ymH):=by
 rw[h.K];refine⟨⟨.type "function",none,#[],?_⟩,?_,?_,?_,?_,?_,zmN λ _ _ _=>?_,?_,?_,?_,?_,?_,?_,?_⟩ <;> first|kernel_rfl|decide +kernel
theorem c_get:mS znL ykW ypM.scope.names ypC false true (zaM ymH)=true:=by decide +kernel
theorem u_get:ykW.Nodup:=by decide +kernel
theorem L1.f_get (h:L1 T.C)(hh:T.hd=false)(hn:1<=T.n)(hl:ps.length=3)(e:wS ypC X T.down (zmE 0 ps) H (λ _ H=>R H) (zoU Q)):zaE T X (.ref zvG) ps H Q R:=
 zaE.fn h.go u_get h.D_get rfl (by rw[hh];exact c_get) rfl hn hl e
theorem L1.D_play {C:Cx}(h:L1 C):zeM C.K ziX yhL ["self", "row", "col", "colour"] (zaM ygT):=by
 rw[h.K];refine⟨⟨.type "function",none,#[],?_⟩,?_,?_,?_,?_,?_,zgT λ _ _ _ _=>?_,?_,?_,?_,?_,?_,?_,?_⟩ <;> first|kernel_rfl|decide +kernel
theorem ymN:mS znL ygZ yhL.scope.names yhK false true (zaM ygT)=true:=by decide +kernel
theorem yoM:ygZ.Nodup:=by decide +kernel
theorem L1.f_play (h:L1 T.C)(hh:T.hd=false)(hn:1<=T.n)(hl:ps.length=4)(e:wS yhK X T.down (zmE 0 ps) H (λ _ H=>R H) (zoU Q)):zaE T X (.ref ziX) ps H Q R:=
 zaE.fn h.go yoM h.D_play rfl (by rw[hh];exact ymN) rfl hn hl e
theorem L1.D_apply_setup {C:Cx}(h:L1 C):zeM C.K zaS zjI ["self", "black_points", "white_points", "empty_points"] (zaM ziY):=by
 rw[h.K];refine⟨⟨.type "function",none,#[],?_⟩,?_,?_,?_,?_,?_,zgT λ _ _ _ _=>?_,?_,?_,?_,?_,?_,?_,?_⟩ <;> first|kernel_rfl|decide +kernel
theorem zqO:mS znL zjF zjI.scope.names zjJ false true (zaM ziY)=true:=by decide +kernel
theorem zqY:zjF.Nodup:=by decide +kernel
theorem L1.f_apply_setup (h:L1 T.C)(hh:T.hd=false)(hn:1<=T.n)(hl:ps.length=4)(e:wS zjJ X T.down (zmE 0 ps) H (λ _ H=>R H) (zoU Q)):zaE T X (.ref zaS) ps H Q R:=
 zaE.fn h.go zqY h.D_apply_setup rfl (by rw[hh];exact zqO) rfl hn hl e
theorem L1.D_list_occupied_points {C:Cx}(h:L1 C):zeM C.K zbG zcK ["self"] (zaM zcI):=by
 rw[h.K];refine⟨⟨.type "function",none,#[],?_⟩,?_,?_,?_,?_,?_,zgV λ _=>?_,?_,?_,?_,?_,?_,?_,?_⟩ <;> first|kernel_rfl|decide +kernel
theorem zhE:mS znL zcJ zcK.scope.names zcH false true (zaM zcI)=true:=by decide +kernel
theorem zhD:zcJ.Nodup:=by decide +kernel
theorem zgU:mS znL zcJ zcK.scope.names zcH true true (zaM zcI)=true:=by decide +kernel
theorem L1.f_list_occupied_points (h:L1 T.C)(hn:1<=T.n)(hl:ps.length=1)(e:wS zcH X T.down (zmE 0 ps) H (λ _ H=>R H) (zoU Q)):zaE T X (.ref zbG) ps H Q R:=
 zaE.fn h.go zhD h.D_list_occupied_points rfl (by cases q:T.hd;exact zhE;exact zgU) rfl hn hl e
theorem L1.D_law_near {C:Cx}(h:L1 C):zeM C.K zeW zqH ["spot", "side"] (zaM zqJ):=by
 rw[h.K];refine⟨⟨.type "function",none,#[],?_⟩,?_,?_,?_,?_,?_,zqW λ _ _=>?_,?_,?_,?_,?_,?_,?_,?_⟩ <;> first|kernel_rfl|decide +kernel
theorem zzB:mS znL zpO zqH.scope.names zpP false true (zaM zqJ)=true:=by decide +kernel
theorem zzM:zpO.Nodup:=by decide +kernel
theorem L1.f_law_near (h:L1 T.C)(hh:T.hd=false)(hn:1<=T.n)(hl:ps.length=2)(e:wS zpP X T.down (zmE 0 ps) H (λ _ H=>R H) (zoU Q)):zaE T X (.ref zeW) ps H Q R:=
 zaE.fn h.go zzM h.D_law_near rfl (by rw[hh];exact zzB) rfl hn hl e
theorem L1.D_law_breathless {C:Cx}(h:L1 C):zeM C.K zaW zhA ["cells", "side"] (zaM zgY):=by
 rw[h.K];refine⟨⟨.type "function",none,#[],?_⟩,?_,?_,?_,?_,?_,zqW λ _ _=>?_,?_,?_,?_,?_,?_,?_,?_⟩ <;> first|kernel_rfl|decide +kernel
theorem zmA:mS znL zhC zhA.scope.names zgZ false true (zaM zgY)=true:=by decide +kernel
theorem zmG:zhC.Nodup:=by decide +kernel
theorem L1.f_law_breathless (h:L1 T.C)(hh:T.hd=false)(hn:1<=T.n)(hl:ps.length=2)(e:wS zgZ X T.down (zmE 0 ps) H (λ _ H=>R H) (zoU Q)):zaE T X (.ref zaW) ps H Q R:=
 zaE.fn h.go zmG h.D_law_breathless rfl (by rw[hh];exact zmA) rfl hn hl e
theorem L1.D_law_move {C:Cx}(h:L1 C):zeM C.K zeX zqA ["cells", "side", "spot", "colour"] (zaM zpQ):=by
 rw[h.K];refine⟨⟨.type "function",none,#[],?_⟩,?_,?_,?_,?_,?_,zgT λ _ _ _ _=>?_,?_,?_,?_,?_,?_,?_,?_⟩ <;> first|kernel_rfl|decide +kernel
theorem zyS:mS znL zqK zqA.scope.names zpI false true (zaM zpQ)=true:=by decide +kernel
theorem zxS:zqK.Nodup:=by decide +kernel
theorem L1.f_law_move (h:L1 T.C)(hh:T.hd=false)(hn:1<=T.n)(hl:ps.length=4)(e:wS zpI X T.down (zmE 0 ps) H (λ _ H=>R H) (zoU Q)):zaE T X (.ref zeX) ps H Q R:=
 zaE.fn h.go zxS h.D_law_move rfl (by rw[hh];exact zyS) rfl hn hl e
theorem L1.D_law_way {C:Cx}(h:L1 C):zeM C.K zhO zuH ["cells", "aim", "side"] (zaM ztK):=by
 rw[h.K];refine⟨⟨.type "function",none,#[],?_⟩,?_,?_,?_,?_,?_,zmN λ _ _ _=>?_,?_,?_,?_,?_,?_,?_,?_⟩ <;> first|kernel_rfl|decide +kernel
theorem ycA:mS znL zsK zuH.scope.names ztA false true (zaM ztK)=true:=by decide +kernel
theorem ydH:zsK.Nodup:=by decide +kernel
theorem L1.f_law_way (h:L1 T.C)(hh:T.hd=false)(hn:1<=T.n)(hl:ps.length=3)(e:wS ztA X T.down (zmE 0 ps) H (λ _ H=>R H) (zoU Q)):zaE T X (.ref zhO) ps H Q R:=
 zaE.fn h.go ydH h.D_law_way rfl (by rw[hh];exact ycA) rfl hn hl e
theorem L1.D_law_set {C:Cx}(h:L1 C):zeM C.K zeK ztU ["board", "cells", "aim", "side"] (zaM zuC):=by
 rw[h.K];refine⟨⟨.type "function",none,#[],?_⟩,?_,?_,?_,?_,?_,zgT λ _ _ _ _=>?_,?_,?_,?_,?_,?_,?_,?_⟩ <;> first|kernel_rfl|decide +kernel
theorem ydG:mS znL zuK ztU.scope.names zuD false true (zaM zuC)=true:=by decide +kernel
theorem ybR:zuK.Nodup:=by decide +kernel
theorem L1.f_law_set (h:L1 T.C)(hh:T.hd=false)(hn:1<=T.n)(hl:ps.length=4)(e:wS zuD X T.down (zmE 0 ps) H (λ _ H=>R H) (zoU Q)):zaE T X (.ref zeK) ps H Q R:=
 zaE.fn h.go ybR h.D_law_set rfl (by rw[hh];exact ydG) rfl hn hl e
theorem L1.D_law_told {C:Cx}(h:L1 C):zeM C.K zcC zqD ["board", "side", "spot", "colour"] (zaM zpR):=by
 rw[h.K];refine⟨⟨.type "function",none,#[],?_⟩,?_,?_,?_,?_,?_,zgT λ _ _ _ _=>?_,?_,?_,?_,?_,?_,?_,?_⟩ <;> first|kernel_rfl|decide +kernel
theorem zxX:mS znL zqL zqD.scope.names zpN false true (zaM zpR)=true:=by decide +kernel
theorem zyW:zqL.Nodup:=by decide +kernel
theorem L1.f_law_told (h:L1 T.C)(hh:T.hd=false)(hn:1<=T.n)(hl:ps.length=4)(e:wS zpN X T.down (zmE 0 ps) H (λ _ H=>R H) (zoU Q)):zaE T X (.ref zcC) ps H Q R:=
 zaE.fn h.go zyW h.D_law_told rfl (by rw[hh];exact zxX) rfl hn hl e
theorem L1.D_law_again {C:Cx}(h:L1 C):zeM C.K zcT znD ["board", "side", "cells", "step"] (zaM znX):=by
 rw[h.K];refine⟨⟨.type "function",none,#[],?_⟩,?_,?_,?_,?_,?_,zgT λ _ _ _ _=>?_,?_,?_,?_,?_,?_,?_,?_⟩ <;> first|kernel_rfl|decide +kernel
theorem zvZ:mS znL znE znD.scope.names zoG false true (zaM znX)=true:=by decide +kernel
theorem zwK:znE.Nodup:=by decide +kernel
theorem L1.f_law_again (h:L1 T.C)(hh:T.hd=false)(hn:1<=T.n)(hl:ps.length=4)(e:wS zoG X T.down (zmE 0 ps) H (λ _ H=>R H) (zoU Q)):zaE T X (.ref zcT) ps H Q R:=
 zaE.fn h.go zwK h.D_law_again rfl (by rw[hh];exact zvZ) rfl hn hl e
theorem L1.D_law_refused {C:Cx}(h:L1 C):zeM C.K zdZ ziV ["work"] (zaM zjB):=by
 rw[h.K];refine⟨⟨.type "function",none,#[],?_⟩,?_,?_,?_,?_,?_,zgV λ _=>?_,?_,?_,?_,?_,?_,?_,?_⟩ <;> first|kernel_rfl|decide +kernel
theorem zqS:mS znL ziP ziV.scope.names zjQ false true (zaM zjB)=true:=by decide +kernel
theorem zrY:ziP.Nodup:=by decide +kernel
theorem L1.f_law_refused (h:L1 T.C)(hh:T.hd=false)(hn:1<=T.n)(hl:ps.length=1)(e:wS zjQ X T.down (zmE 0 ps) H (λ _ H=>R H) (zoU Q)):zaE T X (.ref zdZ) ps H Q R:=
 zaE.fn h.go zrY h.D_law_refused rfl (by rw[hh];exact zqS) rfl hn hl e
theorem L1.D_law_shows {C:Cx}(h:L1 C):zeM C.K zcR znB ["board", "cells", "side"] (zaM zoC):=by
 rw[h.K];refine⟨⟨.type "function",none,#[],?_⟩,?_,?_,?_,?_,?_,zmN λ _ _ _=>?_,?_,?_,?_,?_,?_,?_,?_⟩ <;> first|kernel_rfl|decide +kernel
theorem zvQ:mS znL znT znB.scope.names znC false true (zaM zoC)=true:=by decide +kernel
theorem zuY:znT.Nodup:=by decide +kernel
theorem L1.f_law_shows (h:L1 T.C)(hh:T.hd=false)(hn:1<=T.n)(hl:ps.length=3)(e:wS znC X T.down (zmE 0 ps) H (λ _ H=>R H) (zoU Q)):zaE T X (.ref zcR) ps H Q R:=
 zaE.fn h.go zuY h.D_law_shows rfl (by rw[hh];exact zvQ) rfl hn hl e
theorem L1.D_law {C:Cx}(h:L1 C):zeM C.K a_law ypS ["script"] (zaM ypN):=by
 rw[h.K];refine⟨⟨.type "function",none,#[],?_⟩,?_,?_,?_,?_,?_,zgV λ _=>?_,?_,?_,?_,?_,?_,?_,?_⟩ <;> first|kernel_rfl|decide +kernel
theorem c_law:mS znL ykU ypS.scope.names ymJ false true (zaM ypN)=true:=by decide +kernel
theorem u_law:ykU.Nodup:=by decide +kernel
end
theorem ndN {b:Bool}{P:Prop}(h:b=false):b=true->P:=λ q=>by rw[h]at q;cases q
noncomputable def cell:Option Str->PV
 | none=>.none
 | some c=>.str c
noncomputable def own5:List Str:=["__init__", "copy", "_make_group", "_make_empty_region", "_find_surrounded_groups", "_find_all_surrounded_groups", "is_empty", "get", "play", "apply_setup", "list_occupied_points", "area_score"]
structure zeA (x d bp bd:Addr)(rows:List Addr)(n:Nat)(G:Pt->Option Str)(e:Bool)(H:zaA):Prop where
 inst:H x=some (.inst zdS d)
 attrs:∃ l,H d=some (.attrs l)/\l.length<=5000/\l.lookup ("side" : Str)=some (.int n)/\l.lookup ("board_points" : Str)=some (.ref bp)/\l.lookup ("board" : Str)=some (.ref bd)/\l.lookup ("_is_empty" : Str)=some (.bool e)/\∀ m∈own5,l.lookup m=none
 pts:H bp=some (.list (zbT n n λ i j=>some (pt (i,j))))
 board:H bd=some (.list (rows.map .ref))
 len:rows.length=n
 row:∀ (i:Nat) a,rows[i]?=some a->H a=some (.list ((List.range n).map λ j:Nat=>cell (G (i,j))))
 nodup:rows.Nodup
 lo:2<=n
 five:n<=5
 bpn:bp∉rows
 bdn:bd∉rows
section
variable {T:Tr}{X:String}{H H0:zaA}{R:zaA->Prop}{x d bp bd:Addr}{rows:List Addr}{n:Nat}{G:Pt->Option Str}{e:Bool}
theorem zeA.ext {H':zaA}(B:zeA x d bp bd rows n G e H)(ex:Ext H H'):zeA x d bp bd rows n G e H':=
 ⟨ex _ _ B.inst,let ⟨l,a,b⟩:=B.attrs;⟨l,ex _ _ a,b⟩,ex _ _ B.pts,ex _ _ B.board,B.len,λ i a h=>ex _ _ (B.row i a h),B.nodup,B.lo,B.five,B.bpn,B.bdn⟩
theorem L1.clsB {C:Cx}(h:L1 C):zsF C.K zdS:=by rw[h.K];exact⟨by kernel_rfl,by kernel_rfl,by kernel_rfl,by kernel_rfl,by kernel_rfl⟩
theorem L1.clsG {C:Cx}(h:L1 C):zsF C.K zqR:=by rw[h.K];exact⟨by kernel_rfl,by kernel_rfl,by kernel_rfl,by kernel_rfl,by kernel_rfl⟩
theorem zeA.gSide {Q:PV->zaA->Prop}(hL:L1 T.C)(B:zeA x d bp bd rows n G e H)(h:Q (.int n) H):zoW T "side" (.ref x) H Q:=by
 refine q17 B.attrs λ l h1 h2 h3 h4 h5 h6 h7=>?_;exact zoW.inst hL.clsB (hL.fd (by kernel_rfl)) B.inst h1 h3 rfl h
theorem zeA.gPts {Q:PV->zaA->Prop}(hL:L1 T.C)(B:zeA x d bp bd rows n G e H)(h:Q (.ref bp) H):zoW T "board_points" (.ref x) H Q:=by
 refine q17 B.attrs λ l h1 h2 h3 h4 h5 h6 h7=>?_;exact zoW.inst hL.clsB (hL.fd (by kernel_rfl)) B.inst h1 h4 rfl h
theorem zeA.gBoard {Q:PV->zaA->Prop}(hL:L1 T.C)(B:zeA x d bp bd rows n G e H)(h:Q (.ref bd) H):zoW T "board" (.ref x) H Q:=by
 refine q17 B.attrs λ l h1 h2 h3 h4 h5 h6 h7=>?_;exact zoW.inst hL.clsB (hL.fd (by kernel_rfl)) B.inst h1 h5 rfl h
theorem zeA.gEmpty {Q:PV->zaA->Prop}(hL:L1 T.C)(B:zeA x d bp bd rows n G e H)(h:Q (.bool e) H):zoW T "_is_empty" (.ref x) H Q:=by
 refine q17 B.attrs λ l h1 h2 h3 h4 h5 h6 h7=>?_;exact zoW.inst hL.clsB (hL.fd (by kernel_rfl)) B.inst h1 h6 rfl h
noncomputable def MOk (P:Params)(m:Str)(g:Addr):Prop:=m∈own5/\findIn (heapK P) (.ref zdS) m=some (some (.ref g))/\typeIn (heapK P) (.ref g)=some (.type "function")/\zhK (heapK P) (.ref g)=true
theorem zeA.meth {g:Addr}{m:Str}(hL:L1 T.C)(B:zeA x d bp bd rows n G e H)(q:MOk T.C.w.params m g):zbQ T m (.ref x) H (.ref g):=by
 refine q17 B.attrs λ l h1 h2 h3 h4 h5 h6 h7=>?_;exact zbQ.own (hL.cal q.2.2.2) hL.clsB (hL.fd q.2.1) (hL.ft q.2.2.1) B.inst h1 (h7 m q.1)
theorem zeA.rowAt (B:zeA x d bp bd rows n G e H){i:Int}(h0:0<=i)(h1:i<n):∃ a,rows[i.toNat]?=some a/\H a=some (.list ((List.range n).map λ j:Nat=>cell (G (i,j)))):=by
 have hlt:i.toNat<rows.length:=by rw[B.len];exact lq14 h0 h1
 refine⟨rows[i.toNat],List.getElem?_eq_getElem hlt,?_⟩;have:=B.row i.toNat _ (List.getElem?_eq_getElem hlt);rw[Int.toNat_of_nonneg h0]at this;exact this
theorem yiY {a:Addr}{i j:Int}{Q:PV->zaA->Prop}(hH:H a=some (.list ((List.range n).map λ j:Nat=>cell (G (i,j)))))(h0:0<=j)(h1:j<n)(hn:n<=5)(h:Q (cell (G (i,j))) H):zdB T (.ref a) (.int j) H Q:=by
 refine zdB.list hH h0 (by exact lq13 h1 hn rfl) (p:=cell (G (i,j))) ?_ h;rw[List.getElem?_map,List.getElem?_range (by exact lq14 h0 h1)];simp only[Option.map_some];rw[Int.toNat_of_nonneg h0]
theorem zeA.at1 {i:Int}{Q:PV->zaA->Prop}(B:zeA x d bp bd rows n G e H)(h0:0<=i)(h1:i<n)(h:∀ a,rows[i.toNat]?=some a->H a=some (.list ((List.range n).map λ j:Nat=>cell (G (i,j))))->Q (.ref a) H):zdB T (.ref bd) (.int i) H Q:=by
 refine q12 (B.rowAt h0 h1) λ a ha hH=>?_;exact zdB.list B.board h0 (by have:=B.five;exact lq13 h1 this rfl) (p:=.ref a) (by rw[List.getElem?_map,ha];rfl) (h a ha hH)
theorem zrZ (hL:L1 T.C)(hn:1<=T.n)(hh:T.hd=false)(B:zeA x d bp bd rows n G e H):zaE T X (.ref zhT) [.ref x] H (λ p H'=>p=.bool e/\H'=H) R:=
 hL.f_is_empty hh hn rfl (B.gEmpty hL ⟨rfl,rfl⟩)
end
structure zbC (g dg ps:Addr)(col:Str)(P:List Pt)(sur:Bool)(H:zaA):Prop where
 inst:H g=some (.inst zqR dg)
 attrs:∃ l,H dg=some (.attrs l)/\l.lookup ("colour" : Str)=some (.str col)/\l.lookup ("points" : Str)=some (.ref ps)/\l.lookup ("is_surrounded" : Str)=some (.bool sur)
 pts:H ps=some (.pset P)
inductive zzX (n:Nat)(G:Pt->Option Str)(r c:Int)(col:Str)(H:zaA)(p:PV)(H':zaA):Prop
 | mk (g dg ps:Addr) (P:List Pt) (sur:Bool) (e:p=.ref g) (ex:Ext H H') (n1:H g=none) (n2:H dg=none) (n3:H ps=none) (at_:zbC g dg ps col P sur H') (mem:∀ q,q∈P↔zaV n G col (r,c) q) (sr:sur=true↔zjW n G col (r,c)) (nd:P.Nodup):zzX n G r c col H p H'
inductive MGI (n:Nat)(G:Pt->Option Str)(col:Str)(s:Pt)(a1 a2:Addr)(H:zaA)(m:Nat)(sur:Bool)(H':zaA):Prop
 | mk (P W:List Pt) (e:m=left n P) (mg:MG n G col s P W sur) (nP:P.Nodup) (nW:W.Nodup) (hP:H' a1=some (.pset P)) (hW:H' a2=some (.pset W)) (ex:Ext H H'):MGI n G col s a1 a2 H m sur H'
inductive MGJ (n:Nat)(G:Pt->Option Str)(col:Str)(q:Pt)(P1 W1:List Pt)(sur:Bool)(a1 a2 a3:Addr)(H:zaA)(i:Nat)(sur':Bool)(H':zaA):Prop
 | mk (W':List Pt) (mi:MI n G col q P1 W1 sur ((nb q).take i) W' sur') (nW':W'.Nodup) (k1:H' a1=some (.pset P1)) (k2:H' a2=some (.pset W')) (k3:H' a3=some (.list ((nb q).map pt))) (ex:Ext H H'):MGJ n G col q P1 W1 sur a1 a2 a3 H i sur' H'
theorem zbV {α:Type}{f:α->PV}{l:List α}{i:Nat}{v:PV}(h:(l.map f)[i]?=some v):∃ z,l[i]?=some z/\v=f z:=by
 rw[List.getElem?_map]at h;refine q12 (Option.map_eq_some_iff.mp h) λ z hz e=>?_;exact⟨z,hz,e.symm⟩
theorem zbE {α:Type}{l:List α}{i:Nat}{z:α}(h:l[i]?=some z):l.take (i+1)=l.take i++[z]:=by rw[List.take_add_one,h];rfl
section
variable {T:Tr}{X:String}{H:zaA}{R:zaA->Prop}{x d bp bd:Addr}{rows:List Addr}{n:Nat}{G:Pt->Option Str}{e:Bool}
theorem zeA.box (B:zeA x d bp bd rows n G e H){q:Pt}(hq:inG n q):zeL q:=by
 have:=B.five;refine q03 hq λ u0 q3 q4=>?_;obtain⟨q1,q2⟩:=u0;exact⟨by exact q1,by lia,by exact q3,by lia⟩
theorem zhM (hL:L1 T.C)(hn:3<=T.n)(hh:T.hd=false)(B:zeA x d bp bd rows n G e H){r c:Int}{col:Str}(hg:inG n (r,c))(hc:G (r,c)=some col):
  zaE T X (.ref zfR) [.ref x,.int r,.int c,.str col] H (zzX n G r c col H) R:=by
 refine hL.f_make_group hh (by exact lq1 hn rfl) rfl ?_;refine zaG.set0 λ a1 h1=>?_;refine zaG.set0 λ a2 h2=>?_;have h12:a2≠a1:=λ e=>by rw[e,zaC]at h2;cases h2
 have h2':H a2=none:=by rw[zaD h12]at h2;exact h2
 refine M.add (r,c) zaC (B.box hg) λ l0 n0 m0=>?_;refine ynQ Bool (λ b=>[(0,.ref x),(3,.str col),(4,.ref a1),(6,.ref a2),(5,.bool b)]) (MGI n G col (r,c) a1 a2 H) (left n []) true (zaX.of rfl) ?_ ?_
 ·refine⟨[],l0,rfl,MG.first hg hc m0,List.nodup_nil,n0,?_,zaC,Ext.upd (Ext.upd (Ext.upd (Ext.refl _) h1) h2') h2'⟩
  rw[zaD h12.symm,zaD h12.symm,zaC]
 intro m sur H' uu;obtain⟨P,W,rfl,mg,nP,nW,hP,hW,ex⟩:=uu;refine STr.set hW ?_;cases W with
 | nil=>
  obtain⟨d1,d2⟩:=mg.done;refine zaG.cls0 (hL.mks (by kernel_rfl)) (hL.fd (by kernel_rfl)) λ g dg hne hg1 hg2=>?_;refine zaR.inst hL.clsG (hL.fd (by kernel_rfl)) zaC (by rw[zaD hne.symm];exact zaC) (by simp) ?_;refine zaR.inst hL.clsG (hL.fd (by kernel_rfl)) (by rw[zaD hne];exact zaC) zaC (by simp) ?_;refine zaR.inst hL.clsG (hL.fd (by kernel_rfl)) (by rw[zaD hne,zaD hne];exact zaC) zaC (by simp) ?_;have ga:g≠a1:=λ q=>by rw[q,hP]at hg1;cases hg1
  have da:dg≠a1:=λ q=>by rw[q,hP]at hg2;cases hg2
  refine zzX.mk g dg a1 P sur rfl ?_ (ex.none hg1) (ex.none hg2) h1 ⟨?_,⟨_,zaC,?_,?_,?_⟩,?_⟩ d1 d2 nP
  ·exact Ext.upd (Ext.upd (Ext.upd (Ext.upd (Ext.upd ex (ex.none hg2)) (ex.none hg1)) (ex.none hg2)) (ex.none hg2)) (ex.none hg2)
  ·rw[zaD hne,zaD hne,zaD hne];exact zaC
  ·exact zbB (by decide +kernel) (zbB (by decide +kernel) zdR)
  ·exact zbB (by decide +kernel) zdR
  ·exact zdR
  ·rw[zaD da.symm,zaD da.symm,zaD da.symm,zaD ga.symm,zaD da.symm];exact hP
 | cons w0 W0=>
 refine ynL λ K1' hK1=>?_;refine (let L0:LN:=_;(?_:wS _ _ _ L0 _ _ _));refine M.popS hW (by simp) λ q W1 hq nW1 mW1 _=>?_;have hP2:upd H' a2 (.pset W1) a1=some (.pset P):=by rw[zaD h12.symm];exact hP
 have hqg:=(mg.reach q (.inr hq)).inG;refine M.add q hP2 (B.box hqg) λ P1 nP1 mP1=>?_;intro a3 h3;have h31:a3≠a1:=λ e=>by rw[e,zaC]at h3;cases h3
 rw[zaD h31]at h3;have h32:a3≠a2:=λ e=>by rw[e,zaC]at h3;cases h3
 rw[zaD h32]at h3;have h3':H a3=none:=ex.none h3;refine zkW.list a3 ((nb q).map pt) rfl zaC Bool (λ b=>[(0,.ref x),(3,.str col),(4,.ref a1),(6,.ref a2),(5,.bool b)]) (MGJ n G col q P1 W1 sur a1 a2 a3 H) sur ⟨rfl,rfl,rfl,rfl,rfl,trivial⟩ ?_ (λ i b H'' hj=>by obtain⟨_,_,_,_,_,k3,_⟩:=hj;exact k3) ?_ ?_
 ·refine⟨W1,MI.nil,nW1,?_,?_,zaC,Ext.upd (Ext.upd (Ext.upd ex h2') h1) h3'⟩
  ·rw[zaD h31.symm,zaC]
  ·rw[zaD h32.symm,zaD h12,zaC]
 ·intro i p sur' H'' hp uu;obtain⟨W',mi,nW',k1,k2,k3,ex'⟩:=uu
  refine q12 (zbV hp) λ z hz u0=>?_;subst u0;refine zfU λ K hK=>?_;refine (let L1':LN:=(14,.int z.2)::(13,.int z.1)::_;(?_:wS _ _ _ L1' _ _ _));have hzm:z∈nb q:=List.mem_of_getElem? hz;have htk:=zbE hz;have B':=B.ext ex';have out:¬ inG n z->MGJ n G col q P1 W1 sur a1 a2 a3 H (i+1) sur' H'':=λ hzg=>⟨W',by rw[htk];exact mi.skip λ h=>absurd h hzg,nW',k1,k2,k3,ex'⟩
  have keep:zaX [(0,.ref x),(3,.str col),(4,.ref a1),(6,.ref a2),(5,.bool sur')] L1':=zaX.of rfl;refine zaK (λ z1=>?_) (λ z1=>hK _ rfl sur' _ _ keep (out (λ h=>z1 h.1.1)));refine B'.gSide hL ?_;refine zaK (λ z2=>?_) (λ z2=>hK _ rfl sur' _ _ keep (out (λ h=>z2 h.1.2)));refine zaK (λ z3=>?_) (λ z3=>hK _ rfl sur' _ _ keep (out (λ h=>z3 h.2.1)));refine B'.gSide hL ?_;refine zaK (λ z4=>?_) (λ z4=>hK _ rfl sur' _ _ keep (out (λ h=>z4 h.2.2)));have hzg:inG n z:=⟨⟨z1,z2⟩,z3,z4⟩
  refine B'.gBoard hL ?_;refine B'.at1 z1 z2 λ ra _ hra=>?_;refine yiY hra z3 z4 B.five ?_;cases hG:G (z.1,z.2) with
  | none=>exact hK _ rfl false _ _ (zaX.of rfl) ⟨W',by rw[htk];exact mi.free hzg hG,nW',k1,k2,k3,ex'⟩
  | some c'=>
   refine yiC (λ hcc=>?_) (λ hcc=>?_)
   ·subst hcc
    refine zdH.inS z k1 (B.box hzg) ?_;refine yjD (λ hin=>?_) (λ hin=>?_)
    ·refine M.add z k2 (B.box hzg) λ W2 nW2 mW2=>?_
     exact hK _ rfl sur' _ _ (zaX.of rfl) ⟨W2,by rw[htk];exact mi.more hzm hzg hG hin mW2,nW2,by rw[zaD h12.symm];exact k1,zaC,by rw[zaD h32];exact k3,Ext.upd ex' h2'⟩
    ·exact hK _ rfl sur' _ _ (zaX.of rfl) ⟨W',by rw[htk];exact mi.skip λ _=>⟨by rw[show G z=some c' from hG];simp,λ _=>hin⟩,nW',k1,k2,k3,ex'⟩
   ·exact hK _ rfl sur' _ _ (zaX.of rfl) ⟨W',by rw[htk];exact mi.skip λ _=>⟨by rw[show G z=some c' from hG];simp,λ q=>by rw[show G z=some c' from hG]at q;exact absurd (Option.some.inj q) hcc⟩,nW',k1,k2,k3,ex'⟩
 ·intro sur' H'' uu;obtain⟨W',mi,nW',k1,k2,k3,ex'⟩:=uu
  rw[List.length_map,List.take_length]at mi;exact hK1 _ rfl sur' _ _ (zaX.of rfl) ⟨left n P1,mg.left_lt hq mP1,P1,W',rfl,mg.turn hq mW1 mP1 mi,nP1,nW',k1,k2,ex'⟩
end
structure GR where
 g:Addr
 dg:Addr
 ps:Addr
 col:Str
 P:List Pt
noncomputable def GR.cp (x:GR):Str×List Pt:=(x.col,x.P)
noncomputable def GR.At (x:GR)(H:zaA):Prop:=zbC x.g x.dg x.ps x.col x.P true H
structure GR.New (y:GR)(H H':zaA):Prop where
 at_:y.At H'
 ng:H y.g=none
 nd:H y.dg=none
 np:H y.ps=none
section
variable {T:Tr}{X:String}{H:zaA}{R:zaA->Prop}{x d bp bd:Addr}{rows:List Addr}{n:Nat}{G:Pt->Option Str}{e:Bool}{g dg ps:Addr}{col:Str}{P:List Pt}{sur:Bool}
theorem zbC.gCol {Q:PV->zaA->Prop}(hL:L1 T.C)(B:zbC g dg ps col P sur H)(h:Q (.str col) H):zoW T "colour" (.ref g) H Q:=by
 refine q14 B.attrs λ l h1 h2 h3 h4=>?_;exact zoW.inst hL.clsG (hL.fd (by kernel_rfl)) B.inst h1 h2 rfl h
theorem zbC.gPts {Q:PV->zaA->Prop}(hL:L1 T.C)(B:zbC g dg ps col P sur H)(h:Q (.ref ps) H):zoW T "points" (.ref g) H Q:=by
 refine q14 B.attrs λ l h1 h2 h3 h4=>?_;exact zoW.inst hL.clsG (hL.fd (by kernel_rfl)) B.inst h1 h3 rfl h
theorem zbC.gSur {Q:PV->zaA->Prop}(hL:L1 T.C)(B:zbC g dg ps col P sur H)(h:Q (.bool sur) H):zoW T "is_surrounded" (.ref g) H Q:=by
 refine q14 B.attrs λ l h1 h2 h3 h4=>?_;exact zoW.inst hL.clsG (hL.fd (by kernel_rfl)) B.inst h1 h4 rfl h
theorem zbC.ext {H':zaA}(B:zbC g dg ps col P sur H)(ex:Ext H H'):zbC g dg ps col P sur H':=
 ⟨ex _ _ B.inst,let ⟨l,a,b⟩:=B.attrs;⟨l,ex _ _ a,b⟩,ex _ _ B.pts⟩
theorem zbC.updList {a:Addr}{l m:List PV}(B:zbC g dg ps col P sur H)(ha:H a=some (.list l)):zbC g dg ps col P sur (upd H a (.list m)):=by
 have h1:g≠a:=λ q=>by have:=B.inst;rw[q,ha]at this;cases this
 have h3:ps≠a:=λ q=>by have:=B.pts;rw[q,ha]at this;cases this
 refine q12 B.attrs λ l b1 b2=>?_;have h2:dg≠a:=λ q=>by rw[q,ha]at b1;cases b1
 exact⟨by rw[zaD h1];exact B.inst,⟨l,by rw[zaD h2];exact b1,b2⟩,by rw[zaD h3];exact B.pts⟩
theorem zbC.updSet {a:Addr}{l m:List Pt}(B:zbC g dg ps col P sur H)(ha:H a=some (.pset l))(h3:ps≠a):zbC g dg ps col P sur (upd H a (.pset m)):=by
 have h1:g≠a:=λ q=>by have:=B.inst;rw[q,ha]at this;cases this
 refine q12 B.attrs λ l b1 b2=>?_;have h2:dg≠a:=λ q=>by rw[q,ha]at b1;cases b1
 exact⟨by rw[zaD h1];exact B.inst,⟨l,by rw[zaD h2];exact b1,b2⟩,by rw[zaD h3];exact B.pts⟩
theorem GR.New.ext {y:GR}{H1' H2':zaA}(h:y.New H H1')(ex:Ext H1' H2'):y.New H H2':=⟨zbC.ext h.at_ ex,h.ng,h.nd,h.np⟩
inductive ykC (n:Nat)(G:Pt->Option Str)(pts:List Pt)(H:zaA)(p:PV)(H':zaA):Prop
 | mk (a:Addr) (gs:List GR) (hdl:List Pt) (e:p=.ref a) (ex:Ext H H') (na:H a=none) (ka:H' a=some (.list (gs.map λ y=>.ref y.g))) (kg:∀ y∈gs,y.New H H') (le:gs.length<=pts.length) (fs:FSI n G pts (gs.map GR.cp) hdl):ykC n G pts H p H'
inductive FI (n:Nat)(G:Pt->Option Str)(pts:List Pt)(a1 a2 a3:Addr)(H:zaA)(i:Nat)(u:Unit)(H':zaA):Prop
 | mk (gs:List GR) (hdl:List Pt) (fs:FSI n G (pts.take i) (gs.map GR.cp) hdl) (nd:hdl.Nodup) (lg:gs.length<=i) (k1:H' a1=some (.list (gs.map λ y=>.ref y.g))) (k2:H' a2=some (.pset hdl)) (k3:H' a3=some (.list (pts.map pt)))
   (kg:∀ y∈gs,y.New H H'/\y.ps≠a2) (ex:Ext H H'):FI n G pts a1 a2 a3 H i u H'
theorem FI.new {pts:List Pt}{a1 a2 a3:Addr}{i:Nat}{u:Unit}{H' H2':zaA}{gs:List GR}{hdl:List Pt}{z:Pt}{c':Str}(h12:a2≠a1)(h31:a3≠a1)(h32:a3≠a2)(h1:H a1=none)(h2:H a2=none)(hz:pts[i]?=some z)
  (fs:FSI n G (pts.take i) (gs.map GR.cp) hdl) (lg:gs.length<=i) (kg:∀ y∈gs,y.New H H'/\y.ps≠a2) (k1:H' a1=some (.list (gs.map λ y=>.ref y.g))) (k2:H' a2=some (.pset hdl)) (k3:H' a3=some (.list (pts.map pt))) (ex:Ext H H') (hin:z∉hdl)
  (ex2:Ext H' H2') (q1:H' g=none) (q2:H' dg=none) (q3:H' ps=none) (gr:zbC g dg ps c' P sur H2') (hA:zvW n G z (c',P)) (gsur:sur=true↔zjW n G c' z) {hdl':List Pt} (nd':hdl'.Nodup) (mh:∀ q,q∈hdl'↔q∈hdl\/q∈P):
  FI n G pts a1 a2 a3 H (i+1) u (upd (cond sur (upd H2' a1 (.list (gs.map (λ y=>PV.ref y.g)++[PV.ref g]))) H2') a2 (.pset hdl')):=by
 have hps:ps≠a2:=λ q=>by rw[q,k2]at q3;cases q3
 have k1':=ex2 _ _ k1;have k2':=ex2 _ _ k2;have k3':=ex2 _ _ k3;have htk:=zbE hz;have kg':∀ y∈gs,y.New H H2'/\y.ps≠a2:=λ y hy=>⟨(kg y hy).1.ext ex2,(kg y hy).2⟩
 cases sur with
 | true=>
  have k2'':upd H2' a1 (.list (gs.map (λ y=>PV.ref y.g)++[PV.ref g])) a2=some (.pset hdl):=by rw[zaD h12];exact k2'
  have gr':=zbC.updList (m:=gs.map (λ y=>PV.ref y.g)++[PV.ref g]) gr k1';refine⟨gs++[⟨g,dg,ps,c',P⟩],hdl',?_,nd',by simp;exact lg,?_,zaC,?_,?_,Ext.upd (Ext.upd (ex.trans ex2) h1) h2⟩
  ·rw[htk,List.map_append];exact fs.new hin hA true gsur mh
  ·rw[zaD h12.symm,cond_true,zaC,List.map_append];rfl
  ·rw[zaD h32,cond_true,zaD h31];exact k3'
  ·intro y hy
   rcases List.mem_append.mp hy with hy|hy
   ·obtain⟨a,b⟩:=kg' y hy
    exact⟨⟨zbC.updSet (zbC.updList a.at_ k1') k2'' b,a.ng,a.nd,a.np⟩,b⟩
   ·rw[List.mem_singleton.mp hy]
    exact⟨⟨zbC.updSet gr' k2'' hps,ex.none q1,ex.none q2,ex.none q3⟩,hps⟩
 | false=>
  refine⟨gs,hdl',?_,nd',by exact lqg lg,?_,zaC,?_,?_,Ext.upd (ex.trans ex2) h2⟩
  ·rw[htk];exact fs.new hin hA false gsur mh
  ·rw[zaD h12.symm];exact k1'
  ·rw[zaD h32];exact k3'
  ·intro y hy
   obtain⟨a,b⟩:=kg' y hy;exact⟨⟨zbC.updSet a.at_ k2' b,a.ng,a.nd,a.np⟩,b⟩
theorem ymD {P:Params}:MOk P "_make_group" zfR:=⟨by decide +kernel,by kernel_rfl,by kernel_rfl,by kernel_rfl⟩
theorem ycC (hL:L1 T.C)(hn:4<=T.n)(hh:T.hd=false)(B:zeA x d bp bd rows n G e H){r c:Int}:
  zaE T X (.ref zaU) [.ref x,.int r,.int c] H (ykC n G ((r,c)::nb (r,c)) H) R:=by
 refine hL.f_find_surrounded_groups hh (by exact lq1 hn rfl) rfl ?_;intro a1 h1;refine zaG.set0 λ a2 h2=>?_;have h12:a2≠a1:=λ e=>by rw[e,zaC]at h2;cases h2
 have h2':H a2=none:=by rw[zaD h12]at h2;exact h2
 intro a3 h3;have h32:a3≠a2:=λ e=>by rw[e,zaC]at h3;cases h3
 have h3:=h3;rw[zaD h32]at h3;have h31:a3≠a1:=λ e=>by rw[e,zaC]at h3;cases h3
 rw[zaD h31]at h3;refine zkW.list a3 (((r,c)::nb (r,c)).map pt) rfl zaC Unit (λ _=>[(0,.ref x),(3,.ref a1),(4,.ref a2)]) (FI n G ((r,c)::nb (r,c)) a1 a2 a3 H) () ⟨rfl,rfl,rfl,trivial⟩ ?_ (λ i b H'' hj=>by obtain⟨_,_,_,_,_,_,_,k3,_,_⟩:=hj;exact k3) ?_ ?_
 ·refine⟨[],[],FSI.nil,List.nodup_nil,Nat.zero_le _,?_,?_,zaC,by simp,Ext.upd (Ext.upd (Ext.upd (Ext.refl _) h1) h2') h3⟩
  ·rw[zaD h31.symm,zaD h12.symm];exact zaC
  ·rw[zaD h32.symm];exact zaC
 ·intro i p u H'' hp uu;obtain⟨gs,hdl,fs,nd,lg,k1,k2,k3,kg,ex'⟩:=uu
  refine q12 (zbV hp) λ z hz u0=>?_;subst u0;refine zfU λ K hK=>?_;refine (let L1':LN:=_;(?_:wS _ _ _ L1' _ _ _));have htk:=zbE hz;have B':=B.ext ex';have out:(inG n z->G z=none)->FI n G ((r,c)::nb (r,c)) a1 a2 a3 H (i+1) () H'':=λ hzg=>⟨gs,hdl,by rw[htk];exact fs.skip hzg,nd,by exact lqg lg,k1,k2,k3,kg,ex'⟩
  have keep:zaX [(0,.ref x),(3,.ref a1),(4,.ref a2)] L1':=zaX.of rfl;refine zaK (λ z1=>?_) (λ z1=>hK _ rfl () _ _ keep (out (λ h=>absurd h.1.1 z1)));refine B'.gSide hL ?_;refine zaK (λ z2=>?_) (λ z2=>hK _ rfl () _ _ keep (out (λ h=>absurd h.1.2 z2)));refine zaK (λ z3=>?_) (λ z3=>hK _ rfl () _ _ keep (out (λ h=>absurd h.2.1 z3)));refine B'.gSide hL ?_;refine zaK (λ z4=>?_) (λ z4=>hK _ rfl () _ _ keep (out (λ h=>absurd h.2.2 z4)));have hzg:inG n z:=⟨⟨z1,z2⟩,z3,z4⟩
  refine B'.gBoard hL ?_;refine B'.at1 z1 z2 λ ra _ hra=>?_;refine yiY hra z3 z4 B.five ?_;cases hG:G (z.1,z.2) with
  | none=>exact hK _ rfl () _ _ (zaX.of rfl) (out (λ _=>hG))
  | some c'=>
   refine zdH.inS z k2 (B.box hzg) ?_;refine zaK (λ hin=>?_) (λ hin=>?_)
   ·exact hK _ rfl () _ _ (zaX.of rfl) ⟨gs,hdl,by rw[htk];exact fs.again hin,nd,by exact lqg lg,k1,k2,k3,kg,ex'⟩
   ·refine M.own (B'.meth hL ymD) (zaE.callK (zhM (T:=T.down) (col:=c') hL (by show 3<=T.n-1;exact lq4 hn rfl) hh B' hzg hG) λ K0 hK0 p H2' h=>?_)
    obtain⟨g,dg,ps,P,sur,rfl,ex2,q1,q2,q3,gr,gm,gsur,gnd⟩:=h;refine hK0 _ _ ?_;have hps:ps≠a2:=λ q=>by rw[q,k2]at q3;cases q3
    have fin:∀ hdl':List Pt,hdl'.Nodup->(∀ q,q∈hdl'↔q∈hdl\/q∈P)->FI n G ((r,c)::nb (r,c)) a1 a2 a3 H (i+1) () (upd (cond sur (upd H2' a1 (.list (gs.map (λ y=>PV.ref y.g)++[PV.ref g]))) H2') a2 (.pset hdl')):=
     λ hdl' nd' mh=>FI.new h12 h31 h32 h1 h2' hz fs lg kg k1 k2 k3 ex' hin ex2 q1 q2 q3 gr ⟨hzg,hG,gm,gnd⟩ gsur nd' mh
    refine zbC.gSur hL gr ?_;cases sur with
    | true=>
     refine M.append (ex2 _ _ k1) (by rw[List.length_map];have:=(List.getElem?_eq_some_iff.mp hz).1;simp[nb]at this;exact lq12 lg this rfl) ?_;have gr':=zbC.updList (m:=gs.map (λ y=>PV.ref y.g)++[PV.ref g]) gr (ex2 _ _ k1);have k2'':upd H2' a1 (.list (gs.map (λ y=>PV.ref y.g)++[PV.ref g])) a2=some (.pset hdl):=by rw[zaD h12];exact ex2 _ _ k2
     refine Exists.intro _ (And.intro (zbQ.update k2'') (zbC.gPts hL gr' (zaG.update k2'' gr'.pts hps.symm λ hdl' nd' mh=>?_)));exact hK _ rfl () _ _ (zaX.of rfl) (fin hdl' nd' mh)
    | false=>
     refine Exists.intro _ (And.intro (zbQ.update (ex2 _ _ k2)) (zbC.gPts hL gr (zaG.update (ex2 _ _ k2) gr.pts hps.symm λ hdl' nd' mh=>?_)));exact hK _ rfl () _ _ (zaX.of rfl) (fin hdl' nd' mh)
 ·intro u H'' uu;obtain⟨gs,hdl,fs,nd,lg,k1,k2,k3,kg,ex'⟩:=uu
  rw[List.length_map]at lg fs;rw[List.take_length]at fs;exact⟨a1,gs,hdl,rfl,ex',h1,k1,λ y hy=>(kg y hy).1,lg,fs⟩
end
section
variable {H:zaA}{x d bp bd:Addr}{rows:List Addr}{n:Nat}{G:Pt->Option Str}{e:Bool}
noncomputable def zeT (H:zaA)(d:Addr)(rows:List Addr)(H':zaA):Prop:=∀ a o,H a=some o->a≠d->a∉rows->H' a=some o
theorem zeT.refl:zeT H d rows H:=λ _ _ e _ _=>e
theorem zeT.trans {H1' H2' H3:zaA}(a:zeT H1' d rows H2')(b:zeT H2' d rows H3):zeT H1' d rows H3:=λ x o e h1 h2=>b x o (a x o e h1 h2) h1 h2
theorem zeT.ext {H1' H2' H3:zaA}(a:zeT H1' d rows H2')(b:Ext H2' H3):zeT H1' d rows H3:=λ x o e h1 h2=>b x o (a x o e h1 h2)
theorem zeT.row {H1' H2':zaA}{a:Addr}{o:AO}(k:zeT H1' d rows H2')(ha:a∈rows):zeT H1' d rows (upd H2' a o):=λ b ob e h1 h2=>by
 rw[zaD (λ q:b=a=>h2 (by rw[q];exact ha))];exact k b ob e h1 h2
theorem zeT.dict {H1' H2':zaA}{o:AO}(k:zeT H1' d rows H2'):zeT H1' d rows (upd H2' d o):=λ b ob e h1 h2=>by
 rw[zaD h1];exact k b ob e h1 h2
theorem zeT.new {H1' H2':zaA}{a:Addr}{o:AO}(k:zeT H1' d rows H2')(ha:H1' a=none):zeT H1' d rows (upd H2' a o):=λ b ob e h1 h2=>by
 rw[zaD (λ q=>by rw[q,ha]at e;cases e)];exact k b ob e h1 h2
theorem zeT.remNew {H1' H2':zaA}{a:Addr}(k:zeT H1' d rows H2')(ha:H1' a=none):zeT H1' d rows (rem H2' a):=λ b ob e h1 h2=>by
 have:b≠a:=λ q=>by rw[q,ha]at e;cases e
 unfold rem;rw[if_neg this];exact k b ob e h1 h2
theorem zbC.updAttrs {g dg ps:Addr}{col:Str}{P:List Pt}{sur:Bool}{a:Addr}{l m:Ls}(B:zbC g dg ps col P sur H)(ha:H a=some (.attrs l))(hne:dg≠a):zbC g dg ps col P sur (upd H a (.attrs m)):=by
 have h1:g≠a:=λ q=>by have:=B.inst;rw[q,ha]at this;cases this
 have h3:ps≠a:=λ q=>by have:=B.pts;rw[q,ha]at this;cases this
 refine q12 B.attrs λ l b1 b2=>?_;exact⟨by rw[zaD h1];exact B.inst,⟨l,by rw[zaD hne];exact b1,b2⟩,by rw[zaD h3];exact B.pts⟩
theorem ztX {l:List Addr}{i j:Nat}{a:Addr}(hn:l.Nodup)(h1:l[i]?=some a)(h2:l[j]?=some a):i=j:=
 (List.getElem?_inj (List.getElem?_eq_some_iff.mp h1).1 hn).mp (h1.trans h2.symm)
theorem yjL {i j:Int}{v:Option Str}(h0:0<=j)(h1:j<n):(((List.range n).map λ k:Nat=>cell (G (i,k))).set j.toNat (cell v))=(List.range n).map λ k:Nat=>cell (put G (i,j) v (i,k)):=by
 apply List.ext_getElem?;intro k;rw[List.getElem?_set];split
 ·rename_i hk
  subst hk;have:j.toNat<n:=by exact lq14 h0 h1
  simp only[List.length_map,List.length_range,this,if_true,List.getElem?_map,List.getElem?_range this,Option.map_some];rw[Int.toNat_of_nonneg h0];simp[put]
 ·rename_i hk
  rw[List.getElem?_map,List.getElem?_map]
  by_cases hkn:k<n
  ·rw[List.getElem?_range hkn]
   simp only[Option.map_some,put];rw[if_neg];intro q;have:=(Prod.mk.injEq _ _ _ _).mp q;lia
  ·rw[List.getElem?_eq_none (by simpa using hkn)];rfl
theorem zeA.put {i j:Int}{a:Addr}{v:Option Str}(B:zeA x d bp bd rows n G e H)(h2:0<=i)(h0:0<=j)(h1:j<n)(hra:rows[i.toNat]?=some a):
  zeA x d bp bd rows n (AM.Internal.put G (i,j) v) e (upd H a (.list (((List.range n).map λ k:Nat=>cell (G (i,k))).set j.toNat (cell v)))):=by
 have ham:=List.mem_of_getElem? hra;have hH:=B.row _ _ hra;have hx:x≠a:=λ q=>by have:=B.inst;rw[q,hH]at this;cases this
 refine q12 B.attrs λ l b1 b2=>?_;have hd:d≠a:=λ q=>by rw[q,hH]at b1;cases b1
 have hbp:bp≠a:=λ q=>B.bpn (q▸ham);have hbd:bd≠a:=λ q=>B.bdn (q▸ham);refine⟨by rw[zaD hx];exact B.inst,⟨l,by rw[zaD hd];exact b1,b2⟩,by rw[zaD hbp];exact B.pts,by rw[zaD hbd];exact B.board,B.len,λ k b hb=>?_,B.nodup,B.lo,B.five,B.bpn,B.bdn⟩
 by_cases hk:k=i.toNat
 ·subst hk
  rw[hra]at hb;cases hb;rw[zaC,yjL h0 h1,Int.toNat_of_nonneg h2]
 ·have hne:b≠a:=λ q=>by
   subst q;have l1:=(List.getElem?_eq_some_iff.mp hb).1;have l2:=(List.getElem?_eq_some_iff.mp hra).1;exact hk (ztX B.nodup hb hra)
  rw[zaD hne,B.row k b hb]
  congr 2
  apply List.map_congr_left;intro m _;simp only[AM.Internal.put];rw[if_neg];intro q;have:=(Prod.mk.injEq _ _ _ _).mp q;lia
theorem zeA.mark {l:Ls}{e':Bool}(B:zeA x d bp bd rows n G e H)(hd:H d=some (.attrs l))(hz:l.length<=4990):zeA x d bp bd rows n G e' (upd H d (.attrs (("_is_empty",.bool e')::l))):=by
 refine q17 B.attrs λ l' b1 b2 b3 b4 b5 b6 b7=>?_;rw[hd]at b1;cases b1;have hx:x≠d:=λ q=>by have:=B.inst;rw[q,hd]at this;cases this
 have hbp:bp≠d:=λ q=>by have:=B.pts;rw[q,hd]at this;cases this
 have hbd:bd≠d:=λ q=>by have:=B.board;rw[q,hd]at this;cases this
 refine⟨by rw[zaD hx];exact B.inst,⟨_,zaC,by simp;lia,zbB (by decide +kernel) b3,zbB (by decide +kernel) b4,zbB (by decide +kernel) b5,zdR,λ m hm=>?_⟩,by rw[zaD hbp];exact B.pts,by rw[zaD hbd];exact B.board,B.len,λ k b hb=>?_,B.nodup,B.lo,B.five,B.bpn,B.bdn⟩
 ·refine ziE ?_ (b7 m hm)
  revert m
  decide +kernel
 ·have:b≠d:=λ q=>by have:=B.row k b hb;rw[q,hd]at this;cases this
  rw[zaD this];exact B.row k b hb
theorem zeA.rem {a:Addr}{l:List Pt}(B:zeA x d bp bd rows n G e H)(ha:H a=some (.pset l)):zeA x d bp bd rows n G e (AM.Internal.rem H a):=by
 have kp:∀ b o,H b=some o->(∀ m,o≠.pset m)->AM.Internal.rem H a b=some o:=λ b o h hk=>by
  have:b≠a:=λ q=>by rw[q,ha]at h;cases h;exact hk _ rfl
  unfold AM.Internal.rem;rw[if_neg this];exact h
 refine q12 B.attrs λ l' b1 b2=>?_;exact⟨kp _ _ B.inst (by intro m q;cases q),⟨l',kp _ _ b1 (by intro m q;cases q),b2⟩,kp _ _ B.pts (by intro m q;cases q),kp _ _ B.board (by intro m q;cases q),B.len,λ k b hb=>kp _ _ (B.row k b hb) (by intro m q;cases q),B.nodup,B.lo,B.five,B.bpn,B.bdn⟩
end
section
variable {T:Tr}{X:String}{H:zaA}{R:zaA->Prop}{x d bp bd:Addr}{rows:List Addr}{n:Nat}{G:Pt->Option Str}{e:Bool}
theorem ybF:zvF "ValueError" "ValueError" := ⟨by rw[isSubtype_type];kernel_rfl,by rw[isSubtype_type];kernel_rfl,by rw[isSubtype_type];kernel_rfl⟩
theorem yhA:zvF "KeyError" "KeyError" := ⟨by rw[isSubtype_type];kernel_rfl,by rw[isSubtype_type];kernel_rfl,by rw[isSubtype_type];kernel_rfl⟩
theorem yiB:zwJ "ValueError" := ⟨⟨_,_,excClass_ValueError⟩,by rw[isSubtype_type];kernel_rfl⟩
theorem yoW (hL:L1 T.C){c o:Str}(hco:zuM c o){Q:PV->zaA->Prop}(h:Q (.str o) H):zdB T (.ref zfG) (.str c) H Q:=zdB.of λ Fs v s hs=>by
 have hl:(heapK T.C.w.params).lookup zfG=some _:=rfl;rw[<- hL.K]at hl;rcases hco with ⟨rfl,rfl⟩|⟨rfl,rfl⟩
 ·exact zkO.topStr (tk:=t_w) hl ⟨⟨_,_,rfl,rfl⟩,⟨_,_,rfl,rfl⟩,trivial⟩ (by rw[hL.K];kernel_rfl) h λ _=>hs _ _
 ·exact zkO.topStr (tk:=t_b) hl ⟨⟨_,_,rfl,rfl⟩,⟨_,_,rfl,rfl⟩,trivial⟩ (by rw[hL.K];kernel_rfl) h λ _=>hs _ _
theorem ziQ (hL:L1 T.C)(hn:1<=T.n)(hh:T.hd=false){c o:Str}(hco:zuM c o):
  zaE T X (.ref zcW) [.str c] H (λ p H'=>p=.str o/\H'=H) R:=by
 refine hL.f_opponent_of hh hn rfl ?_;refine Exists.intro "KeyError" (Exists.intro (λ _ _=>False) (And.intro ⟨yhA,by rw[show T.down.C.nc=_ from hL.nc];decide⟩ (And.intro ?_ (λ _ _ h=>h.elim))));refine zfE.ok (yoW (T:=T.down) hL hco ?_);exact⟨rfl,rfl⟩
theorem zgW {gs:List GR}{i:Nat}{y:GR}{f:GR->Bool}(h:gs[i]?=some y):((gs.take (i+1)).filter f).map (λ y=>PV.ref y.g)=((gs.take i).filter f).map (λ y=>PV.ref y.g)++(cond (f y) (some (PV.ref y.g)) none).toList:=by
 rw[zbE h,List.filter_append,List.map_append]
 congr 1
 cases e:f y <;> simp[e]
inductive zrF (n:Nat)(G:Pt->Option Str)(z:Pt)(col opp:Str)(x d bp bd:Addr)(rows:List Addr)(H:zaA)(p:PV)(H':zaA):Prop
 | mk (L:List (Str×List Pt)) (hdl:List Pt) (l l':Ls) (g0:G z=none) (fs:FSI n (AM.Internal.put G z (some col)) (z::nb z) L hdl) (l5:L.length<=5) (e:p=ykN (zoL col opp L)) (at_:zeA x d bp bd rows n (rm (AM.Internal.put G z (some col)) (zcF (zgN opp L))) (zxZ n L) H') (kp:zeT H d rows H') (hl:H d=some (.attrs l)) (hl':H' d=some (.attrs l')) (le:l'.length<=l.length+2):zrF n G z col opp x d bp bd rows H p H'
inductive PCut (n:Nat)(G1:Pt->Option Str)(opp:Str)(gs:List GR)(x d bp bd:Addr)(rows:List Addr)(k:Nat)(H H2:zaA)(ta:Addr)(H':zaA):Prop
 | mk (tc:List GR) (l:Ls) (cap:tc.map GR.cp=zgN opp (gs.map GR.cp)) (sub:∀ y∈tc,y∈gs) (hta:H' ta=some (.list (tc.map λ y=>.ref y.g))) (htr:ta∉rows) (kg:∀ y∈gs,y.New H2 H') (at_:zeA x d bp bd rows n G1 (zxZ n (gs.map GR.cp)) H') (kp:zeT H d rows H') (hl:H' d=some (.attrs l)) (le:l.length<=k):PCut n G1 opp gs x d bp bd rows k H H2 ta H'
structure PL1 (n:Nat)(G1:Pt->Option Str)(e:Bool)(tc:List GR)(x d bp bd:Addr)(rows:List Addr)(l:Ls)(H:zaA)(ta:Addr)(i:Nat)(u:Unit)(H':zaA):Prop where
 at_:zeA x d bp bd rows n (rm G1 (zcF ((tc.take i).map GR.cp))) e H'
 hta:H' ta=some (.list (tc.map λ y=>.ref y.g))
 kg:∀ y∈tc.drop i,y.At H'
 kp:zeT H d rows H'
 hl:H' d=some (.attrs l)
structure PL2 (n:Nat)(G2:Pt->Option Str)(e:Bool)(tc:List GR)(x d bp bd:Addr)(rows:List Addr)(l:Ls)(H:zaA)(ta ps:Addr)(i:Nat)(l':List Pt)(j:Nat)(u:Unit)(H':zaA):Prop where
 at_:zeA x d bp bd rows n (rm G2 (l'.take j)) e H'
 hta:H' ta=some (.list (tc.map λ y=>.ref y.g))
 kg:∀ y∈tc.drop (i+1),y.At H'
 kp:zeT H d rows H'
 hl:H' d=some (.attrs l)
 hp:H' ps=none
theorem zgR {H:zaA}{a:Addr}(B:zeA x d bp bd rows n G e H)(ha:H a=none):a∉rows:=λ h=>by
 obtain⟨i,hi⟩:=List.getElem?_of_mem h;have:=B.row i _ hi;rw[ha]at this;cases this
theorem PL1.first {G1:Pt->Option Str}{tc:List GR}{l:Ls}{H':zaA}{ta:Addr}{i:Nat}{y:GR}{l':List Pt}(j:PL1 n G1 e tc x d bp bd rows l H ta i () H')(hy:tc[i]?=some y)(hyd:tc.drop i=y::tc.drop (i+1))(hn:H y.ps=none)(hps:∀ w∈tc.drop (i+1),w.ps≠y.ps):
  PL2 n (rm G1 (zcF ((tc.take i).map GR.cp))) e tc x d bp bd rows l H ta y.ps i l' 0 () (rem H' y.ps):=by
 obtain⟨b1,b2,b3,b4,b5⟩:=j;have ya:y.At H':=b3 y (by rw[hyd];exact .head _);have kr:∀ b o,H' b=some o->b≠y.ps->rem H' y.ps b=some o:=λ b o h hne=>by unfold rem;rw[if_neg hne];exact h
 refine⟨by rw[List.take_zero,ztG];exact b1.rem ya.pts,kr _ _ b2 (λ q=>by rw[q,ya.pts]at b2;cases b2),λ w hw=>?_,b4.remNew hn,kr _ _ b5 (λ q=>by rw[q,ya.pts]at b5;cases b5),by unfold rem;rw[if_pos rfl]⟩;have wa:w.At H':=b3 w (by rw[hyd];exact .tail _ hw);refine q12 wa.attrs λ wl w1 w2=>?_;exact⟨kr _ _ wa.inst (λ q=>by have:=wa.inst;rw[q,ya.pts]at this;cases this),⟨wl,kr _ _ w1 (λ q=>by rw[q,ya.pts]at w1;cases w1),w2⟩,kr _ _ wa.pts (hps w hw)⟩
theorem PL2.turn {G2:Pt->Option Str}{tc:List GR}{l:Ls}{H':zaA}{ta ps:Addr}{i j:Nat}{q:Pt}{l':List Pt}{rb:Addr}(h:PL2 n G2 e tc x d bp bd rows l H ta ps i l' j () H')(hq:l'[j]?=some q)(qg:inG n q)(htr:ta∉rows)(hb1:rows[q.1.toNat]?=some rb)(hrb:H' rb=some (.list ((List.range n).map λ k:Nat=>cell (rm G2 (l'.take j) (q.1,k))))):
  PL2 n G2 e tc x d bp bd rows l H ta ps i l' (j+1) () (upd H' rb (.list (((List.range n).map λ k:Nat=>cell (rm G2 (l'.take j) (q.1,k))).set q.2.toNat .none))):=by
 obtain⟨c1,c2,c3,c4,c5,c6⟩:=h;have hrm:rb∈rows:=List.mem_of_getElem? hb1;refine⟨?_,?_,λ w hw=>zbC.updList (c3 w hw) hrb,c4.row hrm,?_,?_⟩
 ·rw[zbE hq,<- ykL]
  exact c1.put (v:=none) qg.1.1 qg.2.1 qg.2.2 hb1
 ·rw[zaD (λ w:ta=rb=>htr (by rw[w];exact hrm))];exact c2
 ·rw[zaD (λ w=>by rw[w,hrb]at c5;cases c5)];exact c5
 ·rw[zaD (λ w=>by rw[w,hrb]at c6;cases c6)];exact c6
theorem PL2.fin {G1:Pt->Option Str}{tc:List GR}{l:Ls}{H':zaA}{ta:Addr}{i:Nat}{y:GR}{l':List Pt}(h:PL2 n (rm G1 (zcF ((tc.take i).map GR.cp))) e tc x d bp bd rows l H ta y.ps i l' l'.length () H')(hy:tc[i]?=some y)(hp:l'.Perm y.P):
  PL1 n G1 e tc x d bp bd rows l H ta (i+1) () (upd H' y.ps (.pset y.P)):=by
 obtain⟨c1,c2,c3,c4,c5,c6⟩:=h;rw[List.take_length]at c1;have ex6:Ext H' (upd H' y.ps (.pset y.P)):=Ext.upd (Ext.refl _) c6;refine⟨?_,ex6 _ _ c2,λ w hw=>zbC.ext (c3 w hw) ex6,c4.ext ex6,ex6 _ _ c5⟩;have e1:zcF ((tc.take (i+1)).map GR.cp)=zcF ((tc.take i).map GR.cp)++y.P:=by
  rw[zbE hy,List.map_append]
  simp[zcF,GR.cp]
 rw[e1,<- ybL,<- zrG (G:=rm G1 (zcF ((tc.take i).map GR.cp))) (λ q=>hp.mem_iff (a:=q))];exact c1.ext ex6
theorem mo_fi {P:Params}:MOk P "_find_surrounded_groups" zaU:=⟨by decide +kernel,by kernel_rfl,by kernel_rfl,by kernel_rfl⟩
theorem ybK (hL:L1 T.C)(hn:6<=T.n)(hh:T.hd=false)(B:zeA x d bp bd rows n G e H){r c:Int}(hg:inG n (r,c)){col opp:Str}(hco:zuM col opp)(hval:∀ q s,G q=some s->s=col\/s=opp)
  (hz:∃ l,H d=some (.attrs l)/\l.length<=4000) (hX:X = "ValueError") (hR:G (r,c)≠none->R H):
  zaE T X (.ref ziX) [.ref x,.int r,.int c,.str col] H (zrF n G (r,c) col opp x d bp bd rows H) R:=by
 refine q12 hz λ l0 hd0 hz0=>?_;have g1:0<=r:=hg.1.1;have g2:r<n:=hg.1.2;have g3:0<=c:=hg.2.1;have g4:c<n:=hg.2.2;refine zaE.post λ Q hQ=>?_;refine hL.f_play hh (by exact lq1 hn rfl) rfl ?_;refine zaK (λ q=>absurd q (by exact lqb g1)) λ _=>?_;refine zaK (λ q=>absurd q (by exact lqb g3)) λ _=>?_;refine zaE.callK (ziQ (T:=T.down) hL (by show 1<=T.n-1;exact lq4 hn rfl) hh hco) λ K0 hK0 p H' h=>?_;obtain⟨rfl,rfl⟩:=h;refine hK0 _ _ ?_;refine (let L1':LN:=(4,.str opp)::_;(?_:wS _ _ _ L1' _ _ _));refine B.gBoard hL ?_;refine zfE.ok (B.at1 g1 g2 λ ra hr1 hra=>zfE.ok ?_);refine yiY hra g3 g4 B.five ?_;cases hG:G (r,c) with
 | some c'=>exact⟨hX,yiB,ndN hh,hR (by rw[hG];simp)⟩
 | none=>
 refine B.gBoard hL ?_;refine B.at1 g1 g2 λ ra' hr1' hra'=>?_;rw[hr1]at hr1';cases hr1';refine zcV.list hra g3 (by simpa using g4) (by simp;have:=B.five;exact lq2 this rfl) ?_;have B1:=B.put (v:=some col) g1 g3 g4 hr1;have hram:ra∈rows:=List.mem_of_getElem? hr1;have hdra:d≠ra:=λ q=>by rw[q,hra]at hd0;cases hd0
 have K1:zeT H' d rows (upd H' ra (.list (((List.range n).map λ k:Nat=>cell (G (r,k))).set c.toNat (cell (some col))))):=zeT.refl.row hram;have hd1:upd H' ra (.list (((List.range n).map λ k:Nat=>cell (G (r,k))).set c.toNat (cell (some col)))) d=some (.attrs l0):=by rw[zaD hdra];exact hd0
 refine zaR.inst hL.clsB (hL.fd (by kernel_rfl)) B1.inst hd1 (by exact lq2 hz0 rfl) ?_;have B2:=B1.mark (e':=false) hd1 (by exact lq2 hz0 rfl);have K2:=K1.dict (o:=.attrs (("_is_empty",.bool false)::l0));have hd2:upd (upd H' ra (.list (((List.range n).map λ k:Nat=>cell (G (r,k))).set c.toNat (cell (some col))))) d (.attrs (("_is_empty",.bool false)::l0)) d=some (.attrs (("_is_empty",.bool false)::l0)):=zaC;change w _ _ _ _ _ (upd (upd H' ra (.list (((List.range n).map λ k:Nat=>cell (G (r,k))).set c.toNat (cell (some col))))) d (.attrs (("_is_empty",.bool false)::l0))) _ _;generalize upd (upd H' ra (.list (((List.range n).map λ k:Nat=>cell (G (r,k))).set c.toNat (cell (some col))))) d (.attrs (("_is_empty",.bool false)::l0))=H2 at B2 K2 hd2 ⊢;clear B1 K1 hd1;refine M.own (B2.meth hL mo_fi) (zaE.callK (ycC (T:=T.down) hL (by show 4<=T.n-1;exact lq4 hn rfl) hh B2) λ K0 hK0 p H3 h=>?_);obtain⟨sa,gs,hdl,rfl,ex3,hsa,ksa,kg,lg,fs⟩:=h;refine hK0 _ _ ?_;have lg:gs.length<=5:=lg;have B3:=B2.ext ex3;have K3:=K2.ext ex3;have hd3:=ex3 _ _ hd2;have hLlen:(gs.map GR.cp).length=gs.length:=List.length_map _;have hcol:∀ A∈gs.map GR.cp,A.1=col\/A.1=opp:=λ A hA=>by
  refine q13 (fs.grp A hA) λ z _ hz _=>?_;have:=hz.col;unfold AM.Internal.put at this;split at this
  ·exact .inl (Option.some.inj this).symm
  ·exact hval z _ this
 have hgl:(gs.map λ y=>PV.ref y.g).length<=100000:=by rw[List.length_map];exact lq2 lg rfl
 refine STr.list (.inl ksa) hgl ?_
 by_cases hnil:gs=[]
 ·subst hnil
  exact hQ _ _ ⟨[],hdl,l0,_,hG,fs,by simp,rfl,by rw[show zcF (zgN opp [])=[] from rfl,ztG];exact B3,K3,hd0,hd3,by simp⟩
 have hemp:(gs.map λ y=>PV.ref y.g).isEmpty=false:=by simpa using hnil
 rw[hemp];have hsr:=zgR B2 hsa;refine yoD Addr (λ ta=>[(0,.ref x),(8,.ref ta),(6,ykN (zoL col opp (gs.map GR.cp)))]) (PCut n (AM.Internal.put G (r,c) (some col)) opp gs x d bp bd rows (l0.length+2) H' H2) ?_ ?_
 ·refine zwG λ K hK=>?_
  refine (let L0:LN:=_;(?_:wS _ _ _ L0 _ _ _));refine zaG.lenL (.inl ksa) hgl ?_;refine zaK (λ h1=>?_) (λ h1=>?_)
  ·have hl1:gs.length=1:=by rw[List.length_map]at h1;exact lq21 h1 rfl
   obtain⟨y,rfl⟩:=List.length_eq_one_iff.mp hl1;have ya:=(kg y (.head _)).at_;refine zdB.list ksa (by decide) (by decide) rfl ?_;refine zbC.gPts hL ya ?_;refine zaG.lenS ya.pts ?_;refine B3.gSide hL ?_;refine B3.gSide hL ?_;refine And.intro (zkQ B.five) ?_;have hcap:List.map GR.cp [y]=zgN opp (List.map GR.cp [y]):=rfl;refine zaK (λ h2=>?_) (λ h2=>?_)
   ·refine zaR.inst hL.clsB (hL.fd (by kernel_rfl)) B3.inst hd3 (by simp;exact lq2 hz0 rfl) ?_
    have hem:zxZ n (List.map GR.cp [y])=true:=by simp only[List.map_cons,List.map_nil,zxZ,GR.cp];simp;exact_mod_cast h2
    refine hK _ rfl sa _ _ (zaX.of rfl) ⟨[y],_,hcap,λ _ h=>h,?_,hsr,?_,?_,K3.dict,zaC,by simp⟩
    ·rw[zaD (λ q=>by rw[q,hd3]at ksa;cases ksa)];exact ksa
    ·intro z hz
     have k:=kg z hz;exact⟨zbC.updAttrs k.at_ hd3 (λ q=>by have:=k.nd;rw[q,hd2]at this;cases this),k.ng,k.nd,k.np⟩
    ·rw[hem];exact B3.mark hd3 (by simp;exact lq2 hz0 rfl)
   ·have hem:zxZ n (List.map GR.cp [y])=false:=by simp only[List.map_cons,List.map_nil,zxZ,GR.cp];simp;intro q;exact h2 (by exact_mod_cast q)
    exact hK _ rfl sa _ _ (zaX.of rfl) ⟨[y],_,hcap,λ _ h=>h,ksa,hsr,kg,by rw[hem];exact B3,K3,hd3,by simp⟩
  ·have hl2:2<=gs.length:=by
    have:gs.length≠0:=λ q=>hnil (List.length_eq_zero_iff.mp q);rw[List.length_map]at h1;lia
   refine zfZ.list sa _ rfl ksa hgl (λ i out H'=>H'=H3/\out=((gs.take i).filter λ y=>y.col==opp).map λ y=>PV.ref y.g) ⟨rfl,rfl⟩ (λ i out H'' h=>h.1▸ksa) (λ i v out H'' hv h=>?_) (λ out H'' h=>?_)
   ·obtain⟨rfl,rfl⟩:=h
    refine q12 (zbV hv) λ y hy u0=>?_;subst u0;refine zbC.gCol hL (kg y (List.mem_of_getElem? hy)).at_ ?_;refine br (λ q=>⟨rfl,?_⟩) (λ q=>⟨rfl,?_⟩)
    ·rw[zgW hy,q];rfl
    ·rw[zgW hy,q];rfl
   obtain⟨rfl,rfl⟩:=h;refine⟨H'',Ext.refl _,λ ta hta=>?_⟩;rw[List.length_map,List.take_length];have hsrt:ta∉rows:=zgR B3 hta;have htcp:(gs.filter λ y=>y.col==opp).map GR.cp=(gs.map GR.cp).filter λ A=>A.1==opp:=by rw[List.filter_map];rfl
   have hcap:(gs.filter λ y=>y.col==opp).map GR.cp=zgN opp (gs.map GR.cp):=by
    rw[htcp];unfold zgN;rw[if_neg (by rw[hLlen];lia)]
   have hscp:(gs.filter λ y=>y.col==col).map GR.cp=(gs.map GR.cp).filter λ A=>A.1==col:=by rw[List.filter_map];rfl
   have hem:zxZ n (gs.map GR.cp)=false:=yeW (by rw[List.length_map];exact hl2);generalize htc:(gs.filter λ y=>y.col==opp)=tc at htcp hcap ⊢;have hsub:∀ y∈tc,y∈gs:=λ y hy=>by rw[<- htc]at hy;exact (List.mem_filter.mp hy).1
   have htcl:(tc.map λ y=>PV.ref y.g).length<=100000:=by rw[List.length_map,<- htc];exact Nat.le_trans (List.length_filter_le _ _) (by exact lq2 lg rfl)
   have ex4:Ext H'' (upd H'' ta (.list (tc.map λ y=>PV.ref y.g))):=Ext.upd (Ext.refl _) hta;have hta4:upd H'' ta (.list (tc.map λ y=>PV.ref y.g)) ta=some (.list (tc.map λ y=>PV.ref y.g)):=zaC;change w _ _ _ _ _ (upd H'' ta (.list (tc.map λ y=>PV.ref y.g))) _ _;generalize upd H'' ta (.list (tc.map λ y=>PV.ref y.g))=H4 at ex4 hta4 ⊢;have B4:=B3.ext ex4;have K4:=K3.ext ex4;have hd4:=ex4 _ _ hd3;have ksa4:=ex4 _ _ ksa;have kg4:∀ y∈gs,y.New H2 H4:=λ y hy=>(kg y hy).ext ex4;have fin:∀ H5:zaA,Ext H4 H5->PCut n (AM.Internal.put G (r,c) (some col)) opp gs x d bp bd rows (l0.length+2) H' H2 ta H5:=λ H5 ex=>
    ⟨tc,_,hcap,hsub,ex _ _ hta4,hsrt,λ y hy=>(kg4 y hy).ext ex,by rw[hem];exact B4.ext ex,K4.ext ex,ex _ _ hd4,by simp⟩
   have nko:zoL col opp (gs.map GR.cp)=none->zaX [(0,PV.ref x),(8,PV.ref ta),(6,ykN (zoL col opp (gs.map GR.cp)))] ((8,.ref ta)::L0):=λ q=>by rw[q];exact zaX.of rfl
   refine zaG.lenL (.inl hta4) htcl ?_;refine zaK (λ h3=>?_) (λ h3=>hK _ rfl ta _ _ (nko (ykZ (by rw[<- htcp,List.length_map];intro q;apply h3;rw[List.length_map,q];rfl))) (fin _ (Ext.refl _)));obtain⟨y,hy1⟩:=List.length_eq_one_iff.mp (show tc.length=1 by rw[List.length_map]at h3;exact lq21 h3 rfl);subst hy1;have ya:=(kg4 y (hsub y (.head _))).at_;refine zdB.list hta4 (by decide) (by decide) rfl ?_;refine zbC.gPts hL ya ?_;refine zaG.lenS ya.pts ?_;refine zaK (λ h4=>?_) (λ h4=>hK _ rfl ta _ _ (nko (ymL htcp.symm (by intro q;apply h4;simp only[GR.cp]at q;simp[q]))) (fin _ (Ext.refl _)));obtain⟨kq,hkq⟩:=List.length_eq_one_iff.mp (show y.P.length=1 by exact lq21 h4 rfl);refine zfZ.list sa _ rfl ksa4 hgl (λ i out H'=>H'=H4/\out=((gs.take i).filter λ y=>y.col==col).map λ y=>PV.ref y.g) ⟨rfl,rfl⟩ (λ i out H'' h=>h.1▸ksa4) (λ i v out H'' hv h=>?_) (λ out H'' h=>?_)
   ·obtain⟨rfl,rfl⟩:=h
    refine q12 (zbV hv) λ y hy u0=>?_;subst u0;refine zbC.gCol hL (kg4 y (List.mem_of_getElem? hy)).at_ ?_;refine br (λ q=>⟨rfl,?_⟩) (λ q=>⟨rfl,?_⟩)
    ·rw[zgW hy,q];rfl
    ·rw[zgW hy,q];rfl
   obtain⟨rfl,rfl⟩:=h;refine⟨H'',Ext.refl _,λ sc hsc=>?_⟩;rw[List.length_map,List.take_length];refine q21 (ybD hcol (by rw[hLlen];exact hl2) (by rw[<- htcp];rfl)) λ A0 r0 hA0=>?_;rw[<- hscp]at hA0;have hss:∀ y∈(gs.filter λ y=>y.col==col),y∈gs:=λ y hy=>(List.mem_filter.mp hy).1;generalize (gs.filter λ y=>y.col==col)=ss at hA0 hscp hss ⊢;cases ss with
   | nil=>cases hA0
   | cons y' ss'=>
   have ex5:Ext H'' (upd H'' sc (.list ((y'::ss').map λ y=>PV.ref y.g))):=Ext.upd (Ext.refl _) hsc;have ksc:upd H'' sc (.list ((y'::ss').map λ y=>PV.ref y.g)) sc=some (.list ((y'::ss').map λ y=>PV.ref y.g)):=zaC;change w _ _ _ _ _ (upd H'' sc (.list ((y'::ss').map λ y=>PV.ref y.g))) _ _;generalize upd H'' sc (.list ((y'::ss').map λ y=>PV.ref y.g))=H5 at ex5 ksc ⊢;have ya':y'.At H5:=((kg4 y' (hss y' (.head _))).ext ex5).at_;refine zdB.list ksc (by decide) (by decide) rfl ?_;refine zbC.gPts hL ya' ?_;refine zaG.lenS ya'.pts ?_;refine zaK (λ h5=>?_) (λ h5=>hK _ rfl ta _ _ (nko (ypJ (B:=y'.cp) (r:=ss'.map GR.cp) hscp.symm (by intro q;apply h5;simp only[GR.cp]at q;simp[q]))) (fin _ ex5));obtain⟨kq',hkq'⟩:=List.length_eq_one_iff.mp (show y'.P.length=1 by exact lq21 h5 rfl);refine zdB.list (ex5 _ _ hta4) (by decide) (by decide) rfl ?_;have ya5:y.At H5:=zbC.ext ya ex5;refine zbC.gPts hL ya5 ?_;refine⟨y.ps,kq,rfl,by have:=ya5.pts;rw[hkq]at this;exact this,hK _ rfl ta _ _ ?_ (fin _ ex5)⟩;rw[yhI (q:=kq) (q':=kq') (o:=y.col) (s:=y'.col) (r:=ss'.map GR.cp) (by rw[hLlen];exact hl2) (by rw[<- htcp];simp[GR.cp,hkq]) (by rw[<- hscp];simp[GR.cp,hkq'])];exact zaX.of rfl
 ·intro ta Hc uu;obtain⟨tc,l,htc,hsub,hta,htr,kg',B',K',hdl',hll⟩:=uu
  have hnew:∀ a,H2 a=none->H' a=none:=λ a ha=>by
   cases q:H' a with
   | none=>rfl
   | some o=>
    have h1:a≠d:=λ w=>by rw[w,hd2]at ha;cases ha
    have:=K2 a o q h1 (zgR B2 ha);rw[ha]at this;cases this
  have hpw:(tc.map GR.cp).Pairwise λ A B=>∀ q∈A.2,q∉B.2:=by
   rw[htc];unfold zgN;split
   ·exact fs.apart
   ·exact fs.apart.filter _
  refine zkW.list ta _ rfl hta Unit (λ _=>[(0,.ref x),(6,ykN (zoL col opp (gs.map GR.cp)))]) (PL1 n (AM.Internal.put G (r,c) (some col)) (zxZ n (gs.map GR.cp)) tc x d bp bd rows l H' ta) () (zaX.of rfl) ?_ (λ i b H'' h=>h.hta) ?_ ?_
  ·exact⟨by rw[show zcF (List.map GR.cp (tc.take 0))=[] from rfl,ztG];exact B',hta,λ y hy=>(kg' y (hsub y hy)).at_,K',hdl'⟩
  ·rintro i p u H'' hp hpl
   refine q12 (zbV hp) λ y hy u0=>?_;subst u0;have hilt:=(List.getElem?_eq_some_iff.mp hy).1;have hyd:tc.drop i=y::tc.drop (i+1):=by rw[List.drop_eq_getElem_cons hilt,(List.getElem?_eq_some_iff.mp hy).2]
   have ya:y.At H'':=hpl.kg y (by rw[hyd];exact .head _);have hyg:=hsub y (List.mem_of_getElem? hy);refine q13 (fs.grp y.cp (List.mem_map.mpr ⟨y,hyg,rfl⟩)) λ z0 _ hz0g _=>?_;have hyn:=hnew _ (kg' y hyg).np;have hps:∀ w∈tc.drop (i+1),w.ps≠y.ps:=λ w hw q=>by
    have wa:w.At H'':=hpl.kg w (by rw[hyd];exact .tail _ hw);have e1:=wa.pts;rw[q,ya.pts]at e1;have e2:y.P=w.P:=by injection e1 with e1;injection e1
    have hp2:=hpw;rw[<- List.take_append_drop i tc,hyd,List.map_append,List.map_cons]at hp2;have:=(List.pairwise_cons.mp (List.pairwise_append.mp hp2).2.1).1 w.cp (List.mem_map.mpr ⟨w,hw,rfl⟩) z0 hz0g.self;exact this (by show z0∈w.P;rw[<- e2];exact hz0g.self)
   refine zfU λ K hK=>?_;refine zbC.gPts hL ya ?_;refine zkW.set hh y.ps y.P rfl ya.pts Unit (λ _=>[(0,.ref x),(6,ykN (zoL col opp (gs.map GR.cp)))]) (PL2 n (rm (AM.Internal.put G (r,c) (some col)) (zcF ((tc.take i).map GR.cp))) (zxZ n (gs.map GR.cp)) tc x d bp bd rows l H' ta y.ps i) () (zaX.of rfl) ?_ ?_ ?_
   ·exact λ l' hperm=>hpl.first hy hyd hyn hps
   ·intro l' j q u H3 hperm hq hp2
    have hqg:inG n q:=((hz0g.mem q).mp ((hperm.mem_iff).mp (List.mem_of_getElem? hq))).inG;refine zfU λ K2' hK2=>?_;refine hp2.at_.gBoard hL ?_;refine hp2.at_.at1 hqg.1.1 hqg.1.2 λ rb hb1 hrb=>?_;refine zcV.list hrb hqg.2.1 (by simpa using hqg.2.2) (by simp;have:=B.five;exact lq2 this rfl) ?_;exact hK2 _ rfl () _ _ (zaX.of rfl) (hp2.turn hq hqg htr hb1 hrb)
   ·intro l' u H3 hperm hp2
    exact hK _ rfl () _ _ (zaX.of rfl) (hp2.fin hy hperm)
  ·intro u H'' uu;obtain⟨b1,b2,b3,b4,b5⟩:=uu
   rw[List.length_map,List.take_length,htc]at b1;exact hQ _ _ ⟨gs.map GR.cp,hdl,l0,l,hG,fs,by rw[hLlen];exact lg,rfl,b1,b4,hd0,b5,hll⟩
end
inductive zsB (n:Nat)(x d:Addr)(H:zaA)(p:PV)(H':zaA):Prop
 | mk (bp bd:Addr) (rows:List Addr) (l:Ls) (e:p=.none) (at_:zeA x d bp bd rows n (λ _=>none) true H') (hl:H' d=some (.attrs l)) (le:l.length<=10) (kp:zeT H d [] H') (np:H bp=none) (nb:H bd=none) (nr:∀ a∈rows,H a=none):zsB n x d H p H'
structure zyD (n:Nat)(x d bp bd:Addr)(H:zaA)(i:Nat)(u:Unit)(H':zaA):Prop where
 rows:∃ rows:List Addr,(rows.length=i/\rows.Nodup)/\(bp∉rows/\bd∉rows)/\H' bd=some (.list (rows.map .ref))/\∀ a∈rows,H' a=some (.list (List.replicate n .none))/\H a=none
 hx:H' x=some (.inst zdS d)
 hd:H' d=some (.attrs [("board",.ref bd),("board_points",.ref bp),("side",.int n)])
 hbp:H' bp=some (.list (zbT n n λ i j=>some (pt (i,j))))
 kp:zeT H d [] H'
section
variable {T:Tr}{X:String}{H:zaA}{R:zaA->Prop}{x d bp bd:Addr}{rows:List Addr}{n:Nat}{G:Pt->Option Str}{e:Bool}
theorem zeT.none {H':zaA}{a:Addr}(k:zeT H d [] H')(ha:H' a=none)(hd:H' d≠none):H a=none:=by
 cases q:H a with
 | none=>rfl
 | some o=>
  have:=k a o q (λ w=>hd (by rw[<- w];exact ha)) (by simp);rw[ha]at this;cases this
theorem zyD.turn {H' H7:zaA}{i:Nat}{c:Addr}(h:zyD n x d bp bd H i () H')(hbdd:bd≠d)(hbdp:bd≠bp)(hbn:H bd=none)(ex7:Ext H' H7)(hcn:H' c=none)(hc7:H7 c=some (.list (List.replicate n PV.none))):
  ∃ rows:List Addr,rows.length=i/\H7 bd=some (.list (rows.map .ref))/\zyD n x d bp bd H (i+1) () (upd H7 bd (.list (rows.map .ref++[.ref c]))):=by
 obtain⟨⟨rows,⟨r1,r2⟩,⟨r3,r4⟩,r8,r9⟩,r5,r6,r7,r10⟩:=h;have hne:∀ b o,H' b=some o->b≠c:=λ b o hb q=>by rw[q,hcn]at hb;cases hb
 have hcr:c∉rows:=λ h=>hne c _ (r9 c h).1 rfl;have kn:∀ b,b≠bd->upd H7 bd (.list (List.map PV.ref rows++[PV.ref c])) b=H7 b:=λ b hb=>zaD hb;have hbx:x≠bd:=λ q=>by rw[q,r8]at r5;cases r5
 refine⟨rows,r1,ex7 _ _ r8,⟨rows++[c],⟨by simp[r1],?_⟩,⟨?_,?_⟩,?_,?_⟩,?_,?_,?_,?_⟩
 ·exact List.nodup_append.mpr ⟨r2,by simp,λ a ha b hb q=>hcr (by rw[List.mem_singleton.mp hb]at q;rw[<- q];exact ha)⟩
 ·intro h
  rcases List.mem_append.mp h with h|h
  ·exact r3 h
  ·exact hne bp _ r7 (List.mem_singleton.mp h)
 ·intro h
  rcases List.mem_append.mp h with h|h
  ·exact r4 h
  ·exact hne bd _ r8 (List.mem_singleton.mp h)
 ·rw[zaC,List.map_append];rfl
 ·intro b hb
  rcases List.mem_append.mp hb with hb|hb
  ·rw[kn b (λ q=>r4 (q▸hb))];exact⟨ex7 _ _ (r9 b hb).1,(r9 b hb).2⟩
  ·rw[List.mem_singleton.mp hb,kn c (λ q=>hne bd _ r8 q.symm)];exact⟨hc7,r10.none hcn (by rw[r6];simp)⟩
 ·rw[kn x hbx];exact ex7 _ _ r5
 ·rw[kn d hbdd.symm];exact ex7 _ _ r6
 ·rw[kn bp hbdp.symm];exact ex7 _ _ r7
 ·exact (r10.ext ex7).new hbn
theorem zyD.fin {H':zaA}(h:zyD n x d bp bd H n () H')(hxd:x≠d)(hbpd:bp≠d)(hbdd:bd≠d)(h3:2<=n)(h5:n<=5)(np:H bp=none)(nb:H bd=none):
  zsB n x d H .none (upd H' d (.attrs [("_is_empty",.bool true),("board",.ref bd),("board_points",.ref bp),("side",.int n)])):=by
 obtain⟨⟨rows,⟨r1,r2⟩,⟨r3,r4⟩,r8,r9⟩,r5,r6,r7,r10⟩:=h;refine⟨bp,bd,rows,_,rfl,⟨by rw[zaD hxd];exact r5,⟨_,zaC,by simp,?_,?_,?_,?_,?_⟩,by rw[zaD hbpd];exact r7,by rw[zaD hbdd];exact r8,r1,?_,r2,h3,h5,r3,r4⟩,zaC,by simp,r10.dict,np,nb,λ a ha=>(r9 a ha).2⟩
 ·exact zbB (by decide +kernel) (zbB (by decide +kernel) (zbB (by decide +kernel) zdR))
 ·exact zbB (by decide +kernel) (zbB (by decide +kernel) zdR)
 ·exact zbB (by decide +kernel) zdR
 ·exact zdR
 ·intro m hm
  refine ziE ?_ (ziE ?_ (ziE ?_ (ziE ?_ rfl))) <;> (revert m;decide +kernel)
 ·intro i b hb
  have hbr:=List.mem_of_getElem? hb;rw[zaD (λ q=>by have:=(r9 b hbr).1;rw[q,r6]at this;cases this),(r9 b hbr).1]
  congr 2
  apply List.ext_getElem?;intro k;rw[List.getElem?_map]
  by_cases hk:k<n
  ·rw[List.getElem?_range hk,List.getElem?_replicate,if_pos hk];rfl
  ·rw[List.getElem?_eq_none (by simpa using hk),List.getElem?_eq_none (by simpa using hk)];rfl
theorem zsX (hL:L1 T.C)(hn:3<=T.n)(hh:T.hd=false)(hx:H x=some (.inst zdS d))(hd0:H d=some (.attrs []))(h3:2<=n)(h5:n<=5):
  zaE T X (.ref yaQ) [.ref x,.int n] H (zsB n x d H) R:=by
 refine hL.f_init hh (by exact lq1 hn rfl) rfl ?_;have hxd:x≠d:=λ q=>by rw[q,hd0]at hx;cases hx
 refine zaR.inst hL.clsB (hL.fd (by kernel_rfl)) hx hd0 (by simp) ?_;have hx1:upd H d (.attrs [("side",.int n)]) x=some (.inst zdS d):=by rw[zaD hxd];exact hx
 have hd1:upd H d (.attrs [("side",.int n)]) d=some (.attrs [("side",.int n)]):=zaC;have K1:zeT H d [] (upd H d (.attrs [("side",.int n)])):=zeT.refl.dict;change cond _ (wS _ _ _ _ (upd H d (.attrs [("side",.int n)])) _ _) (wS _ _ _ _ (upd H d (.attrs [("side",.int n)])) _ _);generalize upd H d (.attrs [("side",.int n)])=H1 at hx1 hd1 K1 ⊢;refine zaK (λ q=>absurd q (by lia)) λ _=>?_;refine Exists.intro n (Exists.intro n (Exists.intro (λ i j=>some (pt (i,j))) (And.intro (by have:n*n<=5*5:=Nat.mul_le_mul h5 h5;exact lq2 this rfl) (And.intro (by exact lq3 h5 rfl) (And.intro (by exact lq3 h5 rfl) (zaG.range1 λ a hra=>Exists.intro a (And.intro rfl (And.intro zaC (And.intro ?_ (And.intro ?_ ?_)))))))) ))
 ·intro i H' hi ex
  exact zaG.range1 λ b hb=>⟨b,rfl,zaC,Ext.upd ex (ex.none hb)⟩
 ·intro i j H' hi hj ex
  exact⟨ex,_,rfl,rfl,ex⟩
 intro bp hbp;have hbpd:bp≠d:=λ q=>by
  rw[q]at hbp;have:upd H1 a (.range 0 n) d=some (.attrs [("side",.int n)]):=Ext.upd (Ext.refl _) hra _ _ hd1;rw[this]at hbp;cases hbp
 have ex2:Ext H1 (upd (upd H1 a (.range 0 n)) bp (.list (zbT n n λ i j=>some (pt (i,j))))):=λ b o hb=>Ext.upd (Ext.refl _) hbp _ _ (Ext.upd (Ext.refl _) hra _ _ hb);have hbp2:upd (upd H1 a (.range 0 n)) bp (.list (zbT n n λ i j=>some (pt (i,j)))) bp=some (.list (zbT n n λ i j=>some (pt (i,j)))):=zaC;have hx2:=ex2 _ _ hx1;have hd2:=ex2 _ _ hd1;have K2:=K1.ext ex2;have np:H bp=none:=K1.none (Ext.none (Ext.upd (Ext.refl _) hra) hbp) (by rw[hd1];simp);change zaR _ _ _ _ (upd (upd H1 a (.range 0 n)) bp (.list (zbT n n λ i j=>some (pt (i,j))))) _;generalize upd (upd H1 a (.range 0 n)) bp (.list (zbT n n λ i j=>some (pt (i,j))))=H2 at ex2 hbp2 hx2 hd2 K2 ⊢;refine zaR.inst hL.clsB (hL.fd (by kernel_rfl)) hx2 hd2 (by simp) ?_;have hx3:upd H2 d (.attrs [("board_points",.ref bp),("side",.int n)]) x=some (.inst zdS d):=by rw[zaD hxd];exact hx2
 have hd3:upd H2 d (.attrs [("board_points",.ref bp),("side",.int n)]) d=some (.attrs [("board_points",.ref bp),("side",.int n)]):=zaC;have hbp3:upd H2 d (.attrs [("board_points",.ref bp),("side",.int n)]) bp=some (.list (zbT n n λ i j=>some (pt (i,j)))):=by rw[zaD hbpd];exact hbp2
 have K3:zeT H d [] (upd H2 d (.attrs [("board_points",.ref bp),("side",.int n)])):=K2.dict;intro bd hbd;change upd H2 d (.attrs [("board_points",.ref bp),("side",.int n)]) bd=none at hbd;change zaR _ _ _ _ (upd (upd H2 d (.attrs [("board_points",.ref bp),("side",.int n)])) bd (.list [])) _;generalize upd H2 d (.attrs [("board_points",.ref bp),("side",.int n)])=H3 at hx3 hd3 hbp3 K3 hbd ⊢;have hbdd:bd≠d:=λ q=>by rw[q,hd3]at hbd;cases hbd
 have hbdp:bd≠bp:=λ q=>by rw[q,hbp3]at hbd;cases hbd
 have ex4:Ext H3 (upd H3 bd (.list [])):=Ext.upd (Ext.refl _) hbd;have hbd4:upd H3 bd (.list []) bd=some (.list []):=zaC;have hbdn:H bd=none:=K3.none hbd (by rw[hd3];simp);have hx4:=ex4 _ _ hx3;have hd4:=ex4 _ _ hd3;have hbp4:=ex4 _ _ hbp3;have K4:=K3.ext ex4;generalize upd H3 bd (.list [])=H4 at ex4 hbd4 hx4 hd4 hbp4 K4 ⊢;refine zaR.inst hL.clsB (hL.fd (by kernel_rfl)) hx4 hd4 (by simp) ?_;refine zaG.range1 λ ra hra=>?_;change upd H4 d (.attrs [("board",.ref bd),("board_points",.ref bp),("side",.int n)]) ra=none at hra;have exr:=Ext.upd (o:=.range 0 n) (Ext.refl _) hra;refine zkW.range ra n rfl zaC (by exact lq3 h5 rfl) Unit (λ _=>[(0,.ref x),(1,.int n)]) (zyD n x d bp bd H) () ⟨rfl,rfl,trivial⟩ ?_ ?_ ?_
 ·refine⟨⟨[],⟨rfl,List.nodup_nil⟩,⟨by simp,by simp⟩,exr _ _ (by rw[zaD hbdd];exact hbd4),by simp⟩,exr _ _ (by rw[zaD hxd];exact hx4),exr _ _ zaC,exr _ _ (by rw[zaD hbpd];exact hbp4),K4.dict.ext exr⟩
 ·rintro i u H' hi hI
  refine zfU λ K hK=>?_;refine (let L1':LN:=_;(?_:wS _ _ _ L1' _ _ _));refine zoW.inst hL.clsB (hL.fd (by kernel_rfl)) hI.hx hI.hd (p:=.ref bd) zdR rfl ?_;refine q14 hI.rows λ rows0 _ _ r8 _=>?_;refine Exists.intro _ (And.intro (zbQ.append r8) ?_);intro la hla;refine zfJ.mulL zaC (by exact Int.natCast_nonneg _) (by exact lq15 h5 rfl) λ c hc=>?_;have ex7:Ext H' (upd (upd H' la (.list [PV.none])) c (.list (List.replicate (n:Int).toNat PV.none))):=λ b o hb=>Ext.upd (Ext.refl _) hc _ _ (Ext.upd (Ext.refl _) hla _ _ hb);have hcn:H' c=none:=Ext.none (Ext.upd (Ext.refl _) hla) hc;refine q13 (hI.turn hbdd hbdp hbdn ex7 hcn zaC) λ rows r1 r8' hI'=>?_;refine zaG.append r8' (by rw[List.length_map];lia) ?_;exact hK _ rfl () _ _ (zaX.of rfl) hI'
 ·rintro u H' hI
  refine zaR.inst hL.clsB (hL.fd (by kernel_rfl)) hI.hx hI.hd (by simp) ?_;exact hI.fin hxd hbpd hbdd h3 h5 np hbdn
end
section
theorem zzL {m:Nat}{f:Pt->Option PV}(l:List Nat):(l.flatMap λ i:Nat=>(List.range m).filterMap λ j:Nat=>f ((i:Int),(j:Int)))=(l.flatMap λ i:Nat=>(List.range m).map λ j:Nat=>(((i:Int),(j:Int)):Pt)).filterMap f:=by
 induction l with
 | nil=>rfl
 | cons i l ih=>
  rw[List.flatMap_cons,List.flatMap_cons,List.filterMap_append,ih,List.filterMap_map];rfl
theorem zvX {n:Nat}{f:Pt->Option PV}:zbT n n (λ i j=>f ((i:Int),(j:Int)))=(grid n).filterMap f:=zzL (List.range n)
theorem zhX {n:Nat}:zbT n n (λ i j=>some (pt ((i:Int),(j:Int))))=(grid n).map pt:=by
 rw[zvX (f:=λ z=>some (pt z))];rw[List.filterMap_eq_map']
noncomputable def occ (n:Nat)(G:Pt->Option Str):List PV:=(grid n).filterMap λ z=>(G z).map λ c=>PV.tup [.str c,pt z]
theorem zwB {n:Nat}(h:n<=5):(grid n).length<=25:=by
 rw[zgP];exact Nat.mul_le_mul h h
noncomputable def dpt (z:Pt):Dat:=.tuple [.int z.1,.int z.2]
theorem ynC {C:Cx}{H:zaA}{k:Nat}{z:Pt}:HD C H (k+2) (pt z) (dpt z):=HD.tup' (zjR.mk HD.int' (zjR.mk HD.int' rfl))
theorem ypE {C:Cx}{H:zaA}{k:Nat}(gl:List Pt):zjR (HD C H (k+2)) (gl.map pt) (gl.map dpt):=by
 induction gl with
 | nil=>rfl
 | cons z gl ih=>exact⟨_,_,rfl,ynC,ih⟩
theorem zxH {m:Int}{n:Nat}(h:0<n):0<=m.fmod n/\m.fmod n<n:=⟨Int.fmod_nonneg_of_pos _ (by lia),Int.fmod_lt_of_pos _ (by lia)⟩
noncomputable def ynI (n:Nat)(G:Pt->Option Str):List Dat:=(grid n).filterMap λ z=>(G z).map λ c=>Dat.tuple [.str c,dpt z]
theorem zyB {C:Cx}{H:zaA}{k:Nat}{G:Pt->Option Str}(hv:∀ z c,G z=some c->PyData.strOk c=true)(gl:List Pt):zjR (HD C H (k+3)) (gl.filterMap λ z=>(G z).map λ c=>PV.tup [.str c,pt z]) (gl.filterMap λ z=>(G z).map λ c=>Dat.tuple [.str c,dpt z]):=by
 induction gl with
 | nil=>rfl
 | cons z gl ih=>
  rw[List.filterMap_cons,List.filterMap_cons];cases hz:G z with
  | none=>exact ih
  | some c=>exact⟨_,_,rfl,HD.tup' (zjR.mk (HD.str' (hv z c hz)) (zjR.mk ynC rfl)),ih⟩
theorem zzU {C:Cx}{H:zaA}{a:Addr}{n:Nat}{G:Pt->Option Str}(hv:∀ z c,G z=some c->PyData.strOk c=true)(hl:H a=some (.list (occ n G))):HD C H 9 (.ref a) (.list (ynI n G)):=HD.list' (.inl hl) (zyB (k:=5) hv _)
theorem ypL {C:Cx}{H:zaA}{a:Addr}{gl:List Pt}(hl:H a=some (.list (gl.map pt))):HD C H 9 (.ref a) (.list (gl.map dpt)):=HD.list' (.inl hl) (ypE (k:=6) _)
end
structure OccI (n:Nat)(G:Pt->Option Str)(a1:Addr)(H:zaA)(k:Nat)(u:Unit)(H':zaA):Prop where
 k1:H' a1=some (.list (((grid n).take k).filterMap λ z=>(G z).map λ c=>PV.tup [.str c,pt z]))
 ex:Ext H H'
inductive yaB (n:Nat)(G:Pt->Option Str)(H:zaA)(p:PV)(H':zaA):Prop
 | mk (a:Addr) (e:p=.ref a) (ex:Ext H H') (na:H a=none) (ka:H' a=some (.list (occ n G))):yaB n G H p H'
section
variable {T:Tr}{X:String}{H:zaA}{R:zaA->Prop}{x d bp bd:Addr}{rows:List Addr}{n:Nat}{G:Pt->Option Str}{e:Bool}
theorem zrP (hL:L1 T.C)(hn:3<=T.n)(B:zeA x d bp bd rows n G e H):
  zaE T X (.ref zbG) [.ref x] H (yaB n G H) R:=by
 refine hL.f_list_occupied_points (by exact lq1 hn rfl) rfl ?_;intro a1 h1;have ex1:Ext H (upd H a1 (.list [])):=Ext.upd (Ext.refl _) h1;refine (B.ext ex1).gPts hL ?_;have hbp:=B.pts;rw[zhX]at hbp;refine zkW.list bp ((grid n).map pt) rfl (ex1 _ _ hbp) Unit (λ _=>[(0,.ref x),(1,.ref a1)]) (OccI n G a1 H) () ⟨rfl,rfl,trivial⟩ ⟨zaC,ex1⟩ (λ i b H' h=>h.ex _ _ hbp) ?_ ?_
 ·rintro k p u H' hp hI
  refine q12 (zbV hp) λ z hz u0=>?_;subst u0;refine zfU λ K hK=>?_;refine (let L1':LN:=_;(?_:wS _ _ _ L1' _ _ _));have hzg:=zdG.mp (List.mem_of_getElem? hz);have htk:=zbE hz;have B':=B.ext hI.ex;refine B'.gBoard hL ?_;refine B'.at1 hzg.1.1 hzg.1.2 λ ra _ hra=>?_;refine yiY hra hzg.2.1 hzg.2.2 B.five ?_;cases hG:G (z.1,z.2) with
  | none=>
   have hG:G z=none:=hG;refine hK _ rfl () _ _ (zaX.of rfl) ⟨?_,hI.ex⟩;rw[htk,List.filterMap_append];simp only[List.filterMap_cons,hG,Option.map_none,List.filterMap_nil,List.append_nil];exact hI.k1
  | some c=>
   have hG:G z=some c:=hG;refine M.append hI.k1 ?_ ?_
   ·have h1:=List.length_filterMap_le (λ z=>(G z).map λ c=>PV.tup [.str c,pt z]) ((grid n).take k)
    have h3:=zwB B.five;have h4:((grid n).take k).length<=(grid n).length:=by rw[List.length_take];exact Nat.min_le_right _ _
    exact Nat.le_trans h1 (Nat.le_trans h4 (Nat.le_trans h3 (by decide)))
   refine hK _ rfl () _ _ (zaX.of rfl) ⟨?_,Ext.upd hI.ex h1⟩;rw[zaC,htk,List.filterMap_append];simp only[List.filterMap_cons,hG,Option.map_some,List.filterMap_nil];rfl
 ·rintro u H' hI
  have k1:=hI.k1;rw[List.length_map,List.take_length]at k1;exact⟨a1,rfl,hI.ex,h1,k1⟩
end
inductive zxK (n:Nat)(G:Pt->Option Str)(e:Bool)(H:zaA)(p:PV)(H':zaA):Prop
 | mk (x d bp bd:Addr) (rows:List Addr) (l:Ls) (ep:p=.ref x) (at_:zeA x d bp bd rows n G e H') (ex:Ext H H') (nd:H d=none) (nr:∀ a∈rows,H a=none) (hl:H' d=some (.attrs l)) (le:l.length<=20):zxK n G e H p H'
structure ydV (n:Nat)(G:Pt->Option Str)(H:zaA)(i:Nat)(out:List PV)(H':zaA):Prop where
 rows:∃ rows:List Addr,out=rows.map .ref/\rows.length=i/\rows.Nodup/\(∀ a∈rows,H a=none)/\∀ (k:Nat) a,rows[k]?=some a->H' a=some (.list ((List.range n).map λ j:Nat=>cell (G (k,j))))
 ex:Ext H H'
section
variable {T:Tr}{X:String}{H:zaA}{R:zaA->Prop}{x d bp bd:Addr}{rows:List Addr}{n:Nat}{G:Pt->Option Str}{e:Bool}
theorem ydV.turn {i:Nat}{out:List PV}{H':zaA}(h:ydV n G H i out H'){c:Addr}(hc:H' c=none):ydV n G H (i+1) (out++[.ref c]) (upd H' c (.list ((List.range n).map λ j:Nat=>cell (G (i,j))))):=by
 obtain⟨⟨rows,rfl,rl,nd,nr,hr⟩,ex⟩:=h;have hcr:c∉rows:=λ h=>by
  obtain⟨k,hk⟩:=List.getElem?_of_mem h;rw[hr k c hk]at hc;cases hc
 refine⟨⟨rows++[c],by rw[List.map_append];rfl,by simp[rl],List.nodup_append.mpr ⟨nd,by simp,λ a ha b hb q=>hcr (by rw[List.mem_singleton.mp hb]at q;rw[<- q];exact ha)⟩,λ a ha=>?_,λ k a hk=>?_⟩,Ext.upd ex (ex.none hc)⟩
 ·rcases List.mem_append.mp ha with ha|ha
  ·exact nr a ha
  ·rw[List.mem_singleton.mp ha];exact ex.none hc
 ·by_cases q:k<rows.length
  ·rw[List.getElem?_append_left q]at hk
   rw[zaD (λ w:a=c=>hcr (w▸List.mem_of_getElem? hk))];exact hr k a hk
  ·have hlt:=(List.getElem?_eq_some_iff.mp hk).1
   rw[List.length_append,List.length_singleton]at hlt;have ek:k=rows.length:=by lia
   subst ek;rw[List.getElem?_concat_length]at hk;cases hk;rw[zaC,rl]
theorem ybX (hL:L1 T.C)(hn:6<=T.n)(hh:T.hd=false)(B:zeA x d bp bd rows n G e H):zaE T X (.ref zpC) [.ref x] H (zxK n G e H) R:=by
 refine hL.f_copy hh (by exact lq1 hn rfl) rfl ?_;have n5:=B.five;refine B.gSide hL ?_;refine zaG.cls (hL.mks (by kernel_rfl)) (hL.fd (by kernel_rfl)) (hL.ft (by kernel_rfl)) (by show 1<=T.n-1;exact lq4 hn rfl) λ x2 d2 hxd hx2 hd2=>zaE.mono (zsX (T:=T.down.down) (n:=n) hL (by show 3<=T.n-1-1;exact lq5 hn rfl) hh zaC (by rw[zaD hxd.symm];exact zaC) B.lo n5) λ p H2 h=>?_;obtain⟨bp2,bd2,rows2,l0,rfl,B2,hd0,hl0,K2,np,nb,nr⟩:=h;refine And.intro rfl ?_;have ex2:Ext H H2:=λ a o h=>K2 a o (by rw[zaD (λ q=>by rw[q,hx2]at h;cases h),zaD (λ q=>by rw[q,hd2]at h;cases h)];exact h) (λ q=>by rw[q,hd2]at h;cases h) (by simp);clear K2 np nb nr;have B':=B.ext ex2;refine B'.gSide hL ?_;refine zaG.range1 (fresh λ ra H3 hra ex3 kra=>?_);have B3:=B'.ext ex3;refine zfZ.range ra n rfl kra (by exact lq2 n5 rfl) (ydV n G H3) ⟨⟨[],rfl,rfl,List.nodup_nil,by simp,by simp⟩,Ext.refl _⟩ (λ i out H' hi h=>?_) (λ out H' h=>?_)
 ·refine (B3.ext h.ex).gBoard hL ?_
  refine (B3.ext h.ex).at1 (i:=i) (by exact Int.natCast_nonneg _) (by exact lqf hi) λ r hr hrk=>?_;refine zdD.mk (.inl hrk) (by simp;exact lq2 n5 rfl) λ c hc=>?_;rw[zzG];exact h.turn hc
 obtain⟨⟨rows',rfl,rl,nd,nr,hr⟩,ex⟩:=h;refine⟨H',Ext.refl _,fresh λ bd' H4 hbd' ex4 kbd'=>?_⟩;have B4:=(B3.ext ex).ext ex4;have C4:=((B2.ext ex3).ext ex).ext ex4;have hd4:H4 d2=some (.attrs l0):=ex4 _ _ (ex _ _ (ex3 _ _ hd0));have hne:∀ a o,H4 a=some o->(∀ l,o≠.attrs l)->a≠d2:=λ a o h hk q=>by rw[q,hd4]at h;cases h;exact hk _ rfl
 refine zaR.inst hL.clsB (hL.fd (by kernel_rfl)) C4.inst hd4 (by exact lq2 hl0 rfl) ?_;have exA:Ext H (upd H4 d2 (.attrs (("board",.ref bd')::l0))):=Ext.upd (ex2.trans (ex3.trans (ex.trans ex4))) hd2;refine (B.ext exA).gEmpty hL ?_;have kx:upd H4 d2 (.attrs (("board",.ref bd')::l0)) x2=some (.inst zdS d2):=by rw[zaD hxd];exact C4.inst
 refine zaR.inst hL.clsB (hL.fd (by kernel_rfl)) kx zaC (by simp;exact lq2 hl0 rfl) ?_;refine q17 C4.attrs λ l1 b1 b2 b3 b4 b5 b6 b7=>?_;rw[hd4]at b1;cases b1;have keep:∀ a,a≠d2->upd (upd H4 d2 (.attrs (("board",.ref bd')::l0))) d2 (.attrs (("_is_empty",.bool e)::("board",.ref bd')::l0)) a=H4 a:=λ a h=>by rw[zaD h,zaD h]
 have hr4:∀ (k:Nat) a,rows'[k]?=some a->H4 a=some (.list ((List.range n).map λ j:Nat=>cell (G (k,j)))):=λ k a h=>ex4 _ _ (hr k a h);have rk:∀ a∈rows',∃ l,H4 a=some (.list l):=λ a ha=>let ⟨k,hk⟩:=List.getElem?_of_mem ha;⟨_,hr4 k a hk⟩
 refine⟨x2,d2,bp2,bd',rows',_,rfl,⟨?_,⟨_,zaC,?_,?_,?_,?_,zdR,λ m hm=>?_⟩,?_,?_,rl,λ k a h=>?_,nd,B.lo,B.five,?_,?_⟩,Ext.upd exA hd2,hd2,λ a ha=>ex2.none (ex3.none (nr a ha)),zaC,by simp;lia⟩
 ·rw[keep _ hxd];exact C4.inst
 ·simp;lia
 ·exact zbB (by decide +kernel) (zbB (by decide +kernel) b3)
 ·exact zbB (by decide +kernel) (zbB (by decide +kernel) b4)
 ·exact zbB (by decide +kernel) zdR
 ·refine ziE ?_ (ziE ?_ (b7 m hm)) <;> (revert m;decide +kernel)
 ·rw[keep _ (hne _ _ C4.pts (by intro l q;cases q))];exact C4.pts
 ·rw[keep _ (hne _ _ kbd' (by intro l q;cases q))];exact kbd'
 ·obtain⟨l,h'⟩:=rk a (List.mem_of_getElem? h)
  rw[keep _ (hne _ _ h' (by intro l q;cases q))];exact hr4 k a h
 ·intro h
  have:=ex3 _ _ B2.pts;rw[nr _ h]at this;cases this
 ·intro h
  obtain⟨k,hk⟩:=List.getElem?_of_mem h;rw[hr k _ hk]at hbd';cases hbd'
end
noncomputable def zuO (G:Pt->Option Str)(l:List Pt)(v:Option Str):Pt->Option Str:=λ q=>if q∈l then v else G q
theorem yeI {G:Pt->Option Str}{v:Option Str}:zuO G [] v=G:=by funext q;exact if_neg (by simp)
theorem ydB {G:Pt->Option Str}{l:List Pt}{z:Pt}{v:Option Str}:put (zuO G l v) z v=zuO G (l++[z]) v:=by
 funext q
 simp only[put,zuO,List.mem_append,List.mem_singleton]
 by_cases h1:q=z <;> by_cases h2:q∈l <;> simp[h1,h2]
structure PutI (n:Nat)(G:Pt->Option Str)(v:Option Str)(ps:List Pt)(x d bp bd:Addr)(rows:List Addr)(e:Bool)(l:Ls)(H:zaA)(i:Nat)(u:Unit)(H':zaA):Prop where
 at_:zeA x d bp bd rows n (zuO G (ps.take i) v) e H'
 kp:zeT H d rows H'
 hl:H' d=some (.attrs l)
inductive ybQ (n:Nat)(G1:Pt->Option Str)(x d bp bd:Addr)(rows:List Addr)(H:zaA)(p:PV)(H':zaA):Prop
 | mk (L:List (Str×List Pt)) (hdl:List Pt) (e':Bool) (l l':Ls) (fs:FSI n G1 (grid n) L hdl) (ep:p=.bool L.isEmpty) (at_:zeA x d bp bd rows n (rm G1 (zcF L)) e' H') (em:e'=true↔∀ z∈grid n,rm G1 (zcF L) z=none) (kp:zeT H d rows H')
   (hl:H d=some (.attrs l)) (hl':H' d=some (.attrs l')) (le:l'.length<=l.length+2):ybQ n G1 x d bp bd rows H p H'
section
variable {T:Tr}{X:String}{H:zaA}{R:zaA->Prop}{x d bp bd:Addr}{rows:List Addr}{n:Nat}{G:Pt->Option Str}{e:Bool}
theorem zeA.grid (B:zeA x d bp bd rows n G e H):H bp=some (.list ((grid n).map pt)):=by
 have:=B.pts;rw[zhX]at this;exact this
theorem zqZ (hL:L1 T.C)(hn:4<=T.n)(hh:T.hd=false)(B:zeA x d bp bd rows n G e H):zaE T X (.ref zaO) [.ref x] H (ykC n G (grid n) H) R:=by
 refine hL.f_find_all_surrounded_groups hh (by exact lq1 hn rfl) rfl ?_;intro a1 h1;refine zaG.set0 λ a2 h2=>?_;have h12:a2≠a1:=λ e=>by rw[e,zaC]at h2;cases h2
 have h2':H a2=none:=by rw[zaD h12]at h2;exact h2
 have hbp:=B.grid;have h31:bp≠a1:=λ q=>by rw[q,h1]at hbp;cases hbp
 have h32:bp≠a2:=λ q=>by rw[q,h2']at hbp;cases hbp
 have exA:Ext H (upd (upd H a1 (.list [])) a2 (.pset [])):=Ext.upd (Ext.upd (Ext.refl _) h1) h2';refine (B.ext exA).gPts hL ?_;refine zkW.list bp ((AM.Internal.grid n).map pt) rfl (exA _ _ hbp) Unit (λ _=>[(0,.ref x),(1,.ref a1),(2,.ref a2)]) (FI n G (AM.Internal.grid n) a1 a2 bp H) () ⟨rfl,rfl,rfl,trivial⟩ ?_ (λ i b H'' hj=>by obtain⟨_,_,_,_,_,_,_,k3,_,_⟩:=hj;exact k3) ?_ ?_
 ·refine⟨[],[],FSI.nil,List.nodup_nil,Nat.zero_le _,?_,zaC,exA _ _ hbp,by simp,exA⟩
  rw[zaD h12.symm];exact zaC
 ·intro i p u H'' hp uu;obtain⟨gs,hdl,fs,nd,lg,k1,k2,k3,kg,ex'⟩:=uu
  refine q12 (zbV hp) λ z hz u0=>?_;subst u0;refine zfU λ K hK=>?_;refine (let L1':LN:=_;(?_:wS _ _ _ L1' _ _ _));have htk:=zbE hz;have B':=B.ext ex';have hzg:=zdG.mp (List.mem_of_getElem? hz);have hi25:i<25:=Nat.lt_of_lt_of_le (List.getElem?_eq_some_iff.mp hz).1 (zwB B.five);refine B'.gBoard hL ?_;refine B'.at1 hzg.1.1 hzg.1.2 λ ra _ hra=>?_;refine yiY hra hzg.2.1 hzg.2.2 B.five ?_;cases hG:G (z.1,z.2) with
  | none=>exact hK _ rfl () _ _ (zaX.of rfl) ⟨gs,hdl,by rw[htk];exact fs.skip (λ _=>hG),nd,by exact lqg lg,k1,k2,k3,kg,ex'⟩
  | some c'=>
   refine zdH.inS z k2 (B.box hzg) ?_;refine zaK (λ hin=>?_) (λ hin=>?_)
   ·exact hK _ rfl () _ _ (zaX.of rfl) ⟨gs,hdl,by rw[htk];exact fs.again hin,nd,by exact lqg lg,k1,k2,k3,kg,ex'⟩
   ·refine M.own (B'.meth hL ymD) (zaE.callK (zhM (T:=T.down) (col:=c') hL (by show 3<=T.n-1;exact lq4 hn rfl) hh B' hzg hG) λ K0 hK0 p H2' h=>?_)
    obtain⟨g,dg,ps,P,sur,rfl,ex2,q1,q2,q3,gr,gm,gsur,gnd⟩:=h;refine hK0 _ _ ?_;have hps:ps≠a2:=λ q=>by rw[q,k2]at q3;cases q3
    have fin:∀ hdl':List Pt,hdl'.Nodup->(∀ q,q∈hdl'↔q∈hdl\/q∈P)->FI n G (AM.Internal.grid n) a1 a2 bp H (i+1) () (upd (cond sur (upd H2' a1 (.list (gs.map (λ y=>PV.ref y.g)++[PV.ref g]))) H2') a2 (.pset hdl')):=
     λ hdl' nd' mh=>FI.new h12 h31 h32 h1 h2' hz fs lg kg k1 k2 k3 ex' hin ex2 q1 q2 q3 gr ⟨hzg,hG,gm,gnd⟩ gsur nd' mh
    refine zbC.gSur hL gr ?_;cases sur with
    | true=>
     refine M.append (ex2 _ _ k1) (by rw[List.length_map];exact lq12 lg hi25 rfl) ?_;have gr':=zbC.updList (m:=gs.map (λ y=>PV.ref y.g)++[PV.ref g]) gr (ex2 _ _ k1);have k2'':upd H2' a1 (.list (gs.map (λ y=>PV.ref y.g)++[PV.ref g])) a2=some (.pset hdl):=by rw[zaD h12];exact ex2 _ _ k2
     refine Exists.intro _ (And.intro (zbQ.update k2'') (zbC.gPts hL gr' (zaG.update k2'' gr'.pts hps.symm λ hdl' nd' mh=>?_)));exact hK _ rfl () _ _ (zaX.of rfl) (fin hdl' nd' mh)
    | false=>
     have k2'':=ex2 _ _ k2;refine Exists.intro _ (And.intro (zbQ.update k2'') (zbC.gPts hL gr (zaG.update k2'' gr.pts hps.symm λ hdl' nd' mh=>?_)));exact hK _ rfl () _ _ (zaX.of rfl) (fin hdl' nd' mh)
 ·intro u H'' uu;obtain⟨gs,hdl,fs,nd,lg,k1,k2,k3,kg,ex'⟩:=uu
  rw[List.length_map,List.take_length]at fs;rw[List.length_map]at lg;exact⟨a1,gs,hdl,rfl,ex',h1,k1,λ y hy=>(kg y hy).1,lg,fs⟩
theorem zsC (hL:L1 T.C)(B:zeA x d bp bd rows n G e H){l:Ls}(hd:H d=some (.attrs l)){la:Addr}{ps:List Pt}(hla:H la=some (.list (ps.map pt)))(hr:la∉rows)(hg:∀ z∈ps,inG n z){ex:IE}{v:Option Str}
  (he:∀ {ls:LN} {H:zaA} {R:zaA->Prop} {Q:PV->zaA->Prop},Q (cell v) H->w T X ex .v ls H R Q) {ls:LN} (K:LN) (hk:zaX K ls) (h0:lkN 0 K=some (.ref x)) (hK:∀ p q,zaX K ((7,p)::(6,q)::K)) {Q:AFl->LN->zaA->Prop}
  (hQ:∀ H',zeA x d bp bd rows n (zuO G ps v) e H'->zeT H d rows H'->H' d=some (.attrs l)->Q .next K H'):
  zkW T (.ref la) ls H (λ v ls' H' K=>wT T X (.tup (.cons (.var 6) (.cons (.var 7) .nil))) v ls' H' zqB λ ls'' H''=>wS (.seq (.assign (.sub (.sub (.attr (.var 0) "board") (.var 6)) (.var 7)) ex) .skip) X T ls'' H'' zqB K) Q:=by
 have hlad:la≠d:=λ q=>by rw[q,hd]at hla;cases hla
 refine zkW.list la (ps.map pt) rfl hla Unit (λ _=>K) (PutI n G v ps x d bp bd rows e l H) () hk ⟨by rw[List.take_zero,yeI];exact B,zeT.refl,hd⟩ (λ i b H' h=>h.kp _ _ hla hlad hr) (λ i p u H' hp h=>?_) (λ u H' h=>?_)
 ·refine q12 (zbV hp) λ z hz u0=>?_;subst u0
  have hzg:=hg z (List.mem_of_getElem? hz);have htk:=zbE hz;refine he ?_;refine zeC (X:=X) (R:=noR) (by show lkN 0 ((7,.int z.2)::(6,.int z.1)::K)=_;rw[zgS,if_neg (by decide),zgS,if_neg (by decide)];exact h0) ?_;refine h.at_.gBoard hL ?_;refine h.at_.at1 hzg.1.1 hzg.1.2 λ rb hb1 hrb=>?_;refine zcV.list hrb hzg.2.1 (by simpa using hzg.2.2) (by simp;have:=B.five;exact lq2 this rfl) ?_;have hrm:rb∈rows:=List.mem_of_getElem? hb1;refine⟨(),hK _ _,?_,h.kp.row hrm,?_⟩
  ·rw[htk,<- ydB]
   exact h.at_.put (v:=v) hzg.1.1 hzg.2.1 hzg.2.2 hb1
  ·rw[zaD (λ w=>by have:=h.hl;rw[w,hrb]at this;cases this)];exact h.hl
 ·obtain⟨h1,h2,h3⟩:=h
  rw[List.length_map,List.take_length]at h1;exact hQ H' h1 h2 h3
end
section
variable {T:Tr}{X:String}{H:zaA}{R:zaA->Prop}{x d bp bd:Addr}{rows:List Addr}{n:Nat}{G:Pt->Option Str}{e:Bool}
theorem yiP {gs:List GR}{G1:Pt->Option Str}:rm G1 (zcF ((gs.take gs.length).map GR.cp))=rm G1 (zcF (gs.map GR.cp)):=by rw[List.take_length]
theorem zxB {P:Pt->Prop}{k:Nat}{l:List Pt}{z:Pt}(hz:l[k]?=some z)(h:∀ y∈l.take k,P y)(hp:P z):∀ y∈l.take (k+1),P y:=λ y hy=>by
 rw[zbE hz]at hy;rcases List.mem_append.mp hy with hy|hy
 ·exact h y hy
 ·rw[List.mem_singleton.mp hy];exact hp
theorem mo_fa {P:Params}:MOk P "_find_all_surrounded_groups" zaO:=⟨by decide +kernel,by kernel_rfl,by kernel_rfl,by kernel_rfl⟩
theorem zyE (hL:L1 T.C)(hn:6<=T.n)(hh:T.hd=false)(B:zeA x d bp bd rows n G e H)(hz:∃ l,H d=some (.attrs l)/\l.length<=4000){ba wa ea:Addr}{bs ws es:List Pt}
  (hb:H ba=some (.list (bs.map pt))) (hw:H wa=some (.list (ws.map pt))) (he:H ea=some (.list (es.map pt))) (rb:ba∉rows) (rw':wa∉rows) (re:ea∉rows)
  (gb:∀ z∈bs,inG n z) (gw:∀ z∈ws,inG n z) (ge:∀ z∈es,inG n z) (hlen:bs.length+ws.length+es.length<=90000):
  zaE T X (.ref zaS) [.ref x,.ref ba,.ref wa,.ref ea] H (ybQ n (zuO (zuO (zuO G bs (some "b")) ws (some "w")) es none) x d bp bd rows H) R:=by
 refine q12 hz ?_;clear hz;intro l hd hz;refine zaE.post λ Q hQ=>?_;refine hL.f_apply_setup hh (by exact lq1 hn rfl) rfl ?_;have n5:=B.five;have lb:(bs.map pt).length<=100000:=by rw[List.length_map];exact lq8 hlen rfl
 have lw:(ws.map pt).length<=100000:=by rw[List.length_map];exact lq9 hlen rfl
 have le:(es.map pt).length<=100000:=by rw[List.length_map];exact lq10 hlen rfl
 refine zaG.listC (.inl hb) lb (fresh λ c1 H1 hc1 ex1 k1=>?_);refine zaG.listC (.inl (ex1 _ _ hw)) lw (fresh λ c2 H2 hc2 ex2 k2=>?_);refine zfJ.addL (.inl (ex2 _ _ k1)) (.inl k2) (by simp only[List.length_map];exact lq11 hlen rfl) (fresh λ c3 H3 hc3 ex3 k3=>?_);refine zaG.listC (.inl (ex3 _ _ (ex2 _ _ (ex1 _ _ he)))) le (fresh λ c4 H4 hc4 ex4 k4=>?_);refine zfJ.addL (.inl (ex4 _ _ k3)) (.inl k4) (by simp only[List.length_append,List.length_map];exact lq2 hlen rfl) (fresh λ c5 H5 hc5 ex5 k5=>?_);have ex:=(((ex1.trans ex2).trans ex3).trans ex4).trans ex5;clear k1 k2 k3 k4 ex1 ex2 ex3 ex4 ex5 hc1 hc2 hc3 hc4 hc5;clear H1 H2 H3 H4;have B5:=B.ext ex;have hd5:=ex _ _ hd;rw[<- List.map_append,<- List.map_append]at k5;refine zsO.list c5 ((bs++ws++es).map pt) rfl k5 Unit (λ _=>[(0,.ref x),(1,.ref ba),(2,.ref wa),(3,.ref ea)]) (λ _ _ H'=>H'=H5) () (zaX.of rfl) rfl (λ i b H' h=>h▸k5) ?_ ?_
 ·rintro i p u H' hp rfl
  refine q12 (zbV hp) λ z hz' u0=>?_;subst u0;have hzg:inG n z:=by
   have:=List.mem_of_getElem? hz';rcases List.mem_append.mp this with h|h
   ·exact (List.mem_append.mp h).elim (gb z) (gw z)
   ·exact ge z h
  have z1:=hzg.1.1;have z2:=hzg.1.2;have z3:=hzg.2.1;have z4:=hzg.2.2;refine zfU λ K hK=>?_;refine zaK (λ q=>absurd q (by exact lqb z1)) λ _=>?_;refine zaK (λ q=>absurd q (by exact lqb z3)) λ _=>?_;refine B5.gSide hL ?_;refine zaK (λ q=>absurd q (by exact lqc z2)) λ _=>?_;refine B5.gSide hL ?_;refine zaK (λ q=>absurd q (by exact lqc z4)) λ _=>?_;exact hK _ rfl () _ _ (zaX.of rfl) rfl
 rintro u H' rfl;refine zsC (T:=T.down) (ex:=.str "b") (v:=some "b") hL B5 hd5 (ex _ _ hb) rb gb (λ h=>h) [(0,.ref x),(1,.ref ba),(2,.ref wa),(3,.ref ea)] ?_ rfl (λ p q=>zaX.of rfl) λ H6 B6 K6 hd6=>?_
 ·exact zaX.of rfl
 have nd:∀ {a:Addr} {o:AO},H a=some o->(∀ l,o≠.attrs l)->a≠d:=λ h hk q=>by rw[q,hd]at h;cases h;exact hk _ rfl
 refine zsC (T:=T.down) (ex:=.str "w") (v:=some "w") hL B6 hd6 (K6 _ _ (ex _ _ hw) (nd hw (by intro l q;cases q)) rw') rw' gw (λ h=>h) [(0,.ref x),(1,.ref ba),(2,.ref wa),(3,.ref ea)] ?_ rfl (λ p q=>zaX.of rfl) λ H7 B7 K7 hd7=>?_
 ·exact zaX.of rfl
 refine zsC (T:=T.down) (ex:=.none) (v:=none) hL B7 hd7 (K7 _ _ (K6 _ _ (ex _ _ he) (nd he (by intro l q;cases q)) re) (nd he (by intro l q;cases q)) re) re ge (λ h=>h) [(0,.ref x),(1,.ref ba),(2,.ref wa),(3,.ref ea)] ?_ rfl (λ p q=>zaX.of rfl) λ H8 B8 K8 hd8=>?_
 ·exact zaX.of rfl
 have K:=((zeT.refl.ext ex).trans K6).trans (K7.trans K8);clear K6 K7 K8 B6 B7 hd6 hd7 hd5 B5 k5 ex;generalize zuO (zuO (zuO G bs (some "b")) ws (some "w")) es none=G1 at B8 hQ;refine M.own (B8.meth hL mo_fa) (zaE.callK (zqZ (T:=T.down) hL (by show 4<=T.n-1;exact lq4 hn rfl) hh B8) λ K0 hK0 p H9 h=>?_);obtain⟨sa,gs,hdl,rfl,ex9,hsa,ksa,kg,lg,fs⟩:=h;refine hK0 _ _ ?_;have B9:=B8.ext ex9;have hd9:=ex9 _ _ hd8;have K9:zeT H8 d rows H9:=zeT.refl.ext ex9;have hsr:=zgR B8 hsa;have hlg:gs.length<=25:=Nat.le_trans lg (zwB n5);have hpw:=fs.apart;refine zkW.list sa _ rfl ksa Unit (λ _=>[(0,.ref x),(4,.ref sa)]) (PL1 n G1 e gs x d bp bd rows l H8 sa) () (zaX.of rfl) ?_ (λ i b H'' h=>h.hta) ?_ ?_
 ·exact⟨by rw[show zcF (List.map GR.cp (gs.take 0))=[] from rfl,ztG];exact B9,ksa,λ y hy=>(kg y hy).at_,K9,hd9⟩
 ·rintro i p u H'' hp hpl
  refine q12 (zbV hp) λ y hy u0=>?_;subst u0;have hilt:=(List.getElem?_eq_some_iff.mp hy).1;have hyd:gs.drop i=y::gs.drop (i+1):=by rw[List.drop_eq_getElem_cons hilt,(List.getElem?_eq_some_iff.mp hy).2]
  have ya:y.At H'':=hpl.kg y (by rw[hyd];exact .head _);have hyg:=List.mem_of_getElem? hy;refine q13 (fs.grp y.cp (List.mem_map.mpr ⟨y,hyg,rfl⟩)) λ z0 _ hz0g _=>?_;have hyn:=(kg y hyg).np;have hps:∀ w∈gs.drop (i+1),w.ps≠y.ps:=λ w hw q=>by
   have wa:w.At H'':=hpl.kg w (by rw[hyd];exact .tail _ hw);have e1:=wa.pts;rw[q,ya.pts]at e1;have e2:y.P=w.P:=by injection e1 with e1;injection e1
   have hp2:=hpw;rw[<- List.take_append_drop i gs,hyd,List.map_append,List.map_cons]at hp2;have:=(List.pairwise_cons.mp (List.pairwise_append.mp hp2).2.1).1 w.cp (List.mem_map.mpr ⟨w,hw,rfl⟩) z0 hz0g.self;exact this (by show z0∈w.P;rw[<- e2];exact hz0g.self)
  refine zfU λ K hK=>?_;refine zbC.gPts hL ya ?_;refine zkW.set hh y.ps y.P rfl ya.pts Unit (λ _=>[(0,.ref x),(4,.ref sa)]) (PL2 n (rm G1 (zcF ((gs.take i).map GR.cp))) e gs x d bp bd rows l H8 sa y.ps i) () (zaX.of rfl) ?_ ?_ ?_
  ·exact λ l' hperm=>hpl.first hy hyd hyn hps
  ·intro l' j q u H3 hperm hq hp2
   have hqg:inG n q:=((hz0g.mem q).mp ((hperm.mem_iff).mp (List.mem_of_getElem? hq))).inG;refine zfU λ K2' hK2=>?_;refine hp2.at_.gBoard hL ?_;refine hp2.at_.at1 hqg.1.1 hqg.1.2 λ rb hb1 hrb=>?_;refine zcV.list hrb hqg.2.1 (by simpa using hqg.2.2) (by simp;exact lq2 n5 rfl) ?_;exact hK2 _ rfl () _ _ (zaX.of rfl) (hp2.turn hq hqg hsr hb1 hrb)
  ·intro l' u H3 hperm hp2
   exact hK _ rfl () _ _ (zaX.of rfl) (hp2.fin hy hperm)
 intro u H10 uu;obtain⟨b1,b2,b3,b4,b5⟩:=uu;rw[List.length_map,yiP]at b1;have K10:=K.trans b4;generalize hG2:rm G1 (zcF (gs.map GR.cp))=G2 at b1;have sad:sa≠d:=λ q=>by rw[q,hd8]at hsa;cases hsa
 have done:∀ (e':Bool) (H':zaA) (l':Ls),zeA x d bp bd rows n G2 e' H'->(e'=true↔∀ z∈AM.Internal.grid n,G2 z=none)->zeT H d rows H'->H' d=some (.attrs l')->l'.length<=l.length+2->Q (.bool (!(!(gs.map λ y=>PV.ref y.g).isEmpty))) H':=λ e' H' l' B' em K' hd' hl'=>by
  refine hQ _ _ ⟨gs.map GR.cp,hdl,e',l,l',fs,?_,by rw[hG2];exact B',by rw[hG2];exact em,K',hd,hd',hl'⟩;cases gs <;> rfl
 refine zaR.inst hL.clsB (hL.fd (by kernel_rfl)) b1.inst b5 (by exact lq2 hz rfl) ?_;have b6:=b1.mark (e':=true) b5 (by exact lq2 hz rfl);have K11:=K10.dict (o:=.attrs (("_is_empty",.bool true)::l));have h6:upd H10 d (.attrs (("_is_empty",.bool true)::l)) d=some (.attrs (("_is_empty",.bool true)::l)):=zaC;have s6:upd H10 d (.attrs (("_is_empty",.bool true)::l)) sa=some (.list (gs.map λ y=>.ref y.g)):=by rw[zaD sad];exact b2
 change wS _ _ _ _ (upd H10 d (.attrs (("_is_empty",.bool true)::l))) _ _;generalize upd H10 d (.attrs (("_is_empty",.bool true)::l))=H11 at b6 K11 h6 s6 ⊢;refine b6.gPts hL ?_;refine zkW.list bp ((AM.Internal.grid n).map pt) rfl b6.grid Unit (λ _=>[(0,.ref x),(4,.ref sa)]) (λ i _ H'=>H'=H11/\∀ z∈(AM.Internal.grid n).take i,G2 z=none) () (zaX.of rfl) ⟨rfl,by simp⟩ (λ i b H' h=>h.1▸b6.grid) ?_ ?_
 ·rintro i p u H' hp ⟨rfl,hall⟩
  refine q12 (zbV hp) λ z hz' u0=>?_;subst u0;have hzm:=List.mem_of_getElem? hz';have hzg:=zdG.mp hzm;refine b6.gBoard hL ?_;refine b6.at1 hzg.1.1 hzg.1.2 λ ra _ hra=>?_;refine yiY hra hzg.2.1 hzg.2.2 n5 ?_;cases hGz:G2 (z.1,z.2) with
  | none=>exact⟨(),zaX.of rfl,rfl,zxB hz' hall hGz⟩
  | some c=>
   refine zaR.inst hL.clsB (hL.fd (by kernel_rfl)) b6.inst h6 (by simp;exact lq2 hz rfl) ?_;refine STr.list (l:=gs.map λ y=>PV.ref y.g) (.inl ?_) (by rw[List.length_map];exact lq2 hlg rfl) ?_
   ·rw[zaD sad];exact s6
   refine done false _ _ (b6.mark (e':=false) h6 (by simp;exact lq2 hz rfl)) ⟨λ q=>(nomatch q),λ q=>?_⟩ K11.dict zaC (by simp);have:=q z hzm;rw[show G2 z=some c from hGz]at this;cases this
 ·rintro u H' ⟨rfl,hall⟩
  rw[List.length_map,List.take_length]at hall;refine STr.list (l:=gs.map λ y=>PV.ref y.g) (.inl ?_) (by rw[List.length_map];exact lq2 hlg rfl) ?_
  ·exact s6
  exact done true _ _ b6 ⟨λ _=>hall,λ _=>rfl⟩ K11 h6 (by simp)
end
section
variable {T:Tr}{X:String}{H:zaA}{R:zaA->Prop}{x d bp bd:Addr}{rows:List Addr}{n:Nat}{G:Pt->Option Str}{e:Bool}
theorem zkU:zwJ "IndexError" := ⟨⟨_,_,excClass_IndexError⟩,by rw[isSubtype_type];kernel_rfl⟩
theorem ybA (hL:L1 T.C)(hn:1<=T.n)(hh:T.hd=false)(B:zeA x d bp bd rows n G e H){r c:Int}(hg:inG n (r,c)):
  zaE T X (.ref zvG) [.ref x,.int r,.int c] H (λ p H'=>p=cell (G (r,c))/\H'=H) R:=by
 have g1:0<=r:=hg.1.1;have g2:r<n:=hg.1.2;have g3:0<=c:=hg.2.1;have g4:c<n:=hg.2.2;refine hL.f_get hh hn rfl ?_;refine zaK (λ q=>absurd q (by exact lqb g1)) λ _=>?_;refine zaK (λ q=>absurd q (by exact lqb g3)) λ _=>?_;refine B.gBoard hL ?_;refine zfE.ok (B.at1 g1 g2 λ ra hr1 hra=>zfE.ok ?_);refine yiY hra g3 g4 B.five ?_;exact⟨rfl,rfl⟩
theorem out2 (hh:T.hd=false)(hX:X = "IndexError")(B:zeA x d bp bd rows n G e H){r c:Int}(h1:¬ r<0)(h2:¬ c<0)(ho:¬ inG n (r,c))(hr:r<100000)(hc:c<100000)(hR:R H){Q:PV->zaA->Prop}:
  zfE T X (.ref bd) (.int r) H (λ p H1'=>zfE T X p (.int c) H1' Q R) R:=by
 by_cases hr':r<n
 ·refine zfE.ok (B.at1 (by exact lqd h1) hr' λ ra hr1 hra=>?_)
  refine zfE.out hX hh hra (.inr ?_) (by exact lq20 h2 rfl) (by exact lq17 hc rfl) hR;rw[List.length_map,List.length_range];have:¬ c<n:=λ h=>ho ⟨⟨Int.not_lt.mp h1,hr'⟩,Int.not_lt.mp h2,h⟩;exact lqd this
 ·refine zfE.out hX hh B.board (.inr ?_) (by exact lq20 h1 rfl) (by exact lq17 hr rfl) hR
  rw[List.length_map,B.len];exact lqd hr'
theorem yfR (hL:L1 T.C)(hn:1<=T.n)(hh:T.hd=false)(hX:X = "IndexError")(B:zeA x d bp bd rows n G e H){r c:Int}(ho:¬ inG n (r,c))(hr:r<100000)(hc:c<100000)(hR:R H):
  zaE T X (.ref zvG) [.ref x,.int r,.int c] H (λ _ _=>False) R:=by
 refine hL.f_get hh hn rfl ?_;refine zaK (λ q=>⟨hX,zkU,ndN hh,hR⟩) λ h1=>?_;refine zaK (λ q=>⟨hX,zkU,ndN hh,hR⟩) λ h2=>?_;refine B.gBoard hL ?_;exact out2 (T:=T.down) hh hX B h1 h2 ho hr hc hR
theorem yeC (hL:L1 T.C)(hn:6<=T.n)(hh:T.hd=false)(hX:X = "IndexError")(B:zeA x d bp bd rows n G e H){r c:Int}{col opp:Str}(hco:zuM col opp)(ho:¬ inG n (r,c))(hr:r<100000)(hc:c<100000)(hR:R H):
  zaE T X (.ref ziX) [.ref x,.int r,.int c,.str col] H (λ _ _=>False) R:=by
 refine hL.f_play hh (by exact lq1 hn rfl) rfl ?_;refine zaK (λ q=>⟨hX,zkU,ndN hh,hR⟩) λ h1=>?_;refine zaK (λ q=>⟨hX,zkU,ndN hh,hR⟩) λ h2=>?_;refine zaE.callK (ziQ (T:=T.down) hL (by show 1<=T.n-1;exact lq4 hn rfl) hh hco) λ K0 hK0 p H' h=>?_;obtain⟨rfl,rfl⟩:=h;refine hK0 _ _ ?_;refine B.gBoard hL ?_;exact out2 (T:=T.down) hh hX B h1 h2 ho hr hc hR
theorem yaJ (hL:L1 T.C)(hn:6<=T.n)(hh:T.hd=false)(hX:X = "IndexError")(B:zeA x d bp bd rows n G e H){ba wa ea:Addr}{bs ws es:List Pt}
  (hb:H ba=some (.list (bs.map pt))) (hw:H wa=some (.list (ws.map pt))) (he:H ea=some (.list (es.map pt))) (hlen:bs.length+ws.length+es.length<=90000)
  {z0:Pt} (hz0:z0∈bs++ws++es) (ho:¬ inG n z0) (hR:∀ H',Ext H H'->R H'):
  zaE T X (.ref zaS) [.ref x,.ref ba,.ref wa,.ref ea] H (λ _ _=>False) R:=by
 refine hL.f_apply_setup hh (by exact lq1 hn rfl) rfl ?_;have lb:(bs.map pt).length<=100000:=by rw[List.length_map];exact lq8 hlen rfl
 have lw:(ws.map pt).length<=100000:=by rw[List.length_map];exact lq9 hlen rfl
 have le:(es.map pt).length<=100000:=by rw[List.length_map];exact lq10 hlen rfl
 refine zaG.listC (.inl hb) lb (fresh λ c1 H1 hc1 ex1 k1=>?_);refine zaG.listC (.inl (ex1 _ _ hw)) lw (fresh λ c2 H2 hc2 ex2 k2=>?_);refine zfJ.addL (.inl (ex2 _ _ k1)) (.inl k2) (by simp only[List.length_map];exact lq11 hlen rfl) (fresh λ c3 H3 hc3 ex3 k3=>?_);refine zaG.listC (.inl (ex3 _ _ (ex2 _ _ (ex1 _ _ he)))) le (fresh λ c4 H4 hc4 ex4 k4=>?_);refine zfJ.addL (.inl (ex4 _ _ k3)) (.inl k4) (by simp only[List.length_append,List.length_map];exact lq2 hlen rfl) (fresh λ c5 H5 hc5 ex5 k5=>?_);have ex:=(((ex1.trans ex2).trans ex3).trans ex4).trans ex5;clear k1 k2 k3 k4 ex1 ex2 ex3 ex4 ex5 hc1 hc2 hc3 hc4 hc5;clear H1 H2 H3 H4;have B5:=B.ext ex;have r5:=hR _ ex;rw[<- List.map_append,<- List.map_append]at k5;refine zsO.list c5 ((bs++ws++es).map pt) rfl k5 Unit (λ _=>[(0,.ref x),(1,.ref ba),(2,.ref wa),(3,.ref ea)]) (λ i _ H'=>(∀ z∈(bs++ws++es).take i,inG n z)/\H'=H5) () ⟨rfl,rfl,rfl,rfl,trivial⟩ ⟨by simp,rfl⟩ (λ i b H' h=>h.2▸k5) ?_ ?_
 ·rintro i p u H' hp ⟨hi,rfl⟩
  refine q12 (zbV hp) λ z hz' u0=>?_;subst u0;refine zaK (λ q=>⟨hX,zkU,ndN hh,r5⟩) λ z1=>?_;refine zaK (λ q=>⟨hX,zkU,ndN hh,r5⟩) λ z2=>?_;refine B5.gSide hL ?_;refine zaK (λ q=>⟨hX,zkU,ndN hh,r5⟩) λ z3=>?_;refine B5.gSide hL ?_;refine zaK (λ q=>⟨hX,zkU,ndN hh,r5⟩) λ z4=>?_;exact⟨(),⟨rfl,rfl,rfl,rfl,trivial⟩,zxB hz' hi ⟨⟨by exact lqd z1,by exact lqe z3⟩,by exact lqd z2,by exact lqe z4⟩,rfl⟩
 rintro u H' ⟨hi,rfl⟩;rw[List.length_map,List.take_length]at hi;exact absurd (hi z0 hz0) ho
end
theorem yeO {n k:Nat}:(zsD n k).length<=4:=by
 have one:∀ (c:Prop) [Decidable c] (i:Nat),(if c then [i] else []).length<=1:=λ c _ i=>by split <;> simp
 unfold zsD;rw[List.length_append,List.length_append,List.length_append];exact Nat.add_le_add (Nat.add_le_add (Nat.add_le_add (one _ _) (one _ _)) (one _ _)) (one _ _)
noncomputable def pn (k:Nat):PV:=.int (k:Int)
noncomputable def cells (n:Nat)(G:Pt->Option Str):List PV:=(List.range (n*n)).map λ k=>cell (G (pOf n k))
noncomputable def yoC:Option Str->Dat
 | none=>.none
 | some c=>.str c
theorem zhH {n k:Nat}{G:Pt->Option Str}(hk:k<n*n):(cells n G)[k]?=some (cell (G (pOf n k))):=by
 unfold cells;rw[List.getElem?_map,List.getElem?_range hk];rfl
theorem zfC {n:Nat}{G:Pt->Option Str}:(cells n G).length=n*n:=by unfold cells;rw[List.length_map,List.length_range]
theorem yiU {C:Cx}{H:zaA}{m:Nat}{o:Option Str}(h:∀ c,o=some c->PyData.strOk c=true):HD C H (m+1) (cell o) (yoC o):=by
 cases o with
 | none=>exact HD.none'
 | some c=>exact HD.str' (h c rfl)
theorem zmM {C:Cx}{H:zaA}{m:Nat}{n:Nat}{G:Pt->Option Str}(hv:∀ z c,G z=some c->PyData.strOk c=true):∀ l:List Nat,zjR (HD C H (m+1)) (l.map λ j=>cell (G (pOf n j))) (l.map λ j=>yoC (G (pOf n j)))
 | []=>rfl
 | j::l=>zjR.mk (yiU (hv _)) (zmM hv l)
theorem zgM {C:Cx}{H:zaA}{m:Nat}:∀ l:List Nat,zjR (HD C H (m+1)) (l.map pn) (l.map λ j:Nat=>Dat.int (j:Int))
 | []=>rfl
 | j::l=>zjR.mk HD.int' (zgM l)
theorem zgG {j:Nat}{l:List Nat}:Dat.int (j:Int)∈l.map (λ j:Nat=>Dat.int (j:Int))↔j∈l:=by
 rw[List.mem_map];exact⟨λ u9=>q12 u9 λ y hy e=>Int.ofNat.inj (Dat.int.inj e)▸hy,λ h=>⟨j,h,rfl⟩⟩
inductive ymM (n k:Nat)(H:zaA)(p:PV)(H':zaA):Prop
 | mk (a:Addr) (e:p=.ref a) (ex:Ext H H') (na:H a=none) (ka:H' a=some (.list ((zsD n k).map pn))):ymM n k H p H'
inductive yhJ (n:Nat)(G:Pt->Option Str)(H:zaA)(p:PV)(H':zaA):Prop
 | mk (a:Addr) (f:Nat->Bool) (e:p=.ref a) (ex:Ext H H') (na:H a=none) (ka:H' a=some (.list (((List.range (n*n)).filter f).map pn))) (hf:∀ k<n*n,f k=true↔zuN n G k):yhJ n G H p H'
inductive BI1 (n:Nat)(G:Pt->Option Str)(la:Addr)(H:zaA)(i:Nat)(u:Unit)(H':zaA):Prop
 | mk (l:List Nat) (hl:∀ k,k∈l↔k<i/\k<n*n/\G (pOf n k)≠none/\ydU n G (pOf n k)) (nd:l.Nodup) (ka:H' la=some (.list (l.map pn))) (ex:Ext H H'):BI1 n G la H i u H'
inductive BI2 (n:Nat)(G:Pt->Option Str)(la:Addr)(H:zaA)(m i:Nat)(u:Unit)(H':zaA):Prop
 | mk (gl:List Nat) (e:m+i=n*n) (lv:LV n G gl i) (ka:H' la=some (.list (gl.map pn))) (ex:Ext H H'):BI2 n G la H m i u H'
inductive BI3 (n:Nat)(G:Pt->Option Str)(k:Nat)(la na:Addr)(H:zaA)(i j:Nat)(u:Unit)(H':zaA):Prop
 | mk (gl:List Nat) (lv:LV n G gl i) (at_:gl[i]?=some k) (dn:∀ x∈(zsD n k).take j,G (pOf n x)=G (pOf n k)->x∈gl) (ka:H' la=some (.list (gl.map pn))) (kn:H' na=some (.list ((zsD n k).map pn))) (ex:Ext H H'):BI3 n G k la na H i j u H'
section
variable {T:Tr}{X:String}{H:zaA}{R:zaA->Prop}{n k:Nat}{G:Pt->Option Str}
theorem zmL {a:Addr}{H':zaA}{l:List Int}{i:Int}(h1:H a=none)(ex:Ext H H')(h:H' a=some (.list (l.map .int))):Ext H (upd H' a (.list (l.map .int++[.int i])))/\upd H' a (.list (l.map .int++[.int i])) a=some (.list ((l++[i]).map .int)):=⟨Ext.upd ex h1,by rw[zaC,List.map_append];rfl⟩
theorem zuE (hL:L1 T.C)(hn:1<=T.n)(hh:T.hd=false)(n2:2<=n)(h5:n<=5)(hk:k<n*n):zaE T X (.ref zeW) [pn k,.int n] H (ymM n k H) R:=by
 refine hL.f_law_near hh hn rfl ?_;intro a h1;have exa:Ext H (upd H a (.list [])):=Ext.upd (Ext.refl _) h1;have q8:∀ l:List Int,l.length<=3->(l.map PV.int).length<=100000:=λ l h=>by rw[List.length_map];exact lq2 h rfl
 have one:∀ (c:Prop) [Decidable c] (i:Int),(if c then [i] else []).length<=1:=λ c _ i=>by split <;> simp
 refine Exists.intro Unit (Exists.intro (λ _=>[(0,pn k),(1,.int n),(2,.ref a)]) (Exists.intro (λ _ H'=>Ext H H'/\H' a=some (.list ((if (n:Int)<=k then [(k:Int)-n] else []).map .int))) (And.intro ?_ ?_)))
 ·refine zaK (λ q=>?_) (λ q=>⟨(),⟨rfl,rfl,rfl,trivial⟩,exa,by rw[if_neg q];exact zaC⟩)
  refine M.append zaC (by simp) ?_;exact⟨(),⟨rfl,rfl,rfl,trivial⟩,by rw[if_pos q];exact zmL (l:=[]) h1 exa zaC⟩
 rintro u H1 ⟨ex1,k1⟩;generalize hA:(if (n:Int)<=k then [(k:Int)-n] else [])=A at k1;have lA:A.length<=1:=hA▸one _ _;refine Exists.intro Unit (Exists.intro (λ _=>[(0,pn k),(1,.int n),(2,.ref a)]) (Exists.intro (λ _ H'=>Ext H H'/\H' a=some (.list ((A++(if (k:Int)<n*n-n then [(k:Int)+n] else [])).map .int))) (And.intro ?_ ?_)))
 ·refine And.intro (zkQ h5) ?_
  refine zaK (λ q=>?_) (λ q=>⟨(),⟨rfl,rfl,rfl,trivial⟩,ex1,by rw[if_neg q,List.append_nil];exact k1⟩);refine M.append k1 (q8 _ (by exact lq2 lA rfl)) ?_;exact⟨(),⟨rfl,rfl,rfl,trivial⟩,by rw[if_pos q];exact zmL h1 ex1 k1⟩
 rintro u H2 ⟨ex2,k2⟩;generalize hB:(if (k:Int)<n*n-n then [(k:Int)+n] else [])=B at k2;have lB:B.length<=1:=hB▸one _ _;refine Exists.intro Unit (Exists.intro (λ _=>[(0,pn k),(1,.int n),(2,.ref a)]) (Exists.intro (λ _ H'=>Ext H H'/\H' a=some (.list ((A++B++(if 0<Int.fmod k n then [(k:Int)-1] else [])).map .int))) (And.intro ?_ ?_)))
 ·refine And.intro (by exact lq23 n2 rfl) ?_
  refine zaK (λ q=>?_) (λ q=>⟨(),⟨rfl,rfl,rfl,trivial⟩,ex2,by rw[if_neg q,List.append_nil];exact k2⟩);refine M.append k2 (q8 _ (by rw[List.length_append];lia)) ?_;exact⟨(),⟨rfl,rfl,rfl,trivial⟩,by rw[if_pos q];exact zmL h1 ex2 k2⟩
 rintro u H3 ⟨ex3,k3⟩;generalize hD:(if 0<Int.fmod k n then [(k:Int)-1] else [])=D at k3;have lD:D.length<=1:=hD▸one _ _;refine Exists.intro Unit (Exists.intro (λ _=>[(2,.ref a)]) (Exists.intro (λ _ H'=>Ext H H'/\H' a=some (.list ((A++B++D++(if Int.fmod k n<n-1 then [(k:Int)+1] else [])).map .int))) (And.intro ?_ ?_)))
 ·refine And.intro (by exact lq23 n2 rfl) ?_
  refine zaK (λ q=>?_) (λ q=>⟨(),⟨rfl,trivial⟩,ex3,by rw[if_neg q,List.append_nil];exact k3⟩);refine M.append k3 (q8 _ (by rw[List.length_append,List.length_append];exact lq24 lA lB lD rfl)) ?_;exact⟨(),⟨rfl,trivial⟩,by rw[if_pos q];exact zmL h1 ex3 k3⟩
 rintro u H4 ⟨ex4,k4⟩;subst hA hB hD;have e:yeM n k=_:=yfN h5 hk;unfold yeM at e;rw[e,List.map_map]at k4;exact⟨a,rfl,ex4,h1,k4⟩
theorem zaT {ca:Addr}{Q:PV->zaA->Prop}(hc:H ca=some (.list (cells n G)))(h5:n<=5)(hk:k<n*n)(h:Q (cell (G (pOf n k))) H):zdB T (.ref ca) (pn k) H Q:=
 zdB.list hc (Int.natCast_nonneg _) (by have:=ypR h5 hk;lia) (p:=cell (G (pOf n k))) (zhH hk) h
theorem zfD (hL:L1 T.C)(hn:2<=T.n)(hh:T.hd=false)(n2:2<=n)(h5:n<=5){ca:Addr}(hc:H ca=some (.list (cells n G)))(hv:∀ z c,G z=some c->PyData.strOk c=true):zaE T X (.ref zaW) [.ref ca,.int n] H (yhJ n G H) R:=by
 refine hL.f_law_breathless hh (by exact lq1 hn rfl) rfl ?_;have enn:(n:Int)*n=((n*n:Nat):Int):=by push_cast;rfl
 have h25:=zjX h5;intro la h1;have exl:Ext H (upd H la (.list [])):=Ext.upd (Ext.refl _) h1;refine And.intro (zkQ h5) ?_;refine zaG.range1 λ ra hra=>?_;have hrl:ra≠la:=λ q=>by rw[q,zaC]at hra;cases hra
 refine zkW.range ra (n*n) rfl (by rw[<- enn];exact zaC) (by exact lq3 h25 rfl) Unit (λ _=>[(0,.ref ca),(1,.int n),(2,.ref la)]) (BI1 n G la H) () ⟨rfl,rfl,rfl,trivial⟩ ?_ ?_ ?_
 ·exact⟨[],λ k=>⟨λ h=>(by cases h),λ h=>absurd h.1 (Nat.not_lt_zero _)⟩,List.nodup_nil,by rw[zaD hrl.symm];exact zaC,exl.trans (Ext.upd (Ext.refl _) hra)⟩
 ·intro i u H' hi uu;obtain⟨l,hl,nd,ka,ex⟩:=uu
  refine zaT (k:=i) (ex _ _ hc) h5 hi ?_;have no:¬ (G (pOf n i)≠none/\ydU n G (pOf n i))->∀ H2',Ext H' H2'->BI1 n G la H (i+1) () H2':=λ q H2' ex2=>⟨l,λ k=>(hl k).trans ⟨λ h=>⟨Nat.lt_succ_of_lt h.1,h.2⟩,λ h=>⟨Nat.lt_of_le_of_ne (Nat.le_of_lt_succ h.1) λ e=>q (e▸h.2.2),h.2⟩⟩,nd,ex2 _ _ ka,ex.trans ex2⟩
  cases hG:G (pOf n i) with
  | none=>exact⟨(),⟨rfl,rfl,rfl,trivial⟩,no (λ q=>q.1 hG) _ (Ext.refl _)⟩
  | some c=>
   refine zaE.call (zuE (k:=i) (T:=T.down) hL (by show 1<=T.n-1;exact lq4 hn rfl) hh n2 h5 hi) λ p H2 h=>?_;obtain⟨na,rfl,ex2,hna,kna⟩:=h;refine zfZ.list na _ rfl kna (by rw[List.length_map];exact Nat.le_trans yeO (by decide)) (λ i' out H'=>H'=H2/\out=((zsD n i).take i').map λ j=>cell (G (pOf n j))) ⟨rfl,rfl⟩ (λ i' out H'' h=>h.1▸kna) (λ i' v out H'' hv' h=>?_) (λ out H'' h=>?_)
   ·obtain⟨rfl,rfl⟩:=h
    refine q12 (zbV hv') λ j hj u0=>?_;subst u0;refine zaT (k:=j) (ex2 _ _ (ex _ _ hc)) h5 (zqX h5 hi (List.mem_of_getElem? hj)) ?_;exact⟨rfl,by rw[zbE hj,List.map_append];rfl⟩
   ·obtain⟨rfl,rfl⟩:=h
    refine⟨H'',Ext.refl _,λ oa hoa=>?_⟩;rw[List.length_map,List.take_length];have ex3:Ext H'' (upd H'' oa (.list ((zsD n i).map λ j=>cell (G (pOf n j))))):=Ext.upd (Ext.refl _) hoa;refine zdH.inL (.inl zaC) (zmM hv (zsD n i)) HD.none' λ b hb=>?_;have hb:b=true↔ydU n G (pOf n i):=hb.trans ((List.mem_map).trans ⟨λ u9=>q12 u9 λ j hj e=>(ztD h5 hi).mpr ⟨j,hj,by
     cases q:G (pOf n j) with
     | none=>rfl
     | some c=>rw[q]at e;cases e⟩,λ hf=>let ⟨j,hj,e⟩:=(ztD h5 hi).mp hf;⟨j,hj,by rw[e];rfl⟩⟩)
    refine yaF hb (λ hf=>?_) (λ hf=>⟨(),⟨rfl,rfl,rfl,trivial⟩,no (λ q=>hf q.2) _ (ex2.trans ex3)⟩);refine M.append (ex3 _ _ (ex2 _ _ ka)) ?_ ?_
    ·rw[List.length_map]
     have:l.length<=(List.range i).length:=by
      have:=(List.Nodup.length_le_of_subset nd λ k hk=>List.mem_range.mpr ((hl k).mp hk).1:l.length<=(List.range i).length)
      exact this
     rw[List.length_range]at this;lia
    refine⟨(),⟨rfl,rfl,rfl,trivial⟩,l++[i],λ k=>?_,?_,by rw[zaC,List.map_append];rfl,Ext.upd ((ex.trans ex2).trans ex3) h1⟩
    ·rw[List.mem_append,hl k,List.mem_singleton]
     constructor
     ·rintro (h|rfl)
      ·exact⟨Nat.lt_succ_of_lt h.1,h.2⟩
      ·exact⟨Nat.lt_succ_self _,hi,by rw[hG];simp,hf⟩
     ·rintro⟨h1,h2⟩
      rcases Nat.lt_or_eq_of_le (Nat.le_of_lt_succ h1) with q|q
      ·exact .inl ⟨q,h2⟩
      ·exact .inr q
    ·exact List.nodup_append.mpr ⟨nd,List.nodup_cons.mpr ⟨by simp,List.nodup_nil⟩,λ a ha b hb e=>by
      rw[List.mem_singleton.mp hb]at e;subst e;exact Nat.lt_irrefl _ ((hl a).mp ha).1⟩
 intro u H1 uu;obtain⟨l,hl,nd,ka,ex⟩:=uu;refine zkW.grow la rfl ⟨_,ka⟩ Unit (λ _=>[(0,.ref ca),(1,.int n),(2,.ref la)]) (BI2 n G la H) (n*n) () ⟨rfl,rfl,rfl,trivial⟩ ?_ ?_
 ·refine⟨l,rfl,⟨λ k hk hc' hf=>(hl k).mpr ⟨hk,hk,hc',hf⟩,λ k hk=>?_,λ a k ha=>absurd ha (Nat.not_lt_zero _),nd,Nat.zero_le _⟩,ka,ex⟩
  refine q04 ((hl k).mp hk) λ _ k1 k2 k3=>?_;obtain⟨c,hc'⟩:=Option.ne_none_iff_exists'.mp k2;exact⟨k1,znY.free k1 hc' k3⟩
 intro m i u H' uu;obtain⟨gl,em,lv,ka,ex⟩:=uu;refine⟨_,ka,λ v hv'=>?_,λ hle=>?_⟩
 ·refine q12 (zbV hv') λ k hk u0=>?_;subst u0
  have hkm:=List.mem_of_getElem? hk;obtain⟨hkn,hal⟩:=lv.alive k hkm;refine zaE.call (zuE (k:=k) (T:=T.down) hL (by show 1<=T.n-1;exact lq4 hn rfl) hh n2 h5 hkn) λ p H2 h=>?_;obtain⟨na,rfl,ex2,hna,kna⟩:=h;have hnl:na≠la:=λ q=>by rw[q,ka]at hna;cases hna
  refine zkW.list na _ rfl kna Unit (λ _=>[(0,.ref ca),(1,.int n),(2,.ref la),(3,pn k)]) (BI3 n G k la na H i) () ⟨rfl,rfl,rfl,rfl,trivial⟩ ?_ (λ j b H'' h=>by obtain⟨_,_,_,_,_,h,_⟩:=h;exact h) ?_ ?_
  ·exact⟨gl,lv,hk,λ x hx=>by simp at hx,ex2 _ _ ka,kna,ex.trans ex2⟩
  ·intro j v u H3 hv3 uu;obtain⟨gl,lv,at_,dn,ka,kn,ex⟩:=uu
   refine q12 (zbV hv3) λ y hy u0=>?_;subst u0;have hyn:=List.mem_of_getElem? hy;have hyl:=zqX h5 hkn hyn;have go:(G (pOf n y)=G (pOf n k)->y∈gl)->BI3 n G k la na H i (j+1) () H3:=λ q=>⟨gl,lv,at_,λ x hx=>by
    rw[zbE hy]at hx;rcases List.mem_append.mp hx with hx|hx
    ·exact dn x hx
    ·rw[List.mem_singleton.mp hx];exact q,ka,kn,ex⟩
   refine zaT (k:=y) (ex _ _ hc) h5 hyl ?_;refine zaT (k:=k) (ex _ _ hc) h5 hkn ?_;refine q12 hal λ c hck hsu=>?_;rw[hck];cases hG:G (pOf n y) with
   | none=>
    refine zdH.eqD HD.none' (HD.str' (hv _ _ hck)) λ b hb=>?_;refine yaF hb (λ q=>by cases q) (λ _=>⟨(),⟨rfl,rfl,rfl,rfl,trivial⟩,go λ q=>by rw[hG,hck]at q;cases q⟩)
   | some c'=>
    refine yiC (λ hcc=>?_) (λ hcc=>⟨(),⟨rfl,rfl,rfl,rfl,trivial⟩,go λ q=>by rw[hG,hck]at q;exact absurd (Option.some.inj q) hcc⟩);subst hcc;refine zdH.inL (.inl ka) (zgM gl) HD.int' λ b hb=>?_;refine yhU (hb.trans zgG) (λ hin=>?_) (λ hin=>⟨(),⟨rfl,rfl,rfl,rfl,trivial⟩,go λ _=>hin⟩);refine M.append ka (by rw[List.length_map];have:=lv.len;exact lq30 this h25 rfl) ?_;have hlt:=(List.getElem?_eq_some_iff.mp at_).1;refine⟨(),⟨rfl,rfl,rfl,rfl,trivial⟩,gl++[y],lv.more hyl (znY.step h5 hkn hyn ⟨c',hck,hsu⟩ (by rw[hG,hck])) hin,by rw[List.getElem?_append_left hlt];exact at_,λ x hx e=>?_,by rw[zaC,List.map_append];rfl,by rw[zaD hnl];exact kn,Ext.upd ex h1⟩;rw[zbE hy]at hx;rcases List.mem_append.mp hx with hx|hx
    ·exact List.mem_append_left _ (dn x hx e)
    ·exact List.mem_append_right _ hx
  ·intro u H3 uu;obtain⟨gl,lv,at_,dn,ka,kn,ex⟩:=uu
   rw[List.length_map,List.take_length]at dn;have lv':=lv.turn at_ dn;have:=Nat.le_trans lv'.le lv.len;exact⟨(),⟨rfl,rfl,rfl,trivial⟩,n*n-(i+1),ybT (by assumption) this,gl,Nat.sub_add_cancel this,lv',ka,ex⟩
 ·rw[List.length_map]at hle
  have hie:i=gl.length:=Nat.le_antisymm lv.le hle;subst hie;refine And.intro (zkQ h5) ?_;refine zaG.range1 λ rb hrb=>?_;have exr:=Ext.upd (o:=.range 0 ((n:Int)*n)) (Ext.refl _) hrb;refine zfZ.range rb (n*n) rfl (by rw[<- enn];exact zaC) (by exact lq2 h25 rfl) (λ i out H2'=>H2'=upd H' rb (.range 0 ((n:Int)*n))/\out=((List.range i).filter λ k=>(G (pOf n k)).isSome&&!decide (k∈gl)).map pn) ⟨rfl,rfl⟩ (λ i out H2' hi h=>?_) (λ out H2' h=>?_)
  ·obtain⟨rfl,rfl⟩:=h
   have fin:∀ b,((G (pOf n i)).isSome&&!decide (i∈gl))=b->((List.range i).filter λ k=>(G (pOf n k)).isSome&&!decide (k∈gl)).map pn++(cond b (some (pn i)) none).toList=((List.range (i+1)).filter λ k=>(G (pOf n k)).isSome&&!decide (k∈gl)).map pn:=λ b hb=>by
    rw[List.range_succ,List.filter_append,List.map_append]
    congr 1
    rw[List.filter_cons,hb];cases b <;> rfl
   refine zaT (k:=i) (exr _ _ (ex _ _ hc)) h5 hi ?_;cases hG:G (pOf n i) with
   | none=>exact⟨rfl,fin false (by rw[hG];rfl)⟩
   | some c=>
    refine zdH.inL (.inl (exr _ _ ka)) (zgM gl) HD.int' λ b hb=>?_;refine yhU (hb.trans zgG) (λ hin=>⟨rfl,fin true (by rw[hG,decide_eq_false hin];rfl)⟩) (λ hin=>⟨rfl,fin false (by rw[hG,decide_eq_true hin];rfl)⟩)
  ·obtain⟨rfl,rfl⟩:=h
   refine⟨_,Ext.refl _,λ oa hoa=>?_⟩;refine⟨oa,λ k=>(G (pOf n k)).isSome&&!decide (k∈gl),rfl,Ext.upd (ex.trans exr) ((ex.trans exr).none hoa),(ex.trans exr).none hoa,zaC,λ k hk=>?_⟩;cases hG:G (pOf n k) with
   | none=>
    constructor
    ·intro q;cases q
    ·intro uu;refine q12 uu λ c hc' _=>?_;rw[hG]at hc';cases hc'
   | some c=>
    rw[<- yeS hG,<- lv.done h5 hk]
    simp
end
noncomputable def pvN:Option Nat->PV
 | none=>.none
 | some j=>pn j
noncomputable def pvS (n:Nat):Option Pt->PV
 | none=>.none
 | some z=>.int (z.1*n+z.2)
theorem ydW {n k:Nat}:pvS n (some (pOf n k))=pn k:=by
 have e:((k / n:Nat):Int)*n+((k % n:Nat):Int)=k:=by
  rw[<- Int.natCast_mul,<- Int.natCast_add,Nat.mul_comm,Nat.div_add_mod]
 exact congrArg PV.int e
theorem ykB {n:Nat}{o:Option Nat}:pvS n (o.map (pOf n))=pvN o:=by
 cases o with
 | none=>rfl
 | some k=>exact ydW
theorem ydS {n k:Nat}{G:Pt->Option Str}{v:Option Str}(hk:k<n*n):(cells n G).take k++[cell v]++(cells n G).drop (k+1)=cells n (put G (pOf n k) v):=by
 have e:(cells n G).set k (cell v)=(cells n G).take k++cell v::(cells n G).drop (k+1):=by
  rw[List.set_eq_take_append_cons_drop,if_pos (by rw[zfC];exact hk)]
 rw[List.append_assoc,List.singleton_append,<- e];apply List.ext_getElem?;intro i;rw[List.getElem?_set]
 by_cases hi:i<n*n
 ·by_cases h:k=i
  ·subst h
   rw[if_pos rfl,if_pos (by rw[zfC];exact hk),zhH hk,zfI]
  ·rw[if_neg h,zhH hi,zhH hi,zwQ λ q=>h (ziH q).symm]
 ·rw[if_neg λ q:k=i=>hi (q▸hk),List.getElem?_eq_none (by rw[zfC];lia),List.getElem?_eq_none (by rw[zfC];lia)]
theorem zdD.hiN {T:Tr}{H:zaA}{a:Addr}{l:List PV}{k:Nat}{Q:PV->zaA->Prop}(hl:LAt T.C H a l)(hz:l.length<=100000)(h:∀ c,H c=Option.none->Q (.ref c) (upd H c (.list (l.take k)))):zdD T (.ref a) none (some (k:Int)) H Q:=
 zdD.mk hl hz (by rw[ztQ _ (Int.natCast_nonneg _)];exact h)
theorem zdD.loN {T:Tr}{H:zaA}{a:Addr}{l:List PV}{k:Nat}{Q:PV->zaA->Prop}(hl:LAt T.C H a l)(hz:l.length<=100000)(h:∀ c,H c=Option.none->Q (.ref c) (upd H c (.list (l.drop (k+1))))):zdD T (.ref a) (some ((k:Int)+1)) none H Q:=
 zdD.mk hl hz (by rw[yaW _ (by lia)];exact h)
inductive ydC (n:Nat)(G1:Pt->Option Str)(col:Str)(H:zaA)(p:PV)(H':zaA):Prop
 | mk (aa:Addr) (f:Nat->Bool) (e:p=.tup [.ref aa,pvN (koL n G1 col f)]) (ex:Ext H H') (na:H aa=none) (ka:H' aa=some (.list (cells n (rm G1 ((zhN n G1 col f).map (pOf n)))))) (hf:∀ k<n*n,f k=true↔zuN n G1 k):ydC n G1 col H p H'
inductive yiM (n:Nat)(G:Pt->Option Str)(z:Pt)(col opp:Str)(x d bp bd:Addr)(rows:List Addr)(H:zaA)(p:PV)(H':zaA):Prop
 | taken (h:G z≠none) (e:p=.str "taken") (eH:H'=H):yiM n G z col opp x d bp bd rows H p H'
 | told (q:PV) (o:Option Pt) (hq:q=ykN o) (e:p=pvS n o) (pp:zrF n G z col opp x d bp bd rows H q H'):yiM n G z col opp x d bp bd rows H p H'
theorem yoN {a:Int}{n:Nat}(h:n<=5):IntMulOk a n:=by
 have h':∀ n<6,Builtin.Int.intBits (n:Nat)<=64:=by decide +kernel
 exact IntMulOk.of_right (h' n (Nat.lt_succ_of_le h))
theorem yeN {n:Nat}(h5:n<=5){f:Nat->Bool}:(zcG n f).length<=25:=Nat.le_trans (List.length_filter_le _ _) (by rw[List.length_range];exact zjX h5)
section
variable {T:Tr}{X:String}{H:zaA}{R:zaA->Prop}{n k:Nat}{G:Pt->Option Str}{x d bp bd:Addr}{rows:List Addr}{e:Bool}
theorem yaK (hL:L1 T.C)(hn:3<=T.n)(hh:T.hd=false)(n2:2<=n)(h5:n<=5){ca:Addr}(hc:H ca=some (.list (cells n G)))(hv:∀ z c,G z=some c->PyData.strOk c=true)(hk:k<n*n){col:Str}(hcol:PyData.strOk col=true):
  zaE T X (.ref zeX) [.ref ca,.int n,pn k,.str col] H (ydC n (put G (pOf n k) (some col)) col H) R:=by
 refine hL.f_law_move hh (by exact lq1 hn rfl) rfl ?_;have h25:=zjX h5;have hlc:(cells n G).length<=100000:=by rw[zfC];exact lq2 h25 rfl
 refine zdD.hiN (.inl hc) hlc (fresh λ s1 H1 hs1 ex1 k1=>?_);refine fresh λ s2 H2 hs2 ex2 k2=>?_;refine zfJ.addL (.inl (ex2 _ _ k1)) (.inl k2) (by simp only[List.length_take,List.length_singleton];lia) (fresh λ s3 H3 hs3 ex3 k3=>?_);refine zdD.loN (.inl (ex3 _ _ (ex2 _ _ (ex1 _ _ hc)))) hlc (fresh λ s4 H4 hs4 ex4 k4=>?_);have ecp:(cells n G).take k++[PV.str col]++(cells n G).drop (k+1)=_:=ydS (v:=some col) hk;refine zfJ.addL (.inl (ex4 _ _ k3)) (.inl k4) (by rw[<- List.length_append,ecp,zfC];exact lq2 h25 rfl) ?_;rw[ecp];refine fresh λ lb H5 hlb ex5 klb=>?_;have exB':=(((ex1.trans ex2).trans ex3).trans ex4).trans ex5;clear k1 k2 k3 k4 ex1 ex2 ex3 ex4 ex5 hs1 hs2 hs3 hs4 hlb;clear H1 H2 H3 H4;have hv1:∀ z c,put G (pOf n k) (some col) z=some c->PyData.strOk c=true:=λ z c h=>by
  unfold put at h;split at h
  ·cases h;exact hcol
  ·exact hv z c h
 generalize put G (pOf n k) (some col)=G1 at klb hv1 ⊢;clear ecp;refine zaE.call (zfD (T:=T.down) hL (by show 2<=T.n-1;exact lq4 hn rfl) hh n2 h5 klb hv1) λ p H2 h=>?_;obtain⟨da,f,rfl,ex2,hda,kda,hf⟩:=h;have klb2:=ex2 _ _ klb;have hdl:(zcG n f).length<=25:=yeN h5;refine zfZ.list da _ rfl kda (by rw[List.length_map];exact Nat.le_trans hdl (by decide)) (λ i out H'=>H'=H2/\out=(((zcG n f).take i).filter λ j=>!(G1 (pOf n j)==some col)).map pn) ⟨rfl,rfl⟩ (λ i out H' h=>h.1▸kda) (λ i v out H' hv' h=>?_) (λ out H' h=>?_)
 ·obtain⟨rfl,rfl⟩:=h
  refine q12 (zbV hv') λ j hj u0=>?_;subst u0;have hj:(zcG n f)[i]?=some j:=hj;obtain⟨hjn,hfj⟩:=zcX.mp (List.mem_of_getElem? hj);refine q12 ((hf j hjn).mp hfj) λ c hcj _=>?_;refine zaT (k:=j) klb2 h5 hjn ?_;rw[hcj];have fin:∀ b,(!(G1 (pOf n j)==some col))=b->(((zcG n f).take i).filter λ j=>!(G1 (pOf n j)==some col)).map pn++(cond b (some (pn j)) none).toList=(((zcG n f).take (i+1)).filter λ j=>!(G1 (pOf n j)==some col)).map pn:=λ b hb=>by
   rw[zbE hj,List.filter_append,List.map_append]
   congr 1
   rw[List.filter_cons,hb];cases b <;> rfl
  refine yoA (λ q=>⟨rfl,fin true (by rw[hcj];simpa using q)⟩) (λ q=>⟨rfl,fin false (by rw[hcj,q];simp)⟩)
 obtain⟨rfl,rfl⟩:=h;refine⟨_,Ext.refl _,?_⟩;rw[show (List.take (List.map pn (List.filter f (List.range (n*n)))).length (zcG n f))=zcG n f from by rw[List.length_map];exact List.take_length];refine fresh (o:=.list ((zdX n G1 col f).map pn)) λ ta H3 hta ex3 kta=>?_;have htl:(zdX n G1 col f).length<=25:=Nat.le_trans (List.length_filter_le _ _) hdl;have kda3:=ex3 _ _ kda;have klb3:=ex3 _ _ klb2;refine STr.list (.inl kta) (by rw[List.length_map];exact lq2 htl rfl) ?_;refine ymX rfl rfl λ p hp=>?_;obtain⟨ga,rfl,kga⟩:∃ ga,p=.ref ga/\H3 ga=some (.list ((zhN n G1 col f).map pn)):=by
  unfold zhN;cases h:zdX n G1 col f with
  | nil=>rw[h]at hp;exact⟨da,hp,kda3⟩
  | cons a l=>rw[h]at hp kta;exact⟨ta,hp,by rw[if_neg (by simp)];exact kta⟩
 have enn:(n:Int)*n=((n*n:Nat):Int):=by push_cast;rfl
 refine And.intro (zkQ h5) ?_;refine zaG.range1 (fresh λ ra H4 hra exr kra=>?_);refine zfZ.range ra (n*n) rfl (by rw[<- enn];exact kra) (by exact lq2 h25 rfl) (λ i out H2'=>H2'=H4/\out=(List.range i).map λ j=>cell (rm G1 ((zhN n G1 col f).map (pOf n)) (pOf n j))) ⟨rfl,rfl⟩ (λ i out H2' hi h=>?_) (λ out H2' h=>?_)
 ·obtain⟨rfl,rfl⟩:=h
  have fin:∀ v,cell (rm G1 ((zhN n G1 col f).map (pOf n)) (pOf n i))=v->(List.range i).map (λ j=>cell (rm G1 ((zhN n G1 col f).map (pOf n)) (pOf n j)))++(some v).toList=(List.range (i+1)).map λ j=>cell (rm G1 ((zhN n G1 col f).map (pOf n)) (pOf n j)):=λ v hv=>by
   rw[List.range_succ,List.map_append,<- hv];rfl
  refine zdH.inL (.inl (exr _ _ kga)) (zgM _) HD.int' λ b hb=>?_;refine yaF (hb.trans zgG) (λ hin=>⟨rfl,fin .none ?_⟩) (λ hin=>?_)
  ·unfold rm
   rw[if_pos (List.mem_map.mpr ⟨i,hin,rfl⟩)];rfl
  ·refine zaT (k:=i) (exr _ _ klb3) h5 hi ⟨rfl,fin _ ?_⟩
   unfold rm;rw[if_neg λ h=>let ⟨j,hj,e⟩:=List.mem_map.mp h;hin (ziH e▸hj)]
 obtain⟨rfl,rfl⟩:=h;have exC:=(exB'.trans ex2).trans (ex3.trans exr);refine⟨_,Ext.refl _,fresh (o:=.list (cells n (rm G1 ((zhN n G1 col f).map (pOf n))))) λ aa H6 haa ex9 kaa=>?_⟩;refine zaG.lenL (.inl (ex9 _ _ (exr _ _ kta))) (by rw[List.length_map];exact lq2 htl rfl) ?_;have done:∀ o,koL n G1 col f=o->ydC n G1 col H (.tup [.ref aa,pvN o]) H6:=λ o ho=>⟨aa,f,by rw[ho],exC.trans ex9,exC.none haa,kaa,hf⟩
 refine zaK (λ q1=>?_) (λ q1=>done none (if_neg λ q=>q1 (by rw[List.length_map];exact_mod_cast q.1)));have q1:(zdX n G1 col f).length=1:=by rw[List.length_map]at q1;exact_mod_cast q1
 refine zaG.lenL (.inl (ex9 _ _ (exr _ _ kda3))) (by rw[List.length_map];exact Nat.le_trans hdl (by decide)) ?_;refine zaK (λ q2=>?_) (λ q2=>done none (if_neg λ q=>q2 (by rw[List.length_map];exact_mod_cast q.2)));have q2:(zcG n f).length=2:=by rw[List.length_map]at q2;exact_mod_cast q2
 obtain⟨j,hj⟩:=List.length_eq_one_iff.mp q1;refine zdB.list (ex9 _ _ (exr _ _ kta)) (by decide) (by decide) (p:=pn j) (by rw[hj];rfl) ?_;exact done (some j) ((if_pos ⟨q1,q2⟩).trans (by rw[hj];rfl))
theorem yjB {P:Params}:MOk P "play" ziX:=⟨by decide +kernel,by kernel_rfl,by kernel_rfl,by kernel_rfl⟩
theorem ykX {P:Params}:MOk P "get" zvG:=⟨by decide +kernel,by kernel_rfl,by kernel_rfl,by kernel_rfl⟩
theorem yeB {P:Params}:MOk P "apply_setup" zaS:=⟨by decide +kernel,by kernel_rfl,by kernel_rfl,by kernel_rfl⟩
theorem mo_oc {P:Params}:MOk P "list_occupied_points" zbG:=⟨by decide +kernel,by kernel_rfl,by kernel_rfl,by kernel_rfl⟩
theorem mo_em {P:Params}:MOk P "is_empty" zhT:=⟨by decide +kernel,by kernel_rfl,by kernel_rfl,by kernel_rfl⟩
theorem mo_co {P:Params}:MOk P "copy" zpC:=⟨by decide +kernel,by kernel_rfl,by kernel_rfl,by kernel_rfl⟩
theorem ymY {Y:String}{c:Str}{l:List (String×Str)}(e:Y = "ValueError"):zzT "ValueError" ((Y,c)::l) c:=by subst e;exact .here ybF.exc ybF.tup ybF.sub
theorem yaD (hL:L1 T.C)(hn:8<=T.n)(hh:T.hd=false)(B:zeA x d bp bd rows n G e H)(hk:k<n*n){col opp:Str}(hco:zuM col opp)(hval:∀ q s,G q=some s->s=col\/s=opp)(hz:∃ l,H d=some (.attrs l)/\l.length<=4000):
  zaE T X (.ref zcC) [.ref x,.int n,pn k,.str col] H (yiM n G (pOf n k) col opp x d bp bd rows H) R:=by
 refine hL.f_law_told hh (by exact lq1 hn rfl) rfl ?_;have n0:0<n:=by have:=B.lo;exact lq1 this rfl
 have hg:=zeP hk;have e1:(k:Int).fdiv n=(pOf n k).1:=(Int.ofNat_fdiv ..).symm;have e2:(k:Int).fmod n=(pOf n k).2:=(Int.ofNat_fmod ..).symm;refine Exists.intro "ValueError" (Exists.intro (λ ls'' H''=>H''=H/\G (pOf n k)≠none) (Exists.intro "taken" (And.intro (ymY rfl) (And.intro ?_ ?_))))
 case refine_2=>
  rintro ls'' H'' ⟨rfl,hG⟩;exact .taken hG rfl rfl
 refine Exists.intro (.ref ziX) (And.intro (B.meth hL yjB) ?_);refine And.intro (yfG (by exact n0) (by have:=B.five;exact lq2 this rfl)) ?_;refine And.intro (by lia) ?_;rw[e1,e2];refine zaE.call (ybK (T:=T.down) (r:=(pOf n k).1) (c:=(pOf n k).2) hL (by show 6<=T.n-1;exact lq4 hn rfl) hh B hg hco hval hz rfl λ q=>⟨rfl,q⟩) λ told H3 h=>?_;have h0:=h;obtain⟨L,hdl,l1,l2,hG0,fs,hL5,rfl,B3,K3,hl1,hl2,hl12⟩:=h;cases ho:zoL col opp L with
 | none=>
  rw[ho]at h0;exact .told _ none rfl rfl h0
 | some z=>
  rw[ho]at h0;have hzg:inG n z:=by
   refine q42 (zsV ho) λ o s r t h1 _=>?_;have hm:(o,[z])∈L:=(List.mem_filter.mp (by rw[h1];exact .head _)).1;refine q13 (fs.grp _ hm) λ y _ g _=>?_;exact ((g.mem z).mp (.head _)).inG
  refine zdB.pt0 (z:=z) ?_;refine And.intro (yoN B.five) ?_;refine zdB.pt1 (z:=z) ?_;exact .told _ (some z) rfl rfl h0
end
noncomputable def pvD:Option (Option Nat)->PV
 | none=>.str "taken"
 | some o=>pvN o
inductive yaU (n:Nat)(G:Pt->Option Str)(z:Pt)(col:Str)(x d bp bd:Addr)(rows:List Addr)(H:zaA)(p:PV)(H':zaA):Prop
 | mk (e':Bool) (l':Ls) (e:p=pvD (zyY n G z col)) (at_:zeA x d bp bd rows n (zpG n G z col) e' H') (em:e'=true↔∀ z',zpG n G z col z'=none) (kp:zeT H d rows H') (hl':H' d=some (.attrs l')) (le:∀ l,H d=some (.attrs l)->l'.length<=l.length+2):yaU n G z col x d bp bd rows H p H'
section
variable {T:Tr}{X:String}{H:zaA}{R:zaA->Prop}{n k:Nat}{G:Pt->Option Str}{x d bp bd:Addr}{rows:List Addr}{e:Bool}
theorem yfI (hL:L1 T.C)(hn:8<=T.n)(hh:T.hd=false)(B:zeA x d bp bd rows n G e H)(hem:e=true↔∀ z,G z=none)(P:zkD n G)(hk:k<n*n){col opp:Str}(hco:zuM col opp)(hz:∃ l,H d=some (.attrs l)/\l.length<=4000):
  zaE T X (.ref zcC) [.ref x,.int n,pn k,.str col] H (yaU n G (pOf n k) col x d bp bd rows H) R:=by
 have hval:∀ q s,G q=some s->s=col\/s=opp:=λ q s h=>by
  rcases P.val q s h with rfl|rfl <;> rcases hco with ⟨rfl,rfl⟩|⟨rfl,rfl⟩ <;> simp
 refine zaE.mono (yaD hL hn hh B hk hco hval hz) λ p H' h=>?_;refine q12 hz λ l hl _=>?_;cases h with
 | taken h e eH=>
  subst eH;obtain⟨s,hs⟩:=Option.ne_none_iff_exists'.mp h;obtain⟨a1,a2⟩:=zrD (n:=n) (col:=col) hs;exact⟨_,l,by rw[a2];exact e,by rw[a1];exact B,by rw[a1];exact hem,zeT.refl,hl,λ l2 h2=>by rw[hl]at h2;cases h2;lia⟩
 | told q o hq e pp=>
  obtain⟨L,hdl,l1,l2,g0,fs,hL5,hq2,B3,K3,hl1,hl2,hl12⟩:=pp;refine q03 (ygI P (zeP hk) hco g0 fs) λ e1 u0 e4=>?_;obtain⟨o',e2,e3⟩:=u0;have ho:o=o'.map (pOf n):=by
   rw[<- e3];rw[hq]at hq2;cases o with
   | none=>cases h:zoL col opp L with
    | none=>rfl
    | some z=>rw[h]at hq2;exact nomatch (congrArg PV.isNone hq2:true=false)
   | some z=>cases h:zoL col opp L with
    | none=>rw[h]at hq2;exact nomatch (congrArg PV.isNone hq2:false=true)
    | some z'=>
     rw[h]at hq2;have hq2:pt z=pt z':=hq2;have:z=z':=by
      obtain⟨a,b⟩:=z;obtain⟨c,d⟩:=z'
      injection hq2 with h1
      injection h1 with h1 h2
      injection h1 with h1
      injection h2 with h2 _
      injection h2 with h2
      exact Prod.ext h1 h2
     rw[this]
  rw[e1]at B3;exact⟨zxZ n L,l2,by rw[e,e2,ho];exact ykB,B3,e4,K3,hl2,λ l' h'=>by rw[hl1]at h';cases h';exact hl12⟩
theorem yeG (hL:L1 T.C)(hn:3<=T.n)(hh:T.hd=false)(n2:2<=n)(h5:n<=5){ca:Addr}(hc:H ca=some (.list (cells n G)))(P:zkD n G)(hk:k<n*n){col:Str}(hcol:PyData.strOk col=true)(g0:G (pOf n k)=none):
  zaE T X (.ref zeX) [.ref ca,.int n,pn k,.str col] H (λ p H'=>∃ aa,p=.tup [.ref aa,pvD (zyY n G (pOf n k) col)]/\Ext H H'/\H aa=none/\H' aa=some (.list (cells n (zpG n G (pOf n k) col)))) R:=by
 refine zaE.mono (yaK hL hn hh n2 h5 hc P.strOk hk hcol) λ p H' h=>?_;obtain⟨aa,f,e,ex,na,ka,hf⟩:=h;obtain⟨m1,m2⟩:=mv_of hf;rw[m1]at ka;rw[m2]at e;obtain⟨a1,a2⟩:=ziT (n:=n) (col:=col) g0;exact⟨aa,by rw[a2];exact e,ex,na,by rw[a1];exact ka⟩
end
noncomputable def BW (s:Str):Prop:=s = "b" \/ s = "w"
structure Ad where
 x:Addr
 d:Addr
 bp:Addr
 bd:Addr
 rows:List Addr
inductive B4 (n:Nat)(a:Ad)(G:Pt->Option Str)(m:Nat)(H:zaA):Prop
 | mk (e:Bool) (l:Ls) (B:zeA a.x a.d a.bp a.bd a.rows n G e H) (em:e=true↔∀ z,G z=none) (hl:H a.d=some (.attrs l)) (le:l.length<=m):B4 n a G m H
structure Apt (a b:Ad):Prop where
 dd:a.d≠b.d
 rr:∀ z∈a.rows,z∉b.rows
noncomputable def zeO (n:Nat)(l:List PV):Prop:=∀ g:Nat->Option Str,l≠(List.range n).map λ j=>cell (g j)
noncomputable def KL (n:Nat)(H H':zaA):Prop:=∀ z l,H z=some (.list l)->zeO n l->H' z=some (.list l)
noncomputable def KC (n:Nat)(H H':zaA):Prop:=∀ z G,H z=some (.list (cells n G))->H' z=some (.list (cells n G))
structure KR (n:Nat)(H H':zaA):Prop where
 l:KL n H H'
 r:∀ z o,H z=some (.raw o)->H' z=some (.raw o)
theorem KR.ext {n:Nat}{H H':zaA}(ex:Ext H H'):KR n H H':=⟨λ _ _ h _=>ex _ _ h,λ _ _ h=>ex _ _ h⟩
theorem KR.trans {n:Nat}{H H' H'':zaA}(a:KR n H H')(b:KR n H' H''):KR n H H'':=⟨λ z l h q=>b.l z l (a.l z l h q) q,λ z o h=>b.r z o (a.r z o h)⟩
theorem zeO.len {n:Nat}{l:List PV}(h:l.length≠n):zeO n l:=λ g e=>h (by rw[e,List.length_map,List.length_range])
noncomputable def ycH (p:PV):Bool:=match p with
 | .none=>true
 | .str _=>true
 | _=>false
theorem yjQ {o:Option Str}:ycH (cell o)=true:=by cases o <;> rfl
theorem zeO.of {n:Nat}{l:List PV}(n2:2<=n)(h:∀ p,l[0]?=some p->ycH p=false):zeO n l:=λ g e=>by
 have e0:((List.range n).map λ j=>cell (g j))[0]?=some (cell (g 0)):=by rw[List.getElem?_map,List.getElem?_range (by exact lq1 n2 rfl)];rfl
 exact Bool.noConfusion (yjQ.symm.trans (h (cell (g 0)) (by rw[e];exact e0)))
theorem zeO.map {α:Type}{n:Nat}{f:α->PV}{l:List α}(n2:2<=n)(h:∀ x,ycH (f x)=false):zeO n (l.map f):=.of n2 λ p hp=>by
 rw[List.getElem?_map]at hp;refine q12 (Option.map_eq_some_iff.mp hp) λ x _ u0=>?_;subst u0;exact h x
theorem zeO.cells {n:Nat}{G:Pt->Option Str}(n2:2<=n):zeO n (cells n G):=.len λ q=>by
 rw[zfC]at q;have:=Nat.mul_le_mul_right n n2;lia
theorem KL.kc {n:Nat}{H H':zaA}(K:KL n H H')(n2:2<=n):KC n H H':=λ z G h=>K z _ h (.cells n2)
section
variable {T:Tr}{X:String}{H H':zaA}{R:zaA->Prop}{n k m m':Nat}{G G':Pt->Option Str}{a b:Ad}{c:Str}
theorem B4.ext (I:B4 n a G m H)(ex:Ext H H'):B4 n a G m H':=by
 obtain⟨e,l,B,em,hl,le⟩:=I;exact⟨e,l,B.ext ex,em,ex _ _ hl,le⟩
theorem B4.mono (I:B4 n a G m H)(h:m<=m'):B4 n a G m' H:=by
 obtain⟨e,l,B,em,hl,le⟩:=I;exact⟨e,l,B,em,hl,Nat.le_trans le h⟩
theorem B4.two (I:B4 n a G m H):2<=n/\n<=5:=by obtain⟨_,_,B,_⟩:=I;exact⟨B.lo,B.five⟩
theorem B4.rowOf (J:B4 n b G m H){z:Addr}(hz:z∈b.rows):∃ g:Nat->Option Str,H z=some (.list ((List.range n).map λ j=>cell (g j))):=by
 obtain⟨_,_,B,_⟩:=J;obtain⟨k,hk⟩:=List.getElem?_of_mem hz;exact⟨_,B.row k z hk⟩
theorem B4.nrow (J:B4 n b G m H){z:Addr}{l:List PV}(h:H z=some (.list l))(q:zeO n l):z∉b.rows:=λ hz=>by
 obtain⟨g,hg⟩:=J.rowOf hz;rw[h]at hg;exact q g (by injection hg with hg;injection hg)
theorem B4.nd (I:B4 n a G m H){o:AO}{z:Addr}(h:H z=some o)(ho:∀ l,o≠.attrs l):z≠a.d:=λ q=>by
 obtain⟨e,l',B,em,hl,-⟩:=I;rw[q,hl]at h;cases h;exact ho _ rfl
theorem B4.nrO (J:B4 n b G m H){o:AO}{z:Addr}(h:H z=some o)(ho:∀ l,o≠.list l):z∉b.rows:=λ hz=>by
 obtain⟨g,hg⟩:=J.rowOf hz;rw[h]at hg;cases hg;exact ho _ rfl
theorem B4.kr (J:B4 n b G m H)(kp:zeT H b.d b.rows H'):KR n H H':=
 ⟨λ z l h q=>kp _ _ h (J.nd h λ l q=>by cases q) (J.nrow h q),λ z o h=>kp _ _ h (J.nd h λ l q=>by cases q) (J.nrO h λ l q=>by cases q)⟩
theorem B4.keep (I:B4 n a G m H)(J:B4 n b G' m' H)(kp:zeT H b.d b.rows H')(ap:Apt a b):B4 n a G m H':=by
 have K:=J.kr kp;obtain⟨e,l,B,em,hl,le⟩:=I;have n2:=B.lo;have hd:=kp _ _ hl ap.dd (J.nrO hl λ l q=>by cases q);refine⟨e,l,⟨kp _ _ B.inst (J.nd B.inst λ l q=>by cases q) (J.nrO B.inst λ l q=>by cases q),?_,K.l _ _ B.pts ?_,K.l _ _ B.board (.map n2 λ _=>rfl),B.len,λ i z h=>kp _ _ (B.row i z h) (J.nd (B.row i z h) λ l q=>by cases q) (ap.rr z (List.mem_of_getElem? h)),B.nodup,B.lo,B.five,B.bpn,B.bdn⟩,em,hd,le⟩
 ·refine q12 B.attrs λ l2 q1 q2=>?_
  rw[hl]at q1;cases q1;exact⟨l,hd,q2⟩
 ·rw[zhX]
  exact .map n2 λ _=>rfl
theorem B4.apt (I:B4 n a G m H)(hd:H b.d=none)(hr:∀ z∈b.rows,H z=none):Apt a b:=by
 refine⟨λ q=>?_,λ z hz q=>?_⟩
 ·obtain⟨e,l,B,em,hl,le⟩:=I
  rw[q,hd]at hl;cases hl
 ·obtain⟨g,hg⟩:=I.rowOf hz
  rw[hr z q]at hg;cases hg
end
theorem zbK.kr {P:Addr}{n:Nat}{H H':zaA}(h:zbK P H)(k:KR n H H'):zbK P H':=
 let ⟨ps,e,t,r⟩:=h;⟨ps,k.r _ _ e,t,λ pos v q=>let ⟨c,o,vs,t,e1,e2,e3,e4⟩:=r pos v q;⟨c,o,vs,t,e1,e2,k.r _ _ e3,e4⟩⟩
noncomputable def ygX:Nat->Option Str
 | 0=>some "b"
 | 1=>some "w"
 | _=>none
theorem yjZ {o:Option Str}(h:∀ s,o=some s->BW s):∃ j,j<3/\ygX j=o/\((cell o=.str "b" /\ j=0)\/(cell o=.str "w" /\ j=1)\/(cell o=.none/\j=2)):=by
 cases o with
 | none=>exact⟨2,by decide,rfl,.inr (.inr ⟨rfl,rfl⟩)⟩
 | some s=>
  rcases h s rfl with rfl|rfl
  ·exact⟨0,by decide,rfl,.inl ⟨rfl,rfl⟩⟩
  ·exact⟨1,by decide,rfl,.inr (.inl ⟨rfl,rfl⟩)⟩
theorem yfC {i j:Nat}(hi:i<3)(hj:j<3)(h:ygX i=ygX j):i=j:=by
 rcases i with _ | _ | _ | i <;> rcases j with _ | _ | _ | j <;> first|rfl|lia|exact absurd h (by decide +kernel)
noncomputable def way (n:Nat)(G A:Pt->Option Str)(v:Option Str)(m:Nat):List Pt:=((List.range m).map (pOf n)).filter λ z=>G z != A z&&A z==v
theorem zwN {n:Nat}{G A:Pt->Option Str}{v:Option Str}{m:Nat}:way n G A v (m+1)=way n G A v m++(cond (G (pOf n m) != A (pOf n m)&&A (pOf n m)==v) [pOf n m] []):=by
 unfold way;rw[List.range_succ,List.map_append,List.filter_append,List.map_singleton,List.filter_cons,List.filter_nil];cases (G (pOf n m) != A (pOf n m)&&A (pOf n m)==v) <;> rfl
theorem zfA {n:Nat}{G A:Pt->Option Str}{v:Option Str}{z:Pt}:z∈way n G A v (n*n)↔inG n z/\G z≠A z/\A z=v:=by
 unfold way;rw[List.mem_filter];constructor
 ·rintro⟨h1,h2⟩
  refine q12 (List.mem_map.mp h1) λ k hk u0=>?_;subst u0;simp only[Bool.and_eq_true,bne_iff_ne,beq_iff_eq]at h2;exact⟨zeP (List.mem_range.mp hk),h2⟩
 ·rintro⟨h1,h2⟩
  refine q12 (zfK h1) λ k hk u0=>?_;subst u0;exact⟨List.mem_map.mpr ⟨k,List.mem_range.mpr hk,rfl⟩,by simp only[Bool.and_eq_true,bne_iff_ne,beq_iff_eq];exact h2⟩
theorem yaP {n:Nat}{G A:Pt->Option Str}{v:Option Str}{m:Nat}:(way n G A v m).length<=m:=by
 unfold way;refine Nat.le_trans (List.length_filter_le _ _) ?_;rw[List.length_map,List.length_range];exact Nat.le_refl _
theorem ykG {n:Nat}{G A:Pt->Option Str}(sG:∀ z,G z≠none->inG n z)(sA:∀ z,A z≠none->inG n z)(vA:∀ z s,A z=some s->BW s):
  zuO (zuO (zuO G (way n G A (some "b") (n*n)) (some "b")) (way n G A (some "w") (n*n)) (some "w")) (way n G A none (n*n)) none=A:=by
 funext z
 unfold zuO
 by_cases q:G z=A z
 ·rw[if_neg λ h=>(zfA.mp h).2.1 q,if_neg λ h=>(zfA.mp h).2.1 q,if_neg λ h=>(zfA.mp h).2.1 q];exact q
 have hg:inG n z:=Classical.byContradiction λ h=>q (by
  have h1:G z=none:=Classical.byContradiction λ h1=>h (sG z h1);have h2:A z=none:=Classical.byContradiction λ h1=>h (sA z h1);rw[h1,h2])
 have ne:(some ("b" : Str))≠some "w" := by decide +kernel
 cases e:A z with
 | none=>rw[if_pos (zfA.mpr ⟨hg,q,e⟩)]
 | some s=>
  rw[if_neg λ h=>by rw[(zfA.mp h).2.2]at e;cases e];rcases vA z s e with rfl|rfl
  ·rw[if_neg λ h=>by rw[(zfA.mp h).2.2]at e;exact ne e.symm,if_pos (zfA.mpr ⟨hg,q,e⟩)]
  ·rw[if_pos (zfA.mpr ⟨hg,q,e⟩)]
inductive WayI (n:Nat)(G A:Pt->Option Str)(la:Addr)(ts:List Addr)(H:zaA)(i:Nat)(u:Unit)(H':zaA):Prop
 | mk (kl:H' la=some (.list (ts.map .ref))) (kt:∀ (j:Nat) a,ts[j]?=some a->H' a=some (.list ((way n G A (ygX j) i).map pt))) (ex:Ext H H'):WayI n G A la ts H i u H'
inductive yaZ (n:Nat)(G A:Pt->Option Str)(H:zaA)(p:PV)(H':zaA):Prop
 | mk (la t0 t1 t2:Addr) (e:p=.ref la) (kl:H' la=some (.list [.ref t0,.ref t1,.ref t2])) (k0:H' t0=some (.list ((way n G A (some "b") (n*n)).map pt))) (k1:H' t1=some (.list ((way n G A (some "w") (n*n)).map pt))) (k2:H' t2=some (.list ((way n G A none (n*n)).map pt)))
   (ex:Ext H H'):yaZ n G A H p H'
section
variable {T:Tr}{X:String}{H:zaA}{R:zaA->Prop}{n k m:Nat}{G A:Pt->Option Str}
theorem yeQ {G:Pt->Option Str}(v:∀ z s,G z=some s->BW s):∀ z c,G z=some c->PyData.strOk c=true:=λ z c h=>(v z c h).elim (λ q=>q▸by decide +kernel) λ q=>q▸by decide +kernel
theorem ygG {o o':Option Str}(h:∀ c,o=some c->PyData.strOk c=true)(h':∀ c,o'=some c->PyData.strOk c=true){Q:Bool->zaA->Prop}(hq:Q (o != o') H):ygN T .NotEq (cell o) (cell o') H Q:=by
 cases o with
 | none=>
  cases o' with
  | none=>
   refine zdH.neD HD.none' HD.none' λ b hb=>?_;cases b with
   | false=>exact hq
   | true=>exact absurd rfl (hb.mp rfl)
  | some c=>
   refine zdH.neD HD.none' (HD.str' (h' c rfl)) λ b hb=>?_;cases b with
   | false=>exact absurd (hb.mpr λ e=>by cases e) Bool.false_ne_true
   | true=>exact hq
 | some c=>
  cases o' with
  | none=>
   refine zdH.neD (HD.str' (h c rfl)) HD.none' λ b hb=>?_;cases b with
   | false=>exact absurd (hb.mpr λ e=>by cases e) Bool.false_ne_true
   | true=>exact hq
  | some c'=>
   show Q (c != c') H
   have e:(some c != some c')=(c != c'):=rfl;rw[<- e];exact hq
theorem zxD {Q:PV->zaA->Prop}{p:PV}(h:Q p H):zhU T .v Q p H:=h
theorem yfW (hL:L1 T.C)(hn:1<=T.n)(hh:T.hd=false)(n2:2<=n)(h5:n<=5){ca aa:Addr}(hc:H ca=some (.list (cells n G)))(ha:H aa=some (.list (cells n A)))(vG:∀ z s,G z=some s->BW s)(vA:∀ z s,A z=some s->BW s):
  zaE T X (.ref zhO) [.ref ca,.ref aa,.int n] H (yaZ n G A H) R:=by
 refine hL.f_law_way hh hn rfl ?_;have enn:(n:Int)*n=((n*n:Nat):Int):=Int.natCast_mul n n▸rfl;have h25:=zjX h5;refine fresh λ t0 H1 ht0 ex1 k0=>?_;refine fresh λ t1 H2 ht1 ex2 k1=>?_;refine fresh λ t2 H3 ht2 ex3 k2=>?_;refine fresh λ la H4 hla ex4 kla=>?_;have ex:=(ex1.trans ex2).trans (ex3.trans ex4);have n01:t1≠t0:=λ q=>by rw[q,k0]at ht1;cases ht1
 have n02:t2≠t0:=λ q=>by rw[q,ex2 _ _ k0]at ht2;cases ht2
 have n12:t2≠t1:=λ q=>by rw[q,k1]at ht2;cases ht2
 have nl:∀ a∈[t0,t1,t2],la≠a:=λ a h q=>by
  simp only[List.mem_cons,List.not_mem_nil,or_false]at h;rw[q]at hla;rcases h with rfl|rfl|rfl
  ·rw[ex3 _ _ (ex2 _ _ k0)]at hla;cases hla
  ·rw[ex3 _ _ k1]at hla;cases hla
  ·rw[k2]at hla;cases hla
 have nt:∀ a∈[t0,t1,t2],H a=none:=λ a h=>by
  simp only[List.mem_cons,List.not_mem_nil,or_false]at h;rcases h with rfl|rfl|rfl
  ·exact ht0
  ·exact ex1.none ht1
  ·exact (ex1.trans ex2).none ht2
 have nd:[t0,t1,t2].Nodup:=by simp[n01.symm,n02.symm,n12.symm]
 have k4:∀ (j:Nat) a,[t0,t1,t2][j]?=some a->H4 a=some (.list []):=λ j a h=>by
  have:=List.mem_of_getElem? h;simp only[List.mem_cons,List.not_mem_nil,or_false]at this;rcases this with rfl|rfl|rfl
  ·exact ex4 _ _ (ex3 _ _ (ex2 _ _ k0))
  ·exact ex4 _ _ (ex3 _ _ k1)
  ·exact ex4 _ _ k2
 have kla:H4 la=some (.list ([t0,t1,t2].map .ref)):=kla;have hl3:[t0,t1,t2].length=3:=rfl;generalize hts:[t0,t1,t2]=ts at nl nt nd k4 kla hl3;clear k0 k1 k2 ht0 ht1 ht2 hla n01 n02 n12 ex1 ex2 ex3 ex4;refine And.intro (zkQ h5) ?_;refine zaG.range1 (fresh λ ra H5 hra ex5 kra=>?_);refine zkW.range ra (n*n) rfl (by rw[<- enn];exact kra) (by exact lq3 h25 rfl) Unit (λ _=>[(0,.ref ca),(1,.ref aa),(2,.int n),(3,.ref la)]) (WayI n G A la ts H) () (zaX.of rfl) ⟨ex5 _ _ kla,λ j a h=>ex5 _ _ (k4 j a h),ex.trans ex5⟩ ?_ ?_
 ·intro i u H' hi uu;obtain⟨kl,kt,ex'⟩:=uu
  refine zfU λ K hK=>?_;refine (let L1':LN:=_;(?_:wS _ _ _ L1' _ _ _));refine zaT (k:=i) (ex' _ _ hc) h5 hi ?_;refine zaT (k:=i) (ex' _ _ ha) h5 hi ?_;refine zxD ?_;refine ygG (yeQ vG _) (yeQ vA _) ?_;have stay:∀ j,(G (pOf n i) != A (pOf n i)&&A (pOf n i)==ygX j)=false->way n G A (ygX j) (i+1)=way n G A (ygX j) i:=λ j q=>by rw[zwN,q];exact List.append_nil _
  refine br (λ q=>?_) (λ q=>hK _ rfl () _ _ (zaX.of rfl) ⟨kl,λ j a h=>by rw[stay j (by rw[q];rfl)];exact kt j a h,ex'⟩);refine q13 (yjZ (vA (pOf n i))) λ j hj e1 e2=>?_;refine fresh λ ba H6 hba ex6 kba=>?_;refine Exists.intro _ (And.intro (zbQ.of rfl λ Fs=>zfY.listIndex kba) (zaT (k:=i) (ex6 _ _ (ex' _ _ ha)) h5 hi (zaG.of λ Fs=>zbH.trioIndex kba e2 ?_)));have hjt:j<ts.length:=by rw[hl3];exact hj
  have ht:ts[j]?=some ts[j]:=List.getElem?_eq_getElem hjt;refine zdB.list (ex6 _ _ kl) (Int.natCast_nonneg _) (by lia) (p:=.ref ts[j]) (by rw[List.getElem?_map,Int.toNat_natCast,ht];rfl) ?_;have kj:=ex6 _ _ (kt j _ ht);refine Exists.intro _ (And.intro (zbQ.append kj) ?_);refine And.intro (yfG (by exact lq1 n2 rfl) (by exact lq2 h5 rfl)) ?_;refine And.intro (by exact lq23 n2 rfl) ?_;rw[show (i:Int).fdiv n=(pOf n i).1 from (Int.ofNat_fdiv ..).symm,show (i:Int).fmod n=(pOf n i).2 from (Int.ofNat_fmod ..).symm];refine zaG.append kj (by rw[List.length_map];have:=yaP (n:=n) (G:=G) (A:=A) (v:=ygX j) (m:=i);lia) ?_;have hm:=List.mem_of_getElem? ht;refine hK _ rfl () _ _ (zaX.of rfl) ⟨by rw[zaD (nl _ hm)];exact ex6 _ _ kl,λ j' a h=>?_,Ext.upd (ex'.trans ex6) (nt _ hm)⟩
  by_cases ej:j'=j
  ·subst ej
   rw[ht]at h;cases h;rw[zaC,zwN,q,e1,beq_self_eq_true,List.map_append];rfl
  ·have hj':j'<3:=by rw[<- hl3];exact (List.getElem?_eq_some_iff.mp h).1
   rw[zaD (λ w:a=ts[j]=>ej (ztX nd h (by rw[w];exact ht))),stay j' ?_]
   ·exact ex6 _ _ (kt j' a h)
   ·rw[beq_eq_false_iff_ne.mpr λ w=>ej (yfC hj' hj (by rw[e1,w])),Bool.and_false]
 ·intro u H' uu;obtain⟨kl,kt,ex'⟩:=uu
  subst hts;exact⟨la,t0,t1,t2,rfl,kl,kt 0 _ rfl,kt 1 _ rfl,kt 2 _ rfl,ex'⟩
end
section
variable {n:Nat}{G:Pt->Option Str}
noncomputable def zcA (n:Nat)(G:Pt->Option Str):Pt->Option Str:=rm G ((zcG n (zoH n G)).map (pOf n))
theorem zwD:zmX n (zcA n G):=by
 intro q c hqn hq hs;have hdm:∀ {w},inG n w->w∉(zcG n (zoH n G)).map (pOf n)->∀ c,G w=some c->¬ zjW n G c w:=λ {w} hw h c hc hsu=>by
  refine q12 (zfK hw) λ k hk u0=>?_;subst u0;exact h (List.mem_map.mpr ⟨k,zcX.mpr ⟨hk,zcQ.mpr ⟨c,hc,hsu⟩⟩,rfl⟩)
 unfold zcA rm at hq;split at hq
 ·cases hq
 ·rename_i hnm
  have hns:=hdm hqn hnm c hq;refine q12 (zmK hns) λ x hx u8=>q13 u8 λ y hy hyn hy0=>?_;refine hs x (hx.mono λ w hw=>?_) ⟨y,hy,hyn,?_⟩
  ·unfold zcA rm
   rw[if_neg λ h=>?_]
   ·exact hw.col
   ·refine q12 (List.mem_map.mp h) λ k hk u0=>?_;subst u0
    refine q12 (zcQ.mp (zcX.mp hk).2) λ c' e' s'=>?_;rw[hw.col]at e';cases e';exact hns (s'.of_reach hw.symm)
  ·unfold zcA rm
   split
   ·rfl
   ·exact hy0
theorem zmT {k:Nat}{G0:Pt->Option Str}(hk:k<n*n):(zuN n G0 k->zcA n G0 (pOf n k)=none)/\(¬ zuN n G0 k->zcA n G0 (pOf n k)=G0 (pOf n k)):=by
 unfold zcA rm;constructor
 ·exact λ h=>if_pos (List.mem_map.mpr ⟨k,zcX.mpr ⟨hk,zcQ.mpr h⟩,rfl⟩)
 ·exact λ h=>if_neg λ q=>by
   refine q12 (List.mem_map.mp q) λ j hj e=>?_;cases ziH e;exact h (zcQ.mp (zcX.mp hj).2)
theorem zkG {G0:Pt->Option Str}{z:Pt}{c:Str}(h:zcA n G0 z=some c):G0 z=some c:=by
 unfold zcA rm at h;split at h
 ·cases h
 ·exact h
noncomputable def zoX (n:Nat)(G:Pt->Option Str):Bool:=(zcG n (zoH n G)).isEmpty
theorem ztS (sup:∀ z,G z≠none->inG n z)(val:∀ q s,G q=some s->BW s):zkD n (zcA n G):=⟨zwD,λ z hz=>by
 obtain⟨s,hs⟩:=Option.ne_none_iff_exists'.mp hz;exact sup z (by rw[zkG hs];simp),λ q s h=>val q s (zkG h)⟩
theorem zkI (P:zkD n G):zcA n G=G/\zoX n G=true:=by
 have e:zcG n (zoH n G)=[]:=List.eq_nil_iff_forall_not_mem.mpr λ k hk=>by
  obtain⟨h1,h2⟩:=zcX.mp hk;refine q12 (zcQ.mp h2) λ c hc hs=>?_;exact P.leg _ c (zeP h1) hc hs
 unfold zcA zoX;rw[e];exact⟨ztG,rfl⟩
theorem zqQ {L:List (Str×List Pt)}{hdl:List Pt}(fs:FSI n G (grid n) L hdl)(z:Pt):z∈zcF L↔z∈(zcG n (zoH n G)).map (pOf n):=by
 rw[yiV fs,List.mem_map];constructor
 ·rintro⟨hg,h⟩
  refine q12 (zfK hg) λ k hk u0=>?_;subst u0;exact⟨k,zcX.mpr ⟨hk,zcQ.mpr h⟩,rfl⟩
 ·intro uu;refine q12 uu ?_;clear uu;intro k hk u0;subst u0
  obtain⟨h1,h2⟩:=zcX.mp hk;exact⟨zeP h1,zcQ.mp h2⟩
theorem ygL {L:List (Str×List Pt)}{hdl:List Pt}(fs:FSI n G (grid n) L hdl):rm G (zcF L)=zcA n G/\L.isEmpty=zoX n G:=by
 refine⟨zrG (zqQ fs),Bool.eq_iff_iff.mpr ?_⟩;unfold zoX;rw[List.isEmpty_iff,List.isEmpty_iff];constructor
 ·intro h
  subst h;exact List.eq_nil_iff_forall_not_mem.mpr λ k hk=>by
   have:=(zqQ fs (pOf n k)).mpr (List.mem_map.mpr ⟨k,hk,rfl⟩)
   simp[zcF]at this
 ·intro h
  exact set_nil fs λ z hz=>by
   have:=(zqQ fs z).mp hz;rw[h]at this;cases this
end
inductive T3 (n:Nat)(a:Ad)(G:Pt->Option Str)(m:Nat)(v:PV)(H:zaA)(p:PV)(H':zaA):Prop
 | mk (e:p=v) (I:B4 n a G m H') (kp:zeT H a.d a.rows H'):T3 n a G m v H p H'
inductive zfN (n:Nat)(H:zaA):PV->(Pt->Option Str)->(Pt->Option Str)->Prop
 | set (aa:Addr) (A G:Pt->Option Str) (h:H aa=some (.list (cells n A))) (sup:∀ z,A z≠none->inG n z) (val:∀ z s,A z=some s->BW s):zfN n H (.tup [.int (-1),.ref aa,.bool (zoX n A)]) G (zcA n A)
 | move (k:Nat) (col opp:Str) (G:Pt->Option Str) (hk:k<n*n) (hco:zuM col opp):zfN n H (.tup [pn k,.str col,pvD (zyY n G (pOf n k) col)]) G (zpG n G (pOf n k) col)
section
variable {T:Tr}{X:String}{H H':zaA}{R:zaA->Prop}{n k m:Nat}{G A G':Pt->Option Str}{a:Ad}{s:PV}
theorem zfN.kc (S:zfN n H s G G')(K:KC n H H'):zfN n H' s G G':=by
 cases S with
 | set aa A G h sup val=>exact .set aa A G (K _ _ h) sup val
 | move k col opp G hk hco=>exact .move k col opp G hk hco
theorem zfN.kl (S:zfN n H s G G')(n2:2<=n)(K:KL n H H'):zfN n H' s G G':=S.kc (K.kc n2)
theorem zuR {l:List Pt}(n2:2<=n):zeO n (l.map pt):=.map n2 λ _=>rfl
theorem zmR (hL:L1 T.C)(hn:8<=T.n)(hh:T.hd=false)(I:B4 n a G m H)(hm:m<=4000)(sG:∀ z,G z≠none->inG n z)(vG:∀ z s,G z=some s->BW s)(sA:∀ z,A z≠none->inG n z)(vA:∀ z s,A z=some s->BW s){ca aa:Addr}
  (hc:H ca=some (.list (cells n G))) (ha:H aa=some (.list (cells n A))):zaE T X (.ref zeK) [.ref a.x,.ref ca,.ref aa,.int n] H (T3 n a (zcA n A) (m+2) (.bool (zoX n A)) H) R:=by
 obtain⟨n2,h5⟩:=I.two;have h25:=zjX h5;refine hL.f_law_set hh (by exact lq1 hn rfl) rfl ?_;refine zaE.callK (yfW (T:=T.down) hL (by show 1<=T.n-1;exact lq4 hn rfl) hh n2 h5 hc ha vG vA) λ K0 hK0 p H1 h=>?_;obtain⟨la,t0,t1,t2,rfl,kl,k0,k1,k2,ex⟩:=h;refine hK0 _ _ ?_;have I1:=I.ext ex;obtain⟨e,l,B,em,hl,le⟩:=id I1;refine Exists.intro (.ref zaS) (And.intro (B.meth hL yeB) ?_);refine zdB.list kl (by decide) (by decide) rfl ?_;refine zdB.list kl (by decide) (by decide) rfl ?_;refine zdB.list kl (by decide) (by decide) rfl ?_;have wl:=λ v=>yaP (n:=n) (G:=G) (A:=A) (v:=v) (m:=n*n);refine zaE.call (zyE (T:=T.down) hL (by show 6<=T.n-1;exact lq4 hn rfl) hh B ⟨l,hl,Nat.le_trans le hm⟩ k0 k1 k2 (I1.nrow k0 (zuR n2)) (I1.nrow k1 (zuR n2)) (I1.nrow k2 (zuR n2)) (λ z h=>(zfA.mp h).1) (λ z h=>(zfA.mp h).1) (λ z h=>(zfA.mp h).1) (by
  have:=wl (some "b");have:=wl (some "w");have:=wl none;lia)) λ p H2 h=>?_
 rw[ykG sG sA vA]at h;obtain⟨L,hdl,e',l1,l2,fs,rfl,at_,em',kp,hl1,hl2,le'⟩:=h;obtain⟨c1,c2⟩:=ygL fs;rw[c1]at at_ em';rw[hl]at hl1;cases hl1;refine⟨by rw[c2],⟨e',l2,at_,em'.trans ⟨λ h z=>?_,λ h z _=>h z⟩,hl2,Nat.le_trans le' (Nat.add_le_add_right le 2)⟩,(zeT.refl.ext ex).trans kp⟩;cases q:zcA n A z with
 | none=>rfl
 | some s=>rw[<- q];exact h z (zdG.mpr (sA z (by rw[zkG q];simp)))
theorem yoP (hL:L1 T.C)(hn:8<=T.n)(hh:T.hd=false)(I:B4 n a G m H)(P:zkD n G)(hm:m<=4000)(hk:k<n*n){col opp:Str}(hco:zuM col opp):
  zaE T X (.ref zcC) [.ref a.x,.int n,pn k,.str col] H (T3 n a (zpG n G (pOf n k) col) (m+2) (pvD (zyY n G (pOf n k) col)) H) R:=by
 obtain⟨e,l,B,em,hl,le⟩:=I;refine zaE.mono (yfI hL hn hh B em P hk hco ⟨l,hl,Nat.le_trans le hm⟩) λ p H' h=>?_;obtain⟨e',l',rfl,at_,em',kp,hl',le'⟩:=h;exact⟨rfl,⟨e',l',at_,em',hl',Nat.le_trans (le' l hl) (Nat.add_le_add_right le 2)⟩,kp⟩
theorem ymT {d:Option (Option Nat)}{Q:Bool->zaA->Prop}(h:Q true H):ygN T .Eq (pvD d) (pvD d) H Q:=by
 match d with
 | none=>exact h
 | some none=>
  refine zdH.eqD HD.none' HD.none' λ b hb=>?_;rw[hb.mpr rfl];exact h
 | some (some k)=>
  show Q (decide ((k:Int)=k)) H
  rw[decide_eq_true rfl];exact h
theorem ymA {d:Option (Option Nat)}{Q:Bool->zaA->Prop}(h:Q false H):ygN T .NotEq (pvD d) (pvD d) H Q:=by
 match d with
 | none=>exact h
 | some none=>
  refine zdH.neD HD.none' HD.none' λ b hb=>?_;cases b with
  | false=>exact h
  | true=>exact absurd rfl (hb.mp rfl)
 | some (some k)=>
  show Q (!decide ((k:Int)=k)) H
  rw[decide_eq_true rfl];exact h
theorem zjY (hL:L1 T.C)(hn:10<=T.n)(hh:T.hd=false)(I:B4 n a G m H)(P:zkD n G)(hm:m<=4000){ca:Addr}(hc:H ca=some (.list (cells n G)))(S:zfN n H s G G'):
  zaE T X (.ref zcT) [.ref a.x,.int n,.ref ca,s] H (T3 n a G' (m+2) (.bool true) H) R:=by
 refine hL.f_law_again hh (by exact lq1 hn rfl) rfl ?_;cases S with
 | set aa A G h sup val=>
  refine zaE.callK (zmR (T:=T.down) hL (by show 8<=T.n-1;exact lq4 hn rfl) hh I hm P.sup P.val sup val hc h) λ K0 hK0 p H1 h=>?_;obtain⟨rfl,I1,kp⟩:=h;refine hK0 _ _ ?_;refine zxD (T:=T.down) ?_;refine zdH.eqB ?_;rw[beq_self_eq_true];exact⟨rfl,I1,kp⟩
 | move k col opp G hk hco=>
  refine zaE.callK (yoP (T:=T.down) hL (by show 8<=T.n-1;exact lq4 hn rfl) hh I P hm hk hco) λ K0 hK0 p H1 h=>?_;obtain⟨rfl,I1,kp⟩:=h;refine hK0 _ _ ?_;refine zxD (T:=T.down) ?_;refine zeC (T:=T.down) (X:=X) (R:=R) rfl ?_;refine ymT ?_;exact⟨rfl,I1,kp⟩
end
theorem zwM:∀ n<6,grid n=(List.range (n*n)).map (pOf n):=by decide +kernel
noncomputable def zwY (n:Nat)(G:Pt->Option Str)(k:Nat):Option PV:=(G (pOf n k)).map λ c=>PV.tup [.str c,pt (pOf n k)]
theorem ynM {n:Nat}{G:Pt->Option Str}(h5:n<=5):occ n G=(List.range (n*n)).filterMap (zwY n G):=by
 unfold occ;rw[zwM n (Nat.lt_succ_of_le h5),List.filterMap_map];rfl
theorem zwP {f:Nat->Option PV}{i:Nat}{o:Option PV}(h:f i=o):((List.range i).filterMap f)++o.toList=(List.range (i+1)).filterMap f:=by
 rw[List.range_succ,List.filterMap_append,<- h]
 congr 1
theorem ydZ {n:Nat}{G:Pt->Option Str}{z:Pt}{c:Str}(hg:inG n z)(hc:G z=some c):Dat.tuple [.str c,dpt z]∈ynI n G:=by
 unfold ynI;rw[List.mem_filterMap];exact⟨z,zdG.mpr hg,by rw[hc];rfl⟩
theorem zwL {n:Nat}{G:Pt->Option Str}(s:∀ z,G z≠none->inG n z):ynI n G=[]↔∀ z,G z=none:=by
 constructor
 ·intro h z
  cases e:G z with
  | none=>rfl
  | some c=>have:=ydZ (s z (by rw[e];simp)) e;rw[h]at this;cases this
 ·intro h
  unfold ynI;rw[List.filterMap_eq_nil_iff];intro z _;rw[h z];rfl
section
variable {T:Tr}{X:String}{H:zaA}{R:zaA->Prop}{n m:Nat}{G:Pt->Option Str}{a:Ad}
theorem zhQ (hL:L1 T.C)(hn:6<=T.n)(hh:T.hd=false)(P:zkD n G)(I:B4 n a G m H){ca:Addr}(hc:H ca=some (.list (cells n G))):
  zaE T X (.ref zcR) [.ref a.x,.ref ca,.int n] H (λ p H'=>p=.bool true/\Ext H H') R:=by
 obtain⟨n2,h5⟩:=I.two;refine hL.f_law_shows hh (by exact lq1 hn rfl) rfl ?_;have enn:(n:Int)*n=((n*n:Nat):Int):=Int.natCast_mul n n▸rfl;have h25:=zjX h5;refine And.intro (zkQ h5) ?_;refine zaG.range1 (fresh λ ra H1 hra ex1 kra=>?_);refine zfZ.range ra (n*n) rfl (by rw[<- enn];exact kra) (by exact lq2 h25 rfl) (λ i out H'=>H'=H1/\out=(List.range i).filterMap (zwY n G)) ⟨rfl,rfl⟩ (λ i out H' hi h=>?_) (λ out H' h=>?_)
 ·obtain⟨rfl,rfl⟩:=h
  refine zaT (k:=i) (ex1 _ _ hc) h5 hi ?_;cases hG:G (pOf n i) with
  | none=>exact⟨rfl,zwP (by unfold zwY;rw[hG];rfl)⟩
  | some c=>
   refine zaT (k:=i) (ex1 _ _ hc) h5 hi ?_;rw[hG];refine And.intro (yfG (by exact lq1 n2 rfl) (by exact lq2 h5 rfl)) ?_;refine And.intro (by exact lq23 n2 rfl) ?_;rw[show (i:Int).fdiv n=(pOf n i).1 from (Int.ofNat_fdiv ..).symm,show (i:Int).fmod n=(pOf n i).2 from (Int.ofNat_fmod ..).symm];exact⟨rfl,zwP (by unfold zwY;rw[hG];rfl)⟩
 obtain⟨rfl,rfl⟩:=h;refine⟨_,Ext.refl _,?_⟩;rw[<- ynM h5];refine fresh λ la H2 hla ex2 kla=>?_;have I2:=(I.ext ex1).ext ex2;obtain⟨e,l,B,em,-,-⟩:=I2;refine M.own (B.meth hL mo_oc) (zaE.callK (zrP (T:=T.down) hL (by show 3<=T.n-1;exact lq4 hn rfl) B) λ K0 hK0 p H3 h=>?_);obtain⟨oc,rfl,ex3,hoc,koc⟩:=h;refine hK0 _ _ ?_;refine zdH.eqD (zzU P.strOk koc) (zzU P.strOk (ex3 _ _ kla)) λ b hb=>?_;rw[hb.mpr rfl];have B3:=B.ext ex3;refine M.own (B3.meth hL mo_em) (zaE.callK (zrZ (T:=T.down) hL (by show 1<=T.n-1;exact lq4 hn rfl) hh B3) λ K1' hK1 p H4 h=>?_);obtain⟨rfl,rfl⟩:=h;refine hK1 _ _ ?_;refine fresh λ na H5 hna ex5 kna=>?_;refine zdH.eqD (zzU P.strOk (ex5 _ _ (ex3 _ _ kla))) (ypL (gl:=[]) kna) λ b hb=>?_;have hb:b=true↔∀ z,G z=none:=hb.trans ⟨λ h=>(zwL P.sup).mp (Dat.list.inj h),λ h=>congrArg Dat.list ((zwL P.sup).mpr h)⟩;have eb:e=b:=Bool.eq_iff_iff.mpr (em.trans hb.symm);subst eb;refine zdH.eqB ?_;rw[beq_self_eq_true];exact⟨rfl,(ex1.trans ex2).trans (ex3.trans ex5)⟩
theorem zsL (hL:L1 T.C)(hn:5<=T.n)(hh:T.hd=false)(n2:2<=n)(h5:n<=5){Q:PV->zaA->Prop}(h:∀ (a:Ad) H',B4 n a (λ _=>none) 10 H'->Ext H H'->H a.d=none->(∀ z∈a.rows,H z=none)->Q (.ref a.x) H'):
  zaG T X (.ref zdS) [.int n] H Q R:=by
 refine zaG.cls (hL.mks (by kernel_rfl)) (hL.fd (by kernel_rfl)) (hL.ft (by kernel_rfl)) (by exact lq1 hn rfl) λ x d hxd hx hd=>zaE.mono (zsX (T:=T.down) (n:=n) hL (by show 3<=T.n-1;exact lq4 hn rfl) hh zaC (by rw[zaD hxd.symm];exact zaC) n2 h5) λ p H2 h'=>?_;obtain⟨bp,bd,rows,l0,rfl,B0,hd0,hl0',kp0,np,nb',nr⟩:=h';refine And.intro rfl ?_;have up0:Ext H (upd (upd H d (.attrs [])) x (.inst zdS d)):=(Ext.upd (Ext.refl _) hd).trans (Ext.upd (Ext.refl _) (by rw[zaD hxd];exact hx));have ex2:Ext H H2:=λ a o e=>kp0 a o (up0 a o e) (λ q=>by rw[q,hd]at e;cases e) (by simp);exact h ⟨x,d,bp,bd,rows⟩ H2 ⟨true,l0,B0,⟨λ _ _=>rfl,λ _=>rfl⟩,hd0,hl0'⟩ ex2 hd λ z hz=>up0.none (nr z hz)
theorem copy3 (hL:L1 T.C)(hn:6<=T.n)(hh:T.hd=false)(I:B4 n a G m H):zaE T X (.ref zpC) [.ref a.x] H (λ p H'=>∃ b:Ad,p=.ref b.x/\B4 n b G 20 H'/\Ext H H'/\H b.d=none/\∀ z∈b.rows,H z=none) R:=by
 obtain⟨e,l,B,em,hl,le⟩:=I;refine zaE.mono (ybX hL hn hh B) λ p H' h=>?_;obtain⟨x,d,bp,bd,rows,l',rfl,at_,ex,nd,nr,hl',le'⟩:=h;exact⟨⟨x,d,bp,bd,rows⟩,rfl,⟨e,l',at_,em,hl',le'⟩,ex,nd,nr⟩
end
noncomputable def Bad (c:Str):Prop:=c = "" \/ c = "B" \/ c = "white" \/ c = "bw"
theorem yiR {k:Nat}(h:k<4):∃ c,([.str "",.str "B",.str "white",.str "bw"]:List PV)[k]?=some (.str c)/\Bad c:=by
 rcases k with _ | _ | _ | _ | k
 ·exact⟨_,rfl,.inl rfl⟩
 ·exact⟨_,rfl,.inr (.inl rfl)⟩
 ·exact⟨_,rfl,.inr (.inr (.inl rfl))⟩
 ·exact⟨_,rfl,.inr (.inr (.inr rfl))⟩
 ·lia
theorem zfE.miss {T:Tr}{X:String}{H:zaA}{R:zaA->Prop}{a:Addr}{x:Str}{es:Array DictEntry}{n:Nat}{Q:PV->zaA->Prop}(hX:X = "KeyError")(hh:T.hd=false)(hR:R H)(hl:T.C.K.lookup a=some ⟨.type "dict",none,.dict es n,#[]⟩)(hk:KeysLit T.C.w.params es.toList)(e:nsIn T.C.K a x=some none)(ha:(a==sysModules)=false):zfE T X (.ref a) (.str x) H Q R:=by
 unfold zfE;exact .inr (.inr ⟨hX,hh,hR,a,x,es,n,rfl,rfl,hl,hk,e,ha⟩)
theorem ziC.mono {T:Tr}{X:String}{H:zaA}{R:zaA->Prop}{p:PV}{Q Q':PV->zaA->Prop}(h:ziC T X p H Q R)(hq:∀ p H,Q p H->Q' p H):ziC T X p H Q' R:=by
 unfold ziC at h ⊢;refine q31 h λ a o fd u8=>q04 u8 λ e ha hd hc=>?_;exact⟨a,o,fd,e,ha,hd,hc.mono hq⟩
theorem ztH {c d:Str}:zzT "IndexError" [("IndexError",c),("ValueError",d)] c:=.here (by rw[isSubtype_type];kernel_rfl) (by rw[isSubtype_type];kernel_rfl) (by rw[isSubtype_type];kernel_rfl)
theorem ynZ {c d:Str}:zzT "ValueError" [("IndexError",c),("ValueError",d)] d:=.next (by rw[isSubtype_type];kernel_rfl) (by rw[isSubtype_type];kernel_rfl) (by rw[isSubtype_type];kernel_rfl) (ymY rfl)
section
variable {T:Tr}{X:String}{H H0:zaA}{R:zaA->Prop}{x d bp bd:Addr}{rows:List Addr}{n m:Nat}{G:Pt->Option Str}{e:Bool}{c:Str}{a:Ad}
theorem yiQ (hL:L1 T.C)(hn:1<=T.n)(hh:T.hd=false)(hc:Bad c)(hX:X = "ValueError")(hR:R H):zaE T X (.ref zcW) [.str c] H (λ _ _=>False) R:=by
 refine hL.f_opponent_of hh hn rfl ?_;refine Exists.intro "KeyError" (Exists.intro (λ _ H'=>H'=H) (And.intro ⟨yhA,by rw[show T.down.C.nc=_ from hL.nc];decide⟩ (And.intro ?_ ?_)))
 ·have hl:(heapK T.C.w.params).lookup zfG=some _:=rfl
  rw[<- hL.K]at hl;refine zfE.miss rfl hh rfl hl ⟨⟨_,_,rfl,rfl⟩,⟨_,_,rfl,rfl⟩,trivial⟩ ?_ rfl
  show nsIn T.C.K _ _=_
  rw[hL.K];rcases hc with rfl|rfl|rfl|rfl <;> kernel_rfl
 ·rintro ls' H' rfl
  exact⟨hX,yiB,λ _=>hL.nc.symm,hR⟩
theorem yfK (hL:L1 T.C)(hn:6<=T.n)(hh:T.hd=false)(hc:Bad c)(hX:X = "ValueError"){r k:Int}(hg:inG n (r,k))(hR:R H):
  zaE T X (.ref ziX) [.ref x,.int r,.int k,.str c] H (λ _ _=>False) R:=by
 have g1:0<=r:=hg.1.1;have g3:0<=k:=hg.2.1;refine hL.f_play hh (by exact lq1 hn rfl) rfl ?_;refine zaK (λ q=>absurd q (by exact lqb g1)) λ _=>?_;refine zaK (λ q=>absurd q (by exact lqb g3)) λ _=>?_;exact zaE.call (yiQ (T:=T.down) hL (by show 1<=T.n-1;exact lq4 hn rfl) hh hc hX hR) λ _ _ h=>h.elim
theorem ztF (hL:L1 T.C)(hn:1<=T.n)(hh:T.hd=false){lam:Addr}{X':String}(hp:zzT X' [("IndexError", "index"),("ValueError", "value")] c)(h:ziC T.down X' (.ref lam) H (λ _ _=>False) (λ H'=>Ext H0 H')):
  zaE T X (.ref zdZ) [.ref lam] H (λ p H'=>p=.str c/\Ext H0 H') R:=by
 refine hL.f_law_refused hh hn rfl ?_;refine Exists.intro X' (Exists.intro (λ _ H'=>Ext H0 H') (Exists.intro c (And.intro hp (And.intro ?_ λ ls' H' h=>⟨rfl,h⟩))));exact h.mono λ _ _ h=>h.elim
noncomputable def ycM:List Str:=["index", "index", "index", "index", "index", "value"]
structure LS7 (a:Ad)(n:Nat)(rest:Int)(fair off:Pt)(ls:LN):Prop where
 i8:lkN 8 ls=some (.ref a.x)
 i16:lkN 16 ls=some (.int rest)
 i26:lkN 26 ls=some (pt fair)
 i28:lkN 28 ls=some (pt off)
end
theorem zwE {C:Cx}{H:zaA}:∀ l:List Str,(∀ c∈l,PyData.strOk c=true)->zjR (HD C H 8) (l.map PV.str) (l.map Dat.str)
 | [],_=>rfl
 | c::l,h=>zjR.mk (HD.str' (h c (.head _))) (zwE l λ d hd=>h d (.tail _ hd))
theorem yhS:∀ c∈ycM,PyData.strOk c=true:=by decide +kernel
section
variable {T:Tr}{X:String}{H H0:zaA}{n m:Nat}{G:Pt->Option Str}{a:Ad}{rest:Int}{fair off:Pt}{ls:LN}{f:FR}
theorem zrQ (hL:L1 T.C)(hn:7<=T.n)(hh:T.hd=false)(I:B4 n a G m H)(ho:¬ inG n off){ba wa ea:Addr}{bs ws es:List Pt}{H1':zaA}(ex:Ext H H1')(hb:H1' ba=some (.list (bs.map pt)))(hw:H1' wa=some (.list (ws.map pt)))(he:H1' ea=some (.list (es.map pt)))
  (hl:bs.length+ws.length+es.length<=90000) (hz:off∈bs++ws++es) {Q:PV->zaA->Prop}:zaG T "IndexError" (.ref zaS) [.ref a.x,.ref ba,.ref wa,.ref ea] H1' Q (λ H'=>Ext H H'):=by
 obtain⟨e,l,B,em,hl',le⟩:=I;exact zaE.call (yaJ (T:=T) hL (by exact lq1 hn rfl) hh rfl (B.ext ex) hb hw he hl hz ho λ H' ex'=>ex.trans ex') λ _ _ h=>h.elim
theorem ynG (hL:L1 T.C)(hn:7<=T.n)(hh:T.hd=false)(I:B4 n a G m H)(hf:inG n fair)(ho:¬ inG n off)(o1:off.1<100000)(o2:off.2<100000)(l7:LS7 a n rest fair off ls):
  ∀ (i:Nat) (b:IE) (c:Str),yaL[i]?=some b->ycM[i]?=some c->∃ X',zzT X' [("IndexError", "index"),("ValueError", "value")] c/\w T X' b .v ls H (λ H'=>Ext H H') (λ _ _=>False):=by
 obtain⟨e,l,B,em,hl,le⟩:=id I;obtain⟨i8,i16,i26,i28⟩:=l7;intro i b c hb hc
 match i,hb,hc with
 | 0,hb,hc=>
  cases hb;cases hc;refine⟨"IndexError",ztH,?_⟩;refine zeC (X := "IndexError") (R:=λ H'=>Ext H H') i8 ?_;refine Exists.intro (.ref ziX) (And.intro (B.meth hL yjB) ?_);refine zeC (X := "IndexError") (R:=λ H'=>Ext H H') i28 ?_;refine zdB.pt0 (z:=off) ?_;refine zeC (X := "IndexError") (R:=λ H'=>Ext H H') i28 ?_;refine zdB.pt1 (z:=off) ?_;refine zeC (X := "IndexError") (R:=λ H'=>Ext H H') i16 ?_;refine And.intro ⟨by decide,zbS (by decide) (by decide)⟩ (And.intro (by decide) ?_);refine zdB.bw (Int.fmod_nonneg_of_pos _ (by decide)) (Int.fmod_lt_of_pos _ (by decide)) λ c hc _=>?_;have hco:∃ o,zuM c o:=by
   rcases hc with rfl|rfl
   ·exact⟨"w",.inl ⟨rfl,rfl⟩⟩
   ·exact⟨"b",.inr ⟨rfl,rfl⟩⟩
  obtain⟨o,hco⟩:=hco;exact zaE.call (yeC (T:=T) (r:=off.1) (c:=off.2) hL (by exact lq1 hn rfl) hh rfl B hco ho o1 o2 (Ext.refl _)) λ _ _ h=>h.elim
 | 1,hb,hc=>
  cases hb;cases hc;refine⟨"IndexError",ztH,?_⟩;refine zeC (X := "IndexError") (R:=λ H'=>Ext H H') i8 ?_;refine Exists.intro (.ref zvG) (And.intro (B.meth hL ykX) ?_);refine zeC (X := "IndexError") (R:=λ H'=>Ext H H') i28 ?_;refine zdB.pt0 (z:=off) ?_;refine zeC (X := "IndexError") (R:=λ H'=>Ext H H') i28 ?_;refine zdB.pt1 (z:=off) ?_;exact zaE.call (yfR (T:=T) (r:=off.1) (c:=off.2) hL (by exact lq1 hn rfl) hh rfl B ho o1 o2 (Ext.refl _)) λ _ _ h=>h.elim
 | 2,hb,hc=>
  cases hb;cases hc;refine⟨"IndexError",ztH,?_⟩;refine zeC (X := "IndexError") (R:=λ H'=>Ext H H') i8 ?_;refine Exists.intro (.ref zaS) (And.intro (B.meth hL yeB) ?_);refine zeC (X := "IndexError") (R:=λ H'=>Ext H H') i26 ?_;refine zeC (X := "IndexError") (R:=λ H'=>Ext H H') i28 ?_;refine fresh λ p0 H1 h0 ex1 k0=>?_;refine fresh λ p1 H2 h1 ex2 k1=>?_;refine fresh λ p2 H3 h2 ex3 k2=>?_;exact zrQ (bs:=[fair,off]) (ws:=[]) (es:=[]) hL hn hh I ho ((ex1.trans ex2).trans ex3) (ex3 _ _ (ex2 _ _ k0)) (ex3 _ _ k1) k2 (by simp) (by simp)
 | 3,hb,hc=>
  cases hb;cases hc;refine⟨"IndexError",ztH,?_⟩;refine zeC (X := "IndexError") (R:=λ H'=>Ext H H') i8 ?_;refine Exists.intro (.ref zaS) (And.intro (B.meth hL yeB) ?_);refine fresh λ p0 H1 h0 ex1 k0=>?_;refine zeC (X := "IndexError") (R:=λ H'=>Ext H H') i26 ?_;refine zeC (X := "IndexError") (R:=λ H'=>Ext H H') i28 ?_;refine fresh λ p1 H2 h1 ex2 k1=>?_;refine fresh λ p2 H3 h2 ex3 k2=>?_;exact zrQ (bs:=[]) (ws:=[fair,off]) (es:=[]) hL hn hh I ho ((ex1.trans ex2).trans ex3) (ex3 _ _ (ex2 _ _ k0)) (ex3 _ _ k1) k2 (by simp) (by simp)
 | 4,hb,hc=>
  cases hb;cases hc;refine⟨"IndexError",ztH,?_⟩;refine zeC (X := "IndexError") (R:=λ H'=>Ext H H') i8 ?_;refine Exists.intro (.ref zaS) (And.intro (B.meth hL yeB) ?_);refine fresh λ p0 H1 h0 ex1 k0=>?_;refine fresh λ p1 H2 h1 ex2 k1=>?_;refine zeC (X := "IndexError") (R:=λ H'=>Ext H H') i26 ?_;refine zeC (X := "IndexError") (R:=λ H'=>Ext H H') i28 ?_;refine fresh λ p2 H3 h2 ex3 k2=>?_;exact zrQ (bs:=[]) (ws:=[]) (es:=[fair,off]) hL hn hh I ho ((ex1.trans ex2).trans ex3) (ex3 _ _ (ex2 _ _ k0)) (ex3 _ _ k1) k2 (by simp) (by simp)
 | 5,hb,hc=>
  cases hb;cases hc;refine⟨"ValueError",ynZ,?_⟩;refine zeC (X := "ValueError") (R:=λ H'=>Ext H H') i8 ?_;refine Exists.intro (.ref ziX) (And.intro (B.meth hL yjB) ?_);refine zeC (X := "ValueError") (R:=λ H'=>Ext H H') i26 ?_;refine zdB.pt0 (z:=fair) ?_;refine zeC (X := "ValueError") (R:=λ H'=>Ext H H') i26 ?_;refine zdB.pt1 (z:=fair) ?_;refine fresh λ qa H1 hqa ex1 kqa=>?_;refine zeC (X := "ValueError") (R:=λ H'=>Ext H H') i16 ?_;refine And.intro ⟨by decide,zbS (by decide) (by decide)⟩ (And.intro (by decide) ?_);refine q12 (fm (a:=rest.fdiv 2048) (b:=4) (m:=4) rfl (by decide)) λ k hk k4=>?_;rw[hk];refine q12 (yiR k4) λ c hc bad=>?_;refine zdB.list kqa (Int.natCast_nonneg _) (by lia) (p:=.str c) hc ?_;exact zaE.call (yfK (T:=T) (r:=fair.1) (k:=fair.2) hL (by exact lq1 hn rfl) hh bad rfl hf ex1) λ _ _ h=>h.elim
 | i+6,hb,hc=>cases hb
theorem yjM {i:Nat}(h:i<6):∃ b c,yaL[i]?=some b/\ycM[i]?=some c:=by
 match i,h with
 | 0,_=>exact⟨_,_,rfl,rfl⟩
 | 1,_=>exact⟨_,_,rfl,rfl⟩
 | 2,_=>exact⟨_,_,rfl,rfl⟩
 | 3,_=>exact⟨_,_,rfl,rfl⟩
 | 4,_=>exact⟨_,_,rfl,rfl⟩
 | 5,_=>exact⟨_,_,rfl,rfl⟩
theorem B4.extP {P:Addr}{H':zaA}(I:B4 n a G m H)(tab:zbK P H)(x:zpL P H H'):B4 n a G m H':=by
 refine q12 tab λ ps hP _=>?_;have k:∀ z o,H z=some o->(∀ r,o≠.raw r)->H' z=some o:=λ z o h hr=>x z o (λ q=>by rw[q,hP]at h;cases h;exact hr _ rfl) h;obtain⟨e,l,B,em,hl,le⟩:=I;refine⟨e,l,⟨k _ _ B.inst (λ r q=>by cases q),?_,k _ _ B.pts (λ r q=>by cases q),k _ _ B.board (λ r q=>by cases q),B.len,λ i z h=>k _ _ (B.row i z h) (λ r q=>by cases q),B.nodup,B.lo,B.five,B.bpn,B.bdn⟩,em,k _ _ hl (λ r q=>by cases q),le⟩;refine q12 B.attrs λ l2 q1 q2=>?_;exact⟨l2,k _ _ q1 (λ r q=>by cases q),q2⟩
theorem KL.extP {P:Addr}{H':zaA}(tab:zbK P H)(x:zpL P H H'):KL n H H':=λ z l h _=>by
 refine q12 tab λ ps hP _=>?_;exact x z _ (λ q=>by rw[q,hP]at h;cases h) h
theorem k7b (hL:L1 T.C)(hn:14<=T.n)(hh:T.hd=false){cd P:Addr}(hcd:T.code=some cd)(LK:zyV T.C cd P)(tab:zbK P H)(I:B4 n a G m H)(hf:inG n fair)(ho:¬ inG n off)(o1:off.1<100000)(o2:off.2<100000)(l7:LS7 a n rest fair off ls)
  {R:LN->zaA->Prop} {K:AFl->LN->zaA->Prop} (hK:∀ H1' H',zpL P H H1'->zbK P H1'->Ext H1' H'->K .next ls H'):wS ykT X T ls H R K:=by
 refine Exists.intro P (Exists.intro cd (And.intro ⟨hcd,LK,tab⟩ ?_));intro f H1' L lams xe tab1 hL1 hlen D;have hlen6:lams.length=6:=hlen;have I1:=I.extP tab xe;refine zfZ.list L _ rfl hL1 (by rw[List.length_map,hlen6];decide) (λ i out H'=>Ext H1' H'/\out=(ycM.take i).map PV.str) ⟨Ext.refl _,rfl⟩ (λ i out H' h=>h.1 _ _ hL1) (λ i v out H' hv h=>?_) (λ out H' h=>?_)
 ·obtain⟨ex,rfl⟩:=h
  refine q12 (zbV hv) λ lam hlam u0=>?_;subst u0;have hi:i<6:=by rw[<- hlen6];exact (List.getElem?_eq_some_iff.mp hlam).1
  refine q22 (yjM hi) λ b c hb hc=>?_;refine q12 (ynG (T:=(T.plus f).down.down) hL (by show 7<=T.n-1-1;exact lq5 hn rfl) hh (I1.ext ex) hf ho o1 o2 l7 i b c hb hc) λ X' hp hw=>?_;have hS:=D i b lam hb hlam (T.plus f).down X' H' _ _ rfl (.head _) hh (by show 1<=T.n-1;exact lq4 hn rfl) ex hw;refine zaE.callK (ztF (T:=T.plus f) (H0:=H') hL (by show 1<=T.n;exact lq1 hn rfl) hh hp hS) λ K0 hK0 p H2 h=>?_;obtain⟨rfl,ex2⟩:=h;refine hK0 _ _ ?_;exact⟨ex.trans ex2,by rw[zbE hc,List.map_append];rfl⟩
 ·obtain⟨ex,rfl⟩:=h
  rw[List.length_map,hlen6,show ycM.take 6=ycM from rfl];refine⟨_,Ext.refl _,?_⟩;intro qa hqa;have ex2:Ext H' (upd H' qa (.list (ycM.map PV.str))):=Ext.upd (Ext.refl _) hqa;have kqa:upd H' qa (.list (ycM.map PV.str)) qa=some (.list (ycM.map PV.str)):=zaC;generalize upd H' qa (.list (ycM.map PV.str))=H2 at ex2 kqa ⊢;refine fresh λ ra H3 hra ex3 kra=>?_;refine zdH.neD (HD.list' (.inl (ex3 _ _ kqa)) (zwE _ yhS)) (HD.list' (l:=ycM.map PV.str) (.inl kra) (zwE _ yhS)) λ b hb=>?_;cases b with
  | true=>exact absurd rfl (hb.mp rfl)
  | false=>exact hK _ _ xe tab1 (ex.trans (ex2.trans ex3))
end
noncomputable abbrev HE:=Addr×(Pt->Option Str)
noncomputable abbrev LE:=Ad×Addr×(Pt->Option Str)
structure zoK (n:Nat)(H:zaA)(hs:List HE)(rs:List PV):Prop where
 len:hs.length=rs.length+1
 pos:∀ p∈hs,H p.1=some (.list (cells n p.2))/\zkD n p.2
 step:∀ (i:Nat) s p q,rs[i]?=some s->hs[i]?=some p->hs[i+1]?=some q->zfN n H s p.2 q.2
noncomputable def zbX (n:Nat)(a:Ad)(m:Nat)(H:zaA)(lf:List LE):Prop:=∀ e∈lf,B4 n e.1 e.2.2 m H/\H e.2.1=some (.list (cells n e.2.2))/\zkD n e.2.2/\Apt e.1 a
noncomputable def zeD (hs:List HE):List PV:=hs.map λ e=>.ref e.1
noncomputable def zbO (lf:List LE):List PV:=lf.map λ e=>.tup [.ref e.1.x,.ref e.2.1]
section
variable {n m m':Nat}{H H':zaA}{hs:List HE}{rs:List PV}{p:HE}{s:PV}{a b:Ad}{lf:List LE}{G G':Pt->Option Str}{P:Addr}
theorem zoK.kc (h:zoK n H hs rs)(K:KC n H H'):zoK n H' hs rs:=⟨h.len,λ p hp=>⟨K _ _ (h.pos p hp).1,(h.pos p hp).2⟩,λ i s p q h1 h2 h3=>(h.step i s p q h1 h2 h3).kc K⟩
theorem zoK.kl (h:zoK n H hs rs)(n2:2<=n)(K:KL n H H'):zoK n H' hs rs:=h.kc (K.kc n2)
theorem zoK.first (hc:H p.1=some (.list (cells n p.2)))(P:zkD n p.2):zoK n H [p] []:=⟨rfl,λ q hq=>by rw[List.mem_singleton.mp hq];exact⟨hc,P⟩,λ i s p q h=>by cases h⟩
theorem zoK.snoc (h:zoK n H hs rs){k:Nat}(hk:hs[k]?=some p){ca:Addr}(hc:H ca=some (.list (cells n G')))(P':zkD n G')(S:zfN n H s p.2 G'):zoK n H (hs.take (k+1)++[(ca,G')]) (rs.take k++[s]):=by
 have hlt:=(List.getElem?_eq_some_iff.mp hk).1;have hl:=h.len;have l1:(hs.take (k+1)).length=k+1:=List.length_take_of_le hlt;have l2:(rs.take k).length=k:=List.length_take_of_le (by lia);refine⟨by simp only[List.length_append,List.length_singleton,l1,l2],λ q hq=>?_,λ i s' p' q' h1 h2 h3=>?_⟩
 ·rcases List.mem_append.mp hq with hq|hq
  ·exact h.pos q (List.mem_of_mem_take hq)
  ·rw[List.mem_singleton.mp hq];exact⟨hc,P'⟩
 ·have hi:i<k+1:=by
   have:=(List.getElem?_eq_some_iff.mp h1).1
   rwa [List.length_append,l2]at this
  rw[List.getElem?_append_left (by rw[l1];exact hi),List.getElem?_take_of_lt hi]at h2;rcases Nat.lt_or_eq_of_le (Nat.le_of_lt_succ hi) with q|rfl
  ·rw[List.getElem?_append_left (by rw[l2];exact q),List.getElem?_take_of_lt q]at h1
   rw[List.getElem?_append_left (by rw[l1];lia),List.getElem?_take_of_lt (by lia)]at h3;exact h.step i s' p' q' h1 h2 h3
  ·rw[hk]at h2;cases h2
   have e1:=List.getElem?_concat_length (l:=rs.take i) (a:=s);rw[l2]at e1;rw[e1]at h1;cases h1;have e2:=List.getElem?_concat_length (l:=hs.take (i+1)) (a:=(ca,G'));rw[l1]at e2;rw[e2]at h3;cases h3;exact S
theorem zfN.tup (S:zfN n H s G G'):∃ l,s=.tup l:=by
 cases S with
 | set=>exact⟨_,rfl⟩
 | move=>exact⟨_,rfl⟩
theorem zoK.tup (h:zoK n H hs rs){i:Nat}(hi:rs[i]?=some s):∃ l,s=.tup l:=by
 have h1:=(List.getElem?_eq_some_iff.mp hi).1;have hl:=h.len;exact (h.step i s _ _ hi (List.getElem?_eq_getElem (by lia)) (List.getElem?_eq_getElem (by lia))).tup
theorem zoK.rowR (h:zoK n H hs rs)(n2:2<=n):zeO n rs:=.of n2 λ p hp=>by
 obtain⟨l,rfl⟩:=h.tup hp
 rfl
theorem zeV (n2:2<=n):zeO n (zeD hs):=.map n2 λ _=>rfl
theorem zfL (n2:2<=n):zeO n (zbO lf):=.map n2 λ _=>rfl
theorem zbX.ext (h:zbX n a m H lf)(ex:Ext H H'):zbX n a m H' lf:=λ e he=>let ⟨h1,h2,h3,h4⟩:=h e he;⟨h1.ext ex,ex _ _ h2,h3,h4⟩
theorem zbX.extP (h:zbX n a m H lf)(n2:2<=n)(tab:zbK P H)(x:zpL P H H'):zbX n a m H' lf:=λ e he=>let ⟨h1,h2,h3,h4⟩:=h e he;⟨h1.extP tab x,KL.extP tab x _ _ h2 (zeO.cells n2),h3,h4⟩
theorem zbX.mono (h:zbX n a m H lf)(q:m<=m'):zbX n a m' H lf:=λ e he=>let ⟨h1,h2,h3,h4⟩:=h e he;⟨h1.mono q,h2,h3,h4⟩
theorem zbX.keep (h:zbX n a m H lf)(I:B4 n a G m' H)(kp:zeT H a.d a.rows H'):zbX n a m H' lf:=λ e he=>
 let ⟨h1,h2,h3,h4⟩:=h e he;⟨h1.keep I kp h4,(I.kr kp).l _ _ h2 (.cells I.two.1),h3,h4⟩
theorem zbX.snoc (h:zbX n a m H lf)(I:B4 n a G m H)(P:zkD n G){ca:Addr}(hc:H ca=some (.list (cells n G)))(hd:H b.d=none)(hr:∀ z∈b.rows,H z=none):zbX n b m H (lf++[(a,ca,G)]):=λ e he=>by
 rcases List.mem_append.mp he with he|he
 ·refine q04 (h e he) λ h1 h2 h3 _=>?_
  exact⟨h1,h2,h3,h1.apt hd hr⟩
 ·rw[List.mem_singleton.mp he]
  exact⟨I,hc,P,I.apt hd hr⟩
end
structure S3 where
 x:Addr
 pa:Addr
 ra:Addr
 k:Nat
structure C3 where
 n:Nat
 sa:Addr
 za:Addr
 la:Addr
 na:Addr
 nl:List PV
 P:Addr
 G0:Pt->Option Str
noncomputable def L3 (c:C3)(b:S3):LN:=[(2,.int c.n),(3,pn (c.n*c.n)),(5,.ref c.sa),(7,.ref c.za),(8,.ref b.x),(9,.ref b.pa),(10,.ref b.ra),(11,pn b.k),(12,.ref c.la)]
structure ydT (c:C3)(H:zaA):Prop where
 zn:H c.za=some (.list (cells c.n λ _=>none))
 kn:H c.na=some (.list c.nl)
 rn:zeO c.n c.nl
 nn:∃ i r,c.nl=.int i::r
 tab:zbK c.P H
inductive J3 (c:C3)(m N:Nat)(b:S3)(H:zaA):Prop
 | mk (a:Ad) (hs:List HE) (rs:List PV) (lf:List LE) (p:HE) (ea:a.x=b.x) (hp:H b.pa=some (.list (zeD hs))) (hr:H b.ra=some (.list rs)) (hl:H c.la=some (.list (zbO lf))) (hi:zoK c.n H hs rs) (at_:hs[b.k]?=some p) (I:B4 c.n a p.2 m H)
   (lo:zbX c.n a m H lf) (fst:hs[0]?=some (c.sa,c.G0)) (fx:ydT c H) (bh:hs.length<=N+1) (bl:lf.length<=N) (lr:b.ra≠c.la):J3 c m N b H
section
variable {c:C3}{m N:Nat}{b:S3}{H H':zaA}
theorem ydT.kr (h:ydT c H)(n2:2<=c.n)(K:KR c.n H H'):ydT c H':=⟨K.l _ _ h.zn (.cells n2),K.l _ _ h.kn h.rn,h.rn,h.nn,h.tab.kr K⟩
theorem J3.ext (J:J3 c m N b H)(ex:Ext H H'):J3 c m N b H':=by
 obtain⟨a,hs,rs,lf,p,ea,hp,hr,hl,hi,at_,I,lo,fst,fx,bh,bl,lr⟩:=J;have n2:=I.two.1;exact⟨a,hs,rs,lf,p,ea,ex _ _ hp,ex _ _ hr,ex _ _ hl,hi.kl n2 (KR.ext ex).l,at_,I.ext ex,lo.ext ex,fst,fx.kr n2 (KR.ext ex),bh,bl,lr⟩
theorem J3.mono (J:J3 c m N b H){m' N':Nat}(h:m<=m')(h':N<=N'):J3 c m' N' b H:=by
 obtain⟨a,hs,rs,lf,p,ea,hp,hr,hl,hi,at_,I,lo,fst,fx,bh,bl,lr⟩:=J;exact⟨a,hs,rs,lf,p,ea,hp,hr,hl,hi,at_,I.mono h,lo.mono h,fst,fx,Nat.le_trans bh (Nat.add_le_add_right h' 1),Nat.le_trans bl h',lr⟩
theorem J3.extP (J:J3 c m N b H)(x:zpL c.P H H')(t:zbK c.P H'):J3 c m N b H':=by
 obtain⟨a,hs,rs,lf,p,ea,hp,hr,hl,hi,at_,I,lo,fst,fx,bh,bl,lr⟩:=J;have n2:=I.two.1;have K:KL c.n H H':=KL.extP fx.tab x;exact⟨a,hs,rs,lf,p,ea,K _ _ hp (zeV n2),K _ _ hr (hi.rowR n2),K _ _ hl (zfL n2),hi.kl n2 K,at_,I.extP fx.tab x,lo.extP n2 fx.tab x,fst,⟨K _ _ fx.zn (.cells n2),K _ _ fx.kn fx.rn,fx.rn,fx.nn,t⟩,bh,bl,lr⟩
end
noncomputable def gOf (n:Nat)(f:Nat->Option Str):Pt->Option Str:=λ z=>@dite _ (∃ k,k<n*n/\pOf n k=z) (Classical.propDecidable _) (λ h=>f (Classical.choose h)) λ _=>none
theorem yoR {n k:Nat}{f:Nat->Option Str}(hk:k<n*n):gOf n f (pOf n k)=f k:=by
 unfold gOf;have h:∃ j,j<n*n/\pOf n j=pOf n k:=⟨k,hk,rfl⟩
 rw[dif_pos h];exact congrArg f (ziH (Classical.choose_spec h).2)
theorem zxI {n:Nat}{f:Nat->Option Str}{z:Pt}{c:Str}(h:gOf n f z=some c):∃ k,k<n*n/\pOf n k=z/\f k=some c:=by
 unfold gOf at h
 by_cases q:∃ k,k<n*n/\pOf n k=z
 ·rw[dif_pos q]at h
  exact⟨_,(Classical.choose_spec q).1,(Classical.choose_spec q).2,h⟩
 ·rw[dif_neg q]at h;cases h
noncomputable def upF (f:Nat->Option Str)(i:Nat)(o:Option Str):Nat->Option Str:=λ k=>if k=i then o else f k
theorem zwZ {f:Nat->Option Str}{i:Nat}{o:Option Str}:upF f i o i=o:=if_pos rfl
theorem yhQ {f:Nat->Option Str}{i k:Nat}{o:Option Str}(h:k≠i):upF f i o k=f k:=if_neg h
noncomputable def thr (j:Nat):Option Str:=match j with
 | 0=>none
 | 1=>some "b"
 | _=>some "w"
theorem ynN {j:Nat}{s:Str}(h:thr j=some s):BW s:=by
 unfold thr at h;split at h
 ·cases h
 ·cases h;exact .inl rfl
 ·cases h;exact .inr rfl
theorem ymP {j:Nat}(hj:j<3):[PV.none,PV.str "b",PV.str "w"][j]?=some (cell (thr j)):=by
 rcases j with _ | _ | _ | j
 ·rfl
 ·rfl
 ·rfl
 ·exact absurd hj (Nat.not_lt.mpr (Nat.le_add_left 3 j))
theorem powK (b:Int)(h:∀ k<17,(Builtin.Int.intBits b:Int)*(k:Nat)<=2 ^ 27/\b ^ k≠0/\(decide ((if (b ^ k==0)=true then 0 else (b ^ k).natAbs.log2 / 30+1)>300))=false){k:Nat}(hk:k<17):((0<=((k:Nat):Int))/\(Builtin.Int.intBits b:Int)*(k:Nat)<=2 ^ 27)/\∀ a:Int,(b ^ k≠0/\Builtin.divisionGoesByPylong a (b ^ k)=false):=by
 refine q03 (h k hk) λ h1 h2 h3=>?_;refine⟨⟨Int.natCast_nonneg _,h1⟩,λ a=>⟨h2,?_⟩⟩
 delta Builtin.divisionGoesByPylong
 dsimp only;rw[h3];rfl
theorem ypF:∀ k<17,(Builtin.Int.intBits 3:Int)*(k:Nat)<=2 ^ 27/\(3:Int) ^ k≠0/\(decide ((if ((3:Int) ^ k==0)=true then 0 else ((3:Int) ^ k).natAbs.log2 / 30+1)>300))=false:=by decide +kernel
theorem pow4':∀ k<17,(Builtin.Int.intBits 4:Int)*(k:Nat)<=2 ^ 27/\(4:Int) ^ k≠0/\(decide ((if ((4:Int) ^ k==0)=true then 0 else ((4:Int) ^ k).natAbs.log2 / 30+1)>300))=false:=by decide +kernel
noncomputable def fou (o:Option Str)(j:Nat):Option Str:=match j with
 | 0=>o
 | 1=>some "b"
 | 2=>some "w"
 | _=>none
theorem ypH {o:Option Str}{j:Nat}(hj:j<4):[cell o,PV.str "b",PV.str "w",PV.none][j]?=some (cell (fou o j)):=by
 rcases j with _ | _ | _ | _ | j
 ·rfl
 ·rfl
 ·rfl
 ·rfl
 ·lia
theorem ynK {o:Option Str}{j:Nat}(ho:∀ s,o=some s->BW s){s:Str}(h:fou o j=some s):BW s:=by
 unfold fou at h;split at h
 ·exact ho s h
 ·cases h;exact .inl rfl
 ·cases h;exact .inr rfl
 ·cases h
theorem zkB {H:zaA}{T:Tr}{a:Addr}{m:Nat}{g:Nat->Option Str}{step:PV->zaA->(Option PV->zaA->Prop)->Prop}{Q:PV->zaA->Prop}(ha:H a=some (.range 0 m))(hz:m<=25)
  (turn:∀ k<m,∀ H',Ext H H'->∀ K:Option PV->zaA->Prop,(∀ H'',Ext H' H''->K (some (cell (g k))) H'')->step (pn k) H' K)
  (fin:∀ H' b,Ext H H'->H b=none->H' b=some (.list ((List.range m).map λ k=>cell (g k)))->Q (.ref b) H'):zfZ T (.ref a) H step Q:=by
 refine zfZ.range a m rfl ha (Nat.le_trans hz (by decide)) (λ i out H'=>Ext H H'/\out=(List.range i).map λ k=>cell (g k)) ⟨Ext.refl _,rfl⟩ (λ i out H' hi h=>?_) (λ out H' h=>?_)
 ·obtain⟨ex,rfl⟩:=h
  exact turn i hi H' ex _ λ H'' ex2=>⟨ex.trans ex2,by rw[List.range_succ,List.map_append];rfl⟩
 ·obtain⟨ex,rfl⟩:=h
  exact⟨_,Ext.refl _,fresh (o:=.list ((List.range m).map λ k=>cell (g k))) λ b H3 hb ex3 kb=>fin H3 b (ex.trans ex3) (ex.none hb) kb⟩
theorem zuG {H:zaA}{T:Tr}{a:Addr}{n:Nat}{step:PV->zaA->(Option PV->zaA->Prop)->Prop}{Q:PV->zaA->Prop}(ha:H a=some (.range 0 (n*n)))(hz:n*n<=25)
  (turn:∀ k<n*n,∀ H',Ext H H'->∀ K:Option PV->zaA->Prop,(∀ o H'',(∀ s,o=some s->BW s)->Ext H' H''->K (some (cell o)) H'')->step (pn k) H' K)
  (fin:∀ H' b (A:Pt->Option Str),(∀ z,A z≠none->inG n z)->(∀ z s,A z=some s->BW s)->Ext H H'->H' b=some (.list (cells n A))->Q (.ref b) H'):zfZ T (.ref a) H step Q:=by
 refine zfZ.range a (n*n) rfl ha (Nat.le_trans hz (by decide)) (λ i out H'=>Ext H H'/\∃ f:Nat->Option Str,(∀ k s,f k=some s->BW s)/\out=(List.range i).map λ k=>cell (f k)) ⟨Ext.refl _,λ _=>none,(λ k s e=>by cases e),rfl⟩ (λ i out H' hi h=>?_) (λ out H' h=>?_)
 ·refine q02 h ?_;clear h;intro ex u8;refine q12 u8 ?_;clear u8;intro f hf u0;subst u0
  refine turn i hi H' ex _ λ o H'' ho ex2=>⟨ex.trans ex2,upF f i o,λ k s e=>?_,?_⟩
  ·by_cases q:k=i
   ·rw[q,zwZ]at e;exact ho s e
   ·rw[yhQ q]at e;exact hf k s e
  ·rw[List.range_succ,List.map_append,List.map_singleton,zwZ]
   refine congrArg (·++_) (List.map_congr_left λ k hk=>?_);rw[yhQ (Nat.ne_of_lt (List.mem_range.mp hk))]
 ·refine q02 h ?_;clear h;intro ex u8;refine q12 u8 ?_;clear u8;intro f hf u0;subst u0
  have kc:((List.range (n*n)).map λ k=>cell (f k))=cells n (gOf n f):=List.map_congr_left λ k hk=>by rw[yoR (List.mem_range.mp hk)]
  rw[kc];refine⟨_,Ext.refl _,fresh λ b H3 hb ex3 kb=>fin H3 b (gOf n f) (λ z hz=>?_) (λ z s h=>?_) (ex.trans ex3) kb⟩
  ·obtain⟨s,hs⟩:=Option.ne_none_iff_exists'.mp hz
   refine q13 (zxI hs) ?_;intro k hk u0;subst u0;intro _;exact zeP hk
  ·refine q13 (zxI h) λ k hk e h=>?_
   exact hf k s h
theorem zzR {hs:List HE}{k:Nat}{p q:HE}(hk:hs[k]?=some p):(hs.take (k+1)++[q])[k+1]?=some q/\(hs.take (k+1)++[q])[0]?=hs[0]?/\(hs.take (k+1)++[q]).length=k+2:=by
 have hlt:=(List.getElem?_eq_some_iff.mp hk).1;have l1:(hs.take (k+1)).length=k+1:=List.length_take_of_le hlt;refine⟨?_,?_,by rw[List.length_append,l1];rfl⟩
 ·have e:=List.getElem?_concat_length (l:=hs.take (k+1)) (a:=q)
  rwa [l1]at e
 ·rw[List.getElem?_append_left (by lia),List.getElem?_take_of_lt (by lia)]
theorem zsS {hs:List HE}{k:Nat}{q:HE}:(zeD hs).take k++[.ref q.1]=zeD (hs.take k++[q]):=by
 unfold zeD;rw[List.map_append,List.map_take];rfl
section
variable {T:Tr}{X:String}{H:zaA}{R:LN->zaA->Prop}{K:AFl->LN->zaA->Prop}{c:C3}{m N:Nat}{b:S3}{A:Pt->Option Str}{aa da:Addr}{f:Nat->Bool}{k kd r:Int}
theorem zdI {hs:List HE}{p:HE}{pa:Addr}{k:Nat}(hp:H pa=some (.list (zeD hs)))(hk:hs[k]?=some p)(hl:hs.length<=1000){Q:PV->zaA->Prop}(h:Q (.ref p.1) H):zdB T (.ref pa) (pn k) H Q:=by
 have hlt:=(List.getElem?_eq_some_iff.mp hk).1;exact zdB.list hp (Int.natCast_nonneg _) (by lia) (p:=.ref p.1) (by rw[Int.toNat_natCast];unfold zeD;rw[List.getElem?_map,hk];rfl) h
theorem k2b_3 (hL:L1 T.C)(hn:14<=T.n)(hh:T.hd=false)(hm:m<=3000)(hN:N<=50)(J:J3 c m N b H)(sA:∀ z,A z≠none->inG c.n z)(vA:∀ z s,A z=some s->BW s)(ha:H aa=some (.list (cells c.n A)))(hd:H da=some (.list ((zcG c.n f).map pn)))(hf:∀ k<c.n*c.n,f k=true↔zuN c.n A k)
  (hK:∀ b' ls' H',zaX (L3 c b') ls'->J3 c (m+2) (N+1) b' H'->K .next ls' H'):wS ynU X T ((6,.ref da)::(21,.ref aa)::(17,.int kd)::(16,.int r)::(13,.int k)::L3 c b) H R K:=by
 obtain⟨a,hs,rs,lf,p,ea,hp,hr,hl,hi,at_,I,lo,fst,fx,bh,bl,lr⟩:=J;obtain⟨n2,h5⟩:=I.two;have h25:=zjX h5;have hlt:=(List.getElem?_eq_some_iff.mp at_).1;have hrl:=hi.len;have ed:zcG c.n f=zcG c.n (zoH c.n A):=zoJ λ k hk=>(hf k hk).trans zcQ.symm;refine fresh λ na H1 hna ex1 kna=>?_;refine zdH.eqD (HD.list' (.inl (ex1 _ _ hd)) (zgM _)) (HD.list' (.inl kna) (l:=[]) (ds:=[]) rfl) λ b' hb=>?_;have hb':b'=zoX c.n A:=Bool.eq_iff_iff.mpr (hb.trans (by
  unfold zoX;rw[<- ed,List.isEmpty_iff];exact⟨λ h=>List.map_eq_nil_iff.mp (Dat.list.inj h),λ h=>by rw[h];rfl⟩))
 subst hb';clear hb;have hp1:=ex1 _ _ hp;have KE:=(KR.ext (n:=c.n) ex1)
 have I1:=I.ext ex1;refine zdI hp1 at_ (by lia) ?_;rw[<- ea];have S:zfN c.n H1 (.tup [.int (-1),.ref aa,.bool (zoX c.n A)]) p.2 (zcA c.n A):=.set aa A p.2 (ex1 _ _ ha) sA vA;have hpos:=hi.pos p (List.mem_of_getElem? at_);refine zaE.callK (zjY (T:=T) hL (by exact lq1 hn rfl) hh I1 hpos.2 (by exact lq2 hm rfl) (ex1 _ _ hpos.1) S) λ K0 hK0 v H2 h=>?_;obtain⟨rfl,I2,kp⟩:=h;refine hK0 _ _ ?_;have KR2:=KE.trans (I1.kr kp);have lo2:=(lo.ext ex1).keep I1 kp;have S2:=S.kl n2 (I1.kr kp).l;have hi2:=hi.kl n2 KR2.l;have fx2:=fx.kr n2 KR2;have hp2:=KR2.l _ _ hp (zeV n2);have hr2:=KR2.l _ _ hr (hi.rowR n2);have hl2:=KR2.l _ _ hl (zfL n2);have ha2:=KR2.l _ _ ha (.cells n2);have hd2:=KR2.l _ _ hd (.map n2 λ _=>rfl);clear hp hr hl hi I lo fx ha hd hp1 KE I1 kp KR2 S ex1 kna hna;refine zdD.hiN (k:=b.k+1) (.inl hp2) (by unfold zeD;rw[List.length_map];omega) (fresh λ z1 H3 hz1 ex3 kz1=>?_);refine zaG.range1 (fresh λ ra H4 hra ex4 kra=>?_);refine zkB (m:=c.n*c.n) (g:=λ k=>zcA c.n A (pOf c.n k)) kra h25 (λ i hi H' ex K' hK'=>?_) λ H5 ca ex5 hca kca=>?_
 ·refine zdH.inL (.inl (ex _ _ (ex4 _ _ (ex3 _ _ hd2)))) (zgM _) HD.int' λ b hb=>?_
  have hm:i∈zcG c.n f↔zuN c.n A i:=by rw[zcX];exact⟨λ h=>(hf i hi).mp h.2,λ h=>⟨hi,(hf i hi).mpr h⟩⟩
  refine yaF (hb.trans (zgG.trans hm)) (λ q=>?_) (λ q=>?_)
  ·have:=hK' H' (Ext.refl _)
   rw[(zmT hi).1 q]at this;exact this
  ·refine zaT (k:=i) (ex _ _ (ex4 _ _ (ex3 _ _ ha2))) h5 hi ?_
   have:=hK' H' (Ext.refl _);rw[(zmT hi).2 q]at this;exact this
 refine fresh λ z2 H6 hz2 ex6 kz2=>?_;have exA:=(ex3.trans ex4).trans (ex5.trans ex6);refine zfJ.addL (.inl (ex6 _ _ (ex5 _ _ (ex4 _ _ kz1)))) (.inl kz2) (by rw[List.length_take];unfold zeD;rw[List.length_map];show _+1<=_;omega) (fresh λ pa H7 hpa ex7 kpa=>?_);rw[zsS (q:=(ca,zcA c.n A))]at kpa;refine zdD.hiN (k:=b.k) (.inl (ex7 _ _ (exA _ _ hr2))) (by omega) (fresh λ z3 H8 hz3 ex8 kz3=>?_);refine fresh λ z4 H9 hz4 ex9 kz4=>?_;refine zfJ.addL (.inl (ex9 _ _ kz3)) (.inl kz4) (by rw[List.length_take];show _+1<=_;omega) (fresh λ rb Ha hrb exa krb=>?_);refine zfJ.iaddI ?_;have exB:=exA.trans (ex7.trans ((ex8.trans ex9).trans exa));refine q03 (zzR (q:=(ca,zcA c.n A)) at_) λ q1 q2 q3=>?_;have kca':Ha ca=some (.list (cells c.n (zcA c.n A))):=exa _ _ (ex9 _ _ (ex8 _ _ (ex7 _ _ (ex6 _ _ kca))));have KB:=KR.ext (n:=c.n) exB;refine hK ⟨b.x,pa,rb,b.k+1⟩ _ _ (zaX.of rfl) ⟨a,hs.take (b.k+1)++[(ca,zcA c.n A)],_,lf,(ca,zcA c.n A),ea,exa _ _ (ex9 _ _ (ex8 _ _ kpa)),krb,exB _ _ hl2,(hi2.kl n2 KB.l).snoc at_ kca' (ztS sA vA) (S2.kl n2 KB.l),q1,I2.ext exB,(lo2.ext exB).mono (by omega),q2.trans fst,fx2.kr n2 KB,by rw[q3];omega,by exact lqg bl,λ q=>by
  have:=(exA.trans (ex7.trans (ex8.trans ex9))) _ _ hl2;rw[<- q,hrb]at this;cases this⟩
end
theorem zaG.range2 {T:Tr}{X:String}{H:zaA}{R:zaA->Prop}{m n:Int}{Q:PV->zaA->Prop}(h:∀ c,H c=Option.none->Q (.ref c) (upd H c (.range m n))):zaG T X (.ty "range") [.int m,.int n] H Q R:=zaG.of λ Fs=>zbH.range2 h
theorem ybV {n:Nat}{G:Pt->Option Str}(P:zkD n G)(n2:2<=n):∃ k,k<n*n/\G (pOf n k)=none:=by
 have h0:0<n*n:=Nat.mul_pos (by exact lq1 n2 rfl) (by exact lq1 n2 rfl);cases e:G (pOf n 0) with
 | none=>exact⟨0,h0,e⟩
 | some c=>
  refine q12 (zmK (P.leg _ c (zeP h0) e)) λ x _ u8=>q13 u8 λ y _ hy hy0=>?_;refine q12 (zfK hy) λ k hk u0=>?_;subst u0;exact⟨k,hk,hy0⟩
noncomputable def ziA (n:Nat)(G:Pt->Option Str)(lo i:Nat):List PV:=((List.range i).filter λ j=>decide (lo<=j)&&(G (pOf n (j % (n*n)))).isNone).map λ j=>pn (j % (n*n))
theorem ydY {n lo:Nat}{G:Pt->Option Str}:ziA n G lo lo=[]:=by
 unfold ziA;rw[List.filter_eq_nil_iff.mpr];rfl;intro j hj;have:¬ lo<=j:=Nat.not_le.mpr (List.mem_range.mp hj)
 simp[this]
theorem zxQ {n lo i:Nat}{G:Pt->Option Str}(h:lo<=i):ziA n G lo i++(cond (cell (G (pOf n (i % (n*n))))).isNone (some (pn (i % (n*n)))) none).toList=ziA n G lo (i+1):=by
 unfold ziA;rw[List.range_succ,List.filter_append,List.map_append,List.filter_cons,decide_eq_true h];cases G (pOf n (i % (n*n))) <;> rfl
theorem zzI {n lo:Nat}{G:Pt->Option Str}(P:zkD n G)(n2:2<=n)(hlo:lo<n*n):∃ k,k<n*n/\(ziA n G lo (lo+n*n))[0]?=some (pn k):=by
 refine q12 (ybV P n2) λ k hk hG=>?_;have hne:ziA n G lo (lo+n*n)≠[]:=by
  have hm:∃ j,lo<=j/\j<lo+n*n/\j % (n*n)=k:=by
   by_cases q:lo<=k
   ·exact⟨k,q,by lia,Nat.mod_eq_of_lt hk⟩
   ·exact⟨k+n*n,by lia,by lia,by rw[Nat.add_mod_right,Nat.mod_eq_of_lt hk]⟩
  refine q13 hm λ j h1 h2 h3=>?_;refine List.ne_nil_of_mem (a:=pn (j % (n*n))) (List.mem_map.mpr ⟨j,List.mem_filter.mpr ⟨List.mem_range.mpr h2,?_⟩,rfl⟩);rw[h3,hG,decide_eq_true h1];rfl
 cases e:ziA n G lo (lo+n*n) with
 | nil=>exact absurd e hne
 | cons p l=>
  have hp:p∈ziA n G lo (lo+n*n):=by rw[e];exact .head _
  refine q12 (List.mem_map.mp hp) λ j _ u0=>?_;subst u0;exact⟨_,Nat.mod_lt _ (by lia),rfl⟩
theorem imod {i N:Nat}:(i:Int).fmod (N:Int)=((i % N:Nat):Int):=(Int.ofNat_fmod ..).symm
inductive D3 (c:C3)(N:Nat)(b:S3)(G:Pt->Option Str)(H:zaA)(b':S3)(H':zaA):Prop
 | mk (hs:List HE) (rs:List PV) (ca:Addr) (ex_:b'.x=b.x) (hp:H' b'.pa=some (.list (zeD hs))) (hr:H' b'.ra=some (.list rs)) (hi:zoK c.n H' hs rs) (at_:hs[b'.k]?=some (ca,G)) (fst:hs[0]?=some (c.sa,c.G0)) (bh:hs.length<=N+2) (ex:Ext H H') (lr:b'.ra≠c.la):D3 c N b G H b' H'
section
variable {T:Tr}{X:String}{H:zaA}{R:LN->zaA->Prop}{K:AFl->LN->zaA->Prop}{c:C3}{m N s:Nat}{b:S3}{k kd r:Int}{col:Str}
theorem asg {x:Nat}{p:PV}{ls:LN}{R:LN->zaA->Prop}{b:IS}{Q:AFl->LN->zaA->Prop}(h:wS b X T ((x,p)::ls) H R Q):zhU T .v (λ p H1'=>wT T X (.var x) p ls H1' R λ ls' H'=>(λ (fl:AFl) ls' H'=>match fl with
  | .next=>wS b X T ls' H' R Q
  | fl=>Q fl ls' H') .next ls' H') p H:=h
theorem k2_3 (hL:L1 T.C)(hn:14<=T.n)(hh:T.hd=false)(h4:c.n<=4)(hm:m<=3000)(hN:N<=50)(J:J3 c m N b H)
  (hK:∀ b' ls' H',zaX (L3 c b') ls'->J3 c (m+2) (N+1) b' H'->K .next ls' H'):wS i_k2 X T ((17,.int kd)::(16,.int r)::(13,.int k)::L3 c b) H R K:=by
 obtain⟨a,hs,rs,lf,p,ea,hp,hr,hl,hi,at_,I,lo,fst,fx,bh,bl,lr⟩:=id J;obtain⟨n2,h5⟩:=I.two;have h25:=zjX h5;have h16:c.n*c.n<=16:=Nat.mul_le_mul h4 h4;have hpos:=hi.pos p (List.mem_of_getElem? at_);refine zaG.range1 (fresh λ ra H1 hra ex1 kra=>?_);refine zuG (n:=c.n) kra h25 (λ i hi H' ex K' hK'=>?_) λ H2 aa A sA vA ex2 kaa=>?_
 ·refine zdI (ex _ _ (ex1 _ _ hp)) at_ (by lia) ?_
  refine zaT (k:=i) (ex _ _ (ex1 _ _ hpos.1)) h5 hi ?_;refine fresh λ qa H3 hqa ex3 kqa=>?_;obtain⟨w1,w2⟩:=powK 4 pow4' (k:=i) (by exact lq30 (by assumption) h16 rfl);refine And.intro w1 (And.intro (w2 _) (And.intro (by decide) ?_));refine q12 (fm (a:=r.fdiv (4 ^ (i:Int).toNat)) (b:=4) (m:=4) rfl (by decide)) λ j hj j4=>?_;rw[hj];refine zdB.list kqa (Int.natCast_nonneg _) (by lia) (p:=cell (fou (p.2 (pOf c.n i)) j)) (ypH j4) ?_;exact hK' _ _ (λ s h=>ynK (hpos.2.val _) h) ex3
 refine asg ?_;refine zaE.callK (zfD (T:=T) hL (by exact lq1 hn rfl) hh n2 h5 kaa (yeQ vA)) λ K0 hK0 v H3 h=>?_;obtain⟨da,f,rfl,ex3,hda,kda,hf⟩:=h;refine hK0 _ _ ?_;exact k2b_3 hL hn hh hm hN (J.ext ((ex1.trans ex2).trans ex3)) sA vA (ex3 _ _ kaa) kda hf hK
theorem k3c_3 (hL:L1 T.C)(hn:14<=T.n)(hh:T.hd=false)(hm:m<=3000)(hs:s<c.n*c.n)(hc:BW col){a:Ad}{lf:List LE}{G:Pt->Option Str}(P:zkD c.n G)(ea:a.x=b.x)(hl:H c.la=some (.list (zbO lf)))(I:B4 c.n a G m H)(lo:zbX c.n a m H lf)(fx:ydT c H)(bl:lf.length<=N)
  {b':S3} {H1:zaA} (D:D3 c N b (zpG c.n G (pOf c.n s) col) H b' H1) (hK:∀ b' ls' H',zaX (L3 c b') ls'->J3 c (m+2) (N+1) b' H'->K .next ls' H'):wS ynH X T ((23,.str col)::(20,pn s)::(24,pvD (zyY c.n G (pOf c.n s) col))::L3 c b') H1 R K:=by
 obtain⟨hs',rs,ca,ex_,hp,hr,hi,at_,fst,bh,ex,lr⟩:=D;have n2:=I.two.1;have I1:=I.ext ex;have hco:∃ o,zuM col o:=by
  rcases hc with rfl|rfl
  ·exact⟨"w",.inl ⟨rfl,rfl⟩⟩
  ·exact⟨"b",.inr ⟨rfl,rfl⟩⟩
 obtain⟨o,hco⟩:=hco;have ea:a.x=b'.x:=ea.trans ex_.symm;refine (?_:wS (.seq (.ite (.cmp .NotEq (.call (.ref zcC) (.cons (.var 8) (.cons (.var 2) (.cons (.var 20) (.cons (.var 23) .nil))))) (.var 24)) (.seq (.ret (.bool false)) .skip) .skip) .skip) X T _ H1 R K);refine (let L1':LN:=_;(?_:wS _ _ _ L1' _ _ _));refine zaE.callK (?_:zaE T X (.ref zcC) [.ref b'.x,.int c.n,pn s,.str col] H1 (T3 c.n a (zpG c.n G (pOf c.n s) col) (m+2) (pvD (zyY c.n G (pOf c.n s) col)) H1) _) λ K0 hK0 v H2 h=>?_
 ·rw[<- ea];exact yoP (T:=T) hL (by exact lq1 hn rfl) hh I1 P (by exact lq2 hm rfl) hs hco
 obtain⟨rfl,I2,kp⟩:=h;refine hK0 _ _ ?_;have KB:=I1.kr kp;refine zxD (T:=T) ?_;refine zeC (T:=T) (X:=X) (R:=R L1') rfl ?_;refine ymA ?_;exact hK b' _ _ (zaX.of rfl) ⟨a,hs',rs,lf,_,ea,KB.l _ _ hp (zeV n2),KB.l _ _ hr (hi.rowR n2),KB.l _ _ (ex _ _ hl) (zfL n2),hi.kl n2 KB.l,at_,I2,((lo.ext ex).keep I1 kp).mono (by omega),fst,(fx.kr n2 (KR.ext ex)).kr n2 KB,bh,by exact lqg bl,lr⟩
theorem k3b_3 (hL:L1 T.C)(hn:14<=T.n)(hh:T.hd=false)(hm:m<=3000)(hN:N<=50)(hs:s<c.n*c.n)(hc:BW col)(J:J3 c m N b H)
  (hK:∀ b' ls' H',zaX (L3 c b') ls'->J3 c (m+2) (N+1) b' H'->K .next ls' H'):wS yoT X T ((23,.str col)::(20,pn s)::L3 c b) H R K:=by
 obtain⟨a,hs',rs,lf,p,ea,hp,hr,hl,hi,at_,I,lo,fst,fx,bh,bl,lr⟩:=J;obtain⟨n2,h5⟩:=I.two;have hlt:=(List.getElem?_eq_some_iff.mp at_).1;have hrl:=hi.len;have hpos:=hi.pos p (List.mem_of_getElem? at_);refine yoD S3 (λ b'=>(23,.str col)::(20,pn s)::(24,pvD (zyY c.n p.2 (pOf c.n s) col))::L3 c b') (D3 c N b (zpG c.n p.2 (pOf c.n s) col) H) ?_ λ b' H1 D=>k3c_3 hL hn hh hm hs hc hpos.2 ea hl I lo fx bl D hK;refine zwG λ K' hK'=>?_;refine (let L1':LN:=_;(?_:wS _ _ _ L1' _ _ _));refine zdI hp at_ (by lia) ?_;refine zaT (k:=s) hpos.1 h5 hs ?_;cases hG:p.2 (pOf c.n s) with
 | some c'=>
  obtain⟨g1,g2⟩:=zrD (n:=c.n) (col:=col) hG;exact hK' _ rfl b _ _ (zaX.of (by rw[g2];rfl)) ⟨hs',rs,p.1,rfl,hp,hr,hi,by rw[g1];exact at_,fst,by exact lqg bh,Ext.refl _,lr⟩
 | none=>
  obtain⟨g1,g2⟩:=ziT (n:=c.n) (col:=col) hG;have hco:∃ o,zuM col o:=by
   rcases hc with rfl|rfl
   ·exact⟨"w",.inl ⟨rfl,rfl⟩⟩
   ·exact⟨"b",.inr ⟨rfl,rfl⟩⟩
  obtain⟨o,hco⟩:=hco;refine zdI hp at_ (by lia) ?_;refine zaE.callK (yeG (T:=T) hL (by exact lq1 hn rfl) hh n2 h5 hpos.1 hpos.2 hs (by rcases hc with rfl|rfl <;> decide +kernel) hG) λ K0 hK0 v H2 h=>?_;refine q14 h ?_;clear h;intro ca u0;subst u0;intro ex2 hca kca;refine hK0 _ _ ?_;refine (let L2:LN:=(24,pvD (zyY c.n p.2 (pOf c.n s) col))::(25,.ref ca)::L1';(?_:wS _ _ _ L2 _ _ _));refine zdD.hiN (k:=b.k+1) (.inl (ex2 _ _ hp)) (by unfold zeD;rw[List.length_map];lia) (fresh λ z1 H3 hz1 ex3 kz1=>?_);refine fresh λ z2 H6 hz2 ex6 kz2=>?_;refine zfJ.addL (.inl (ex6 _ _ kz1)) (.inl kz2) (by rw[List.length_take];unfold zeD;rw[List.length_map];show _+1<=_;lia) (fresh λ pa H7 hpa ex7 kpa=>?_);rw[zsS (q:=(ca,zpG c.n p.2 (pOf c.n s) col))]at kpa;refine zdD.hiN (k:=b.k) (.inl (ex7 _ _ (ex6 _ _ (ex3 _ _ (ex2 _ _ hr))))) (by lia) (fresh λ z3 H8 hz3 ex8 kz3=>?_);refine fresh λ z4 H9 hz4 ex9 kz4=>?_;refine zfJ.addL (.inl (ex9 _ _ kz3)) (.inl kz4) (by rw[List.length_take];show _+1<=_;lia) (fresh λ rb Ha hrb exa krb=>?_);refine zfJ.iaddI ?_;have exB:=((ex2.trans ex3).trans (ex6.trans ex7)).trans ((ex8.trans ex9).trans exa);refine q03 (zzR (q:=(ca,zpG c.n p.2 (pOf c.n s) col)) at_) λ q1 q2 q3=>?_;have kca':Ha ca=some (.list (cells c.n (zpG c.n p.2 (pOf c.n s) col))):=exa _ _ (ex9 _ _ (ex8 _ _ (ex7 _ _ (ex6 _ _ (ex3 _ _ kca)))));have KB:=KR.ext (n:=c.n) exB;exact hK' _ rfl ⟨b.x,pa,rb,b.k+1⟩ _ _ (zaX.of rfl) ⟨hs'.take (b.k+1)++[(ca,zpG c.n p.2 (pOf c.n s) col)],_,ca,rfl,exa _ _ (ex9 _ _ (ex8 _ _ kpa)),krb,(hi.kl n2 KB.l).snoc at_ kca' (hpos.2.act (zeP hs) hco) (.move s col o p.2 hs hco),q1,q2.trans fst,by rw[q3];lia,exB,λ q=>by
   have:=(((ex2.trans ex3).trans (ex6.trans ex7)).trans (ex8.trans ex9)) _ _ hl;rw[<- q,hrb]at this;cases this⟩
theorem k3_3 (hL:L1 T.C)(hn:14<=T.n)(hh:T.hd=false)(hm:m<=3000)(hN:N<=50)(J:J3 c m N b H)
  (hK:∀ b' ls' H',zaX (L3 c b') ls'->J3 c (m+2) (N+1) b' H'->K .next ls' H'):wS i_k3 X T ((17,.int kd)::(16,.int r)::(13,.int k)::L3 c b) H R K:=by
 obtain⟨a,hs',rs,lf,p,ea,hp,hr,hl,hi,at_,I,lo,fst,fx,bh,bl,lr⟩:=id J;obtain⟨n2,h5⟩:=I.two;have h25:=zjX h5;have hpos:0<c.n*c.n:=Nat.mul_pos (by exact lq1 n2 rfl) (by exact lq1 n2 rfl);have hps:=hi.pos p (List.mem_of_getElem? at_);refine And.intro (by decide) ?_;refine zdB.bw (Int.fmod_nonneg_of_pos _ (by decide)) (Int.fmod_lt_of_pos _ (by decide)) λ col hc _=>?_;refine And.intro ⟨by decide,zbS (by decide) (by decide)⟩ ?_;refine And.intro (by lia) ?_;refine q12 (fm (a:=r.fdiv 2) (b:=((c.n*c.n:Nat):Int)) (m:=c.n*c.n) rfl hpos) λ s0 hs0 s0l=>?_;rw[hs0];refine yoD Nat (λ s=>(23,.str col)::(20,pn s)::L3 c b) (λ s H'=>s<c.n*c.n/\Ext H H') ?_ λ s H1 h=>k3b_3 hL hn hh hm hN h.1 hc (J.ext h.2) hK;refine zaK (λ _=>?_) (λ _=>⟨s0,zaX.of rfl,s0l,Ext.refl _⟩);refine zaG.range2 (fresh λ ra H1 hra ex1 kra=>?_);refine zfZ.rangeF ra s0 (s0+c.n*c.n) rfl (Nat.le_add_right _ _) kra (by lia) (λ i out H'=>Ext H1 H'/\out=ziA c.n p.2 s0 i) ⟨Ext.refl _,ydY.symm⟩ (λ i out H' hge hlt h=>?_) (λ out H' h=>?_)
 ·obtain⟨ex,rfl⟩:=h
  have hr:=zxQ (n:=c.n) (G:=p.2) hge;refine zdI (ex _ _ (ex1 _ _ hp)) at_ (by lia) ?_;refine And.intro (by lia) ?_;rw[imod];refine zaT (k:=i % (c.n*c.n)) (ex _ _ (ex1 _ _ hps.1)) h5 (Nat.mod_lt _ hpos) ?_;cases hG:p.2 (pOf c.n (i % (c.n*c.n))) with
  | none=>
   refine And.intro (by lia) ?_;rw[imod];rw[hG]at hr;exact⟨ex,hr⟩
  | some c'=>
   rw[hG]at hr;exact⟨ex,hr⟩
 ·obtain⟨ex,rfl⟩:=h
  refine⟨_,Ext.refl _,fresh λ la H2 hla ex2 kla=>?_⟩;refine q12 (zzI (n:=c.n) (lo:=s0) hps.2 n2 s0l) λ j hj hhd=>?_;refine zdB.list kla (by decide) (by decide) (p:=pn j) hhd ?_;exact⟨j,zaX.of rfl,hj,ex1.trans (ex.trans ex2)⟩
end
noncomputable def ypO (p:PV):Bool:=match p with
 | .tup (.ref _::_)=>true
 | _=>false
noncomputable def zvU (l:List PV):Prop:=∃ p,l[0]?=some p/\ypO p=false
section
variable {n m:Nat}{H:zaA}{la z:Addr}{lf:List LE}{l l':List PV}{a:Ad}{G:Pt->Option Str}{hs:List HE}{rs:List PV}
theorem zjT (hl:H la=some (.list (zbO lf)))(h:H z=some (.list l))(nl:zvU l):z≠la:=λ q=>by
 refine q12 nl λ p hp hq=>?_;rw[q,hl]at h;have e:zbO lf=l:=by injection h with h;injection h
 rw[<- e]at hp;unfold zbO at hp;rw[List.getElem?_map]at hp;refine q12 (Option.map_eq_some_iff.mp hp) λ e _ u0=>?_;subst u0;exact Bool.noConfusion hq
theorem yfS (n2:2<=n):zvU (cells n G):=⟨_,zhH (Nat.mul_pos (by exact lq1 n2 rfl) (by exact lq1 n2 rfl)),by cases G (pOf n 0) <;> rfl⟩
theorem yaA (h:hs≠[]):zvU (zeD hs):=by
 cases hs with
 | nil=>exact absurd rfl h
 | cons p hs=>exact⟨.ref p.1,rfl,rfl⟩
theorem B4.updL (I:B4 n a G m H)(hl:H la=some (.list (zbO lf))):B4 n a G m (upd H la (.list l')):=by
 have n2:=I.two.1;obtain⟨e,l,B,em,hd,le⟩:=id I;have nrow:la∉a.rows:=I.nrow hl (zfL n2);have k:∀ {z o},H z=some o->z≠la->upd H la (.list l') z=some o:=λ h q=>by rw[zaD q];exact h
 have no:∀ {z o},H z=some o->(∀ l,o≠.list l)->z≠la:=λ h ho q=>by rw[q,hl]at h;cases h;exact ho _ rfl
 have hd':=k hd (no hd λ l q=>by cases q);refine⟨e,l,⟨k B.inst (no B.inst λ l q=>by cases q),?_,k B.pts (zjT hl B.pts ?_),k B.board (zjT hl B.board ?_),B.len,λ i z h=>k (B.row i z h) λ q=>nrow (q▸List.mem_of_getElem? h),B.nodup,B.lo,B.five,B.bpn,B.bdn⟩,em,hd',le⟩
 ·refine q12 B.attrs λ l2 q1 q2=>?_
  rw[hd]at q1;cases q1;exact⟨l,hd',q2⟩
 ·rw[zhX,zwM n (Nat.lt_succ_of_le B.five),List.map_map]
  have:0<n*n:=Nat.mul_pos (by exact lq1 n2 rfl) (by exact lq1 n2 rfl);exact⟨pt (pOf n 0),by rw[List.getElem?_map,List.getElem?_range this];rfl,rfl⟩
 ·have h0:0<a.rows.length:=by rw[B.len];exact lq1 n2 rfl
  exact⟨.ref a.rows[0],by rw[List.getElem?_map,List.getElem?_eq_getElem h0];rfl,rfl⟩
theorem KC.updL (n2:2<=n)(hl:H la=some (.list (zbO lf))):KC n H (upd H la (.list l')):=λ z G h=>by
 rw[zaD (zjT hl h (yfS n2))];exact h
theorem zbX.updL (h:zbX n a m H lf)(n2:2<=n)(hl:H la=some (.list (zbO lf))):zbX n a m (upd H la (.list l')) lf:=λ e he=>
 let ⟨h1,h2,h3,h4⟩:=h e he;⟨h1.updL hl,KC.updL n2 hl _ _ h2,h3,h4⟩
end
theorem ydT.updL {c:C3}{H:zaA}{la:Addr}{lf:List LE}{l':List PV}(h:ydT c H)(n2:2<=c.n)(hl:H la=some (.list (zbO lf))):ydT c (upd H la (.list l')):=by
 obtain⟨zn,kn,rn,nn,tab⟩:=h;refine⟨KC.updL n2 hl _ _ zn,?_,rn,nn,?_⟩
 ·rw[zaD (zjT hl kn ?_)]
  ·exact kn
  ·refine q21 nn λ i r e=>?_
   exact⟨.int i,by rw[e];rfl,rfl⟩
 ·have k:∀ {z o},H z=some (.raw o)->upd H la (.list l') z=some (.raw o):=λ {z o} h=>by
   rw[zaD λ q=>by rw[q,hl]at h;cases h];exact h
  refine q13 tab λ ps e t r=>?_;exact⟨ps,k e,t,λ pos v q=>let ⟨c,o,vs,t,e1,e2,e3,e4⟩:=r pos v q;⟨c,o,vs,t,e1,e2,k e3,e4⟩⟩
section
variable {T:Tr}{X:String}{H:zaA}{R:LN->zaA->Prop}{K:AFl->LN->zaA->Prop}{c:C3}{m N s:Nat}{b:S3}{k kd r:Int}{col:Str}
theorem zqU {t:IE}{ls:LN}{R:zaA->Prop}{Q:PV->zaA->Prop} (h:w T X t .t ls H R λ p H1'=>match p with
  | .bool b=>Q (.bool (!b)) H1'
  | _=>False):w T X (.un .Not t) .t ls H R Q:=h
theorem ynV {a b:IE}{ls:LN}{R:zaA->Prop}{Q:PV->zaA->Prop} (h:w T X a .t ls H R λ p H1'=>match p with
  | .bool c=>cond c (Q (.bool true) H1') (w T X b .o ls H1' R Q)
  | _=>False):w T X (.boolop .Or (.cons a b)) .t ls H R Q:=h
theorem w_o1 {a b:IE}{ls:LN}{R:zaA->Prop}{Q:PV->zaA->Prop} (h:w T X a .t ls H R λ p H1'=>match p with
  | .bool c=>cond c (Q (.bool true) H1') (w T X b .o ls H1' R Q)
  | _=>False):w T X (.cons a b) .o ls H R Q:=h
theorem k4b_3 (hL:L1 T.C)(hn:14<=T.n)(hh:T.hd=false)(hm:m<=3000)(m22:22<=m)(hN:N<=50){a:Ad}{hs:List HE}{rs:List PV}{lf:List LE}{p q:HE}(ea:a.x=b.x)(hp:H b.pa=some (.list (zeD hs)))(hr:H b.ra=some (.list rs))(hl:H c.la=some (.list (zbO (lf++[(a,p)]))))(hi:zoK c.n H hs rs)(at_:hs[b.k]?=some p)
  (I:B4 c.n a p.2 m H) (lo:zbX c.n a m H lf) (fst:hs[0]?=some (c.sa,c.G0)) (fx:ydT c H) (bh:hs.length<=N+1) (bl:lf.length<=N) (lr:b.ra≠c.la) (hs':hs[s]?=some q) {k17 k16 k13:PV}
  (hK:∀ b' ls' H',zaX (L3 c b') ls'->J3 c (m+2) (N+1) b' H'->K .next ls' H'):wS yoK X T ((21,pn s)::(17,k17)::(16,k16)::(13,k13)::L3 c b) H R K:=by
 have n2:=I.two.1;have hpp:=hi.pos p (List.mem_of_getElem? at_);have hqp:=hi.pos q (List.mem_of_getElem? hs');obtain⟨q1,q2⟩:=zkI hqp.2;refine Exists.intro (.ref zpC) (And.intro (by rw[<- ea];exact I.casesOn λ e l B _ _ _=>B.meth hL mo_co) ?_);rw[<- ea];refine zaE.callK (copy3 (T:=T) hL (by exact lq1 hn rfl) hh I) λ K0 hK0 v H1 h=>?_;refine q15 h ?_;clear h;intro d u0;subst u0;intro I1 ex1 nd nr;refine hK0 _ _ ?_;have KE:=KR.ext (n:=c.n) ex1;have lo1:=(lo.snoc I hpp.2 hpp.1 nd nr).ext ex1;have hi1:=hi.kl n2 KE.l;refine ygY (yhN (ynV (zqU ?_)));refine zdI (ex1 _ _ hp) at_ (by lia) ?_;refine zaE.callK (zhQ (T:=T) hL (by exact lq1 hn rfl) hh hpp.2 I1 (ex1 _ _ hpp.1)) λ K1' hK1 v H2 h=>?_;obtain⟨rfl,ex2⟩:=h;refine hK1 _ _ ?_;dsimp only[zhU,wTr,cond,Bool.not_true];refine w_o1 (zqU ?_);have ex12:=ex1.trans ex2;refine zdI (ex12 _ _ hp) at_ (by omega) ?_;refine zdI (ex12 _ _ hp) hs' (by omega) ?_;have I2:=I1.ext ex2;refine zaE.callK (zmR (T:=T) hL (by exact lq1 hn rfl) hh I2 (by omega) hpp.2.sup hpp.2.val hqp.2.sup hqp.2.val (ex12 _ _ hpp.1) (ex12 _ _ hqp.1)) λ K2' hK2 v H3 h=>?_;obtain⟨rfl,I3,kp⟩:=h;rw[q1]at I3;rw[q2];refine hK2 _ _ ?_;have K3:=(KR.ext (n:=c.n) ex12).trans (I2.kr kp);exact hK ⟨d.x,b.pa,b.ra,s⟩ _ _ (zaX.of rfl) ⟨d,hs,rs,lf++[(a,p)],q,rfl,K3.l _ _ hp (zeV n2),K3.l _ _ hr (hi.rowR n2),K3.l _ _ hl (zfL n2),hi.kl n2 K3.l,hs',I3.mono (by omega),((lo1.ext ex2).keep I2 kp).mono (by omega),fst,fx.kr n2 K3,by exact lqg bh,by rw[List.length_append];exact Nat.add_le_add_right bl 1,lr⟩
theorem k4_3 (hL:L1 T.C)(hn:14<=T.n)(hh:T.hd=false)(hm:m<=3000)(m22:22<=m)(hN:N<=50)(J:J3 c m N b H)
  (hK:∀ b' ls' H',zaX (L3 c b') ls'->J3 c (m+2) (N+1) b' H'->K .next ls' H'):wS i_k4 X T ((17,.int kd)::(16,.int r)::(13,.int k)::L3 c b) H R K:=by
 obtain⟨a,hs,rs,lf,p,ea,hp,hr,hl,hi,at_,I,lo,fst,fx,bh,bl,lr⟩:=J;have n2:=I.two.1;have hlt:=(List.getElem?_eq_some_iff.mp at_).1;have hpl:(zeD hs).length=hs.length:=List.length_map _;refine yoD Nat (λ s=>(21,pn s)::(17,.int kd)::(16,.int r)::(13,.int k)::L3 c b) (λ s H'=>s<hs.length/\H'=H) ?_ ?_
 ·refine zaK (λ _=>?_) (λ _=>?_)
  ·refine And.intro (by show (b.k:Int)+1≠0;lia) ?_
   refine q12 (fm (a:=r) (b:=(b.k:Int)+1) (m:=b.k+1) rfl (by lia)) λ j hj jl=>?_;refine⟨b.k-j,zaX.of ?_,by lia,rfl⟩;rw[show PV.int ((b.k:Int)-r.fmod ((b.k:Int)+1))=pn (b.k-j) from by rw[hj];unfold pn;congr 1;lia]
   rfl
  ·refine zaG.lenL (.inl hp) (by lia) ?_
   rw[hpl];refine And.intro (by show (hs.length:Int)-(b.k:Int)≠0;lia) ?_;refine q12 (fm (a:=r) (b:=(hs.length:Int)-(b.k:Int)) (m:=hs.length-b.k) (by omega) (by omega)) λ j hj jl=>?_;refine⟨b.k+j,zaX.of ?_,by lia,rfl⟩;rw[show PV.int ((b.k:Int)+r.fmod ((hs.length:Int)-(b.k:Int)))=pn (b.k+j) from by rw[hj];unfold pn;congr 1]
   rfl
 rintro s H' ⟨hsl,rfl⟩;refine Exists.intro _ (And.intro (zbQ.append hl) ?_);refine zdI hp at_ (by lia) ?_;refine zaG.append hl (by unfold zbO;rw[List.length_map];exact lq30 bl hN rfl) ?_;rw[<- ea];have e1:zbO lf++[.tup [.ref a.x,.ref p.1]]=zbO (lf++[(a,p)]):=by unfold zbO;rw[List.map_append];rfl
 have KC':=KC.updL (n:=c.n) (l':=zbO lf++[.tup [.ref a.x,.ref p.1]]) n2 hl;have hne:hs≠[]:=λ q=>by rw[q]at hlt;cases hlt
 have k1:=I.updL (l':=zbO lf++[.tup [.ref a.x,.ref p.1]]) hl;have k2:=lo.updL (l':=zbO lf++[.tup [.ref a.x,.ref p.1]]) n2 hl;have k3:=fx.updL (l':=zbO lf++[.tup [.ref a.x,.ref p.1]]) n2 hl;have k4:upd H' c.la (.list (zbO lf++[.tup [.ref a.x,.ref p.1]])) b.pa=some (.list (zeD hs)):=by rw[zaD (zjT hl hp (yaA hne))];exact hp
 have k5:upd H' c.la (.list (zbO lf++[.tup [.ref a.x,.ref p.1]])) b.ra=some (.list rs):=by rw[zaD lr];exact hr
 have k6:upd H' c.la (.list (zbO lf++[.tup [.ref a.x,.ref p.1]])) c.la=some (.list (zbO (lf++[(a,p)]))):=by rw[zaC,e1]
 exact k4b_3 hL hn hh hm m22 hN ea k4 k5 k6 (hi.kc KC') at_ k1 k2 fst k3 bh bl lr (List.getElem?_eq_getElem hsl) hK
theorem redo3 (hL:L1 T.C)(hn:14<=T.n)(hh:T.hd=false)(hm:m<=3000)(hN:N<=50){hs0:List HE}(J:J3 c m N b H)(hp0:H b.pa=some (.list (zeD hs0)))(hlt:b.k+1<hs0.length){k15:PV}
  (hK:∀ ls' H',zaX (L3 c ⟨b.x,b.pa,b.ra,b.k+1⟩) ls'->J3 c (m+2) N ⟨b.x,b.pa,b.ra,b.k+1⟩ H'->H' b.pa=some (.list (zeD hs0))->K .next ls' H'):wS yiK X T ((15,k15)::L3 c b) H R K:=by
 obtain⟨a,hs,rs,lf,p,ea,hp,hr,hl,hi,at_,I,lo,fst,fx,bh,bl,lr⟩:=J;have n2:=I.two.1;have elen:hs0.length=hs.length:=by
  rw[hp]at hp0;have e:zeD hs=zeD hs0:=by injection hp0 with h;injection h
  have:=congrArg List.length e;unfold zeD at this;rw[List.length_map,List.length_map]at this;exact this.symm
 have hrl:=hi.len;have h1:b.k<rs.length:=by lia
 have h2:b.k+1<hs.length:=by exact lq32 elen hlt
 have hpp:=hi.pos p (List.mem_of_getElem? at_);have S:=hi.step b.k _ p _ (List.getElem?_eq_getElem h1) at_ (List.getElem?_eq_getElem h2);have hqp:=hi.pos hs[b.k+1] (List.getElem_mem h2);refine (?_:wS (.seq (.ite (.un .Not (.call (.ref zcT) (.cons (.var 8) (.cons (.var 2) (.cons (.sub (.var 9) (.var 11)) (.cons (.sub (.var 10) (.var 11)) .nil)))))) (.seq (.ret (.bool false)) .skip) .skip) _) X T _ H R K);refine zdI hp at_ (by lia) ?_;refine zdB.list hr (Int.natCast_nonneg _) (by lia) (p:=rs[b.k]) (by rw[Int.toNat_natCast];exact List.getElem?_eq_getElem h1) ?_;rw[<- ea];refine zaE.callK (zjY (T:=T) hL (by exact lq1 hn rfl) hh I hpp.2 (by exact lq2 hm rfl) hpp.1 S) λ K0 hK0 v H1 h=>?_;obtain⟨rfl,I1,kp⟩:=h;refine hK0 _ _ ?_;have K1:=I.kr kp;refine zfJ.iaddI ?_;refine (let L2:LN:=(11,pn (b.k+1))::(15,k15)::L3 c b;(?_:wS _ _ _ L2 _ _ _));have hp1:=K1.l _ _ hp (zeV n2);refine zdI (k:=b.k+1) hp1 (List.getElem?_eq_getElem h2) (by omega) ?_;rw[<- ea];refine zaE.callK (zhQ (T:=T) hL (by exact lq1 hn rfl) hh hqp.2 I1 (K1.l _ _ hqp.1 (.cells n2))) λ K1' hK1 v H2 h=>?_;obtain⟨rfl,ex2⟩:=h;refine hK1 _ _ ?_;have K2:=K1.trans (KR.ext ex2);exact hK _ _ (zaX.of rfl) ⟨a,hs,rs,lf,hs[b.k+1],ea,ex2 _ _ hp1,K2.l _ _ hr (hi.rowR n2),K2.l _ _ hl (zfL n2),hi.kl n2 K2.l,List.getElem?_eq_getElem h2,I1.ext ex2,((lo.keep I kp).ext ex2).mono (by omega),fst,fx.kr n2 K2,bh,bl,lr⟩ (K2.l _ _ hp0 (zeV n2))
theorem k5_3 (hL:L1 T.C)(hn:14<=T.n)(hh:T.hd=false)(hm:m<=2000)(hN:N<=50)(J:J3 c m N b H)
  (hK:∀ b' ls' H',zaX (L3 c b') ls'->J3 c (m+2*(N+1)) (N+1) b' H'->K .next ls' H'):wS i_k5 X T ((17,.int kd)::(16,.int r)::(13,.int k)::L3 c b) H R K:=by
 obtain⟨a,hs,rs,lf,p,ea,hp,hr,hl,hi,at_,I,lo,fst,fx,bh,bl,lr⟩:=id J;have hlt:=(List.getElem?_eq_some_iff.mp at_).1;have hpl:(zeD hs).length=hs.length:=List.length_map _;refine zaG.lenL (.inl hp) (by lia) ?_;rw[hpl];refine And.intro (by show (hs.length:Int)-(b.k:Int)≠0;lia) ?_;refine q12 (fm (a:=r) (b:=(hs.length:Int)-(b.k:Int)) (m:=hs.length-b.k) (by omega) (by omega)) λ j hj jl=>?_;rw[show PV.int (r.fmod ((hs.length:Int)-(b.k:Int)))=pn j from by rw[hj];rfl];refine zaG.range1 (fresh λ ra H1 hra ex1 kra=>?_);refine zkW.range ra j rfl kra (by lia) S3 (L3 c) (λ t b' H'=>b'=⟨b.x,b.pa,b.ra,b.k+t⟩/\J3 c (m+2*t) N b' H'/\H' b.pa=some (.list (zeD hs))) b (zaX.of rfl) ⟨rfl,J.ext ex1,ex1 _ _ hp⟩ ?_ ?_
 ·intro t b' H' ht uu;refine q03 uu ?_;clear uu;intro u0;subst u0;intro J' hp'
  refine zfU λ K' hK'=>?_;exact redo3 hL hn hh (by lia) hN J' hp' (by show b.k+t+1 < _;lia) λ ls' H2 hs J2 hp2=>hK' _ rfl ⟨b.x,b.pa,b.ra,b.k+(t+1)⟩ _ _ hs ⟨rfl,J2,hp2⟩
 ·intro b' H' uu;refine q03 uu ?_;clear uu;intro u0;subst u0;intro J' hp'
  exact hK _ _ _ (zaX.of rfl) (J'.mono (by lia) (by lia))
end
theorem ykH {n k:Nat}(hk:k<4)(n2:2<=n)(h5:n<=5):∃ be:Int,([.int (-1),.int (-n),.int n,.int ((n:Int)+7)]:List PV)[k]?=some (.int be)/\(be<0\/n<=be)/\be<100000:=by
 rcases k with _ | _ | _ | _ | k
 ·exact⟨_,rfl,.inl (by decide),by decide⟩
 ·exact⟨_,rfl,.inl (by lia),by lia⟩
 ·exact⟨_,rfl,.inr (by lia),by exact lq16 h5 rfl⟩
 ·exact⟨_,rfl,.inr (by exact lq15 h5 rfl),by lia⟩
 ·lia
theorem yiS {n k:Nat}(hk:k<3)(h5:n<=5){be:Int}{f:Pt}(hf:inG n f)(hb:be<0\/n<=be)(hb':be<100000):∃ off:Pt,([.tup [.int be,.int f.2],.tup [.int f.1,.int be],.tup [.int be,.int be]]:List PV)[k]?=some (pt off)/\¬ inG n off/\off.1<100000/\off.2<100000:=by
 refine q03 hf λ u0 f3 f4=>?_;obtain⟨f1,f2⟩:=u0;rcases k with _ | _ | _ | k
 ·exact⟨(be,f.2),rfl,λ ⟨⟨q1,q2⟩,q3,q4⟩=>by simp only at q1 q2;lia,hb',by simp only;exact lq13 f4 h5 rfl⟩
 ·exact⟨(f.1,be),rfl,λ ⟨⟨q1,q2⟩,q3,q4⟩=>by simp only at q3 q4;lia,by simp only;exact lq13 f2 h5 rfl,hb'⟩
 ·exact⟨(be,be),rfl,λ ⟨⟨q1,q2⟩,q3,q4⟩=>by simp only at q3 q4;lia,hb',hb'⟩
 ·lia
section
variable {T:Tr}{X:String}{H:zaA}{R:LN->zaA->Prop}{K:AFl->LN->zaA->Prop}{c:C3}{m N s:Nat}{b:S3}{k kd r:Int}{col:Str}
theorem k7_3 (hL:L1 T.C)(hn:14<=T.n)(hh:T.hd=false){cd:Addr}(hcd:T.code=some cd)(LK:zyV T.C cd c.P)(J:J3 c m N b H)
  (hK:∀ b' ls' H',zaX (L3 c b') ls'->J3 c m N b' H'->K .next ls' H'):wS i_k7 X T ((17,.int kd)::(16,.int r)::(13,.int k)::L3 c b) H R K:=by
 obtain⟨a,hs,rs,lf,p,ea,hp,hr,hl,hi,at_,I,lo,fst,fx,bh,bl,lr⟩:=id J;obtain⟨n2,h5⟩:=I.two;refine And.intro (by show (c.n:Int)≠0;exact lq23 n2 rfl) ?_;refine And.intro ⟨by decide,zbS (by decide) (by decide)⟩ (And.intro (by show (c.n:Int)≠0;exact lq23 n2 rfl) ?_);have f1:=@zxH r c.n (by exact lq1 n2 rfl);have f2:=@zxH (r.fdiv 8) c.n (by exact lq1 n2 rfl);refine (?_:wS ynX X T ((26,pt (r.fmod c.n,(r.fdiv 8).fmod c.n))::(17,.int kd)::(16,.int r)::(13,.int k)::L3 c b) H R K);have hf:inG c.n (r.fmod c.n,(r.fdiv 8).fmod c.n):=⟨f1,f2⟩
 generalize (r.fmod c.n,(r.fdiv 8).fmod c.n)=fair at hf ⊢;refine fresh λ l1 H1 hl1 ex1 kl1=>?_;refine And.intro ⟨by decide,zbS (by decide) (by decide)⟩ (And.intro (by decide) ?_);refine q12 (fm (a:=r.fdiv 64) (b:=4) (m:=4) rfl (by decide)) λ j hj j4=>?_;rw[hj];refine q13 (ykH j4 n2 h5) λ be hbe be1 be2=>?_;refine zdB.list kl1 (Int.natCast_nonneg _) (by lia) (p:=.int be) hbe ?_;refine asg ?_;refine zdB.pt1 (z:=fair) ?_;refine zdB.pt0 (z:=fair) ?_;refine fresh λ l2 H2 hl2 ex2 kl2=>?_;refine And.intro ⟨by decide,zbS (by decide) (by decide)⟩ (And.intro (by decide) ?_);refine q12 (fm (a:=r.fdiv 256) (b:=3) (m:=3) rfl (by decide)) λ j' hj' j3=>?_;rw[hj'];refine q14 (yiS j3 h5 hf be1 be2) λ off ho o0 o1 o2=>?_;refine zdB.list kl2 (Int.natCast_nonneg _) (by lia) (p:=pt off) ho ?_;refine asg ?_;have ex:=ex1.trans ex2;have J2:=J.ext ex;have KE:=KR.ext (n:=c.n) ex;refine k7b (rest:=r) (fair:=fair) (off:=off) hL hn hh hcd LK (fx.kr n2 KE).tab (I.ext ex) hf o0 o1 o2 ⟨by rw[ea];rfl,rfl,rfl,rfl⟩ λ H1' H' xe t exF=>?_;exact hK b _ _ (zaX.of rfl) ((J2.extP xe t).ext exF)
theorem turn3 (hL:L1 T.C)(hn:14<=T.n)(hh:T.hd=false){cd:Addr}(hcd:T.code=some cd)(LK:zyV T.C cd c.P)(h4:c.n<=4)(hm:m<=2000)(m22:22<=m)(hN:N<=49)(J:J3 c m N b H)
  (hK:∀ b' ls' H',zaX (L3 c b') ls'->J3 c (m+2*(N+1)) (N+1) b' H'->K .next ls' H'):wS yiE X T ((13,.int k)::L3 c b) H R K:=by
 refine And.intro ⟨by decide,zbS (by decide) (by decide)⟩ (And.intro ⟨by decide,by decide +kernel⟩ (And.intro (by decide +kernel) ?_));generalize Int.fmod (k.fdiv 8) (8 ^ (12:Int).toNat)=r;refine And.intro (by decide) ?_;generalize k.fmod 8=kd;refine yoD S3 (L3 c) (J3 c (m+2*(N+1)) (N+1)) ?_ λ b' H' J'=>?_
 ·refine zwG λ K' hK'=>?_
  have mo:∀ b' ls' H',zaX (L3 c b') ls'->J3 c (m+2) (N+1) b' H'->K' .next ls' H':=λ b' ls' H' hs J'=>hK' _ rfl b' _ _ hs (J'.mono (by lia) (Nat.le_refl _));refine zaK (λ _=>?_) (λ _=>?_)
  ·exact k2_3 hL hn hh h4 (by exact lq2 hm rfl) (by exact lqg hN) J mo
  refine zaK (λ _=>?_) (λ _=>?_)
  ·exact k3_3 hL hn hh (by exact lq2 hm rfl) (by exact lqg hN) J mo
  refine zaK (λ _=>?_) (λ _=>zaK (λ _=>?_) (λ _=>?_))
  ·exact k4_3 hL hn hh (by exact lq2 hm rfl) m22 (by exact lqg hN) J mo
  ·exact k4_3 hL hn hh (by exact lq2 hm rfl) m22 (by exact lqg hN) J mo
  refine zaK (λ _=>?_) (λ _=>?_)
  ·exact k5_3 hL hn hh hm (by exact lqg hN) J λ b' ls' H' hs J'=>hK' _ rfl b' _ _ hs J'
  ·exact k7_3 hL hn hh hcd LK J λ b' ls' H' hs J'=>hK' _ rfl b' _ _ hs (J'.mono (by lia) (by lia))
 ·obtain⟨a,hs,rs,lf,p,ea,hp,hr,hl,hi,at_,I,lo,fst,fx,bh,bl,lr⟩:=id J'
  have hpp:=hi.pos p (List.mem_of_getElem? at_);refine zdI hp at_ (by lia) ?_;rw[<- ea];refine zaE.callK (zhQ (T:=T) hL (by exact lq1 hn rfl) hh hpp.2 I hpp.1) λ K0 hK0 v H2 h=>?_;obtain⟨rfl,ex2⟩:=h;refine hK0 _ _ ?_;exact hK b' _ _ (zaX.of rfl) (J'.ext ex2)
end
section
variable {T:Tr}{X:String}{H:zaA}{R:LN->zaA->Prop}{n m:Nat}{la pa ra P:Addr}{lf:List LE}{hs:List HE}{rs:List PV}{ag:Ad}{ls:LN}
theorem t9_3 (hL:L1 T.C)(hn:14<=T.n)(hh:T.hd=false)(tab:zbK P H)(hl:H la=some (.list (zbO lf)))(all:∀ e∈lf,B4 n e.1 e.2.2 m H/\H e.2.1=some (.list (cells n e.2.2))/\zkD n e.2.2)(hs:zaX [(2,.int n),(3,pn (n*n)),(12,.ref la)] ls)(h12:lkN 12 ls=some (.ref la)):
  wS i_t9 X T ls H R (λ a _ H'=>a=.ret (.bool true)/\zbK P H'):=by
 refine zeC (X:=X) (R:=R ls) h12 ?_;refine zkW.list la (zbO lf) rfl hl Unit (λ _=>[(2,.int n),(3,pn (n*n)),(12,.ref la)]) (λ i _ H'=>Ext H H') () hs (Ext.refl _) (λ i b H' ex=>ex _ _ hl) ?_ ?_
 ·rintro i v u H' hv ex
  refine q12 (zbV hv) λ e he u0=>?_;subst u0;refine q03 (all e (List.mem_of_getElem? he)) λ I hc LP=>?_;obtain⟨n2,h5⟩:=I.two;have I1:=I.ext ex;refine zfU λ K hK=>?_;refine (let L1':LN:=[(19,.ref e.2.1),(18,.ref e.1.x),(2,.int n),(3,pn (n*n)),(12,.ref la)];(?_:wS yhX _ _ L1' _ _ _));refine ygY (yhN (ynV (zqU ?_)));refine zaE.callK (zhQ (T:=T) hL (by exact lq1 hn rfl) hh LP I1 (ex _ _ hc)) λ K1' hK1 v H2 h=>?_;obtain⟨rfl,ex2⟩:=h;refine hK1 _ _ ?_;dsimp only[zhU,wTr,cond,Bool.not_true];refine w_o1 ?_;have ex02:=ex.trans ex2;refine zaG.range1 (fresh λ r1 H3 hr1 ex3 kr1=>?_);refine zkB (m:=n*n) (g:=λ k=>e.2.2 (pOf n k)) kr1 (zjX h5) (λ k hk H4 ex4 K' hK'=>?_) λ H4 ca ex4 hca kca=>?_
  ·obtain⟨e',l,B,-⟩:=I1.ext (ex2.trans (ex3.trans ex4))
   refine Exists.intro (.ref zvG) (And.intro (B.meth hL ykX) ?_);refine And.intro (yfG (by exact lq1 n2 rfl) (by exact lq2 h5 rfl)) ?_;refine And.intro (by exact lq23 n2 rfl) ?_;rw[show (k:Int).fdiv n=(pOf n k).1 from (Int.ofNat_fdiv ..).symm,show (k:Int).fmod n=(pOf n k).2 from (Int.ofNat_fmod ..).symm];refine zaE.callK (ybA (T:=T) hL (by exact lq1 hn rfl) hh B (zeP hk)) λ K2' hK2 v H5 h=>?_;obtain⟨rfl,rfl⟩:=h;exact hK2 _ _ (hK' _ (Ext.refl _))
  ·refine zdH.neD (HD.list' (.inl kca) (zmM LP.strOk _)) (HD.list' (l:=cells n e.2.2) (.inl (ex4 _ _ (ex3 _ _ (ex02 _ _ hc)))) (zmM LP.strOk _)) λ b hb=>?_
   cases b with
   | true=>exact absurd rfl (hb.mp rfl)
   | false=>exact hK _ rfl () _ _ (zaX.of rfl) (ex02.trans (ex3.trans ex4))
 ·rintro u H' ex
  exact⟨rfl,tab.extE ex⟩
theorem t8_3 (hL:L1 T.C)(hn:14<=T.n)(hh:T.hd=false)(tab:zbK P H)(hp:H pa=some (.list (zeD hs)))(hl:H la=some (.list (zbO lf)))(hi:zoK n H hs rs){q:HE}(at_:hs[rs.length]?=some q)(I:B4 n ag q.2 m H)(lo:zbX n ag m H lf)(bh:hs.length<=60)(bl:lf.length<=60):
  wS i_t8 X T [(2,.int n),(3,pn (n*n)),(9,.ref pa),(10,.ref ra),(12,.ref la),(14,.ref ag.x)] H R (λ a _ H'=>a=.ret (.bool true)/\zbK P H'):=by
 have n2:=I.two.1;have hpl:(zeD hs).length=hs.length:=List.length_map _;have hlen:=hi.len;refine Exists.intro _ (And.intro (zbQ.append hl) ?_);refine zaG.lenL (.inl hp) (by exact lq29 hpl bh rfl) ?_;rw[hpl];refine (?_:zdB T (.ref pa) (.int ((hs.length:Int)-1)) H _);rw[show PV.int ((hs.length:Int)-1)=pn rs.length from by unfold pn;congr 1;lia];refine zdI hp at_ (by exact lq2 bh rfl) ?_;refine zaG.append hl (by unfold zbO;rw[List.length_map];exact lq2 bl rfl) ?_;have e1:zbO lf++[.tup [.ref ag.x,.ref q.1]]=zbO (lf++[(ag,q)]):=by unfold zbO;rw[List.map_append];rfl
 rw[e1];have hqp:=hi.pos q (List.mem_of_getElem? at_);refine t9_3 (m:=m) (lf:=lf++[(ag,q)]) hL hn hh ?_ zaC (λ e he=>?_) (zaX.of rfl) rfl
 ·have k:∀ {z o},H z=some (.raw o)->upd H la (.list (zbO (lf++[(ag,q)]))) z=some (.raw o):=λ {z o} h=>by
   rw[zaD λ q=>by rw[q,hl]at h;cases h];exact h
  refine q13 tab λ ps e t r=>?_;exact⟨ps,k e,t,λ pos v q=>let ⟨c,o,vs,t,e1,e2,e3,e4⟩:=r pos v q;⟨c,o,vs,t,e1,e2,k e3,e4⟩⟩
 ·rcases List.mem_append.mp he with he|he
  ·refine q04 (lo e he) λ h1 h2 h3 _=>?_
   exact⟨h1.updL hl,KC.updL n2 hl _ _ h2,h3⟩
  ·rw[List.mem_singleton.mp he]
   exact⟨I.updL hl,KC.updL n2 hl _ _ hqp.1,hqp.2⟩
theorem t7_3 (hL:L1 T.C)(hn:14<=T.n)(hh:T.hd=false)(hm:m<=2000)(tab:zbK P H)(hp:H pa=some (.list (zeD hs)))(hr:H ra=some (.list rs))(hl:H la=some (.list (zbO lf)))(hi:zoK n H hs rs){q:HE}(at_:hs[0]?=some q)(I:B4 n ag q.2 m H)(lo:zbX n ag m H lf)(bh:hs.length<=60)(bl:lf.length<=60)
  (hsb:zaX [(2,.int n),(3,pn (n*n)),(9,.ref pa),(10,.ref ra),(12,.ref la),(14,.ref ag.x)] ls) (h10:lkN 10 ls=some (.ref ra)):
  wS i_t7 X T ls H R (λ a _ H'=>a=.ret (.bool true)/\zbK P H'):=by
 have n2:=I.two.1;have hlen:=hi.len;refine zeC (X:=X) (R:=R ls) h10 ?_;refine zaG.lenL (.inl hr) (by lia) ?_;refine zaG.range1 (fresh λ r1 H1 hr1 ex1 kr1=>?_);refine zkW.range r1 rs.length rfl kr1 (by lia) Unit (λ _=>[(2,.int n),(3,pn (n*n)),(9,.ref pa),(10,.ref ra),(12,.ref la),(14,.ref ag.x)]) (λ t _ H'=>∃ q,hs[t]?=some q/\B4 n ag q.2 (m+2*t) H'/\zbX n ag m H' lf/\KR n H H') () hsb ⟨q,at_,I.ext ex1,lo.ext ex1,KR.ext ex1⟩ ?_ ?_
 ·intro t u H' ht uu;refine q14 uu λ q hq I' lo' K'=>?_
  refine zfU λ K hK=>?_;refine (let L1':LN:=[(15,pn t),(2,.int n),(3,pn (n*n)),(9,.ref pa),(10,.ref ra),(12,.ref la),(14,.ref ag.x)];(?_:wS zxE _ _ L1' _ _ _));have h2:t+1<hs.length:=by lia
  have hqp:=hi.pos q (List.mem_of_getElem? hq);have S:=(hi.step t _ q _ (List.getElem?_eq_getElem ht) hq (List.getElem?_eq_getElem h2)).kl n2 K'.l;refine zdI (K'.l _ _ hp (zeV n2)) hq (by exact lq2 bh rfl) ?_;refine zdB.list (K'.l _ _ hr (hi.rowR n2)) (Int.natCast_nonneg _) (by lia) (p:=rs[t]) (by rw[Int.toNat_natCast];exact List.getElem?_eq_getElem ht) ?_;refine zaE.callK (zjY (T:=T) hL (by exact lq1 hn rfl) hh I' hqp.2 (by lia) (K'.l _ _ hqp.1 (.cells n2)) S) λ K0 hK0 v H2 h=>?_;obtain⟨rfl,I2,kp⟩:=h;refine hK0 _ _ ?_;exact hK _ rfl () _ _ (zaX.of rfl) ⟨_,List.getElem?_eq_getElem h2,I2,lo'.keep I' kp,K'.trans (I'.kr kp)⟩
 ·intro u H' uu;refine q14 uu λ q hq I' lo' K'=>?_
  exact t8_3 (m:=m+2*rs.length) hL hn hh (tab.kr K') (K'.l _ _ hp (zeV n2)) (K'.l _ _ hl (zfL n2)) (hi.kl n2 K'.l) hq I' (lo'.mono (by lia)) bh bl
end
section
variable {T:Tr}{X:String}{H:zaA}{R:LN->zaA->Prop}{K:AFl->LN->zaA->Prop}{c:C3}{m N s:Nat}{b:S3}
theorem t6_3 (hL:L1 T.C)(hn:14<=T.n)(hh:T.hd=false)(hm:m<=2000)(m12:12<=m)(hN:N<=50){a:Ad}{hs:List HE}{rs:List PV}{lf:List LE}{p:HE}(hp:H b.pa=some (.list (zeD hs)))(hr:H b.ra=some (.list rs))(hl:H c.la=some (.list (zbO (lf++[(a,p)]))))(hi:zoK c.n H hs rs)(at_:hs[b.k]?=some p)
  (I:B4 c.n a p.2 m H) (lo:zbX c.n a m H lf) (fst:hs[0]?=some (c.sa,c.G0)) (fx:ydT c H) (bh:hs.length<=N+1) (bl:lf.length<=N):wS i_t6 X T (L3 c b) H R (λ a _ H'=>a=.ret (.bool true)/\zbK c.P H'):=by
 obtain⟨n2,h5⟩:=I.two;have hpp:=hi.pos p (List.mem_of_getElem? at_);have hfp:=hi.pos _ (List.mem_of_getElem? fst);obtain⟨q1,q2⟩:=zkI hfp.2;refine zsL (T:=T) hL (by exact lq1 hn rfl) hh n2 h5 λ d H1 I1 ex1 nd nr=>?_;refine asg ?_;have lo1:=(lo.snoc I hpp.2 hpp.1 nd nr).ext ex1;refine zaE.callK (zmR (T:=T) hL (by exact lq1 hn rfl) hh I1 (by lia) (λ z h=>absurd rfl h) (λ z s h=>by cases h) hfp.2.sup hfp.2.val (ex1 _ _ fx.zn) (ex1 _ _ hfp.1)) λ K2' hK2 v H3 h=>?_;obtain⟨rfl,I3,kp⟩:=h;rw[show zcA c.n c.G0=c.G0 from q1]at I3;rw[show zoX c.n c.G0=true from q2];refine hK2 _ _ ?_;have K3:=(KR.ext (n:=c.n) ex1).trans (I1.kr kp)
 show wS i_t7 X T ((14,.ref d.x)::L3 c b) H3 R _
 refine t7_3 (m:=m) (lf:=lf++[(a,p)]) (ag:=d) hL hn hh hm (fx.kr n2 K3).tab (K3.l _ _ hp (zeV n2)) (K3.l _ _ hr (hi.rowR n2)) (K3.l _ _ hl (zfL n2)) (hi.kl n2 K3.l) fst (I3.mono (by exact m12)) (lo1.keep I1 kp) (by omega) (by rw[List.length_append];show _+1<=_;omega) ?_ ?_
 ·exact zaX.of rfl
 ·rfl
theorem t5b_3 (hL:L1 T.C)(hn:14<=T.n)(hh:T.hd=false)(hm:m<=2000)(m12:12<=m)(hN:N<=50)(J:J3 c m N b H){Q:AFl->LN->zaA->Prop}(hQ:Q=λ a _ H'=>a=.ret (.bool true)/\zbK c.P H'):
  wS (.seq (.expr (.meth (.var 12) "append" (.cons (.tup (.cons (.var 8) (.cons (.sub (.var 9) (.var 11)) .nil))) .nil))) i_t6) X T (L3 c b) H R Q:=by
 subst hQ;obtain⟨a,hs,rs,lf,p,ea,hp,hr,hl,hi,at_,I,lo,fst,fx,bh,bl,lr⟩:=J;have n2:=I.two.1;have hlt:=(List.getElem?_eq_some_iff.mp at_).1;refine Exists.intro _ (And.intro (zbQ.append hl) ?_);refine zdI hp at_ (by lia) ?_;refine zaG.append hl (by unfold zbO;rw[List.length_map];exact lq30 bl hN rfl) ?_;rw[<- ea];have e1:zbO lf++[.tup [.ref a.x,.ref p.1]]=zbO (lf++[(a,p)]):=by unfold zbO;rw[List.map_append];rfl
 have hne:hs≠[]:=λ q=>by rw[q]at hlt;cases hlt
 have k4:upd H c.la (.list (zbO lf++[.tup [.ref a.x,.ref p.1]])) b.pa=some (.list (zeD hs)):=by rw[zaD (zjT hl hp (yaA hne))];exact hp
 have k5:upd H c.la (.list (zbO lf++[.tup [.ref a.x,.ref p.1]])) b.ra=some (.list rs):=by rw[zaD lr];exact hr
 have k6:upd H c.la (.list (zbO lf++[.tup [.ref a.x,.ref p.1]])) c.la=some (.list (zbO (lf++[(a,p)]))):=by rw[zaC,e1]
 exact t6_3 hL hn hh hm m12 hN k4 k5 k6 (hi.kc (KC.updL n2 hl)) at_ (I.updL hl) (lo.updL n2 hl) fst (fx.updL n2 hl) bh bl
end
theorem sz2 (a:Int):∃ n:Nat,a.fmod 3+2=(n:Int)/\2<=n/\n<=4:=by
 refine q12 (fm (a:=a) (b:=3) (m:=3) rfl (by decide)) λ k e l=>?_;exact⟨k+2,by rw[e];rfl,Nat.le_add_left _ _,Nat.add_le_add_right (Nat.le_of_lt_succ l) 2⟩
theorem nums2 (xs:List Int):∃ a b:Int,((xs.take 2++[0,0]).map PV.int)[0]?=some (.int a)/\((xs.take 2++[0,0]).map PV.int)[1]?=some (.int b):=by
 rcases xs with _ | ⟨a,_ | ⟨b,l⟩⟩
 ·exact⟨0,0,rfl,rfl⟩
 ·exact⟨a,0,rfl,rfl⟩
 ·exact⟨a,b,rfl,rfl⟩
theorem zzP {n:Nat}:List.replicate (n*n) PV.none=cells n λ _=>none:=by
 unfold cells;rw[List.map_const'];rw[List.length_range];rfl
section
variable {T:Tr}{X:String}{H:zaA}{n m:Nat}{xs:List Int}{N:Int}{nu sa za pa ra la P cd:Addr}{G0:Pt->Option Str}{a:Ad}{ls:LN}
theorem t5_3 (hL:L1 T.C)(hn:14<=T.n)(hh:T.hd=false)(hcd:T.code=some cd)(LK:zyV T.C cd P)(h4:n<=4)(hsc:T.C.scL=xs.map PV.int)(hlen:xs.length<=63)(tab:zbK P H)(I:B4 n a G0 30 H)(P0:zkD n G0)(ks:H sa=some (.list (cells n G0)))(kz:H za=some (.list (cells n λ _=>none)))
  (kp:H pa=some (.list [.ref sa])) (kr:H ra=some (.list [])) (kl:H la=some (.list [])) (lr:ra≠la) (h0:lkN 0 ls=some (.ref T.C.scA))
  (hsb:zaX [(2,.int n),(3,pn (n*n)),(5,.ref sa),(7,.ref za),(8,.ref a.x),(9,.ref pa),(10,.ref ra),(11,pn 0),(12,.ref la)] ls):
  wS i_t5 X T ls H zqB (λ a _ H'=>a=.ret (.bool true)/\zbK P H'):=by
 have n2:=I.two.1;refine zeC (X:=X) (R:=λ _=>False) h0 ?_;refine zdD.mk (.inr ⟨rfl,hsc.symm⟩) (by rw[List.length_map];exact Nat.le_trans hlen (by decide)) (fresh λ z1 H1 hz1 ex1 kz1=>?_);rw[zwF _ (by decide) (by decide),<- List.map_take,<- List.map_drop]at kz1;refine fresh λ z2 H2 hz2 ex2 kz2=>?_;have hsl:((xs.take (10:Int).toNat).drop (2:Int).toNat).length<=8:=by rw[List.length_drop];exact Nat.sub_le_sub_right (List.length_take_le _ _) 2
 generalize (xs.take (10:Int).toNat).drop (2:Int).toNat=ys at kz1 hsl;refine zfJ.addL (.inl (ex2 _ _ kz1)) (.inl kz2) (by rw[List.length_map];exact Nat.le_trans (Nat.add_le_add_right hsl 3) (by decide)) (fresh λ na H3 hna ex3 kna=>?_);have kna:H3 na=some (.list ((ys++[3,12,13]).map PV.int)):=by rw[kna,List.map_append];rfl
 have hzl:(ys++[(3:Int),12,13]).length<=11:=by rw[List.length_append];exact Nat.add_le_add_right hsl 3
 have hz0:∃ i r,(ys++[(3:Int),12,13]).map PV.int=.int i::r:=by
  cases ys with
  | nil=>exact⟨_,_,rfl⟩
  | cons y ys=>exact⟨_,_,rfl⟩
 generalize ys++[(3:Int),12,13]=zs at kna hzl hz0;have ex:=(ex1.trans ex2).trans ex3;refine zkW.list na _ rfl kna S3 (L3 ⟨n,sa,za,la,na,zs.map PV.int,P,G0⟩) (λ i b H'=>J3 ⟨n,sa,za,la,na,zs.map PV.int,P,G0⟩ (60+24*i) i b H') ⟨a.x,pa,ra,0⟩ hsb ?_ (λ i b H' h=>by obtain⟨_,_,_,_,_,_,_,_,_,_,_,_,_,_,fx,_⟩:=h;exact fx.kn) (λ i w b H' hw J=>?_) (λ b H' J=>?_)
 ·exact⟨a,[(sa,G0)],[],[],(sa,G0),rfl,ex _ _ kp,ex _ _ kr,ex _ _ kl,zoK.first (ex _ _ ks) P0,rfl,(I.ext ex).mono (by lia),(λ e he=>by cases he),rfl,⟨ex _ _ kz,kna,.map n2 λ _=>rfl,hz0,tab.extE ex⟩,by simp,by simp,lr⟩
 ·have hi:=(List.getElem?_eq_some_iff.mp hw).1
  rw[List.length_map]at hi;refine q12 (zbV hw) λ k hk u0=>?_;subst u0;exact turn3 hL hn hh hcd LK h4 (by lia) (by lia) (by lia) J λ b' ls H' hs J'=>⟨b',hs,J'.mono (by lia) (Nat.le_refl _)⟩
 ·rw[List.length_map]at J
  exact t5b_3 hL hn hh (by lia) (by lia) (by exact lq2 hzl rfl) J rfl
theorem t4_3 (hL:L1 T.C)(hn:14<=T.n)(hh:T.hd=false)(hcd:T.code=some cd)(LK:zyV T.C cd P)(h4:n<=4)(hsc:T.C.scL=xs.map PV.int)(hlen:xs.length<=63)(tab:zbK P H)(I:B4 n a G0 30 H)(P0:zkD n G0)(ks:H sa=some (.list (cells n G0)))(kz:H za=some (.list (cells n λ _=>none))){p6 p5 p4:PV}:
  wS i_t4 X T [(8,.ref a.x),(7,.ref za),(5,.ref sa),(6,p6),(5,p5),(4,p4),(3,pn (n*n)),(2,.int n),(1,.ref nu),(0,.ref T.C.scA)] H zqB (λ a _ H'=>a=.ret (.bool true)/\zbK P H'):=by
 refine fresh λ pa H1 hpa ex1 kp=>?_;refine asg ?_;refine fresh λ ra H2 hra ex2 kr=>?_;refine asg ?_;refine (?_:wS (.seq (.assign (.var 12) (.list .nil)) i_t5) X T ((11,pn 0)::_) H2 zqB _);refine fresh λ la H3 hla ex3 kl=>?_;refine asg ?_;have ex:=(ex1.trans ex2).trans ex3;refine t5_3 (a:=a) (sa:=sa) (za:=za) (pa:=pa) (ra:=ra) (la:=la) hL hn hh hcd LK h4 hsc hlen (tab.extE ex) (I.ext ex) P0 (ex _ _ ks) (ex _ _ kz) (ex3 _ _ (ex2 _ _ kp)) (ex3 _ _ kr) kl (λ q=>by rw[q]at kr;rw[kr]at hla;cases hla) ?_ ?_
 ·rfl
 ·exact zaX.of rfl
theorem t3_3 (hL:L1 T.C)(hn:14<=T.n)(hh:T.hd=false)(hcd:T.code=some cd)(LK:zyV T.C cd P)(n2:2<=n)(h4:n<=4)(hsc:T.C.scL=xs.map PV.int)(hlen:xs.length<=63)(tab:zbK P H)(P0:zkD n G0)(ks:H sa=some (.list (cells n G0))){p6 p5 p4:PV}:
  wS i_t3 X T [(5,.ref sa),(6,p6),(5,p5),(4,p4),(3,pn (n*n)),(2,.int n),(1,.ref nu),(0,.ref T.C.scA)] H zqB (λ a _ H'=>a=.ret (.bool true)/\zbK P H'):=by
 have h5:n<=5:=Nat.le_succ_of_le h4;have h25:=zjX h5;refine fresh λ z1 H1 hz1 ex1 kz1=>?_;refine zfJ.mulL kz1 (Int.natCast_nonneg _) (by exact lq15 h25 rfl) (fresh λ za H2 hza ex2 kza=>?_);rw[Int.toNat_natCast,zzP]at kza;refine asg ?_;refine zsL (T:=T) hL (by exact lq1 hn rfl) hh n2 h5 λ a H3 I3 ex3 nd nr=>?_;refine asg ?_;have ex:=(ex1.trans ex2).trans ex3;obtain⟨q1,q2⟩:=zkI P0;refine zaE.callK (zmR (T:=T) hL (by exact lq1 hn rfl) hh I3 (by lia) (λ z h=>absurd rfl h) (λ z s h=>by cases h) P0.sup P0.val (ex3 _ _ kza) (ex _ _ ks)) λ K2' hK2 v H4 h=>?_;obtain⟨rfl,I4,kp⟩:=h;rw[q1]at I4;rw[q2];refine hK2 _ _ ?_;have K4:=I3.kr kp
 show wS i_t4 X T [(8,.ref a.x),(7,.ref za),(5,.ref sa),(6,p6),(5,p5),(4,p4),(3,pn (n*n)),(2,.int n),(1,.ref nu),(0,.ref T.C.scA)] H4 zqB (λ a _ H'=>a=.ret (.bool true)/\zbK P H')
 exact t4_3 hL hn hh hcd LK h4 hsc hlen ((tab.extE ex).kr K4) (I4.mono (by omega)) P0 (K4.l _ _ (ex _ _ ks) (.cells n2)) (K4.l _ _ (ex3 _ _ kza) (.cells n2))
theorem t2_3 (hL:L1 T.C)(hn:14<=T.n)(hh:T.hd=false)(hcd:T.code=some cd)(LK:zyV T.C cd P)(n2:2<=n)(h4:n<=4)(hsc:T.C.scL=xs.map PV.int)(hlen:xs.length<=63)(tab:zbK P H){A:Pt->Option Str}(sA:∀ z,A z≠none->inG n z)(vA:∀ z s,A z=some s->BW s){aa:Addr}(ka:H aa=some (.list (cells n A))){p4:PV}:
  wS i_t2 X T [(5,.ref aa),(4,p4),(3,pn (n*n)),(2,.int n),(1,.ref nu),(0,.ref T.C.scA)] H zqB (λ a _ H'=>a=.ret (.bool true)/\zbK P H'):=by
 have h5:n<=5:=Nat.le_succ_of_le h4;have h25:=zjX h5;refine zaE.callK (zfD (T:=T) hL (by exact lq1 hn rfl) hh n2 h5 ka (yeQ vA)) λ K0 hK0 v H1 h=>?_;obtain⟨da,f,rfl,ex1,hda,kda,hf⟩:=h;refine hK0 _ _ ?_;refine asg ?_;refine zaG.range1 (fresh λ r1 H2 hr1 ex2 kr1=>?_);refine zkB (m:=n*n) (g:=λ k=>zcA n A (pOf n k)) kr1 h25 (λ i hi H' ex K' hK'=>?_) λ H3 ca ex3 hca kca=>?_
 ·refine zdH.inL (.inl (ex _ _ (ex2 _ _ kda))) (zgM _) HD.int' λ b hb=>?_
  have hm:i∈(List.range (n*n)).filter f↔zuN n A i:=by rw[List.mem_filter,List.mem_range];exact⟨λ h=>(hf i hi).mp h.2,λ h=>⟨hi,(hf i hi).mpr h⟩⟩
  refine yaF (hb.trans (zgG.trans hm)) (λ q=>?_) (λ q=>?_)
  ·have:=hK' H' (Ext.refl _)
   rw[(zmT hi).1 q]at this;exact this
  ·refine zaT (k:=i) (ex _ _ (ex2 _ _ (ex1 _ _ ka))) h5 hi ?_
   have:=hK' H' (Ext.refl _);rw[(zmT hi).2 q]at this;exact this
 refine asg ?_;exact t3_3 hL hn hh hcd LK n2 h4 hsc hlen (tab.extE (ex1.trans (ex2.trans ex3))) (ztS sA vA) kca
theorem t1_3 (hL:L1 T.C)(hn:14<=T.n)(hh:T.hd=false)(hcd:T.code=some cd)(LK:zyV T.C cd P)(n2:2<=n)(h4:n<=4)(hsc:T.C.scL=xs.map PV.int)(hlen:xs.length<=63)(tab:zbK P H){c:Int}{nl:List PV}(kn:H nu=some (.list nl))(hc:nl[1]?=some (.int c)):
  wS i_t1 X T [(3,pn (n*n)),(2,.int n),(1,.ref nu),(0,.ref T.C.scA)] H zqB (λ a _ H'=>a=.ret (.bool true)/\zbK P H'):=by
 have h5:n<=5:=Nat.le_succ_of_le h4;have h16:n*n<=16:=Nat.mul_le_mul h4 h4;refine zdB.list kn (by decide) (by decide) hc ?_;obtain⟨w1,w2⟩:=powK 3 ypF (k:=n*n) (by exact lq3 h16 rfl);refine And.intro w1 (And.intro (w2 0).1 ?_);generalize Int.fmod c (3 ^ ((n*n:Nat):Int).toNat)=N;refine asg ?_;refine zaG.range1 (fresh λ ra H1 hra ex1 kra=>?_);refine zuG (n:=n) kra (by exact lq2 h16 rfl) (λ i hi H' ex K' hK'=>?_) λ H2 aa A sA vA ex2 kaa=>?_
 ·refine fresh λ qa H3 hqa ex3 kqa=>?_
  obtain⟨w1,w2⟩:=powK 3 ypF (k:=i) (by exact lq30 (by assumption) h16 rfl);refine And.intro w1 (And.intro (w2 _) (And.intro (by decide) ?_));refine q12 (fm (a:=N.fdiv (3 ^ (i:Int).toNat)) (b:=3) (m:=3) rfl (by decide)) λ j hj j3=>?_;rw[hj];refine zdB.list kqa (Int.natCast_nonneg _) (by lia) (p:=cell (thr j)) (ymP j3) ?_;exact hK' _ _ (λ s h=>ynN h) ex3
 refine asg ?_;exact t2_3 hL hn hh hcd LK n2 h4 hsc hlen (tab.extE (ex1.trans ex2)) sA vA kaa
theorem law_spec (hL:L1 T.C)(hn:14<=T.n)(hh:T.hd=false)(hcd:T.code=some cd)(LK:zyV T.C cd P)(hsc:T.C.scL=xs.map PV.int)(hlen:xs.length<=63)(tab:zbK P H):
  wS ymJ X T [(0,.ref T.C.scA)] H zqB (λ a _ H'=>a=.ret (.bool true)/\zbK P H'):=by
 refine q22 (nums2 xs) λ a b e0 e1=>?_;refine zdD.mk (.inr ⟨rfl,hsc.symm⟩) (by rw[List.length_map];exact Nat.le_trans hlen (by decide)) (fresh λ z1 H1 hz1 ex1 kz1=>?_);rw[ztQ _ (by decide),<- List.map_take]at kz1;refine fresh λ z2 H2 hz2 ex2 kz2=>?_;refine zfJ.addL (.inl (ex2 _ _ kz1)) (.inl kz2) (by rw[List.length_map];exact Nat.le_trans (Nat.add_le_add_right (List.length_take_le _ _) 2) (by decide)) (fresh λ nu H3 hnu ex3 kn=>?_);have kn:H3 nu=some (.list ((xs.take 2++[0,0]).map PV.int)):=by rw[kn,List.map_append];rfl
 refine zdB.list kn (by decide) (by decide) e0 ?_;refine And.intro (by decide) ?_;refine q13 (sz2 a) λ n hnn n2 n4=>?_;refine And.intro (by rw[hnn];exact zkQ (Nat.le_succ_of_le n4)) ?_;rw[hnn];rw[show (n:Int)*n=((n*n:Nat):Int) from (Int.natCast_mul n n).symm];refine asg ?_;exact t1_3 hL hn hh hcd LK n2 n4 hsc hlen (tab.extE ((ex1.trans ex2).trans ex3)) kn e1
end
theorem zzO {p:Program}{loose:List Str}{mean:ExcName->Option Value}{mg mb:Str->Option Value}{h:Heap}{c P:Addr}(hT:TabsAt [(c,P)] h)(T:Top p loose mean mg mb h):(ghostOf h [(c,P)]).BuiltinsAt mg P:=by
 have T':=ghost_top hT T;refine q21 T'.bmain λ bm ob u8=>q06 u8 λ b1 b2 b3 b4 b5 b6=>?_;refine⟨bm,ob,b1,b2,λ q=>?_,λ q=>?_,b3,b4,b5,b6⟩
 ·refine q31 T'.g λ o es ep u8=>q03 u8 λ e hd r=>?_
  rw[<- q,b3]at e;cases e;rw[b6]at hd;cases hd
 ·have e:(ghostOf h [(c,P)]).get? P=none:=hideAll_none _ (List.mem_cons_self ..)
  rw[q,e]at b3;cases b3
theorem lamK_ghost {C:Cx}{p:Program}{loose:List Str}{mean:ExcName->Option Value}{mb:Str->Option Value}{h:Heap}{c P:Addr}(hT:TabsAt [(c,P)] h)(T:Top p loose mean C.mg mb h)(hh:C.h₀=ghostOf h [(c,P)]):zyV C c P:=
 ⟨by rw[hh];exact (ghost_code hT).1,by rw[hh];exact zzO hT T⟩
noncomputable def ygV (P:Addr):zaA:=upd (λ _=>none) P (.raw (tabObj #[]))
theorem hTab_ok {P:Addr}:zbK P (ygV P):=⟨#[],zaC,trivial,λ pos v h=>by cases h⟩
theorem rep_ghost {C C0:Cx}{c P:Addr}{f:FR}{s:Shared}(ok:C.Ok)(R:Rep C0 [.fr f] (λ _=>none) s)(hT:TabsAt [(c,P)] C0.h₀)(hh:C.h₀=ghostOf C0.h₀ [(c,P)])(ho:C.os=C0.os)(hs:sysModules<P):Rep C [.fr f] (ygV P) s:=by
 have hP:=(hT (c,P) (.head _)).2;refine⟨ok,λ b o e=>R.keep b o ?_,R.gens,R.os.trans ho.symm,λ g hg=>⟨(R.frs g hg).1,λ a ha=>?_⟩,R.apart,λ a o e=>?_⟩
 ·rw[hh]at e;exact of_hideAll _ e
 ·rw[hh];exact ghost_fresh ((R.frs g hg).2 a ha)
 ·by_cases q:a=P
  ·subst q
   have e':ygV a a=some (.raw (tabObj #[])):=zaC;rw[e']at e;cases e;refine⟨⟨R.keep _ _ hP,zbR.fields rfl⟩,⟨by rw[hh];exact hideAll_none _ (List.mem_cons_self ..),hs⟩,λ g hg ha=>?_⟩;have:=(R.frs g hg).2 a ha;rw[hP]at this;cases this
  ·have e':ygV P a=none:=zaD q
   rw[e']at e;cases e
theorem law_axP {cd:Option Addr}{C:Cx}{G:GT}{names:List Str}{g P:Addr}{fd:FuncData}{body:List Stmt}{ir:IS}{X:String}(GO:GOk C G)(nd:names.Nodup)(D:zeM C.K g fd ["script"] body)(hp:names.take 1=[("script" : Str)])
  (hm:mS G names fd.scope.names ir false true body=true) (hs:ir.isSt=false) (h:wS ir X ⟨C,30,false,[],cd⟩ [(0,.ref C.scA)] (ygV P) zqB (λ a _ H'=>a=.ret (.bool true)/\zbK P H')):
  ∀ env,env.scope=fd.scope->AX ⟨C,30,false,[],cd⟩ env [] [("script",.ref C.scA)] (ygV P) body (λ a _ H'=>a=.ret (.bool true)/\zbK P H') NoE:=λ env he=>by
 refine AX.mono (zaQ.ax (zxM nd ir) (T:=⟨C,30,false,[],cd⟩) (E:=NoE) hs GO (by rw[he];exact D.kind) (congrArg Scope.names he) hm (ybO (nms:=[("script" : Str)]) (ps:=[.ref C.scA]) nd hp rfl) zuF (λ _ e s hx=>by
  rcases hx with ⟨a,ls,H,s1,_,_,_,_,⟨l,cv,hx⟩,_⟩|⟨ls,a,H,s1,B,a0,x1,x2,x3,x4,⟨l,cv,hx⟩,x6⟩|⟨ls,a,H,s1,B,a0,x1,x2,x3,x4,⟨l,cv,hx⟩,x6⟩
  ·exact hx.elim
  ·exact hx.elim
  ·exact hx.elim) h) ?_
 intro a ls H' uu;refine q12 uu λ l cv hq=>?_
 exact hq
theorem law_endP {cd:Option Addr}{C:Cx}{A:Around}{env:Env}{s:Shared}{P:Addr}{body:List Stmt}(hA:A.frames=some [env])(hd:A.depth<=400)(hu:A.units<=100)(hn:A.handled=none)(hcd:∀ c,cd=some c->env.code=.ref c/\env.qual = "law.<locals>.")
  (R:Rep C [.fr ⟨.fn,env,[("script",.ref C.scA)]⟩] (ygV P) s)
  (h:AX ⟨C,30,false,[],cd⟩ env [] [("script",.ref C.scA)] (ygV P) body (λ a _ H'=>a=.ret (.bool true)/\zbK P H') NoE)
  {Q:Flow->Shared->Prop} {E:Value->Shared->Prop} (hQ:∀ s',(∀ b o,C.h₀.get? b=some o->s'.heap.get? b=some o)->s'.os=C.os->s'.gens=#[]->GrownAt P s'.heap->Q (.ret (.bool true)) s'):
  wpAny (model C.prog C.w) A (execs body env) Q E s:=by
 refine wpAny_mono (h A s ⟨hA,by show A.depth+4*30+10<=1000;lia,by show A.units+20*30+100<=9900;lia,λ _=>hn,(λ v e=>by rw[hn]at e;cases e),⟨λ f hf=>(nomatch hf),λ f r c e hc q=>by cases e;exact hcd c q⟩⟩ R) (λ fl s' pp=>pp.elim λ a ls' H' fr R' k' hq=>?_) λ _ _ x=>x.elim;refine q02 hq ?_;clear hq;intro u0;subst u0;intro u8;refine q12 u8 ?_;clear u8;intro ps hP _;cases fl with
 | ret v=>
  have:v=.bool true:=PR.bool_inv (h:=s'.heap) fr;subst this;exact hQ s' R'.keep R'.os R'.gens ⟨ps,(R'.objs P _ hP).1.1⟩
 | next=>exact fr.elim
 | brk=>exact fr.elim
 | cont=>exact fr.elim
theorem ygC {h h':Heap}{xs:List Int}:∀ {vs:List Value},PRs h (xs.map PV.int) vs->PRs h' (xs.map PV.int) vs:=by
 induction xs with
 | nil=>exact λ h=>h
 | cons x xs ih=>exact λ u9=>q23 u9 λ v r e p q=>⟨v,r,e,p,ih q⟩
theorem script_at' {P:Params}{h:Heap}{tabs:List (Addr×Addr)}(hT:TabsAt tabs h){a:Addr}{vs:List Value}{xs:List Int}(w:Well P h (.ref a) (ofPy (PyData.list (xs.map PyData.int))))(hL:h.IsList a vs.toArray)(hI:IntsAre vs xs):∃ vs n,IsL (ghostOf h tabs) a vs n/\PRs (ghostOf h tabs) (xs.map PV.int) vs.toList:=by
 refine q22 (script_at w hL hI) λ vs' n il r=>?_;exact⟨vs',n,ghost_get hT il (λ q=>by cases q),ygC r⟩
end AM.Internal
theorem PySem.Challenge.cw_md0058_03_holds : PySem.Challenge.rw_md0058_03.Holds := by
 w_on; refine holds_law (by decide +kernel) λ said => ?_
 refine holds_open (q := AM.Internal.viewQ) (loose := AM.Internal.looseK) (Xt := λ s => xlAt AM.Internal.viewQ [] s && recOk (RowW.records (PySem.Challenge.rw_md0058_03.row.toRowW)) s) (XP := XL AM.Internal.viewQ []) (Yf := Hook.obs AM.Internal.hookK) (Ya := Hook.val AM.Internal.hookK) (YP := Hook.says AM.Internal.hookK) (N := AM.Internal.stepsK) ?hl (Hook.of AM.Internal.hookK) (Hook.keeps AM.Internal.hookK) (λ s e => xl_of s (Bool.and_eq_true_iff.mp e).1) XL.keeps (by rfl) (by rfl) (by rfl) (λ s e => recFacts_of (Bool.and_eq_true_iff.mp e).2) (by rfl) (by assumption) (by decide +kernel) ⟨rfl, rfl, rfl, rfl, rfl, by decide +kernel⟩ ?hw ?hc
 case hl => refine LeftO.of_split "special-get-raises" ?_; intro w; kernel_rfl
 case hw => exact ⟨[.list []], by decide +kernel, by decide +kernel⟩
 generalize hvq : AM.Internal.viewQ = vq
 generalize hlk : AM.Internal.looseK = lk
 k_fill
 intro w s₀ s₁ mg mb G Y fa o pm cd doc dV kV ho hd hcd hD hmg hg args vals as hpre hlay hrd hwl hlo
 have KX := kIn_of Y
 have X := (Ground.X G).1
 have V := (Ground.X G).2
 refine Ground.open G ?_
 intro T B D TE TW
 obtain ⟨_, _, M⟩ := bmod_of_top T
 have TA := at_of_top T
 wrow_args hpre hlay hrd hwl hlo
 first | refine callC_kw (enter_call ?_) | refine enter_call ?_ | refine callC_kw (enter_callW ?_) | refine enter_callW ?_ | w_how
 w_top on
 subst hvq hlk
 obtain ⟨d9, hd9⟩ : ∃ d, (recsOf AM.Internal.viewQ).find? (λ e => e.name == ("law" : Str)) = some d := Option.isSome_iff_exists.mp (by decide +kernel)
 have hT9 : TabsAt [(196, 194)] s₁.heap := λ q hq => by
  rw [List.mem_singleton.mp hq]
  exact tab_of T KX hd9 (by kernel_rfl)
 have he9 : cd = .ref 196 := law_code (x := "law") (P := 194) KX (Top.g T) (by kernel_rfl) hmg ho hd
 subst he9
 refine kn_post hT9 (λ _ _ => rfl) ?_
 have he := Dflts.none hD rfl
 subst he
 have he := Dflts.noKw hD
 subst he
 refine call_cellsN (by decide) ho (fd_plain hd) (Top.nolimit T) hcd rfl (kinds_of (by kinds_ok)) (by decide) λ h₁ tk₁ cells F N0 X0 => ?_
 rename_i mo mb2 xs hs hlay0 hL0 hr1 hl2 as0 as1 scA vs as2 hL ra w1 r0 hI hr hc1 hc2
 clear Y G B D TE TW M TA hcd hD ra r0 hr X V
 have okC0 : AM.Internal.Cx.Ok { prog := rw_md0058_03.row.prog, w := w, K := AM.Internal.heapK w.params, h₀ := s₁.heap, os := s₁.os, view := AM.Internal.viewQ, loose := looseW AM.Internal.viewQ AM.Internal.looseK, mg := mg, mb := mb, scA := scA, scL := xs.map AM.Internal.PV.int, nc := "ValueError" } :=
  ⟨KX, topRead_of T, AM.Internal.script_at w1 hL hI⟩
 obtain ⟨lo, okC⟩ : ∃ lo, AM.Internal.Cx.Ok { prog := rw_md0058_03.row.prog, w := w, K := AM.Internal.heapK w.params, h₀ := ghostOf s₁.heap [(196, 194)], os := s₁.os, view := topProg, loose := lo, mg := mg, mb := mb, scA := scA, scL := xs.map AM.Internal.PV.int, nc := "ValueError" } :=
  ⟨_, ghost_K hT9 KX (by kernel_rfl), topRead_of (ghost_top hT9 T), AM.Internal.script_at' hT9 w1 hL hI⟩
 have L : AM.Internal.L1 { prog := rw_md0058_03.row.prog, w := w, K := AM.Internal.heapK w.params, h₀ := ghostOf s₁.heap [(196, 194)], os := s₁.os, view := topProg, loose := lo, mg := mg, mb := mb, scA := scA, scL := xs.map AM.Internal.PV.int, nc := "ValueError" } :=
  ⟨rfl, AM.Internal.miss_of T (by decide +kernel), rfl⟩
 have hlaw := AM.Internal.law_axP (cd := some 196) (P := 194) L.go AM.Internal.u_law L.D_law rfl AM.Internal.c_law rfl (AM.Internal.law_spec (T := ⟨_, 30, false, [], some 196⟩) (X := "ValueError") (P := 194) (cd := 196) L (by show 14 <= 30; decide) rfl rfl (AM.Internal.lamK_ghost hT9 T rfl) (xs := xs) rfl (by lia) AM.Internal.hTab_ok)
 refine AM.Internal.law_endP (P := 194) (cd := some 196) rfl (by show 1 + claimMargin + 1 <= 400; decide) (by show 4 + 3 <= 100; decide) rfl (λ c e => by cases e; exact ⟨rfl, rfl⟩) (AM.Internal.rep_ghost okC (AM.Internal.law_rep okC0 (d := 0) rfl rfl hg F rfl N0 X0 rfl rfl rfl) hT9 rfl rfl (by decide)) (hlaw _ rfl) ?_
 intro s' h1 h2 h3 h4
 exact ⟨⟨.inl ⟨_, _, [], rfl, λ _ => rfl, ReadsW.bool true, (by first | rfl | wrow_post), λ _ => ⟨List.nodup_nil, λ _ hm => (nomatch hm)⟩⟩, h1, h2, h3⟩, h4, trivial⟩
