import PyProof.Rows.All
import Wide.All
import OpenK.AllK
import Wide.FinOn
import KE.KSortTup
import KE.KBits
import KE.BitLaws
import PySem.Challenge.RW_wb0045_03
open PySem PySem.W PyProof.Rows
set_option maxRecDepth 100000
set_option linter.all false
set_option Elab.async false
set_option compiler.extract_closed false
set_option genSizeOf false
set_option genSizeOfSpec false
namespace Mine
theorem ap0 (_:True:=by intros;with_unfolding_all rfl):True:=trivial
theorem ap1 (_:True:=by decide):True:=trivial
theorem ap2 (_:True:=by with_unfolding_all exact Nat.le_of_ble_eq_true rfl):True:=trivial
theorem ap3 (_:True:=by with_unfolding_all repeat constructor):True:=trivial
theorem ap4 (_:True:=by with_unfolding_all exact np):True:=trivial
theorem qb2 {n a b:Nat}(h : Nat.beq a b = false): n+a ≠ n+b := fun e => absurd (Nat.add_left_cancel e) (Nat.ne_of_beq_eq_false h)
theorem orB {a b:Bool}(h : (a || !b) = true): a = true \/ b = false := by cases a with
  | true => exact .inl rfl
  | false => cases b with
    | true => exact nomatch h
    | false => exact .inr rfl
theorem ln0 {α:Type}{l:List α}(h : l.length = 0): l = [] := List.eq_nil_of_length_eq_zero h
theorem lnS {α:Type}{n:Nat}{l:List α}(h : l.length = n+1): ∃ a r, l = a::r /\ r.length = n :=
  match l, h with
  | a::r, h => ⟨a, r, rfl, Nat.succ.inj h⟩
theorem ln1 {α:Type}{l:List α}(h : l.length = 1): ∃ a, l = [a] := let ⟨a, _, e, q⟩ := lnS h; ⟨a, e.trans (congrArg (a :: ·) (ln0 q))⟩
theorem ln2 {α:Type}{l:List α}(h : l.length = 2): ∃ a b, l = [a, b] := let ⟨a, _, e, q⟩ := lnS h; let ⟨b, f⟩ := ln1 q; ⟨a, b, e.trans (congrArg (a :: ·) f)⟩
theorem ln3 {α:Type}{l:List α}(h : l.length = 3): ∃ a b c, l = [a, b, c] := let ⟨a, _, e, q⟩ := lnS h; let ⟨b, c, f⟩ := ln2 q; ⟨a, b, c, e.trans (congrArg (a :: ·) f)⟩
theorem ln4 {α:Type}{l:List α}(h : l.length = 4): ∃ a b c d, l = [a, b, c, d] := let ⟨a, _, e, q⟩ := lnS h; let ⟨b, c, d, f⟩ := ln3 q; ⟨a, b, c, d, e.trans (congrArg (a :: ·) f)⟩
theorem fa0 {α:Type}{P:α->Prop}: ∀ x ∈ ([] : List α), P x := fun _ h => absurd h List.not_mem_nil
theorem fac {α:Type}{P:α->Prop}{a:α}{l:List α}(h : P a)(t : ∀ x ∈ l, P x): ∀ x ∈ a::l, P x := List.forall_mem_cons.mpr ⟨h, t⟩
theorem qte {a f b:Nat}(h : f <= b): f <= min (max a f) b := Nat.le_min.mpr ⟨Nat.le_max_right _ _, h⟩
theorem qtd {a f b:Nat}: min (max a f) b <= b := Nat.min_le_right _ _
theorem qtb {a f b j:Nat}(h1 : f <= j)(h2 : j<b): j<min (max a f) b ↔ j<a := by
  rw[Nat.lt_min, and_iff_left h2];rcases Nat.le_total a f with h | h
  . rw[Nat.max_eq_right h]; exact ⟨fun q => absurd q (Nat.not_lt.mpr h1), fun q => Nat.lt_of_lt_of_le q h⟩
  . rw[Nat.max_eq_left h]
theorem qtc {a f b j:Nat}(h1 : f <= j)(h2 : j<b): min (max a f) b <= j ↔ a <= j := Nat.not_lt.symm.trans ((not_congr (qtb h1 h2)).trans Nat.not_lt)
theorem qvc (a f : Nat): max (a : Int) f = (max a f : Nat) := by
  rcases Nat.le_total a f with h | h
  . rw[Nat.max_eq_right h]; exact Int.max_eq_right (Int.ofNat_le.mpr h)
  . rw[Nat.max_eq_left h]; exact Int.max_eq_left (Int.ofNat_le.mpr h)
theorem qvb (a f : Nat): min (a : Int) f = (min a f : Nat) := by
  rcases Nat.le_total a f with h | h
  . rw[Nat.min_eq_left h]; exact Int.min_eq_left (Int.ofNat_le.mpr h)
  . rw[Nat.min_eq_right h]; exact Int.min_eq_right (Int.ofNat_le.mpr h)
theorem mmI (a f b : Nat): min (max (a : Int) f) b = ((min (max a f) b : Nat) : Int) := (congrArg (min · (b : Int)) (qvc a f)).trans (qvb _ _)
theorem szl {n m:Nat}(h : n <= m)(hm:autoParam (Nat.ble m PySem.sizeLine = true) ap1._auto_1): n <= PySem.sizeLine := Nat.le_trans h (Nat.le_of_ble_eq_true hm)
theorem qtk {a b a' b':Int}(h : a<b \/ (a = b /\ a'<b')): ¬ (b<a \/ (b = a /\ b'<a')) := fun q => by
  rcases h with h | ⟨h, h'⟩
  . exact q.elim (Int.lt_asymm h) fun q => absurd h (q.1 ▸ Int.lt_irrefl _)
  . exact q.elim (fun q => absurd q (h ▸ Int.lt_irrefl _)) fun q => Int.lt_asymm h' q.2
theorem qqs {a b c a' b' c':Int}(h : a<b \/ (a = b /\ a'<b'))(k : b<c \/ (b = c /\ b'<c')): a<c \/ (a = c /\ a'<c') := by
  rcases h with h | ⟨rfl, h'⟩
  . exact .inl (k.elim (Int.lt_trans h) fun q => q.1 ▸ h)
  . exact k.imp_right fun q => ⟨q.1, Int.lt_trans h' q.2⟩
theorem qtj {a b c a' b' c':Int}(h : a<c \/ (a = c /\ a'<c')): (a<b \/ (a = b /\ a'<b')) \/ (b<c \/ (b = c /\ b'<c')) := by
  rcases Int.lt_trichotomy a b with q | q | q
  . exact .inl (.inl q)
  . subst q;rcases Int.lt_or_le a' b' with w | w
    . exact .inl (.inr ⟨rfl, w⟩)
    . exact .inr (h.imp_right fun z => ⟨z.1, Int.lt_of_le_of_lt w z.2⟩)
  . exact .inr (.inl (h.elim (Int.lt_trans q) fun z => z.1 ▸ q))
theorem qrx {x:Int}{n:Nat}(h : 0<n): ∃ m : Nat, x.fmod n = m /\ m<n := by
  have h' : (0 : Int)<n := Int.natCast_pos.mpr h;obtain ⟨m, hm⟩ := Int.eq_ofNat_of_zero_le (Int.fmod_nonneg_of_pos x h');exact ⟨m, hm, Int.ofNat_lt.mp (hm ▸ Int.fmod_lt_of_pos x h')⟩
theorem qv8 (o : Nat): (0 : Int)+(o : Nat)*1 = (o : Nat) := by rw[Int.mul_one, Int.zero_add]
theorem quq (n : Nat): (1 : Int)+(n : Nat)*1 = ((n+1 : Nat) : Int) := by rw[Int.mul_one, Int.add_comm]; rfl
theorem Sj {α:Type}{a b:α}(h:some a=some b):a=b:=Option.some.inj h
section
variable {G:Prop} {A B C D E F G_ H I:Type}
variable {P0 P1 P2 P3 P4 P5 P6 P7:Prop}
variable {Q0 Q1 Q2 Q3 Q4:A->Prop}
variable {R0 R1 R2 R3 R4 R5:A->B->Prop}
variable {S0 S1 S2 S3 S4 S5 S6 S7 S8:A->B->C->Prop}
variable {T0 T1 T2 T3 T4 T5 T6:A->B->C->D->Prop}
variable {U0 U1 U2 U3 U4 U5 U6 U7 U8:A->B->C->D->E->Prop}
variable {V0 V1:A->B->C->D->E->F->Prop}
variable {W0 W1 W2 W3 W4 W5 W6 W7 W8 W9:A->B->C->D->E->F->G_->Prop}
variable {Y0 Y1 Y2 Y3 Y4:A->B->C->D->E->F->G_->H->I->Prop}
theorem qee (h:P0/\P1/\P2) (k:P0->P1->P2->G):G:=k h.1 h.2.1 h.2.2
theorem qrd (h:P0/\P1/\P2/\P3) (k:P0->P1->P2->P3->G):G:=k h.1 h.2.1 h.2.2.1 h.2.2.2
theorem qnz (h:P0/\P1/\P2/\P3/\P4/\P5) (k:P0->P1->P2->P3->P4->P5->G):G:=k h.1 h.2.1 h.2.2.1 h.2.2.2.1 h.2.2.2.2.1 h.2.2.2.2.2
theorem qld (h:P0/\P1/\P2/\P3/\P4/\P5/\P6) (k:P0->P1->P2->P3->P4->P5->P6->G):G:=k h.1 h.2.1 h.2.2.1 h.2.2.2.1 h.2.2.2.2.1 h.2.2.2.2.2.1 h.2.2.2.2.2.2
theorem qny (h:P0/\P1/\P2/\P3/\P4/\P5/\P6/\P7) (k:P0->P1->P2->P3->P4->P5->P6->P7->G):G:=k h.1 h.2.1 h.2.2.1 h.2.2.2.1 h.2.2.2.2.1 h.2.2.2.2.2.1 h.2.2.2.2.2.2.1 h.2.2.2.2.2.2.2
theorem qhn (h:P0/\P1/\P2/\∃a b c d e,U0 a b c d e/\U1 a b c d e/\U2 a b c d e/\U3 a b c d e) (k:P0->P1->P2->∀a b c d e,U0 a b c d e->U1 a b c d e->U2 a b c d e->U3 a b c d e->G):G:=h.2.2.2.elim fun a h0=>h0.elim fun b h1=>h1.elim fun c h2=>h2.elim fun d h3=>h3.elim fun e h4=>k h.1 h.2.1 h.2.2.1 a b c d e h4.1 h4.2.1 h4.2.2.1 h4.2.2.2
theorem qgs (h:P0/\P1/\P2/\∃a b c d e,U0 a b c d e/\U1 a b c d e/\U2 a b c d e/\U3 a b c d e/\U4 a b c d e) (k:P0->P1->P2->∀a b c d e,U0 a b c d e->U1 a b c d e->U2 a b c d e->U3 a b c d e->U4 a b c d e->G):G:=h.2.2.2.elim fun a h0=>h0.elim fun b h1=>h1.elim fun c h2=>h2.elim fun d h3=>h3.elim fun e h4=>k h.1 h.2.1 h.2.2.1 a b c d e h4.1 h4.2.1 h4.2.2.1 h4.2.2.2.1 h4.2.2.2.2
theorem qed (h:P0/\P1/\P2/\∃a b c d e,U0 a b c d e/\U1 a b c d e/\U2 a b c d e/\U3 a b c d e/\U4 a b c d e/\U5 a b c d e/\U6 a b c d e/\U7 a b c d e/\U8 a b c d e) (k:P0->P1->P2->∀a b c d e,U0 a b c d e->U1 a b c d e->U2 a b c d e->U3 a b c d e->U4 a b c d e->U5 a b c d e->U6 a b c d e->U7 a b c d e->U8 a b c d e->G):G:=h.2.2.2.elim fun a h0=>h0.elim fun b h1=>h1.elim fun c h2=>h2.elim fun d h3=>h3.elim fun e h4=>k h.1 h.2.1 h.2.2.1 a b c d e h4.1 h4.2.1 h4.2.2.1 h4.2.2.2.1 h4.2.2.2.2.1 h4.2.2.2.2.2.1 h4.2.2.2.2.2.2.1 h4.2.2.2.2.2.2.2.1 h4.2.2.2.2.2.2.2.2
theorem qt6 (h:P0/\∃a,Q0 a/\Q1 a) (k:P0->∀a,Q0 a->Q1 a->G):G:=h.2.elim fun a h0=>k h.1 a h0.1 h0.2
theorem qt5 (h:P0/\∃a b,R0 a b) (k:P0->∀a b,R0 a b->G):G:=h.2.elim fun a h0=>h0.elim fun b h1=>k h.1 a b h1
theorem qpr (h:P0/\∃a b,R0 a b/\R1 a b/\R2 a b/\R3 a b) (k:P0->∀a b,R0 a b->R1 a b->R2 a b->R3 a b->G):G:=h.2.elim fun a h0=>h0.elim fun b h1=>k h.1 a b h1.1 h1.2.1 h1.2.2.1 h1.2.2.2
theorem qa4 (h:∃a,Q0 a/\Q1 a) (k:∀a,Q0 a->Q1 a->G):G:=h.elim fun a h0=>k a h0.1 h0.2
theorem qal (h:∃a,Q0 a/\Q1 a/\Q2 a) (k:∀a,Q0 a->Q1 a->Q2 a->G):G:=h.elim fun a h0=>k a h0.1 h0.2.1 h0.2.2
theorem qba (h:∃a,Q0 a/\Q1 a/\Q2 a/\Q3 a) (k:∀a,Q0 a->Q1 a->Q2 a->Q3 a->G):G:=h.elim fun a h0=>k a h0.1 h0.2.1 h0.2.2.1 h0.2.2.2
theorem qeu (h:∃a,Q0 a/\Q1 a/\Q2 a/\Q3 a/\Q4 a) (k:∀a,Q0 a->Q1 a->Q2 a->Q3 a->Q4 a->G):G:=h.elim fun a h0=>k a h0.1 h0.2.1 h0.2.2.1 h0.2.2.2.1 h0.2.2.2.2
theorem qur (h:∃a,Q0 a/\∃b,R0 a b) (k:∀a,Q0 a->∀b,R0 a b->G):G:=h.elim fun a h0=>h0.2.elim fun b h1=>k a h0.1 b h1
theorem qd5 (h:∃a,Q0 a/\∃b,R0 a b/\R1 a b/\R2 a b) (k:∀a,Q0 a->∀b,R0 a b->R1 a b->R2 a b->G):G:=h.elim fun a h0=>h0.2.elim fun b h1=>k a h0.1 b h1.1 h1.2.1 h1.2.2
theorem qk3 (h:∃a,Q0 a/\∃b c,S0 a b c/\S1 a b c) (k:∀a,Q0 a->∀b c,S0 a b c->S1 a b c->G):G:=h.elim fun a h0=>h0.2.elim fun b h1=>h1.elim fun c h2=>k a h0.1 b c h2.1 h2.2
theorem qm8 (h:∃a,Q0 a/\∃b c d,T0 a b c d/\T1 a b c d/\T2 a b c d/\T3 a b c d) (k:∀a,Q0 a->∀b c d,T0 a b c d->T1 a b c d->T2 a b c d->T3 a b c d->G):G:=h.elim fun a h0=>h0.2.elim fun b h1=>h1.elim fun c h2=>h2.elim fun d h3=>k a h0.1 b c d h3.1 h3.2.1 h3.2.2.1 h3.2.2.2
theorem qk2 (h:∃a,Q0 a/\∃b c d e,U0 a b c d e/\U1 a b c d e/\U2 a b c d e/\U3 a b c d e) (k:∀a,Q0 a->∀b c d e,U0 a b c d e->U1 a b c d e->U2 a b c d e->U3 a b c d e->G):G:=h.elim fun a h0=>h0.2.elim fun b h1=>h1.elim fun c h2=>h2.elim fun d h3=>h3.elim fun e h4=>k a h0.1 b c d e h4.1 h4.2.1 h4.2.2.1 h4.2.2.2
theorem qhm (h:∃a,Q0 a/\∃b c d e,U0 a b c d e/\U1 a b c d e/\U2 a b c d e/\U3 a b c d e/\U4 a b c d e/\U5 a b c d e) (k:∀a,Q0 a->∀b c d e,U0 a b c d e->U1 a b c d e->U2 a b c d e->U3 a b c d e->U4 a b c d e->U5 a b c d e->G):G:=h.elim fun a h0=>h0.2.elim fun b h1=>h1.elim fun c h2=>h2.elim fun d h3=>h3.elim fun e h4=>k a h0.1 b c d e h4.1 h4.2.1 h4.2.2.1 h4.2.2.2.1 h4.2.2.2.2.1 h4.2.2.2.2.2
theorem qgr (h:∃a b,R0 a b) (k:∀a b,R0 a b->G):G:=h.elim fun a h0=>h0.elim fun b h1=>k a b h1
theorem qcw (h:∃a b,R0 a b/\R1 a b) (k:∀a b,R0 a b->R1 a b->G):G:=h.elim fun a h0=>h0.elim fun b h1=>k a b h1.1 h1.2
theorem qa3 (h:∃a b,R0 a b/\R1 a b/\R2 a b) (k:∀a b,R0 a b->R1 a b->R2 a b->G):G:=h.elim fun a h0=>h0.elim fun b h1=>k a b h1.1 h1.2.1 h1.2.2
theorem qb0 (h:∃a b,R0 a b/\R1 a b/\R2 a b/\R3 a b) (k:∀a b,R0 a b->R1 a b->R2 a b->R3 a b->G):G:=h.elim fun a h0=>h0.elim fun b h1=>k a b h1.1 h1.2.1 h1.2.2.1 h1.2.2.2
theorem qat (h:∃a b,R0 a b/\R1 a b/\R2 a b/\R3 a b/\R4 a b) (k:∀a b,R0 a b->R1 a b->R2 a b->R3 a b->R4 a b->G):G:=h.elim fun a h0=>h0.elim fun b h1=>k a b h1.1 h1.2.1 h1.2.2.1 h1.2.2.2.1 h1.2.2.2.2
theorem qdj (h:∃a b,R0 a b/\R1 a b/\R2 a b/\R3 a b/\R4 a b/\R5 a b) (k:∀a b,R0 a b->R1 a b->R2 a b->R3 a b->R4 a b->R5 a b->G):G:=h.elim fun a h0=>h0.elim fun b h1=>k a b h1.1 h1.2.1 h1.2.2.1 h1.2.2.2.1 h1.2.2.2.2.1 h1.2.2.2.2.2
theorem qnx (h:∃a b,R0 a b/\R1 a b/\R2 a b/\∃c,S0 a b c/\S1 a b c) (k:∀a b,R0 a b->R1 a b->R2 a b->∀c,S0 a b c->S1 a b c->G):G:=h.elim fun a h0=>h0.elim fun b h1=>h1.2.2.2.elim fun c h2=>k a b h1.1 h1.2.1 h1.2.2.1 c h2.1 h2.2
theorem qnw (h:∃a b c,S0 a b c) (k:∀a b c,S0 a b c->G):G:=h.elim fun a h0=>h0.elim fun b h1=>h1.elim fun c h2=>k a b c h2
theorem qbu (h:∃a b c,S0 a b c/\S1 a b c) (k:∀a b c,S0 a b c->S1 a b c->G):G:=h.elim fun a h0=>h0.elim fun b h1=>h1.elim fun c h2=>k a b c h2.1 h2.2
theorem qav (h:∃a b c,S0 a b c/\S1 a b c/\S2 a b c) (k:∀a b c,S0 a b c->S1 a b c->S2 a b c->G):G:=h.elim fun a h0=>h0.elim fun b h1=>h1.elim fun c h2=>k a b c h2.1 h2.2.1 h2.2.2
theorem qa2 (h:∃a b c,S0 a b c/\S1 a b c/\S2 a b c/\S3 a b c) (k:∀a b c,S0 a b c->S1 a b c->S2 a b c->S3 a b c->G):G:=h.elim fun a h0=>h0.elim fun b h1=>h1.elim fun c h2=>k a b c h2.1 h2.2.1 h2.2.2.1 h2.2.2.2
theorem qec (h:∃a b c,S0 a b c/\S1 a b c/\S2 a b c/\S3 a b c/\S4 a b c) (k:∀a b c,S0 a b c->S1 a b c->S2 a b c->S3 a b c->S4 a b c->G):G:=h.elim fun a h0=>h0.elim fun b h1=>h1.elim fun c h2=>k a b c h2.1 h2.2.1 h2.2.2.1 h2.2.2.2.1 h2.2.2.2.2
theorem qbb (h:∃a b c,S0 a b c/\S1 a b c/\S2 a b c/\S3 a b c/\S4 a b c/\S5 a b c) (k:∀a b c,S0 a b c->S1 a b c->S2 a b c->S3 a b c->S4 a b c->S5 a b c->G):G:=h.elim fun a h0=>h0.elim fun b h1=>h1.elim fun c h2=>k a b c h2.1 h2.2.1 h2.2.2.1 h2.2.2.2.1 h2.2.2.2.2.1 h2.2.2.2.2.2
theorem qbt (h:∃a b c,S0 a b c/\S1 a b c/\S2 a b c/\S3 a b c/\S4 a b c/\S5 a b c/\S6 a b c/\S7 a b c/\S8 a b c) (k:∀a b c,S0 a b c->S1 a b c->S2 a b c->S3 a b c->S4 a b c->S5 a b c->S6 a b c->S7 a b c->S8 a b c->G):G:=h.elim fun a h0=>h0.elim fun b h1=>h1.elim fun c h2=>k a b c h2.1 h2.2.1 h2.2.2.1 h2.2.2.2.1 h2.2.2.2.2.1 h2.2.2.2.2.2.1 h2.2.2.2.2.2.2.1 h2.2.2.2.2.2.2.2.1 h2.2.2.2.2.2.2.2.2
theorem qbx (h:∃a b c,S0 a b c/\S1 a b c/\S2 a b c/\S3 a b c/\S4 a b c/\S5 a b c/\S6 a b c/\∃d e,U0 a b c d e/\U1 a b c d e/\U2 a b c d e/\U3 a b c d e) (k:∀a b c,S0 a b c->S1 a b c->S2 a b c->S3 a b c->S4 a b c->S5 a b c->S6 a b c->∀d e,U0 a b c d e->U1 a b c d e->U2 a b c d e->U3 a b c d e->G):G:=h.elim fun a h0=>h0.elim fun b h1=>h1.elim fun c h2=>h2.2.2.2.2.2.2.2.elim fun d h3=>h3.elim fun e h4=>k a b c h2.1 h2.2.1 h2.2.2.1 h2.2.2.2.1 h2.2.2.2.2.1 h2.2.2.2.2.2.1 h2.2.2.2.2.2.2.1 d e h4.1 h4.2.1 h4.2.2.1 h4.2.2.2
theorem qdt (h:∃a b c d,T0 a b c d/\T1 a b c d/\T2 a b c d) (k:∀a b c d,T0 a b c d->T1 a b c d->T2 a b c d->G):G:=h.elim fun a h0=>h0.elim fun b h1=>h1.elim fun c h2=>h2.elim fun d h3=>k a b c d h3.1 h3.2.1 h3.2.2
theorem qcv (h:∃a b c d,T0 a b c d/\T1 a b c d/\T2 a b c d/\T3 a b c d) (k:∀a b c d,T0 a b c d->T1 a b c d->T2 a b c d->T3 a b c d->G):G:=h.elim fun a h0=>h0.elim fun b h1=>h1.elim fun c h2=>h2.elim fun d h3=>k a b c d h3.1 h3.2.1 h3.2.2.1 h3.2.2.2
theorem qaj (h:∃a b c d,T0 a b c d/\T1 a b c d/\T2 a b c d/\T3 a b c d/\T4 a b c d) (k:∀a b c d,T0 a b c d->T1 a b c d->T2 a b c d->T3 a b c d->T4 a b c d->G):G:=h.elim fun a h0=>h0.elim fun b h1=>h1.elim fun c h2=>h2.elim fun d h3=>k a b c d h3.1 h3.2.1 h3.2.2.1 h3.2.2.2.1 h3.2.2.2.2
theorem qaz (h:∃a b c d,T0 a b c d/\T1 a b c d/\T2 a b c d/\T3 a b c d/\T4 a b c d/\T5 a b c d) (k:∀a b c d,T0 a b c d->T1 a b c d->T2 a b c d->T3 a b c d->T4 a b c d->T5 a b c d->G):G:=h.elim fun a h0=>h0.elim fun b h1=>h1.elim fun c h2=>h2.elim fun d h3=>k a b c d h3.1 h3.2.1 h3.2.2.1 h3.2.2.2.1 h3.2.2.2.2.1 h3.2.2.2.2.2
theorem qip (h:∃a b c d,T0 a b c d/\T1 a b c d/\T2 a b c d/\T3 a b c d/\T4 a b c d/\T5 a b c d/\T6 a b c d) (k:∀a b c d,T0 a b c d->T1 a b c d->T2 a b c d->T3 a b c d->T4 a b c d->T5 a b c d->T6 a b c d->G):G:=h.elim fun a h0=>h0.elim fun b h1=>h1.elim fun c h2=>h2.elim fun d h3=>k a b c d h3.1 h3.2.1 h3.2.2.1 h3.2.2.2.1 h3.2.2.2.2.1 h3.2.2.2.2.2.1 h3.2.2.2.2.2.2
theorem qg2 (h:∃a b c d e,U0 a b c d e/\U1 a b c d e/\U2 a b c d e) (k:∀a b c d e,U0 a b c d e->U1 a b c d e->U2 a b c d e->G):G:=h.elim fun a h0=>h0.elim fun b h1=>h1.elim fun c h2=>h2.elim fun d h3=>h3.elim fun e h4=>k a b c d e h4.1 h4.2.1 h4.2.2
theorem qgz (h:∃a b c d e,U0 a b c d e/\U1 a b c d e/\U2 a b c d e/\U3 a b c d e) (k:∀a b c d e,U0 a b c d e->U1 a b c d e->U2 a b c d e->U3 a b c d e->G):G:=h.elim fun a h0=>h0.elim fun b h1=>h1.elim fun c h2=>h2.elim fun d h3=>h3.elim fun e h4=>k a b c d e h4.1 h4.2.1 h4.2.2.1 h4.2.2.2
theorem qio (h:∃a b c d e,U0 a b c d e/\U1 a b c d e/\U2 a b c d e/\U3 a b c d e/\U4 a b c d e/\U5 a b c d e) (k:∀a b c d e,U0 a b c d e->U1 a b c d e->U2 a b c d e->U3 a b c d e->U4 a b c d e->U5 a b c d e->G):G:=h.elim fun a h0=>h0.elim fun b h1=>h1.elim fun c h2=>h2.elim fun d h3=>h3.elim fun e h4=>k a b c d e h4.1 h4.2.1 h4.2.2.1 h4.2.2.2.1 h4.2.2.2.2.1 h4.2.2.2.2.2
theorem qeb (h:∃a b c d e,U0 a b c d e/\U1 a b c d e/\U2 a b c d e/\U3 a b c d e/\U4 a b c d e/\U5 a b c d e/\U6 a b c d e) (k:∀a b c d e,U0 a b c d e->U1 a b c d e->U2 a b c d e->U3 a b c d e->U4 a b c d e->U5 a b c d e->U6 a b c d e->G):G:=h.elim fun a h0=>h0.elim fun b h1=>h1.elim fun c h2=>h2.elim fun d h3=>h3.elim fun e h4=>k a b c d e h4.1 h4.2.1 h4.2.2.1 h4.2.2.2.1 h4.2.2.2.2.1 h4.2.2.2.2.2.1 h4.2.2.2.2.2.2
theorem qbj (h:∃a b c d e,U0 a b c d e/\U1 a b c d e/\U2 a b c d e/\U3 a b c d e/\U4 a b c d e/\U5 a b c d e/\U6 a b c d e/\U7 a b c d e) (k:∀a b c d e,U0 a b c d e->U1 a b c d e->U2 a b c d e->U3 a b c d e->U4 a b c d e->U5 a b c d e->U6 a b c d e->U7 a b c d e->G):G:=h.elim fun a h0=>h0.elim fun b h1=>h1.elim fun c h2=>h2.elim fun d h3=>h3.elim fun e h4=>k a b c d e h4.1 h4.2.1 h4.2.2.1 h4.2.2.2.1 h4.2.2.2.2.1 h4.2.2.2.2.2.1 h4.2.2.2.2.2.2.1 h4.2.2.2.2.2.2.2
theorem qg1 (h:∃a b c d e,U0 a b c d e/\U1 a b c d e/\U2 a b c d e/\U3 a b c d e/\U4 a b c d e/\U5 a b c d e/\U6 a b c d e/\U7 a b c d e/\U8 a b c d e) (k:∀a b c d e,U0 a b c d e->U1 a b c d e->U2 a b c d e->U3 a b c d e->U4 a b c d e->U5 a b c d e->U6 a b c d e->U7 a b c d e->U8 a b c d e->G):G:=h.elim fun a h0=>h0.elim fun b h1=>h1.elim fun c h2=>h2.elim fun d h3=>h3.elim fun e h4=>k a b c d e h4.1 h4.2.1 h4.2.2.1 h4.2.2.2.1 h4.2.2.2.2.1 h4.2.2.2.2.2.1 h4.2.2.2.2.2.2.1 h4.2.2.2.2.2.2.2.1 h4.2.2.2.2.2.2.2.2
theorem qfb (h:∃a b c d e,U0 a b c d e/\U1 a b c d e/\U2 a b c d e/\U3 a b c d e/\U4 a b c d e/\∃f g,W0 a b c d e f g/\W1 a b c d e f g/\W2 a b c d e f g) (k:∀a b c d e,U0 a b c d e->U1 a b c d e->U2 a b c d e->U3 a b c d e->U4 a b c d e->∀f g,W0 a b c d e f g->W1 a b c d e f g->W2 a b c d e f g->G):G:=h.elim fun a h0=>h0.elim fun b h1=>h1.elim fun c h2=>h2.elim fun d h3=>h3.elim fun e h4=>h4.2.2.2.2.2.elim fun f h5=>h5.elim fun g h6=>k a b c d e h4.1 h4.2.1 h4.2.2.1 h4.2.2.2.1 h4.2.2.2.2.1 f g h6.1 h6.2.1 h6.2.2
theorem qnv (h:∃a b c d e f,V0 a b c d e f/\V1 a b c d e f) (k:∀a b c d e f,V0 a b c d e f->V1 a b c d e f->G):G:=h.elim fun a h0=>h0.elim fun b h1=>h1.elim fun c h2=>h2.elim fun d h3=>h3.elim fun e h4=>h4.elim fun f h5=>k a b c d e f h5.1 h5.2
theorem qg0 (h:∃a b c d e f g,W0 a b c d e f g/\W1 a b c d e f g/\W2 a b c d e f g/\W3 a b c d e f g/\W4 a b c d e f g/\W5 a b c d e f g/\W6 a b c d e f g) (k:∀a b c d e f g,W0 a b c d e f g->W1 a b c d e f g->W2 a b c d e f g->W3 a b c d e f g->W4 a b c d e f g->W5 a b c d e f g->W6 a b c d e f g->G):G:=h.elim fun a h0=>h0.elim fun b h1=>h1.elim fun c h2=>h2.elim fun d h3=>h3.elim fun e h4=>h4.elim fun f h5=>h5.elim fun g h6=>k a b c d e f g h6.1 h6.2.1 h6.2.2.1 h6.2.2.2.1 h6.2.2.2.2.1 h6.2.2.2.2.2.1 h6.2.2.2.2.2.2
theorem qb7 (h:∃a b c d e f g,W0 a b c d e f g/\W1 a b c d e f g/\W2 a b c d e f g/\W3 a b c d e f g/\W4 a b c d e f g/\W5 a b c d e f g/\W6 a b c d e f g/\W7 a b c d e f g/\W8 a b c d e f g/\W9 a b c d e f g) (k:∀a b c d e f g,W0 a b c d e f g->W1 a b c d e f g->W2 a b c d e f g->W3 a b c d e f g->W4 a b c d e f g->W5 a b c d e f g->W6 a b c d e f g->W7 a b c d e f g->W8 a b c d e f g->W9 a b c d e f g->G):G:=h.elim fun a h0=>h0.elim fun b h1=>h1.elim fun c h2=>h2.elim fun d h3=>h3.elim fun e h4=>h4.elim fun f h5=>h5.elim fun g h6=>k a b c d e f g h6.1 h6.2.1 h6.2.2.1 h6.2.2.2.1 h6.2.2.2.2.1 h6.2.2.2.2.2.1 h6.2.2.2.2.2.2.1 h6.2.2.2.2.2.2.2.1 h6.2.2.2.2.2.2.2.2.1 h6.2.2.2.2.2.2.2.2.2
theorem qfz (h:∃a b c d e f g h i,Y0 a b c d e f g h i/\Y1 a b c d e f g h i/\Y2 a b c d e f g h i/\Y3 a b c d e f g h i/\Y4 a b c d e f g h i) (k:∀a b c d e f g h i,Y0 a b c d e f g h i->Y1 a b c d e f g h i->Y2 a b c d e f g h i->Y3 a b c d e f g h i->Y4 a b c d e f g h i->G):G:=h.elim fun a h0=>h0.elim fun b h1=>h1.elim fun c h2=>h2.elim fun d h3=>h3.elim fun e h4=>h4.elim fun f h5=>h5.elim fun g h6=>h6.elim fun h h7=>h7.elim fun i h8=>k a b c d e f g h i h8.1 h8.2.1 h8.2.2.1 h8.2.2.2.1 h8.2.2.2.2
end
variable {n:Nat} {a:Addr} {b:Nat} {α:Type} {j:Nat} {c:Nat->Int} {x:Str} {o:Obj} {Y:Nat->Prop} {h:Heap} {h':Heap} {i:Nat} {fr:List Env} {s:Shared} {k:Nat} {A:Around} {env:Env} {p:Pos} {M:Model} {E:Value->Shared->Prop} {kd:NameKind} {Q:Value->Shared->Prop} {e:Expr} {es:List Expr} {t:Expr} {va:Value} {q:Pos} {st:Stmt} {r:Nat} {nm:List (Str×NameKind)} {xs:List Str} {scope:Scope} {body:List Stmt} {ns:List Int} {kn:List Str} {ws:List Addr} {it:Value} {prog:Program} {w:World} {la:Addr} {tk:Nat} {R:Result->Shared->Prop} {orelse:List Stmt} {iter:Expr} {elt:Expr} {gens:List Comprehension} {pos:Pos} {d:Nat} {ifs:List Expr} {names:List (Str×NameKind)} {px:Pos} {test:Expr} {py:Pos} {n':Nat} {e1:Expr} {os:OsState} {attrs:List Str} {K:Type} {keys:List (Option Expr)} {ks:List Int} {P:Addr} {mk:Bool} {sts:List Stmt} {β:Type} {N:Nat} {hi:Nat} {cd:Value} {S:Type} {Yk:Nat->Prop} {κ:Nat->Int} {ps:List Nat} {reach:Int} {L:List (Int×Int)}
section
inductive Own where
  | fz | loc (n:Nat) | aux (n:Nat) | other
structure Lam where
  params:Arguments
  body:Expr
  scope:Scope
inductive AV where
  | none
  | bool (b:Bool)
  | int (i:Int)
  | str (s:Str)
  | tup (l:List AV)
  | lst (l:List AV)
  | loc (n:Nat)
  | glob (v:Value)
  | bound (f:String) (self:AV)
  | clo (l:Lam) (names:List Str) (caps:List AV)
  | any
inductive AObj where
  | lst (items:List AV)
  | dstr (keys:List Str) (vals:List AV)
  | dint (keys:List Int) (vals:List AV)
  | fn0
  | elem (attrs:List Str) (vals:List AV)
  | iter (items:List AV)
  | iterDone
structure Wd where
  prog:Program
  w:World
  s1:Shared
  mg:Str->Option Value
  mb:Str->Option Value
  tab:Addr->Prop
  tabEx:∀a,tab a->s1.heap.get? a=some (tabObj #[])
  gNs:s1.heap.Ns mainGlobals mg
  bNs:s1.heap.Ns builtinsNs mb
  nolim:s1.heap.NoLimit
  gNT:¬tab mainGlobals
  bNT:¬tab builtinsNs
  cNT:¬tab cStatics
  sm:∃o,s1.heap.get? sysModules=some o
noncomputable abbrev qb5 (v:Option Value):Obj:={ cls:=.type "cell",data:=.cell v }
noncomputable abbrev qab (vs:Array Value) (n:Nat):Obj:={ cls:=.type "list",data:=.seq vs n }
noncomputable abbrev ql1 (vs:Array Value) (n:Nat):Obj:={ cls:=.type "tuple",data:=.seq vs n }
noncomputable abbrev qpc (f:String) (v:Value):Obj:={ cls:=.type "builtin_function_or_method",data:=.fields #[.builtin f,v] }
def CodeOk (W:Wd) (g:Addr->Own) (h:Heap) (v:Value):Prop:=
  ∃c o vs q t,v=.ref c/\g c=.other/\¬W.tab c/\h.get? c=some o/\o.cls=.type "code"/\o.data=.fields vs/\vs[1]?=some (.str q t)
structure qv4 (W:Wd) (g:Addr->Own) (h:Heap) (l:Lam) (f:Addr) (fd:FuncData):Prop where
  get:h.get? f=some { cls:=.type "function",data:=.func fd }
  params:fd.params=l.params
  body:fd.body=.expr l.body
  scope:fd.scope=l.scope
  glob:fd.globals=mainGlobals
  blt:fd.builtins=builtinsNs
  dflt:fd.defaults=.none
  kwd:fd.kwdefaults=.none
  code:CodeOk W g h fd.code
mutual
noncomputable def RV (W:Wd) (g:Addr->Own) (h:Heap):AV->Value->Prop
  | .none,v=>v=.none
  | .bool b,v=>v=.bool b
  | .int i,v=>∃t,v=.int i t
  | .str s,v=>∃t,v=.str s t
  | .tup l,v=>∃a vs n,v=.ref a/\g a=.fz/\h.get? a=some (ql1 vs n)/\RVs W g h l vs.toList
  | .lst l,v=>∃a vs n,v=.ref a/\g a=.fz/\h.get? a=some (qab vs n)/\RVs W g h l vs.toList
  | .loc n,v=>∃a,v=.ref a/\g a=.loc n
  | .glob w,v=>v=w
  | .bound f self,v=>∃a sv,v=.ref a/\g a=.fz/\h.get? a=some (qpc f sv)/\RV W g h self sv
  | .clo l names caps,v=>∃(a:Addr) (fd:FuncData) (vs:List Value),v=.ref a/\g a=.fz/\qv4 W g h l a fd/\RVs W g h caps vs /\
      ∀(i:Nat) (x:Str),names[i]?=some x->∃(c:Addr) (u:Value),fd.closure.lookup x=some c/\g c=.fz/\vs[i]?=some u/\h.get? c=some (qb5 (some u))/\W.s1.heap.get? c=none
  | .any,_=>True
termination_by structural x=>x
noncomputable def RVs (W:Wd) (g:Addr->Own) (h:Heap):List AV->List Value->Prop
  | [],vs=>vs=[]
  | a::l,vs=>∃v r,vs=v::r/\RV W g h a v/\RVs W g h l r
termination_by structural x=>x
end
mutual
noncomputable def plain:AV->Bool
  | .tup l=>plains l
  | .lst l=>plains l
  | .bound _ s=>plain s
  | .clo ..=>false
  | _=>true
termination_by structural x=>x
noncomputable def plains:List AV->Bool
  | []=>true
  | a::l=>plain a&&plains l
termination_by structural x=>x
end
noncomputable def RO (W:Wd) (g:Addr->Own) (h:Heap) (a:Addr) (n:Nat):AObj->Prop
  | .lst items=>∃vs k,h.get? a=some (qab vs k)/\RVs W g h items vs.toList
  | .dstr keys vals=>∃vs,h.DictOf (PySem.strKind W.prog W.w) a (keys.zip vs)/\keys.length=vs.length/\RVs W g h vals vs
  | .dint keys vals=>∃vs,h.DictOf (PySem.intKind W.prog W.w) a (keys.zip vs)/\keys.length=vs.length/\RVs W g h vals vs
  | .fn0=>∃fd,h.get? a=some { cls:=.type "function",data:=.func fd }
  | .elem attrs vals=>∃fd d mh vs,h.get? a=some { cls:=.type "function",dict:=some d,data:=.func fd }/\g d=.aux n/\h.Ns1 d mh/\RVs W g h vals vs /\
      (∀x,mh x=(attrs.zip vs).lookup x)/\attrs.length=vs.length
  | .iter items=>∃(la:Addr) (i:Nat) (vs:Array Value) (k:Nat),h.IsListIter a la i/\g la=.fz/\h.get? la=some (qab vs k)/\RVs W g h items (vs.toList.drop i)
  | .iterDone=>True
def qr3 (W:Wd) (g:Addr->Own) (h:Heap) (P:Addr):Prop:=
  ∃more,h.get? P=some (tabObj more)/\TriplesOk more.toList/\∀pos v,codeAmong pos more.toList=some v->CodeOk W g h v
noncomputable def qdg:AObj->Bool
  | .lst l=>plains l
  | .dstr _ l=>plains l
  | .dint _ l=>plains l
  | .elem _ l=>plains l
  | .iter l=>plains l
  | _=>true
structure Rep (W:Wd) (fr:List Env) (g:Addr->Own) (σ:List AObj) (s:Shared):Prop where
  base:∀a o,W.s1.heap.get? a=some o->¬W.tab a->s.heap.get? a=some o
  baseO:∀a o,W.s1.heap.get? a=some o->g a=.other\/g a=.fz
  tabO:∀a,W.tab a->g a=.other
  tabs:∀a,W.tab a->qr3 W g s.heap a
  low:∀a,g a≠.other->∃o,s.heap.get? a=some o
  locs:∀n ao,σ[n]?=some ao->∃a,g a=.loc n/\RO W g s.heap a n ao
  uniq:∀a b n,g a=.loc n->g b=.loc n->a=b
  pl:∀(n:Nat) (ao:AObj),σ[n]?=some ao->qdg ao=true
  bnd:∀a n,(g a=.loc n\/g a=.aux n)->n<σ.length
  frs:∀e∈fr,∃f o es ep,e.frame=some f/\s.heap.get? f=some o/\o.data=.dict es ep/\g f=.other/\o.cls=.type "frame"/\W.s1.heap.get? f=none/\e.scope.kind≠.module
  gens:s.gens=#[]
  os:s.os=W.s1.os
def KeptO (o:Obj) (r:Option Obj):Prop:=
  (o.cls≠.type "frame"/\r=some o)\/(o.cls=.type "frame"/\∃sl,r=some { o with slots:=sl })
theorem KeptO.of {r:Option Obj}(h:r=some o):KeptO o r:=by
  by_cases hc:o.cls=.type "frame"
  . exact .inr ⟨hc,o.slots,h⟩
  . exact .inl ⟨hc,h⟩
theorem KeptO.get {r:Option Obj}(k:KeptO o r)(hc:o.cls≠.type "frame":=by simp):r=some o:=k.elim And.right fun q=>absurd q.1 hc
theorem KeptO.ex {r:Option Obj}(k:KeptO o r):∃o',r=some o'/\o'.data=o.data/\o'.cls=o.cls:=by
  rcases k with ⟨_,q⟩ | ⟨_,sl,q⟩
  . exact ⟨o,q,rfl,rfl⟩
  . exact ⟨_,q,rfl,rfl⟩
structure Evo (W:Wd) (X:Addr->Prop) (Y:Nat->Prop) (g:Addr->Own) (h:Heap) (g':Addr->Own) (h':Heap):Prop where
  keep:∀a o,h.get? a=some o->¬X a->(g a=.fz\/(g a=.other/\¬W.tab a))->KeptO o (h'.get? a)
  keepL:∀a o n,h.get? a=some o->(g a=.loc n\/g a=.aux n)->¬Y n->h'.get? a=some o
  fz:∀a,g a=.fz->¬X a->g' a=.fz
  loc:∀a n,g a=.loc n->g' a=.loc n
  aux:∀a n,g a=.aux n->g' a=.aux n
  oth:∀a o,h.get? a=some o->g a=.other->¬X a->g' a=.other\/(g' a=.fz/\∃v,h'.get? a=some (qb5 v))
  tabs:∀a o,W.tab a->h.get? a=some o->∃o',h'.get? a=some o'
noncomputable abbrev noX:Addr->Prop:=fun _=>False
noncomputable abbrev noY:Nat->Prop:=fun _=>False
theorem Evo.refl {W:Wd}{X:Addr->Prop}{g:Addr->Own}:Evo W X Y g h g h:=
  ⟨fun _ _ e _ _=>.of e,fun _ _ _ e _ _=>e,fun _ e _=>e,fun _ _ e=>e,fun _ _ e=>e,fun _ _ _ e _=>.inl e,fun _ o _ e=>⟨o,e⟩⟩
theorem Evo.trans {W:Wd}{X:Addr->Prop}{g g' g'':Addr->Own}{h'':Heap}(e:Evo W X Y g h g' h')(f:Evo W X Y g' h' g'' h''):Evo W X Y g h g'' h'' where
  keep:=fun a o ho hx hg=>by
    have hg':g' a=.fz\/(g' a=.other/\¬W.tab a):=by
      rcases hg with hg | ⟨hg,hn⟩
      . exact .inl (e.fz a hg hx)
      . rcases e.oth a o ho hg hx with q | q
        . exact .inr ⟨q,hn⟩
        . exact .inl q.1
    rcases e.keep a o ho hx hg with ⟨hc,h1⟩ | ⟨hc,sl,h1⟩
    . exact f.keep a o h1 hx hg'
    . rcases f.keep a _ h1 hx hg' with ⟨hc',_⟩ | ⟨_,sl',h2⟩
      . exact absurd hc hc'
      . exact .inr ⟨hc,sl',h2⟩
  keepL:=fun a o n ho hg hy=>f.keepL a o n (e.keepL a o n ho hg hy) (hg.imp (e.loc a n) (e.aux a n)) hy
  fz:=fun a hg hx=>f.fz a (e.fz a hg hx) hx
  loc:=fun a n hg=>f.loc a n (e.loc a n hg)
  aux:=fun a n hg=>f.aux a n (e.aux a n hg)
  oth:=fun a o ho hg hx=>by
    rcases e.oth a o ho hg hx with q | ⟨q,v,hv⟩
    . by_cases ht:W.tab a
      . refine Exists.elim (e.tabs a o ht ho) ?_;intro o' ho';exact f.oth a o' ho' q hx
      . refine qa4 ((e.keep a o ho hx (.inr ⟨hg,ht⟩)).ex) ?_;intro o' ho' _;exact f.oth a o' ho' q hx
    . exact .inr ⟨f.fz a q hx,v,(f.keep a _ hv hx (.inl q)).get⟩
  tabs:=fun a o ht ho=>by refine Exists.elim (e.tabs a o ht ho) ?_;intro o' ho';exact f.tabs a o' ht ho'
theorem Evo.weak {W:Wd}{X X':Addr->Prop}{Y':Nat->Prop}{g g':Addr->Own}(e:Evo W X Y g h g' h')(hl:∀a,g a≠.other->∃o,h.get? a=some o)(hX:∀a o,h.get? a=some o->X a->X' a)(hY:∀n,Y n->Y' n):Evo W X' Y' g h g' h' where
  keep:=fun a o ho hx hg=>e.keep a o ho (fun q=>hx (hX a o ho q)) hg
  keepL:=fun a o n ho hg hy=>e.keepL a o n ho hg fun q=>hy (hY n q)
  fz:=fun a hg hx=>e.fz a hg fun q=>by
    refine Exists.elim (hl a (by rw[hg];nofun)) ?_;intro o ho;exact hx (hX a o ho q)
  loc:=e.loc
  aux:=e.aux
  oth:=fun a o ho hg hx=>e.oth a o ho hg (fun q=>hx (hX a o ho q))
  tabs:=e.tabs
def XOk (X:Addr->Prop) (g:Addr->Own) (h:Heap):Prop:=
  ∀a,X a->(g a=.other\/(g a=.fz/\∃u,h.get? a=some (qb5 u)))/\∀o vs,h.get? a=some o->o.data=.fields vs->o.cls≠.type "code"
theorem XOk.no {g:Addr->Own}{h:Heap}:XOk noX g h:=fun _ h=>h.elim
theorem CodeOk.mono {W:Wd}{X:Addr->Prop}{g g':Addr->Own}{v:Value}(e:Evo W X Y g h g' h')(hX:XOk X g h)(c:CodeOk W g h v):CodeOk W g' h' v:=by
  refine qeb (c) ?_;(try clear c);intro c o vs q t eq_4_5 hg ht ho hc hd hv;subst eq_4_5;have hx:¬X c:=fun hx=>(hX c hx).2 o vs ho hd hc
  have ho':=(e.keep c o ho hx (.inr ⟨hg,ht⟩)).get (by rw[hc];simp);refine ⟨c,o,vs,q,t,rfl,?_,ht,ho',hc,hd,hv⟩;rcases e.oth c o ho hg hx with r | ⟨_,u,r⟩
  . exact r
  . rw[ho'] at r;obtain rfl:=Sj r;cases hd
section
variable {W:Wd} {X:Addr->Prop} {g g':Addr->Own}
theorem XOk.not (hX:XOk X g h)(hg:g a=.fz)(ho:h.get? a=some o)(hc:o.cls≠.type "cell"):¬X a:=fun hx=>by
  rcases (hX a hx).1 with q | ⟨_,u,q⟩
  . rw[hg] at q;cases q
  . rw[ho] at q;obtain rfl:=Sj q;exact hc rfl
mutual
theorem RV.mono (e:Evo W X Y g h g' h')(hX:XOk X g h):
    (av:AV)->((∀a,X a->g a=.other)\/plain av=true)->(v:Value)->RV W g h av v->RV W g' h' av v
  | .none,_,v,r=>(r:v=.none)
  | .bool b,_,v,r=>(r:v=.bool b)
  | .int i,_,v,r=>(r:∃t,v=.int i t)
  | .str s,_,v,r=>(r:∃t,v=.str s t)
  | .tup l,hp,v,r=>by
    refine qa2 (r) ?_;intro a vs n eq_5_3 hg ho hr;subst eq_5_3;have hx:¬X a:=hX.not hg ho (fun q=>by simp at q);exact ⟨a,vs,n,rfl,e.fz a hg hx,(e.keep a _ ho hx (.inl hg)).get,RVs.mono e hX l hp _ hr⟩
  | .lst l,hp,v,r=>by
    refine qa2 (r) ?_;intro a vs n eq_6_3 hg ho hr;subst eq_6_3;have hx:¬X a:=hX.not hg ho (fun q=>by simp at q);exact ⟨a,vs,n,rfl,e.fz a hg hx,(e.keep a _ ho hx (.inl hg)).get,RVs.mono e hX l hp _ hr⟩
  | .loc n,_,v,r=>by
    refine qa4 (r) ?_;intro a eq_7_1 hg;subst eq_7_1;exact ⟨a,rfl,e.loc a n hg⟩
  | .glob w,_,v,r=>(r:v=w)
  | .bound f s,hp,v,r=>by
    refine qb0 (r) ?_;intro a sv eq_8_2 hg ho hr;subst eq_8_2;have hx:¬X a:=hX.not hg ho (fun q=>by simp at q);exact ⟨a,sv,rfl,e.fz a hg hx,(e.keep a _ ho hx (.inl hg)).get,RV.mono e hX s hp _ hr⟩
  | .clo l names caps,hp,v,r=>by
    have hx:∀a,X a->g a=.other:=hp.resolve_right fun q=>by simp[plain] at q
    have hn:∀{a},g a=.fz->¬X a:=fun hg q=>by rw[hx _ q] at hg;cases hg
    refine qec (r) ?_;intro a fd vs eq_9_3 hg hc hr hn';subst eq_9_3;refine ⟨a,fd,vs,rfl,e.fz a hg (hn hg),⟨(e.keep a _ hc.get (hn hg) (.inl hg)).get,hc.params,hc.body,hc.scope,hc.glob,hc.blt,hc.dflt,hc.kwd,hc.code.mono e hX⟩,RVs.mono e hX caps (.inl hx) _ hr,fun i x hi=>?_⟩;refine qat (hn' i x hi) ?_;intro c u h1 h2 h3 h4 h5;exact ⟨c,u,h1,e.fz c h2 (hn h2),h3,(e.keep c _ h4 (hn h2) (.inl h2)).get,h5⟩
  | .any,_,_,_=>(True.intro:True)
termination_by structural x=>x
theorem RVs.mono (e:Evo W X Y g h g' h')(hX:XOk X g h):
    (l:List AV)->((∀a,X a->g a=.other)\/plains l=true)->(vs:List Value)->RVs W g h l vs->RVs W g' h' l vs
  | [],_,vs,r=>(r:vs=[])
  | a::l,hp,vs,r=>by
    refine qa3 (r) ?_;intro v q eq_11_2 h1 h2;subst eq_11_2;have hp1:(∀a,X a->g a=.other)\/plain a=true:=hp.imp id fun q=>by simp[plains] at q;exact q.1
    have hp2:(∀a,X a->g a=.other)\/plains l=true:=hp.imp id fun q=>by simp[plains] at q;exact q.2
    exact ⟨v,q,rfl,RV.mono e hX a hp1 _ h1,RVs.mono e hX l hp2 _ h2⟩
termination_by structural x=>x
end
theorem RVs.length:∀{l:List AV} {vs:List Value},RVs W g h l vs->vs.length=l.length
  | [],vs,r=>by obtain rfl:vs=[]:=r;rfl
  | a::l,vs,r=>by refine qa3 (r) ?_;intro v q eq_12_2 _ h2;subst eq_12_2;rw[List.length_cons,List.length_cons,RVs.length h2]
theorem RVs.get:∀{l:List AV} {vs:List Value},RVs W g h l vs->∀{i:Nat} {v:Value},vs[i]?=some v->∃a,l[i]?=some a/\RV W g h a v
  | [],vs,r,i,v,e=>by obtain rfl:vs=[]:=r;simp at e
  | a::l,vs,r,i,v,e=>by
    refine qa3 (r) ?_;intro u q eq_13_2 h1 h2;subst eq_13_2;cases i with
    | zero=>simp at e;exact ⟨a,rfl,e ▸ h1⟩
    | succ i=>simp at e;refine qa4 (RVs.get h2 e) ?_;intro b hb hr;exact ⟨b,by simpa using hb,hr⟩
theorem RVs.getA {l:List AV}{vs:List Value}(r:RVs W g h l vs){a:AV}(e:l[i]?=some a):∃v,vs[i]?=some v/\RV W g h a v:=by
  have hi:i<l.length:=(List.getElem?_eq_some_iff.mp e).1;have hj:i<vs.length:=by rw[r.length];exact hi
  refine qa4 (r.get (List.getElem?_eq_getElem hj)) ?_;intro b hb hr;rw[e] at hb;obtain rfl:=Sj hb;exact ⟨_,List.getElem?_eq_getElem hj,hr⟩
theorem RVs.append:∀{l:List AV} {vs:List Value},RVs W g h l vs->∀{l':List AV} {vs':List Value},RVs W g h l' vs'->RVs W g h (l++l') (vs++vs')
  | [],vs,r,_,_,r'=>by obtain rfl:vs=[]:=r;exact r'
  | a::l,vs,r,_,_,r'=>by refine qa3 (r) ?_;intro v q eq_16_2 h1 h2;subst eq_16_2;exact ⟨v,_,rfl,h1,h2.append r'⟩
theorem RVs.drop:∀{l:List AV} {vs:List Value},RVs W g h l vs->∀k,RVs W g h (l.drop k) (vs.drop k)
  | _,_,r,0=>r
  | [],vs,r,k+1=>by obtain rfl:vs=[]:=r;exact (rfl:([]:List Value)=[])
  | a::l,vs,r,k+1=>by refine qa3 (r) ?_;intro v q eq_17_2 h1 h2;subst eq_17_2;exact h2.drop k
theorem RVs.take:∀{l:List AV} {vs:List Value},RVs W g h l vs->∀k,RVs W g h (l.take k) (vs.take k)
  | _,_,_,0=>(rfl:([]:List Value)=[])
  | [],vs,r,k+1=>by obtain rfl:vs=[]:=r;exact (rfl:([]:List Value)=[])
  | a::l,vs,r,k+1=>by refine qa3 (r) ?_;intro v q eq_18_2 h1 h2;subst eq_18_2;exact ⟨v,_,rfl,h1,h2.take k⟩
end
noncomputable def qc9 (g:Addr->Own) (a:Addr) (o:Own):Addr->Own:=fun b=>if b=a then o else g b
theorem qa5 {g:Addr->Own}{o:Own}:qc9 g a o a=o:=if_pos rfl
theorem qa9 {g:Addr->Own}{b:Addr}{o:Own}(h:b≠a):qc9 g a o b=g b:=if_neg h
section
variable {W:Wd} {g:Addr->Own} {σ:List AObj}
theorem RO.mono {X:Addr->Prop}{g g':Addr->Own}(e:Evo W X Y g h g' h')(hX:XOk X g h)(hk:∀o,h.get? a=some o->h'.get? a=some o)(hk2:∀d,g d=.aux n->∀o,h.get? d=some o->h'.get? d=some o):
    (ao:AObj)->qdg ao=true->RO W g h a n ao->RO W g' h' a n ao
  | .lst items,hp,r=>by refine qcw (r) ?_;intro vs k ho hr;exact ⟨vs,k,hk _ ho,hr.mono e hX items (.inr hp) _⟩
  | .dstr keys vals,hp,r=>by
    refine qal (r) ?_;intro vs hd hl hr;refine ⟨vs,?_,hl,hr.mono e hX vals (.inr hp) _⟩;rw[Heap.dictOf_iff] at hd ⊢;refine qa4 (hd) ?_;intro o ho q;exact ⟨o,hk _ ho,q⟩
  | .dint keys vals,hp,r=>by
    refine qal (r) ?_;intro vs hd hl hr;refine ⟨vs,?_,hl,hr.mono e hX vals (.inr hp) _⟩;rw[Heap.dictOf_iff] at hd ⊢;refine qa4 (hd) ?_;intro o ho q;exact ⟨o,hk _ ho,q⟩
  | .fn0,hp,r=>by refine Exists.elim r ?_;intro fd ho;exact ⟨fd,hk _ ho⟩
  | .elem attrs vals,hp,r=>by
    refine qaz (r) ?_;intro fd d mh vs ho hd hn hr hm hl;refine ⟨fd,d,mh,vs,hk _ ho,e.aux d n hd,?_,hr.mono e hX vals (.inr hp) _,hm,hl⟩;refine qbu (hn) ?_;intro o es ep q r;exact ⟨o,es,ep,hk2 d hd o q,r⟩
  | .iter items,hp,r=>by
    refine qcv (r) ?_;intro la i vs k ne_28_4 hgl hl hr;refine qal ne_28_4 ?_;intro o ho hc hd;have hx:¬X la:=hX.not hgl hl (fun q=>by simp at q);exact ⟨la,i,vs,k,⟨o,hk _ ho,hc,hd⟩,e.fz la hgl hx,(e.keep la _ hl hx (.inl hgl)).get,hr.mono e hX items (.inr hp) _⟩
  | .iterDone,hp,r=>(True.intro:True)
theorem Rep.turn (R:Rep W fr g σ s){g':Addr->Own}(tk:Nat)(C:Addr->Prop)(hC:XOk C g s.heap)(hC1:∀a,C a->W.s1.heap.get? a=none)(hg:∀a,¬C a->g' a=g a)(hg':∀a,C a->g' a=.other)(hk:∀a o,s.heap.get? a=some o->¬C a->h'.get? a=some o)(hfr:∀a o es n,C a->s.heap.get? a=some o->o.data=.dict es n->∃o' es' n',h'.get? a=some o'/\o'.data=.dict es' n'/\o'.cls=o.cls):
    Rep W fr g' σ { s with heap:=h',toks:=tk }/\Evo W C noY g s.heap g' h':=by
  have hnt:∀a,W.tab a->¬C a:=fun a ht hc=>by have:=hC1 a hc;rw[W.tabEx a ht] at this;cases this
  have hnb:∀a o,W.s1.heap.get? a=some o->¬C a:=fun a o ho hc=>by rw[hC1 a hc] at ho;cases ho
  have hnL:∀a n,(g a=.loc n\/g a=.aux n)->¬C a:=fun a n hq hc=>by
    rcases (hC a hc).1 with q | ⟨q,_⟩ <;> rcases hq with r | r <;> (rw[q] at r;cases r)
  have hLg:∀a n,g' a=.loc n->g a=.loc n:=fun a n q=>by
    by_cases hc:C a
    . rw[hg' a hc] at q;cases q
    . rw[<- hg a hc];exact q
  have hAg:∀a n,g' a=.aux n->g a=.aux n:=fun a n q=>by
    by_cases hc:C a
    . rw[hg' a hc] at q;cases q
    . rw[<- hg a hc];exact q
  have e:Evo W C noY g s.heap g' h':=⟨fun a o ho hx _=>.of (hk a o ho hx),fun a o n ho hq _=>hk a o ho (hnL a n hq),fun a q hx=>by rw[hg a hx];exact q,fun a n q=>by rw[hg a (hnL a n (.inl q))];exact q,
    fun a n q=>by rw[hg a (hnL a n (.inr q))];exact q,fun a o ho q hx=>.inl (by rw[hg a hx];exact q),fun a o ht ho=>⟨o,hk a o ho (hnt a ht)⟩⟩
  refine ⟨⟨fun a o ho ht=>hk a o (R.base a o ho ht) (hnb a o ho),fun a o ho=>by rw[hg a (hnb a o ho)];exact R.baseO a o ho,
    fun a ht=>by rw[hg a (hnt a ht)];exact R.tabO a ht,fun a ht=>?_,
    fun a ha=>?_,fun n ao ho=>?_,fun a b n qa qb=>R.uniq a b n (hLg a n qa) (hLg b n qb),R.pl,fun a n q=>R.bnd a n (q.imp (hLg a n) (hAg a n)),fun en he=>?_,R.gens,R.os⟩,e⟩
  . refine qal (R.tabs a ht) ?_;intro more h2 h3 h4;exact ⟨more,hk a _ h2 (hnt a ht),h3,fun pos v q=>(h4 pos v q).mono e hC⟩
  . by_cases hc:C a
    . exact absurd (hg' a hc) ha
    . refine Exists.elim (R.low a (by rw[<- hg a hc];exact ha)) ?_;intro o ho;exact ⟨o,hk a o ho hc⟩
  . refine qa4 (R.locs n ao ho) ?_;intro a qa hr;exact ⟨a,e.loc a n qa,hr.mono e hC (fun o q=>hk a o q (hnL a n (.inl qa))) (fun d hd o q=>hk d o q (hnL d n (.inr hd))) ao (R.pl n ao ho)⟩
  . refine qaz (R.frs en he) ?_;intro f o es ep h1 h2 h3 h4 h7 h8;by_cases hc:C f
    . refine qav (hfr f o es ep hc h2 h3) ?_;intro o' es' n' h5 h6 h9;exact ⟨f,o',es',n',h1,h5,h6,hg' f hc,h9.trans h7,h8⟩
    . exact ⟨f,o,es,ep,h1,hk f o h2 hc,h3,by rw[hg f hc];exact h4,h7,h8⟩
theorem Rep.slots (R:Rep W fr g σ s)(tk:Nat)(D:Addr->Prop)(hD:∀a,D a->∃e∈fr,e.frame=some a)(hk:∀a o,s.heap.get? a=some o->¬D a->h'.get? a=some o)(hs:∀a o,D a->s.heap.get? a=some o->∃sl,h'.get? a=some { o with slots:=sl }):
    Rep W fr g σ { s with heap:=h',toks:=tk }/\Evo W noX noY g s.heap g h':=by
  have hD':∀a,D a->∃o es ep,s.heap.get? a=some o/\o.data=.dict es ep/\g a=.other/\o.cls=.type "frame"/\W.s1.heap.get? a=none:=fun a ha=>by
    refine qa4 (hD a ha) ?_;intro e he hf;refine qaz (R.frs e he) ?_;intro f o es ep h1 h2 h3 h4 h5 h6;rw[hf] at h1;obtain rfl:=Sj h1;exact ⟨o,es,ep,h2,h3,h4,h5,h6.1⟩
  have hnO:∀a,g a≠.other->¬D a:=fun a q hc=>by refine qa2 (hD' a hc) ?_;intro o es ep _ _ h4 _;exact q h4
  have hnb:∀a o,W.s1.heap.get? a=some o->¬D a:=fun a o ho hc=>by refine qec (hD' a hc) ?_;intro _ es ep _ _ _ _ h6;rw[h6] at ho;cases ho
  have hnL:∀a n,(g a=.loc n\/g a=.aux n)->¬D a:=fun a n hq=>hnO a (by rcases hq with q | q <;> rw[q] <;> exact nofun)
  have hkp:∀a o,s.heap.get? a=some o->KeptO o (h'.get? a):=fun a o ho=>by
    by_cases hc:D a
    . refine qec (hD' a hc) ?_;intro o' es ep h2 _ _ h5 _;rw[ho] at h2;obtain rfl:=Sj h2;exact .inr ⟨h5,hs a o hc ho⟩
    . exact .of (hk a o ho hc)
  have hnt:∀a,W.tab a->¬D a:=fun a ht=>hnb a _ (W.tabEx a ht)
  have e:Evo W noX noY g s.heap g h':=⟨fun a o ho _ _=>hkp a o ho,fun a o n ho hq _=>hk a o ho (hnL a n hq),fun a q _=>q,fun a n q=>q,fun a n q=>q,fun a o ho q _=>.inl q,fun a o ht ho=>⟨o,hk a o ho (hnt a ht)⟩⟩
  have hC:XOk noX g s.heap:=XOk.no;refine ⟨⟨fun a o ho ht=>hk a o (R.base a o ho ht) (hnb a o ho),R.baseO,R.tabO,fun a ht=>?_,
    fun a ha=>?_,fun n ao ho=>?_,R.uniq,R.pl,R.bnd,fun en he=>?_,R.gens,R.os⟩,e⟩
  . refine qal (R.tabs a ht) ?_;intro more h2 h3 h4;exact ⟨more,hk a _ h2 (hnt a ht),h3,fun pos v q=>(h4 pos v q).mono e hC⟩
  . obtain ⟨o,ho⟩:=R.low a ha;exact ⟨o,hk a o ho (hnO a ha)⟩
  . refine qa4 (R.locs n ao ho) ?_;intro a qa hr;exact ⟨a,qa,hr.mono e hC (fun o q=>hk a o q (hnL a n (.inl qa))) (fun d hd o q=>hk d o q (hnL d n (.inr hd))) ao (R.pl n ao ho)⟩
  . refine qaz (R.frs en he) ?_;intro f o es ep h1 h2 h3 h4 h7 h8;refine qal ((hkp f o h2).ex) ?_;intro o' h5 h6 h9;exact ⟨f,o',es,ep,h1,h5,h6.trans h3,h4,h9.trans h7,h8⟩
theorem Rep.keeps (R:Rep W fr g σ s)(tk:Nat)(hk:∀a o,s.heap.get? a=some o->h'.get? a=some o):
    Rep W fr g σ { s with heap:=h',toks:=tk }/\Evo W noX noY g s.heap g h':=
  R.turn tk noX XOk.no (fun _ h=>h.elim) (fun _ _=>rfl) (fun _ h=>h.elim) (fun a o ho _=>hk a o ho) (fun _ _ _ _ h=>h.elim)
theorem Rep.tok (R:Rep W fr g σ s)(tk:Nat):Rep W fr g σ { s with toks:=tk }:=
  (R.keeps (h':=s.heap) tk fun _ _ h=>h).1
theorem qak (h:Heap):h.get? h.objs.size=none:=Heap.get?_none_of_le (Nat.le_refl _)
theorem Rep.top (R:Rep W fr g σ s):g s.heap.objs.size=.other:=Classical.byContradiction fun q=>by
  refine Exists.elim (R.low _ q) ?_;intro o ho;rw[qak] at ho;cases ho
theorem qh0 (ho:h.get? a=some o):a≠h.objs.size:=Nat.ne_of_lt (Heap.lt_size ho)
theorem Rep.pushEvo (R:Rep W fr g σ s)(o:Obj)(w:Own):Evo W noX Y g s.heap (qc9 g s.heap.objs.size w) (s.heap.push o):=by
  have hin:∀{a:Addr},g a≠.other->qc9 g s.heap.objs.size w a=g a:=fun {a} hg=>by refine Exists.elim (R.low a hg) ?_;intro o ho;exact qa9 (qh0 ho)
  exact ⟨fun a o' ho _ _=>.of (Heap.get?_push_of_some _ ho),fun a o' _ ho _ _=>Heap.get?_push_of_some _ ho,fun a hg _=>by rw[hin (by rw[hg];nofun)];exact hg,fun a n hg=>by rw[hin (by rw[hg];nofun)];exact hg,
      fun a n hg=>by rw[hin (by rw[hg];nofun)];exact hg,fun a o' ho hg _=>.inl (by rw[qa9 (qh0 ho)];exact hg),fun a o' _ ho=>⟨o',Heap.get?_push_of_some _ ho⟩⟩
theorem Rep.pushG (R:Rep W fr g σ s)(o:Obj)(w:Own)(hf:o.isFreed=false){z':List AObj}(hw:(z'=σ/\(w=.fz\/w=.other))\/∃ao,z'=σ++[ao]/\w=.loc σ.length/\qdg ao=true/\RO W (qc9 g s.heap.objs.size w) (s.heap.push o) s.heap.objs.size σ.length ao):
    Rep W fr (qc9 g s.heap.objs.size w) z' { s with heap:=s.heap.push o }:=by
  have e:Evo W noX noY g s.heap (qc9 g s.heap.objs.size w) (s.heap.push o):=R.pushEvo o w;have hX:XOk noX g s.heap:=XOk.no;have hn:∀{a:Addr} {o':Obj},s.heap.get? a=some o'->qc9 g s.heap.objs.size w a=g a:=fun ho=>qa9 (qh0 ho)
  have hwl:∀a n,qc9 g s.heap.objs.size w a=.loc n->(a=s.heap.objs.size/\n=σ.length/\z'.length=σ.length+1)\/g a=.loc n:=fun a n hg=>by
    by_cases ha:a=s.heap.objs.size
    . subst ha;rw[qa5] at hg;rcases hw with ⟨_,q | q⟩ | ⟨ao,q1,q,_⟩ <;> rw[q] at hg
      . cases hg
      . cases hg
      . injection hg with hg;exact .inl ⟨rfl,hg.symm,by rw[q1,List.length_append];rfl⟩
    . rw[qa9 ha] at hg;exact .inr hg
  have hwa:∀a n,qc9 g s.heap.objs.size w a=.aux n->g a=.aux n:=fun a n hg=>by
    by_cases ha:a=s.heap.objs.size
    . subst ha;rw[qa5] at hg;rcases hw with ⟨_,q | q⟩ | ⟨ao,_,q,_⟩ <;> rw[q] at hg <;> cases hg
    . rw[qa9 ha] at hg;exact hg
  have hsl:σ.length<=z'.length:=by rcases hw with ⟨q,_⟩ | ⟨ao,q,_⟩ <;> rw[q] <;> simp
  have old:∀(n:Nat) (ao:AObj),σ[n]?=some ao->∃a,qc9 g s.heap.objs.size w a=.loc n/\RO W (qc9 g s.heap.objs.size w) (s.heap.push o) a n ao:=fun n ao ho=>by
    refine qa4 (R.locs n ao ho) ?_;intro a hg hr;exact ⟨a,e.loc a n hg,hr.mono e hX (fun o q=>Heap.get?_push_of_some _ q) (fun d hd o q=>Heap.get?_push_of_some _ q) ao (R.pl n ao ho)⟩
  have split:∀(n:Nat) (ao:AObj),z'[n]?=some ao->σ[n]?=some ao\/(n=σ.length/\w=.loc σ.length/\qdg ao=true/\RO W (qc9 g s.heap.objs.size w) (s.heap.push o) s.heap.objs.size σ.length ao):=fun n ao ho=>by
    rcases hw with ⟨q,_⟩ | ⟨ao',q,q1,q2,q3⟩
    . rw[q] at ho;exact .inl ho
    . rw[q] at ho;by_cases hn:n<σ.length
      . rw[List.getElem?_append_left hn] at ho;exact .inl ho
      . rw[List.getElem?_append_right (Nat.le_of_not_lt hn)] at ho;have hn':n - σ.length=0:=by
          have:=(List.getElem?_eq_some_iff.mp ho).1;simp at this;assumption
        rw[hn'] at ho;obtain rfl:=Sj ho;exact .inr ⟨by grind,q1,q2,q3⟩
  refine ⟨fun a o' ho ht=>Heap.get?_push_of_some _ (R.base a o' ho ht),fun a o' ho=>?_,
    fun a ht=>?_,fun a ht=>?_,fun a ha=>?_,fun n ao ho=>?_,
    fun a b n ha hb=>?_,fun n ao ho=>?_,fun a n hg=>?_,fun en he=>?_,R.gens,R.os⟩
  . by_cases ht:W.tab a
    . refine qa4 (R.tabs a ht) ?_;intro more h2 _;rw[hn h2];exact R.baseO a o' ho
    . rw[hn (R.base a o' ho ht)];exact R.baseO a o' ho
  . refine qa4 (R.tabs a ht) ?_;intro more h2 _;rw[hn h2];exact R.tabO a ht
  . refine qal (R.tabs a ht) ?_;intro more h2 h3 h4;exact ⟨more,Heap.get?_push_of_some _ h2,h3,fun pos v q=>(h4 pos v q).mono e hX⟩
  . by_cases hq:a=s.heap.objs.size
    . subst hq;exact ⟨o,Heap.get?_push_size _ hf⟩
    . rw[qa9 hq] at ha;obtain ⟨o',ho'⟩:=R.low a ha;exact ⟨o',Heap.get?_push_of_some _ ho'⟩
  . rcases split n ao ho with q | ⟨rfl,q1,q2,q3⟩
    . exact old n ao q
    . exact ⟨_,by rw[qa5];exact q1,q3⟩
  . rcases hwl a n ha with ⟨qa,qn,_⟩ | qa <;> rcases hwl b n hb with ⟨qb,rn,_⟩ | qb
    . rw[qa,qb]
    . have:=R.bnd b n (.inl qb);simp_all
    . have:=R.bnd a n (.inl qa);simp_all
    . exact R.uniq a b n qa qb
  . rcases split n ao ho with q | ⟨rfl,q1,q2,q3⟩
    . exact R.pl n ao q
    . exact q2
  . rcases hg with hg | hg
    . rcases hwl a n hg with ⟨_,q,r⟩ | q
      . simp_all
      . have:=R.bnd a n (.inl q);lia
    . have:=R.bnd a n (.inr (hwa a n hg));lia
  . refine qaj (R.frs en he) ?_;intro f o' es ep h1 h2 h3 h4 h5;exact ⟨f,o',es,ep,h1,Heap.get?_push_of_some _ h2,h3,by rw[hn h2];exact h4,h5⟩
theorem Rep.push (R:Rep W fr g σ s)(o:Obj)(w:Own)(hf:o.isFreed=false)(hw:w=.fz\/w=.other):
    Rep W fr (qc9 g s.heap.objs.size w) σ { s with heap:=s.heap.push o }/\Evo W noX noY g s.heap (qc9 g s.heap.objs.size w) (s.heap.push o):=
  ⟨R.pushG o w hf (.inl ⟨rfl,hw⟩),R.pushEvo o w⟩
theorem Rep.pushLoc (R:Rep W fr g σ s)(o:Obj){ao:AObj}(hp:qdg ao=true)(hr:RO W (qc9 g s.heap.objs.size (.loc σ.length)) (s.heap.push o) s.heap.objs.size σ.length ao)(hf:autoParam (o.isFreed=false) ap0._auto_1):
    Rep W fr (qc9 g s.heap.objs.size (.loc σ.length)) (σ++[ao]) { s with heap:=s.heap.push o }/\Evo W noX noY g s.heap (qc9 g s.heap.objs.size (.loc σ.length)) (s.heap.push o):=
  ⟨R.pushG o _ hf (.inr ⟨ao,rfl,rfl,hp,hr⟩),R.pushEvo o _⟩
end
end
variable {l:List AV} {m:List (Option AV)} {W:Wd} {g:Addr->Own} {g':Addr->Own} {v:AV} {vs:List AV} {σ:List AObj} {z':List AObj} {ao:AObj} {m':List (Option AV)} {z1:List AObj} {z2:List AObj} {av:AV} {z3:List AObj} {m1:List (Option AV)} {z'':List AObj} {kv:List AV} {args:List AV} {y:AV} {m2:List (Option AV)} {v':AV} {acc:List AV} {vals:List AV} {τ:List AObj} {key:AV} {sg:S->List AObj} {H:AV} {ch:List AV}
section
section
theorem Evo.setLoc (R:Rep W fr g σ s)(hg:∀b o,s.heap.get? b=some o->g' b=g b)(hk:∀b o,s.heap.get? b=some o->g b≠.loc n->g b≠.aux n->h'.get? b=some o):Evo W noX (·=n) g s.heap g' h':=by
  have hin:∀{a:Addr},g a≠.other->g' a=g a:=fun {a} q=>by refine Exists.elim (R.low a q) ?_;intro o ho;exact hg a o ho
  refine ⟨fun a o ho _ hq=>.of (hk a o ho ?_ ?_),fun a o j ho hj hy=>hk a o ho (fun q=>?_) (fun q=>?_),fun a q _=>by rw[hin (by rw[q];nofun)];exact q,fun a n q=>by rw[hin (by rw[q];nofun)];exact q,fun a n q=>by rw[hin (by rw[q];nofun)];exact q,
    fun a o ho q _=>.inl (by rw[hg a o ho];exact q),fun a o ht ho=>⟨o,hk a o ho (by rw[R.tabO a ht];nofun) (by rw[R.tabO a ht];nofun)⟩⟩
  . rcases hq with q | ⟨q,_⟩ <;> rw[q] <;> nofun
  . rcases hq with q | ⟨q,_⟩ <;> rw[q] <;> nofun
  . rw[q] at hj;rcases hj with hj | hj <;> cases hj;exact hy rfl
  . rw[q] at hj;rcases hj with hj | hj <;> cases hj;exact hy rfl
theorem Rep.setLoc (R:Rep W fr g σ s)(tk:Nat){ao':AObj}(hn:σ[n]?=some ao)(hg:∀b o,s.heap.get? b=some o->g' b=g b)(hg2:∀b,s.heap.get? b=none->g' b=.other\/((g' b=.aux n\/g' b=.fz)/\∃o,h'.get? b=some o))(hk:∀b o,s.heap.get? b=some o->g b≠.loc n->g b≠.aux n->h'.get? b=some o)(hk2:∀b o,s.heap.get? b=some o->(g b=.loc n\/g b=.aux n)->∃o',h'.get? b=some o')(hp:qdg ao'=true)(hr:∀a,g a=.loc n->RO W g' h' a n ao'):
    Rep W fr g' (σ.set n ao') { s with heap:=h',toks:=tk }:=by
  have e:=Evo.setLoc R hg hk;have hX:XOk noX g s.heap:=XOk.no;have hnl:n<σ.length:=(List.getElem?_eq_some_iff.mp hn).1;have hcase:∀a,(∃o,s.heap.get? a=some o)\/s.heap.get? a=none:=fun a=>by cases s.heap.get? a with | none=>exact .inr rfl | some o=>exact .inl ⟨o,rfl⟩
  have hlc:∀a k,g' a=.loc k->g a=.loc k:=fun a k q=>by
    rcases hcase a with ⟨o,ho⟩ | ho
    . rw[<- hg a o ho];exact q
    . rcases hg2 a ho with r | ⟨r | r,_⟩ <;> rw[r] at q <;> cases q
  refine ⟨fun a o ho ht=>hk a o (R.base a o ho ht) ?_ ?_,fun a o ho=>?_,
    fun a ht=>?_,fun a ht=>?_,fun a ha=>?_,fun k ak hk'=>?_,fun a b k qa qb=>R.uniq a b k (hlc a k qa) (hlc b k qb),fun k ak hk'=>?_,fun a k q=>?_,fun en he=>?_,R.gens,R.os⟩
  . rcases R.baseO a o ho with q | q <;> rw[q] <;> exact nofun
  . rcases R.baseO a o ho with q | q <;> rw[q] <;> exact nofun
  . by_cases ht:W.tab a
    . refine qa4 (R.tabs a ht) ?_;intro more h2 _;rw[hg a _ h2];exact R.baseO a o ho
    . rw[hg a _ (R.base a o ho ht)];exact R.baseO a o ho
  . refine qa4 (R.tabs a ht) ?_;intro more h2 _;rw[hg a _ h2];exact R.tabO a ht
  . refine qal (R.tabs a ht) ?_;intro more h2 h3 h4;have q:=R.tabO a ht;exact ⟨more,hk a _ h2 (by rw[q];exact nofun) (by rw[q];exact nofun),h3,fun pos v q=>(h4 pos v q).mono e hX⟩
  . rcases hcase a with ⟨o,ho⟩ | ho
    . by_cases q1:g a=.loc n
      . exact hk2 a o ho (.inl q1)
      . by_cases q2:g a=.aux n
        . exact hk2 a o ho (.inr q2)
        . exact ⟨o,hk a o ho q1 q2⟩
    . rcases hg2 a ho with r | ⟨_,r⟩
      . exact absurd r ha
      . exact r
  . by_cases hkn:k=n
    . subst hkn;rw[List.getElem?_set_self hnl] at hk';obtain rfl:=Sj hk';refine qa4 (R.locs k ao hn) ?_;intro a qa _;exact ⟨a,e.loc a k qa,hr a qa⟩
    . rw[List.getElem?_set_ne (Ne.symm hkn)] at hk';refine qa4 (R.locs k ak hk') ?_;intro a qa ra;refine ⟨a,e.loc a k qa,ra.mono e hX (fun o q=>hk a o q ?_ ?_) (fun d hd o q=>hk d o q ?_ ?_) ak (R.pl k ak hk')⟩
      . rw[qa];intro q;injection q with q;exact hkn q
      . rw[qa];exact nofun
      . rw[hd];exact nofun
      . rw[hd];intro q;injection q with q;exact hkn q
  . by_cases hkn:k=n
    . subst hkn;rw[List.getElem?_set_self hnl] at hk';obtain rfl:=Sj hk';exact hp
    . rw[List.getElem?_set_ne (Ne.symm hkn)] at hk';exact R.pl k ak hk'
  . rw[List.length_set];rcases hcase a with ⟨o,ho⟩ | ho
    . rw[hg a o ho] at q;exact R.bnd a k q
    . rcases hg2 a ho with r | ⟨r | r,_⟩ <;> rw[r] at q
      . rcases q with q | q <;> cases q
      . rcases q with q | q
        . cases q
        . injection q with q;rw[<- q];exact hnl
      . rcases q with q | q <;> cases q
  . refine qaj (R.frs en he) ?_;intro f o es ep h1 h2 h3 h4 h5;exact ⟨f,o,es,ep,h1,hk f o h2 (by rw[h4];exact nofun) (by rw[h4];exact nofun),h3,by rw[hg f o h2];exact h4,h5⟩
theorem Rep.fewer {fr':List Env}(R:Rep W fr g σ s)(h:∀e∈fr',e∈fr):Rep W fr' g σ s:=
  { R with frs:=fun e he=>R.frs e (h e he) }
end
mutual
noncomputable def qbf (b:Nat):AV->Bool
  | .loc n=>decide (n<b)
  | .tup l=>qae b l
  | .lst l=>qae b l
  | .bound _ s=>qbf b s
  | .clo ..=>false
  | _=>true
termination_by structural x=>x
noncomputable def qae (b:Nat):List AV->Bool
  | []=>true
  | a::l=>qbf b a&&qae b l
termination_by structural x=>x
end
noncomputable def qdq (b:Nat):AObj->Bool
  | .lst l=>qae b l
  | .dstr _ l=>qae b l
  | .dint _ l=>qae b l
  | .elem _ l=>qae b l
  | .iter l=>qae b l
  | _=>true
mutual
noncomputable def frz (b:Nat) (σ:List AObj):AV->AV
  | .loc n=>if n<b then .loc n else match σ[n]? with
    | some (.lst l)=>if qae b l then .lst l else .any
    | _=>.any
  | .tup l=>.tup (qf4 b σ l)
  | .lst l=>.lst (qf4 b σ l)
  | .bound f s=>if qbf b s then .bound f s else .any
  | .clo ..=>.any
  | .none=>.none
  | .bool b=>.bool b
  | .int i=>.int i
  | .str s=>.str s
  | .glob v=>.glob v
  | .any=>.any
termination_by structural x=>x
noncomputable def qf4 (b:Nat) (σ:List AObj):List AV->List AV
  | []=>[]
  | a::l=>frz b σ a::qf4 b σ l
termination_by structural x=>x
end
mutual
theorem qby:(v:AV)->qbf b v=true->frz b σ v=v
  | .loc n,h=>by have h':decide (n<b)=true:=h;show (if n<b then _ else _)=_;rw[if_pos (of_decide_eq_true h')]
  | .tup l,h=>by show AV.tup (qf4 b σ l)=_;rw[qb1 l h]
  | .lst l,h=>by show AV.lst (qf4 b σ l)=_;rw[qb1 l h]
  | .bound f s,h=>by have h':qbf b s=true:=h;show (if qbf b s=true then AV.bound f s else .any)=_;rw[if_pos h']
  | .clo ..,h=>by cases (h:false=true)
  | .none,_=>rfl
  | .bool _,_=>rfl
  | .int _,_=>rfl
  | .str _,_=>rfl
  | .glob _,_=>rfl
  | .any,_=>rfl
termination_by structural x=>x
theorem qb1:(l:List AV)->qae b l=true->qf4 b σ l=l
  | [],_=>rfl
  | a::l,h=>by
    have h':(qbf b a&&qae b l)=true:=h;rw[Bool.and_eq_true] at h';show frz b σ a::qf4 b σ l=_;rw[qby a h'.1,qb1 l h'.2]
termination_by structural x=>x
end
noncomputable def isL:Option Obj->Bool
  | some ⟨.type "list",none,.seq ..,_⟩=>true
  | _=>false
noncomputable def gx (k:Nat) (g:Addr->Own) (h:Heap):Addr->Own:=fun a=>match g a with
  | .loc n=>if n<k then .loc n else bif isL (h.get? a) then .fz else .other
  | .aux n=>if n<k then .aux n else .other
  | o=>o
section
theorem qfe (e:g a=.fz):gx k g h a=.fz:=by unfold gx;rw[e]
theorem qci (e:g a=.other):gx k g h a=.other:=by unfold gx;rw[e]
theorem qh5 (e:g a=.loc n)(hn:n<k):gx k g h a=.loc n:=by unfold gx;rw[e];exact if_pos hn
theorem qlq (e:g a=.aux n)(hn:n<k):gx k g h a=.aux n:=by unfold gx;rw[e];exact if_pos hn
theorem qrt {m:Nat}{vs:Array Value}(e:g a=.loc n)(hn:¬n<k)(ho:h.get? a=some (qab vs m)):gx k g h a=.fz:=by
  unfold gx;rw[e];show (if n<k then _ else _)=_;rw[if_neg hn,ho];rfl
theorem qqw (e:g a=.loc n)(hn:¬n<k):gx k g h a=.fz\/gx k g h a=.other:=by
  unfold gx;rw[e];show (if n<k then _ else _)=_\/(if n<k then _ else _)=_;rw[if_neg hn];cases isL (h.get? a)
  . exact .inr rfl
  . exact .inl rfl
theorem qop (e:g a=.aux n)(hn:¬n<k):gx k g h a=.other:=by unfold gx;rw[e];exact if_neg hn
theorem qex (e:gx k g h a=.loc n):g a=.loc n/\n<k:=by
  cases q:g a with
  | fz=>cases (qfe q).symm.trans e
  | other=>cases (qci q).symm.trans e
  | aux m=>
    by_cases hm:m<k
    . cases (qlq q hm).symm.trans e
    . cases (qop q hm).symm.trans e
  | loc m=>
    by_cases hm:m<k
    . obtain rfl:=Own.loc.inj ((qh5 q hm).symm.trans e);exact ⟨rfl,hm⟩
    . rcases qqw (h:=h) q hm with r | r <;> cases r.symm.trans e
theorem qmj (e:gx k g h a=.aux n):g a=.aux n/\n<k:=by
  cases q:g a with
  | fz=>cases (qfe q).symm.trans e
  | other=>cases (qci q).symm.trans e
  | loc m=>
    by_cases hm:m<k
    . cases (qh5 q hm).symm.trans e
    . rcases qqw (h:=h) q hm with r | r <;> cases r.symm.trans e
  | aux m=>
    by_cases hm:m<k
    . obtain rfl:=Own.aux.inj ((qlq q hm).symm.trans e);exact ⟨rfl,hm⟩
    . cases (qop q hm).symm.trans e
mutual
theorem RV.cl:(av:AV)->qbf k av=true->(v:Value)->RV W g h av v->RV W (gx k g h) h av v
  | .loc n,hc,v,r=>by
    refine qa4 (r) ?_;intro a eq_7_1 hg;subst eq_7_1;have hc':decide (n<k)=true:=hc;exact ⟨a,rfl,qh5 hg (of_decide_eq_true hc')⟩
  | .tup l,hc,v,r=>by
    refine qa2 (r) ?_;intro a vs n eq_8_3 hg ho hr;subst eq_8_3;exact ⟨a,vs,n,rfl,qfe hg,ho,RVs.cl l hc _ hr⟩
  | .lst l,hc,v,r=>by
    refine qa2 (r) ?_;intro a vs n eq_9_3 hg ho hr;subst eq_9_3;exact ⟨a,vs,n,rfl,qfe hg,ho,RVs.cl l hc _ hr⟩
  | .bound f q,hc,v,r=>by
    refine qb0 (r) ?_;intro a sv eq_10_2 hg ho hr;subst eq_10_2;exact ⟨a,sv,rfl,qfe hg,ho,RV.cl q hc _ hr⟩
  | .clo ..,hc,v,r=>by cases (hc:false=true)
  | .none,_,v,r=>(r:v=.none)
  | .bool b,_,v,r=>(r:v=.bool b)
  | .int i,_,v,r=>(r:∃t,v=.int i t)
  | .str x,_,v,r=>(r:∃t,v=.str x t)
  | .glob w,_,v,r=>(r:v=w)
  | .any,_,v,r=>(True.intro:True)
termination_by structural x=>x
theorem RVs.cl:(l:List AV)->qae k l=true->(vs:List Value)->RVs W g h l vs->RVs W (gx k g h) h l vs
  | [],_,vs,r=>(r:vs=[])
  | a::l,hc,vs,r=>by
    refine qa3 (r) ?_;intro v q eq_11_2 h1 h2;subst eq_11_2;have h':(qbf k a&&qae k l)=true:=hc;rw[Bool.and_eq_true] at h';exact ⟨v,q,rfl,RV.cl a h'.1 _ h1,RVs.cl l h'.2 _ h2⟩
termination_by structural x=>x
end
mutual
theorem RV.exit (R:Rep W fr g σ s):(av:AV)->(v:Value)->RV W g s.heap av v->RV W (gx k g s.heap) s.heap (frz k σ av) v
  | .loc n,v,r=>by
    refine qa4 (r) ?_;intro a eq_12_1 hg;subst eq_12_1;show RV W (gx k g s.heap) s.heap (if n<k then .loc n else match σ[n]? with | some (.lst l)=>if qae k l then .lst l else .any | _=>.any) _;by_cases hn:n<k
    . rw[if_pos hn];exact ⟨a,rfl,qh5 hg hn⟩
    . rw[if_neg hn];split
      . rename_i l e;split
        . rename_i hc;refine qa4 (R.locs n _ e) ?_;intro a' ha' ro;have:a'=a:=R.uniq _ _ _ ha' hg;subst this;refine qcw (ro) ?_;intro vs m ho hr;exact ⟨a',vs,m,rfl,qrt hg hn ho,ho,RVs.cl l hc _ hr⟩
        . exact (True.intro:True)
      . exact (True.intro:True)
  | .tup l,v,r=>by
    refine qa2 (r) ?_;intro a vs n eq_15_3 hg ho hr;subst eq_15_3;exact ⟨a,vs,n,rfl,qfe hg,ho,RVs.exit R l _ hr⟩
  | .lst l,v,r=>by
    refine qa2 (r) ?_;intro a vs n eq_16_3 hg ho hr;subst eq_16_3;exact ⟨a,vs,n,rfl,qfe hg,ho,RVs.exit R l _ hr⟩
  | .bound f q,v,r=>by
    refine qb0 (r) ?_;intro a sv eq_17_2 hg ho hr;subst eq_17_2;show RV W (gx k g s.heap) s.heap (if qbf k q=true then AV.bound f q else .any) _;split
    . rename_i hc;exact ⟨a,sv,rfl,qfe hg,ho,RV.cl q hc _ hr⟩
    . exact (True.intro:True)
  | .clo ..,v,r=>(True.intro:True)
  | .none,v,r=>(r:v=.none)
  | .bool b,v,r=>(r:v=.bool b)
  | .int i,v,r=>(r:∃t,v=.int i t)
  | .str x,v,r=>(r:∃t,v=.str x t)
  | .glob w,v,r=>(r:v=w)
  | .any,v,r=>(True.intro:True)
termination_by structural x=>x
theorem RVs.exit (R:Rep W fr g σ s):(l:List AV)->(vs:List Value)->RVs W g s.heap l vs->RVs W (gx k g s.heap) s.heap (qf4 k σ l) vs
  | [],vs,r=>(r:vs=[])
  | a::l,vs,r=>by
    refine qa3 (r) ?_;intro v q eq_18_2 h1 h2;subst eq_18_2;exact ⟨v,q,rfl,RV.exit R a _ h1,RVs.exit R l _ h2⟩
termination_by structural x=>x
end
theorem CodeOk.exit {v:Value}(c:CodeOk W g h v):CodeOk W (gx k g h) h v:=by
  refine qg2 (c) ?_;(try clear c);intro c o vs q t eq_19_5 hg r;subst eq_19_5;exact ⟨c,o,vs,q,t,rfl,qci hg,r⟩
theorem Evo.exit {X:Addr->Prop}{g0:Addr->Own}{h0a:Heap}(e:Evo W X Y g0 h0a g h)(hb:∀a n,(g0 a=.loc n\/g0 a=.aux n)->n<b)(hk:b<=k):Evo W X Y g0 h0a (gx k g h) h:=
  ⟨e.keep,e.keepL,fun a q hx=>qfe (e.fz a q hx),fun a n q=>qh5 (e.loc a n q) (Nat.lt_of_lt_of_le (hb a n (.inl q)) hk),fun a n q=>qlq (e.aux a n q) (Nat.lt_of_lt_of_le (hb a n (.inr q)) hk),
    fun a o ha q hx=>(e.oth a o ha q hx).imp qci fun r=>⟨qfe r.1,r.2⟩,e.tabs⟩
end
end
section
noncomputable def kcl:NameKind->Nat
  | .local=>0
  | .cell=>1
  | .free=>1
  | _=>2
structure Cx where
  W:Wd
  Y:Nat->Prop
  nm:List (Str×NameKind)
  cd:Value
structure Fra (C:Cx) (env:Env) (m:List (Option AV)) (g:Addr->Own) (h:Heap):Prop where
  kind:env.scope.kind=.function
  names:∀(i:Nat) (x:Str) (k:NameKind),C.nm[i]?=some (x,k)->∃k',env.kindOf x=some k'/\kcl k'=kcl k
  nd:∀(i j:Nat) (x:Str) (k k':NameKind),C.nm[i]?=some (x,k)->C.nm[j]?=some (x,k')->i=j
  glob:env.globals=mainGlobals
  blt:env.builtins=builtinsNs
  code:env.code=C.cd
  Lo:g env.locals=.other
  Lz:C.W.s1.heap.get? env.locals=none
  ns:∃mh,h.Ns env.locals mh/\∀(i:Nat) (x:Str) (av:AV),C.nm[i]?=some (x,.local)->m[i]?=some (some av)->∃v,mh x=some v/\RV C.W g h av v
  cell:∀(i:Nat) (x:Str) (k:NameKind),C.nm[i]?=some (x,k)->kcl k=1->∃c ov,env.cells.lookup x=some c/\C.W.s1.heap.get? c=none/\h.get? c=some (qb5 ov)/\(g c=.other\/g c=.fz) /\
    ∀av,m[i]?=some (some av)->∃v,ov=some v/\RV C.W g h av v
  pl:(∀(i:Nat) (x:Str),C.nm[i]?≠some (x,.cell))\/(∀(i:Nat) (av:AV),m[i]?=some (some av)->plain av=true)
  inj:∀(i j:Nat) (x y:Str) (k:NameKind) (c:Addr),C.nm[i]?=some (x,.cell)->C.nm[j]?=some (y,k)->kcl k=1->env.cells.lookup x=some c->env.cells.lookup y=some c->i=j
noncomputable def FX (nm:List (Str×NameKind)) (env:Env):Addr->Prop:=fun a=>a=env.locals\/∃(i:Nat) (x:Str),nm[i]?=some (x,.cell)/\env.cells.lookup x=some a
structure Room (k:Nat) (fr:List Env) (A:Around):Prop where
  handled:A.handled=none
  depth:A.depth+k<=600
  units:A.units+8*k<=9000
  frames:A.frames=some fr
section
variable {C:Cx}
theorem Room.le {k':Nat}(r:Room k fr A)(h:k'<=k):Room k' fr A:=⟨r.handled,by have:=r.depth;lia,by have:=r.units;lia,r.frames⟩
theorem Room.in1 (r:Room (k+1) fr A):Room k fr A.in1:=⟨r.handled,by have:=r.depth;show A.depth+k<=600;lia,by have:=r.units;show A.units+1+8*k<=9000;lia,r.frames⟩
theorem Room.deeper {e:Env}(r:Room (k+1) fr A):Room k (e::fr) (A.deeper e):=
  ⟨r.handled,by have:=r.depth;show A.depth+1+k<=600;lia,by have:=r.units;show A.units+3+8*k<=9000;lia,by show A.frames.map _=_;rw[r.frames];rfl⟩
theorem Room.line (r:Room k fr A):A.units<cLine:=by have:=r.units;have:cLine=9900:=rfl;lia
theorem Room.dep (r:Room k fr A):A.depth<recursionLimit:=by have:=r.depth;have:recursionLimit=1000:=rfl;lia
theorem qbc (h:C.W.s1.heap.get? a=none):¬C.W.tab a:=fun q=>by rw[C.W.tabEx a q] at h;cases h
theorem Fra.evo (F:Fra C env m g h)(e:Evo C.W noX Y g h g' h'):Fra C env m g' h':=by
  have hX:XOk noX g h:=XOk.no;have up:∀av v,RV C.W g h av v->RV C.W g' h' av v:=fun av v r=>r.mono e hX av (.inl fun _ q=>q.elim) v
  refine qa4 (F.ns) ?_;intro mh ne_0_1 hm;refine qav ne_0_1 ?_;intro oL es ep hL hLd r;refine qal ((e.keep _ _ hL (fun q=>q) (.inr ⟨F.Lo,qbc F.Lz⟩)).ex) ?_;intro oL' hL' hLd' _;rw[hLd] at hLd';refine ⟨F.kind,F.names,F.nd,F.glob,F.blt,F.code,?_,F.Lz,⟨mh,⟨oL',es,ep,hL',hLd',r⟩,fun i x av h1 h2=>?_⟩,fun i x k h1 h2=>?_,F.pl,F.inj⟩
  . rcases e.oth _ _ hL F.Lo (fun q=>q) with q | ⟨_,u,q⟩
    . exact q
    . rw[hL'] at q;obtain rfl:=Sj q;cases hLd'
  . refine qa4 (hm i x av h1 h2) ?_;intro v h3 h4;exact ⟨v,h3,up _ _ h4⟩
  . refine qat (F.cell i x k h1 h2) ?_;intro c ov h3 h4 h5 h6 h7;have h5':h'.get? c=some (qb5 ov):=(e.keep _ _ h5 (fun q=>q) (h6.symm.imp id fun q=>⟨q,qbc h4⟩)).get;refine ⟨c,ov,h3,h4,h5',?_,fun av q=>?_⟩
    . rcases h6 with q | q
      . exact (e.oth _ _ h5 q (fun q=>q)).imp id (·.1)
      . exact .inr (e.fz _ q fun q=>q)
    . refine qa4 (h7 av q) ?_;intro v h8 h9;exact ⟨v,h8,up _ _ h9⟩
theorem Fra.weak (F:Fra C env m g h)(hw:∀(i:Nat) (av:AV),m'[i]?=some (some av)->m[i]?=some (some av)):Fra C env m' g h:=by
  refine qa4 (F.ns) ?_;intro mh hn hm;refine { F with ns:=⟨mh,hn,fun i x av h1 h2=>hm i x av h1 (hw i av h2)⟩,cell:=fun i x k h1 h2=>?_,pl:=F.pl.imp id fun q i av h=>q i av (hw i av h) };refine qat (F.cell i x k h1 h2) ?_;intro c ov h3 h4 h5 h6 h7;exact ⟨c,ov,h3,h4,h5,h6,fun av q=>h7 av (hw i av q)⟩
theorem Fra.xok (F:Fra C env m g h):XOk (FX C.nm env) g h:=by
  intro a ha;rcases ha with rfl | ⟨i,x,hi,hc⟩
  . refine qa4 (F.ns) ?_;intro mh ne_7_1 hm;refine qav ne_7_1 ?_;intro oL es ep hL hLd r;exact ⟨.inl F.Lo,fun o vs ho hd=>by rw[hL] at ho;obtain rfl:=Sj ho;rw[hLd] at hd;cases hd⟩
  . refine qat (F.cell i x .cell hi rfl) ?_;intro c ov h3 h4 h5 h6 h7;rw[hc] at h3;obtain rfl:=Sj h3;exact ⟨h6.imp id fun q=>⟨q,_,h5⟩,fun o vs ho hd=>by rw[h5] at ho;obtain rfl:=Sj ho;cases hd⟩
end
def Ev (C:Cx) (k:Nat) (fr:List Env) (m:List (Option AV)) (σ:List AObj) (e:Expr) (v:AV) (z':List AObj):Prop:=
  ∀(A:Around) (env:Env) (g:Addr->Own) (s:Shared),Room k fr A->Rep C.W fr g σ s->Fra C env m g s.heap->∀(Q:Value->Shared->Prop) (E:Value->Shared->Prop),
    (∀v' g' s',Rep C.W fr g' z' s'->Evo C.W noX C.Y g s.heap g' s'.heap->RV C.W g' s'.heap v v'->Q v' s')->wpAny (model C.W.prog C.W.w) A (eval e env) Q E s
def Tr (C:Cx) (k:Nat) (fr:List Env) (m:List (Option AV)) (σ:List AObj) (e:Expr) (b:Bool) (z':List AObj):Prop:=
  ∀(A:Around) (env:Env) (g:Addr->Own) (s:Shared),Room k fr A->Rep C.W fr g σ s->Fra C env m g s.heap->∀(Q:Bool->Shared->Prop) (E:Value->Shared->Prop),
    (∀g' s',Rep C.W fr g' z' s'->Evo C.W noX C.Y g s.heap g' s'.heap->Q b s')->wpAny (model C.W.prog C.W.w) A (isTrue e env (eval e env)) Q E s
def Op2 (W:Wd) (Y:Nat->Prop) (k:Nat) (fr:List Env) (σ:List AObj) (t:Value->Value->Sem Value) (a b v:AV) (z':List AObj):Prop:=
  ∀(A:Around) (g:Addr->Own) (s:Shared) (va vb:Value),Room k fr A->Rep W fr g σ s->RV W g s.heap a va->RV W g s.heap b vb->∀(Q:Value->Shared->Prop) (E:Value->Shared->Prop),
    (∀v' g' s',Rep W fr g' z' s'->Evo W noX Y g s.heap g' s'.heap->RV W g' s'.heap v v'->Q v' s')->wpAny (model W.prog W.w) A (t va vb) Q E s
def Tv (W:Wd) (Y:Nat->Prop) (k:Nat) (fr:List Env) (σ:List AObj) (a:AV) (b:Bool):Prop:=
  ∀(A:Around) (g:Addr->Own) (s:Shared) (va:Value),Room k fr A->Rep W fr g σ s->RV W g s.heap a va->∀(Q:Bool->Shared->Prop) (E:Value->Shared->Prop),
    (∀g' s',Rep W fr g' σ s'->Evo W noX Y g s.heap g' s'.heap->Q b s')->wpAny (model W.prog W.w) A (truthy va) Q E s
def Calls (W:Wd) (Y:Nat->Prop) (k:Nat) (fr:List Env) (σ:List AObj) (f:AV) (args:List AV) (kn:List Str) (kv:List AV) (v:AV) (z':List AObj):Prop:=
  ∀(A:Around) (g:Addr->Own) (s:Shared) (vf:Value) (vs ks:List Value),Room k fr A->Rep W fr g σ s->RV W g s.heap f vf->RVs W g s.heap args vs->RVs W g s.heap kv ks->∀(Q:Value->Shared->Prop) (E:Value->Shared->Prop),
    (∀v' g' s',Rep W fr g' z' s'->Evo W noX Y g s.heap g' s'.heap->RV W g' s'.heap v v'->Q v' s')->wpAny (model W.prog W.w) A (call vf vs (kn.zip ks)) Q E s
section
variable {C:Cx}
theorem RV.up {v:Value}(r:RV W g h av v)(e:Evo W noX Y g h g' h'):RV W g' h' av v:=
  r.mono e XOk.no av (.inl fun _ q=>q.elim) v
theorem RVs.up {vs:List Value}(r:RVs W g h l vs)(e:Evo W noX Y g h g' h'):RVs W g' h' l vs:=
  r.mono e XOk.no l (.inl fun _ q=>q.elim) vs
theorem Fra.up (F:Fra C env m g h)(e:Evo C.W noX Y g h g' h'):Fra C env m g' h':=F.evo e
theorem Evo.wk {Y':Nat->Prop}(e:Evo W noX Y g h g' h')(hY:∀n,Y n->Y' n):Evo W noX Y' g h g' h':=
  ⟨e.keep,fun a o n ho hg hy=>e.keepL a o n ho hg fun q=>hy (hY n q),e.fz,e.loc,e.aux,e.oth,e.tabs⟩
theorem Evo.no (e:Evo W noX noY g h g' h'):Evo W noX Y g h g' h':=e.wk fun _ q=>q.elim
theorem Ia1 {i:Int}:Ev C k fr m σ (.Constant (.int i) n p) (.int i) σ:=fun A env g s r R F Q E hQ=>
  wpAny_Constant_int (hQ _ g _ (R.tok _) Evo.refl ⟨_,rfl⟩)
theorem Ia7:Ev C k fr m σ (.Constant (.str x) n p) (.str x) σ:=fun A env g s r R F Q E hQ=>
  Calls.Constant_str (hQ _ g _ (R.tok _) Evo.refl ⟨_,rfl⟩)
theorem Iai:Ev C k fr m σ (.Constant .none n p) .none σ:=fun A env g s r R F Q E hQ=>
  show wpAny _ A (pure .none) Q E s from wpAny_pure (hQ _ g _ R Evo.refl rfl)
theorem Ibf {b:Bool}:Ev C k fr m σ (.Constant (.bool b) n p) (.bool b) σ:=fun A env g s r R F Q E hQ=>
  show wpAny _ A (pure (.bool b)) Q E s from wpAny_pure (hQ _ g _ R Evo.refl rfl)
theorem Ica (hi:C.nm[i]?=some (x,.local))(hv:m[i]?=some (some v))(hd:autoParam ((x==("__debug__":Str))=false) ap1._auto_1):Ev C k fr m σ (.Name x p) v σ:=fun A env g s r R F Q E hQ=>by
  refine qa4 (F.ns) ?_;intro mh hn hm;refine qa4 (hm i x v hi hv) ?_;intro w h1 h2;refine qa4 (F.names i x _ hi) ?_;intro k' h3 h4;have:k'=.local:=by cases k' <;> first | rfl | (exact absurd h4 (by decide))
  subst this;exact wpAny_Name (wpAny_loadName_local F.kind h3 hn h1 (hQ _ g _ R Evo.refl h2)) hd
theorem qe3 {c:Addr}{v:Value}(hk:env.scope.kind=.function)(hx:env.kindOf x=some kd)(hkd:kcl kd=1)(hc:env.cells.lookup x=some c)(ho:s.heap.get? c=some (qb5 (some v)))(h:Q v s)(hn:(x==("__classdict__":Str))=false):wpAny M A (loadName env x) Q E s:=by
  unfold loadName;have hcell:cellOf env x=pure c:=by unfold cellOf;rw[hc]
  have hg:∀{Q':Option Value->Shared->Prop},Q' (some v) s->wpAny M A (cellGet c) Q' E s:=fun q=>by
    unfold cellGet;exact wpAny_bind (wpAny_load ho (wpAny_pure q))
  cases kd with
  | «local»=>cases hkd
  | globalExplicit=>cases hkd
  | globalImplicit=>cases hkd
  | cell=>
    simp only[Env.blockKind,hk,hx,ScopeKind.isAnnotationScope,Bool.false_and,Bool.false_eq_true,if_false];rw[hcell];exact wpAny_bind (wpAny_pure (wpAny_bind (hg (wpAny_pure h))))
  | free=>
    simp only[Env.blockKind,hk,hx,ScopeKind.isAnnotationScope,Bool.false_and,Bool.false_eq_true,if_false,hn];rw[hcell];exact wpAny_bind (wpAny_pure (wpAny_bind (hg (wpAny_pure h))))
theorem Ic5 (hi:C.nm[i]?=some (x,kd))(hk:kcl kd=1)(hv:m[i]?=some (some v))(hd:autoParam ((x==("__debug__":Str))=false) ap1._auto_1)(hn:autoParam ((x==("__classdict__":Str))=false) ap1._auto_1):
    Ev C k fr m σ (.Name x p) v σ:=fun A env g s r R F Q E hQ=>by
  refine qat (F.cell i x kd hi hk) ?_;intro c ov h3 h4 h5 h6 h7;refine qa4 (h7 v hv) ?_;intro w eq_13_1 h8;subst eq_13_1;refine qa4 (F.names i x _ hi) ?_;intro k' h9 h10;exact wpAny_Name (qe3 F.kind h9 (h10.trans hk) h3 h5 (hQ _ g _ R Evo.refl h8) hn) hd
theorem Ia2 {l r:Expr}{op:Operator}{a b:AV}(hl:Ev C k fr m σ l a z1)(hr:Ev C k fr m z1 r b z2)(ho:Op2 C.W C.Y k fr z2 (binaryOp op) a b v z'):Ev C k fr m σ (.BinOp l op r p) v z':=
  fun A env g s rm R F Q E hQ=>by
  refine wpAny_BinOp (hl A env g s rm R F _ _ fun va g1 s1a R1 e1a ra=>?_);refine hr A env g1 s1a rm R1 (F.up e1a) _ _ fun vb g2 s2 R2 e2a rb=>?_
  refine ho A g2 s2 va vb rm R2 (ra.up e2a) rb _ _ fun v' g3 s3 R3 e3a rv=>?_
  exact hQ v' g3 s3 R3 ((e1a.trans e2a).trans e3a) rv
theorem Op2.ints {t:Value->Value->Sem Value}{a b c:Int}(h:∀(A:Around) (s:Shared) (ta tb:Tok) (Q:Value->Shared->Prop) (E:Value->Shared->Prop),A.handled=none->Q (.int c s.toks) { s with toks:=s.toks+1 }->wpAny (model W.prog W.w) A (t (.int a ta) (.int b tb)) Q E s):
    Op2 W Y k fr σ t (.int a) (.int b) (.int c) σ:=fun A g s va vb rm R ha hb Q E hQ=>by
  obtain ⟨ta,rfl⟩:=ha;obtain ⟨tb,rfl⟩:=hb;exact h A s ta tb Q E rm.handled (hQ _ g _ (R.tok _) Evo.refl ⟨_,rfl⟩)
theorem Op2.add {a b:Int}:Op2 W Y k fr σ (binaryOp .Add) (.int a) (.int b) (.int (a+b)) σ:=Op2.ints fun _ _ _ _ _ _ _ h=>PyProof.Rows.add_int h
theorem Ibi {a b:Int}:Op2 W Y k fr σ (binaryOp .Sub) (.int a) (.int b) (.int (a - b)) σ:=Op2.ints fun _ _ _ _ _ _ _ h=>PyProof.Rows.sub_int' h
theorem Op2.fdiv {a b:Int}(hb:b≠0)(hp:Builtin.divisionGoesByPylong a b=false):Op2 W Y k fr σ (binaryOp .FloorDiv) (.int a) (.int b) (.int (a.fdiv b)) σ:=Op2.ints fun _ _ _ _ _ _ _ h=>by
  exact PyProof.Rows.floordiv_int hb h (.inl hp)
theorem Iap {a b:Int}(hb:b≠0):Op2 W Y k fr σ (binaryOp .Mod) (.int a) (.int b) (.int (a.fmod b)) σ:=Op2.ints fun _ _ _ _ _ _ _ h=>PyProof.Rows.mod_int' hb h
end
end
variable {C:Cx}
section
section
theorem Rep.gNs (R:Rep W fr g σ s):s.heap.Ns mainGlobals W.mg:=W.gNs.at' fun o e=>R.base _ o e W.gNT
theorem Rep.bNs (R:Rep W fr g σ s):s.heap.Ns builtinsNs W.mb:=W.bNs.at' fun o e=>R.base _ o e W.bNT
theorem Rep.nolim (R:Rep W fr g σ s):s.heap.NoLimit:=by
  refine qa4 (W.nolim) ?_;intro mc h1 h2;exact ⟨mc,h1.at' fun o e=>R.base _ o e W.cNT,h2⟩
end
section
theorem qbm (hk:env.scope.kind=.function)(hx:env.kindOf x=some kd)(hkd:kcl kd=2)(h:wpAny M A (loadGlobal env x) Q E s):wpAny M A (loadName env x) Q E s:=by
  unfold loadName;cases kd with
  | «local»=>cases hkd
  | cell=>cases hkd
  | free=>cases hkd
  | globalExplicit=>simp only[Env.blockKind,hk,hx,ScopeKind.isAnnotationScope,Bool.false_and,Bool.false_eq_true,if_false];exact h
  | globalImplicit=>simp only[Env.blockKind,hk,hx,ScopeKind.isAnnotationScope,Bool.false_and,Bool.false_eq_true,if_false];exact h
theorem Ie8 {v:Value}(hi:C.nm[i]?=some (x,.globalImplicit))(hv:C.W.mg x=some v)(hd:autoParam ((x==("__debug__":Str))=false) ap1._auto_1):Ev C k fr m σ (.Name x p) (.glob v) σ:=fun A env g s r R F Q E hQ=>by
  refine qa4 (F.names i x _ hi) ?_;intro k' h9 h10;refine wpAny_Name (qbm F.kind h9 h10 (Calls.loadGlobal_global (mg:=C.W.mg) (by rw[F.glob];exact R.gNs) hv (hQ _ g _ R Evo.refl rfl))) hd
theorem Idz {v:Value}(hi:C.nm[i]?=some (x,.globalImplicit))(hg:C.W.mg x=none)(hv:C.W.mb x=some v)(hd:autoParam ((x==("__debug__":Str))=false) ap1._auto_1):Ev C k fr m σ (.Name x p) (.glob v) σ:=fun A env g s r R F Q E hQ=>by
  refine qa4 (F.names i x _ hi) ?_;intro k' h9 h10;refine wpAny_Name (qbm F.kind h9 h10 (Calls.loadGlobal_builtin (mg:=C.W.mg) (mb:=C.W.mb) (by rw[F.glob];exact R.gNs) hg (by rw[F.blt];exact R.bNs) hv (hQ _ g _ R Evo.refl rfl))) hd
theorem Iba {l r:Expr}{op:CmpOp}{a b:AV}(hl:Ev C k fr m σ l a z1)(hr:Ev C k fr m z1 r b z2)(ho:Op2 C.W C.Y k fr z2 (compareOp op) a b v z')(hm:autoParam (behindInMarks op r=false) ap0._auto_1):Ev C k fr m σ (.Compare l [op] [r] p) v z':=
  fun A env g s rm R F Q E hQ=>by
  refine wpAny_Compare1 (hl A env g s rm R F _ _ fun va g1 s1a R1 e1a ra=>?_) hm;refine hr A env g1 s1a rm R1 (F.up e1a) _ _ fun vb g2 s2 R2 e2a rb=>?_
  refine ho A g2 s2 va vb rm R2 (ra.up e2a) rb _ _ fun v' g3 s3 R3 e3a rv=>?_
  exact hQ v' g3 s3 R3 ((e1a.trans e2a).trans e3a) rv
theorem Ia3 {l r:Expr}{op:CmpOp}{a b:AV}{c:Bool}(hl:Ev C k fr m σ l a z1)(hr:Ev C k fr m z1 r b z2)(ho:Op2 C.W C.Y k fr z2 (compareOp op) a b (.bool c) z')(hm:autoParam (behindInMarks op r=false) ap0._auto_1):Tr C k fr m σ (.Compare l [op] [r] p) c z':=
  fun A env g s rm R F Q E hQ=>by
  refine wpAny_isTrue_Compare1 (hl A env g s rm R F _ _ fun va g1 s1a R1 e1a ra=>?_) hm;refine hr A env g1 s1a rm R1 (F.up e1a) _ _ fun vb g2 s2 R2 e2a rb=>?_
  refine ho A g2 s2 va vb rm R2 (ra.up e2a) rb _ _ fun v' g3 s3 R3 e3a rv=>?_
  obtain rfl:v'=.bool c:=rv;exact wpAny_truthy_bool (hQ g3 s3 R3 ((e1a.trans e2a).trans e3a))
theorem Tr.val {b:Bool}(he:Ev C k fr m σ e v z')(ht:Tv C.W C.Y k fr z' v b)(hI:autoParam (∀env w,isTrue e env w=(do let v <- w;standAt e.pos;holding [v] (truthy v))) ap0._auto_1):Tr C k fr m σ e b z':=
  fun A env g s rm R F Q E hQ=>by
  refine PyProof.Rows.isTrue_plain (he A env g s rm R F _ _ fun va g1 s1a R1 e1a ra=>?_) (hI _ _);exact ht A g1 s1a va rm R1 ra _ _ fun g2 s2 R2 e2a=>hQ g2 s2 R2 (e1a.trans e2a)
theorem Id5 {b:Bool}(he:Tr C k fr m σ e b z'):Tr C k fr m σ (.UnaryOp .Not e p) (!b) z':=
  fun A env g s rm R F Q E hQ=>PyProof.Rows.isTrue_not (he A env g s rm R F _ _ fun g1 s1a R1 e1a=>hQ g1 s1a R1 e1a)
def Trs (C:Cx) (k:Nat) (fr:List Env) (m:List (Option AV)) (σ:List AObj) (op:BoolOp) (es:List Expr) (b:Bool) (z':List AObj):Prop:=
  ∀(A:Around) (env:Env) (g:Addr->Own) (s:Shared),Room k fr A->Rep C.W fr g σ s->Fra C env m g s.heap->∀(Q:Bool->Shared->Prop) (E:Value->Shared->Prop),
    (∀g' s',Rep C.W fr g' z' s'->Evo C.W noX C.Y g s.heap g' s'.heap->Q b s')->wpAny (model C.W.prog C.W.w) A (allTrue op es env) Q E s
theorem Ic4 {op:BoolOp}{b:Bool}(h:Trs C k fr m σ op es b z'):Tr C k fr m σ (.BoolOp op es p) b z':=h
theorem Trs.nil {op:BoolOp}:Trs C k fr m σ op [] (op==.And) σ:=fun A env g s rm R F Q E hQ=>by
  show wpAny _ A (allTrue op [] env) Q E s;exact wpAny_pure (hQ g s R Evo.refl)
theorem qf9 (op:BoolOp)(e:Expr)(r:List Expr)(env:Env):allTrue op (e::r) env=(do
    match op,<- isTrue e env (eval e env) with
    | .And,false=>pure false
    | .Or,true=>pure true
    | _,_=>allTrue op r env):=by first | rfl | (rw[allTrue];rfl)
theorem Icj {r:List Expr}{b c:Bool}(he:Tr C k fr m σ e b z1)(hr:b=true->Trs C k fr m z1 .And r c z')(hn:b=false->z'=z1):Trs C k fr m σ .And (e::r) (b&&c) z':=fun A env g s rm R F Q E hQ=>by
  rw[qf9];refine wpAny_bind (he A env g s rm R F _ _ fun g1 s1a R1 e1a=>?_);cases b with
  | false=>cases hn rfl;exact wpAny_pure (hQ g1 s1a R1 e1a)
  | true=>exact hr rfl A env g1 s1a rm R1 (F.up e1a) _ _ fun g2 s2 R2 e2a=>hQ g2 s2 R2 (e1a.trans e2a)
theorem Id4 {r:List Expr}{b c:Bool}(he:Tr C k fr m σ e b z1)(hr:b=false->Trs C k fr m z1 .Or r c z')(hn:b=true->z'=z1):Trs C k fr m σ .Or (e::r) (b||c) z':=fun A env g s rm R F Q E hQ=>by
  rw[qf9];refine wpAny_bind (he A env g s rm R F _ _ fun g1 s1a R1 e1a=>?_);cases b with
  | true=>cases hn rfl;exact wpAny_pure (hQ g1 s1a R1 e1a)
  | false=>exact hr rfl A env g1 s1a rm R1 (F.up e1a) _ _ fun g2 s2 R2 e2a=>hQ g2 s2 R2 (e1a.trans e2a)
theorem Ibn {a b:Expr}{c:Bool}(ht:Tr C k fr m σ t c z1)(ha:c=true->Ev C k fr m z1 a v z')(hb:c=false->Ev C k fr m z1 b v z'):Ev C k fr m σ (.IfExp t a b p) v z':=fun A env g s rm R F Q E hQ=>by
  refine PyProof.Rows.IfExp_ (ht A env g s rm R F _ _ fun g1 s1a R1 e1a=>?_);cases c with
  | true=>exact ha rfl A env g1 s1a rm R1 (F.up e1a) _ _ fun v' g2 s2 R2 e2a rv=>hQ v' g2 s2 R2 (e1a.trans e2a) rv
  | false=>exact hb rfl A env g1 s1a rm R1 (F.up e1a) _ _ fun v' g2 s2 R2 e2a rv=>hQ v' g2 s2 R2 (e1a.trans e2a) rv
def EvAnd (C:Cx) (k:Nat) (fr:List Env) (m:List (Option AV)) (σ:List AObj) (es:List Expr) (v:AV) (z':List AObj):Prop:=
  ∀(A:Around) (env:Env) (g:Addr->Own) (s:Shared) (p:Pos),Room k fr A->Rep C.W fr g σ s->Fra C env m g s.heap->∀(Q:Value->Shared->Prop) (E:Value->Shared->Prop),
    (∀v' g' s',Rep C.W fr g' z' s'->Evo C.W noX C.Y g s.heap g' s'.heap->RV C.W g' s'.heap v v'->Q v' s')->wpAny (model C.W.prog C.W.w) A (boolOp p .And (evalEach es env)) Q E s
theorem qbv (e:Expr)(r:List Expr)(env:Env):evalEach (e::r) env=eval e env::evalEach r env:=rfl
theorem qj7 (env:Env):evalEach [] env=[]:=rfl
theorem EvAnd.one (he:Ev C k fr m σ e v z'):EvAnd C k fr m σ [e] v z':=fun A env g s p rm R F Q E hQ=>by
  rw[qbv,qj7];exact he A env g s rm R F Q E hQ
theorem EvAnd.cons {f:Expr}{r:List Expr}(he:Ev C k fr m σ e (.bool true) z1)(hr:EvAnd C k fr m z1 (f::r) v z'):EvAnd C k fr m σ (e::f::r) v z':=fun A env g s p rm R F Q E hQ=>by
  rw[qbv,qbv];refine wpAny_bind (m:=eval e env) (he A env g s rm R F _ _ fun va g1 s1a R1 e1a ra=>?_);obtain rfl:va=.bool true:=ra;refine wpAny_bind (wpAny_standAt (wpAny_bind (wpAny_holding (wpAny_truthy_bool ?_))));have:=hr A env g1 s1a p rm R1 (F.up e1a) Q E fun v' g2 s2 R2 e2a rv=>hQ v' g2 s2 R2 (e1a.trans e2a) rv
  rw[qbv] at this;exact this
theorem Icp (h:EvAnd C k fr m σ es v z'):Ev C k fr m σ (.BoolOp .And es p) v z':=fun A env g s rm R F Q E hQ=>h A env g s p rm R F Q E hQ
theorem Ic0 {i:Int}(he:Ev C k fr m σ e (.int i) z'):Ev C k fr m σ (.UnaryOp .USub e p) (.int (-i)) z':=fun A env g s rm R F Q E hQ=>by
  show wpAny _ A (do let v <- eval e env;standAt p;holding [v] (unaryOp .USub v)) Q E s;refine wpAny_bind (he A env g s rm R F _ _ fun va g1 s1a R1 e1a ra=>?_);obtain ⟨t,rfl⟩:=ra;exact wpAny_bind (wpAny_standAt (wpAny_holding (PyProof.Rows.neg_int (hQ _ g1 _ (R1.tok _) e1a ⟨_,rfl⟩))))
def Evs (C:Cx) (k:Nat) (fr:List Env) (m:List (Option AV)) (σ:List AObj) (es:List Expr) (vs:List AV) (z':List AObj):Prop:=
  ∀(A:Around) (env:Env) (g:Addr->Own) (s:Shared) (p:Pos),Room k fr A->Rep C.W fr g σ s->Fra C env m g s.heap->∀(Q:List Value->Shared->Prop) (E:Value->Shared->Prop),
    (∀vs' g' s',Rep C.W fr g' z' s'->Evo C.W noX C.Y g s.heap g' s'.heap->RVs C.W g' s'.heap vs vs'->Q vs' s')->wpAny (model C.W.prog C.W.w) A (spliced (backTo p (starEach es env))) Q E s
theorem Evs.nil:Evs C k fr m σ [] [] σ:=fun A env g s p rm R F Q E hQ=>Calls.spliced_nil (hQ [] g s R Evo.refl rfl)
theorem Evs.cons {r:List Expr}(he:Ev C k fr m σ e v z1)(hr:Evs C k fr m z1 r vs z')(hs:autoParam (∀env,starEach (e::r) env=(false,eval e env)::starEach r env) ap0._auto_1):Evs C k fr m σ (e::r) (v::vs) z':=
  fun A env g s p rm R F Q E hQ=>by
  rw[hs];show wpAny _ A (spliced ((false,eval e env)::backTo p (starEach r env))) Q E s;refine Calls.spliced_cons (he A env g s rm R F _ _ fun va g1 s1a R1 e1a ra=>?_);exact hr A env g1 s1a p rm R1 (F.up e1a) _ _ fun vs' g2 s2 R2 e2a rv=>hQ _ g2 s2 R2 (e1a.trans e2a) ⟨va,vs',rfl,ra.up e2a,rv⟩
theorem Rep.newFz (R:Rep W fr g σ s)(o:Obj)(hf:autoParam (o.isFreed=false) ap0._auto_1):Rep W fr (qc9 g s.heap.objs.size .fz) σ { s with heap:=s.heap.push o }/\Evo W noX noY g s.heap (qc9 g s.heap.objs.size .fz) (s.heap.push o):=
  R.push o .fz hf (.inl rfl)
theorem Ev.tuple (h:Evs C k fr m σ es vs z')(hz:autoParam (vs.length<=sizeLine) ap2._auto_1):Ev C k fr m σ (.Tuple es n p) (.tup vs) z':=fun A env g s rm R F Q E hQ=>by
  refine PyProof.Rows.Tuple_ (h A env g s p rm R F _ _ fun vs' g1 s1a R1 e1a rv=>?_);refine And.elim ?_ (R1.newFz (ql1 vs'.toArray 0));intro R2 e2a;refine wpAny_newObj_type (hQ _ _ _ R2 (e1a.trans e2a.no) ⟨_,_,_,rfl,qa5,Heap.get?_push_size _ rfl,by simpa using rv.up e2a⟩) ?_;show vs'.toArray.size<=sizeLine;rw[List.size_toArray,rv.length];exact hz
theorem Ev.list (h:Evs C k fr m σ es vs z')(hz:autoParam (vs.length<=sizeLine) ap2._auto_1):Ev C k fr m σ (.List es p) (.lst vs) z':=fun A env g s rm R F Q E hQ=>by
  refine PyProof.Rows.List_ (h A env g s p rm R F _ _ fun vs' g1 s1a R1 e1a rv=>?_);refine And.elim ?_ (R1.newFz (qab vs'.toArray 0));intro R2 e2a;refine wpAny_newObj_type (hQ _ _ _ R2 (e1a.trans e2a.no) ⟨_,_,_,rfl,qa5,Heap.get?_push_size _ rfl,by simpa using rv.up e2a⟩) ?_;show vs'.toArray.size<=sizeLine;rw[List.size_toArray,rv.length];exact hz
theorem Iak (h:Evs C k fr m σ es vs z')(hp:autoParam (plains vs=true) ap0._auto_1)(hz:autoParam (vs.length<=sizeLine) ap2._auto_1):Ev C k fr m σ (.List es p) (.loc z'.length) (z'++[.lst vs]):=fun A env g s rm R F Q E hQ=>by
  refine PyProof.Rows.List_ (h A env g s p rm R F _ _ fun vs' g1 s1a R1 e1a rv=>?_);have e2a:Evo C.W noX C.Y g1 s1a.heap (qc9 g1 s1a.heap.objs.size (.loc z'.length)) (s1a.heap.push (qab vs'.toArray 0)):=
    (R1.pushEvo (qab vs'.toArray 0) (.loc z'.length))
  refine And.elim ?_ (R1.pushLoc (qab vs'.toArray 0) (ao:=.lst vs) hp ⟨vs'.toArray,0,Heap.get?_push_size _ rfl,by simpa using rv.up e2a⟩);intro R2 e3a;refine wpAny_newObj_type (hQ _ _ _ R2 (e1a.trans e3a.no) ⟨_,rfl,qa5⟩) ?_;show vs'.toArray.size<=sizeLine;rw[List.size_toArray,rv.length];exact hz
end
end
section
def Lv (σ:List AObj) (v:AV) (l:List AV):Prop:=v=.lst l\/∃n:Nat,v=.loc n/\σ[n]?=some (.lst l)
theorem Lv.fz:Lv σ (.lst l) l:=.inl rfl
theorem Lv.loc (h:σ[n]?=some (.lst l)):Lv σ (.loc n) l:=.inr ⟨n,rfl,h⟩
theorem Lv.at (L:Lv σ v l)(R:Rep W fr g σ s)(r:RV W g s.heap v va):
    ∃(a:Addr) (vs:Array Value) (n:Nat),va=.ref a/\s.heap.get? a=some (qab vs n)/\RVs W g s.heap l vs.toList/\(g a=.fz\/∃n,g a=.loc n):=by
  rcases L with rfl | ⟨n,rfl,e⟩
  . refine qa2 (r) ?_;intro a vs n eq_0_3 hg ho hr;subst eq_0_3;exact ⟨a,vs,n,rfl,ho,hr,.inl hg⟩
  . refine qa4 (r) ?_;intro a eq_1_1 hg;subst eq_1_1;refine qk3 (R.locs n _ e) ?_;intro a' hg' vs m ho hr;have:a'=a:=R.uniq _ _ _ hg' hg;subst this;exact ⟨a',vs,m,rfl,ho,hr,.inr ⟨n,hg⟩⟩
theorem qam {vs:Array Value}(ho:h.get? a=some (qab vs n)):h.IsList a vs:=⟨_,ho,rfl,n,rfl⟩
noncomputable def qdw (l:List AV) (lo hi st:Option Int):List AV:=
  (sliceRange (sliceBounds lo hi st l.length).1 (sliceBounds lo hi st l.length).2.1 (sliceBounds lo hi st l.length).2.2).filterMap fun i=>l[i]?
theorem RVs.pickL {vs:List Value}(r:RVs W g h l vs):∀is:List Nat,RVs W g h (is.filterMap fun i=>l[i]?) (is.filterMap fun i=>vs[i]?)
  | []=>rfl
  | i::is=>by
    rw[List.filterMap_cons,List.filterMap_cons];cases e:l[i]? with
    | none=>
      have:vs[i]?=none:=by rw[List.getElem?_eq_none_iff] at e ⊢;rw[r.length];exact e
      rw[this];exact RVs.pickL r is
    | some a=>
      refine qa4 (r.getA e) ?_;intro v hv ha;rw[hv];exact ⟨v,_,rfl,ha,RVs.pickL r is⟩
theorem RVs.pick {vs:Array Value}(r:RVs W g h l vs.toList)(lo hi st:Option Int):RVs W g h (qdw l lo hi st) (slicePick vs lo hi st).toList:=by
  have hl:vs.size=l.length:=by rw[<- r.length,Array.length_toList]
  unfold qdw slicePick;rw[hl];have:=r.pickL (sliceRange (sliceBounds lo hi st l.length).1 (sliceBounds lo hi st l.length).2.1 (sliceBounds lo hi st l.length).2.2);simpa using this
section
theorem list_getitem_look:typeLookup (.type "list") "__getitem__"=pure (some (.builtin "list.__getitem__")):=PySem.list_getitem_lookup
theorem Ia8 {i:Expr}{a:AV}{x:Int}(he:Ev C k fr m σ e a z1)(hi:Ev C k fr m z1 i (.int x) z')(hL:Lv z' a l)(hx:∃j,seqIndex? x l.length=some j/\l[j]?=some v)(hz:l.length<=sizeLine)(hs:autoParam (∀o w,subscripted i false o w=operate [o,w] (getItem o w)) ap0._auto_1):Ev C k fr m σ (.Subscript e i p) v z':=fun A env g s rm R F Q E hQ=>by
  refine PyProof.Rows.Subscript_ (he A env g s rm R F _ _ fun va g1 s1a R1 e1a ra=>hi A env g1 s1a rm R1 (F.up e1a) _ _ fun vi g2 s2 R2 e2a rx=>?_);obtain ⟨t,rfl⟩:=rx;refine qa2 (hL.at R2 (ra.up e2a)) ?_;intro b vs n eq_5_3 ho hr _;subst eq_5_3;refine qa4 (hx) ?_;intro j hj hv;refine qa4 (hr.getA hv) ?_;intro w hw rw';have hlen:vs.size=l.length:=by rw[<- hr.length,Array.length_toList]
  have hw':vs[j]?=some w:=by rw[<- Array.getElem?_toList];exact hw
  have hl:=qam ho;have hz':(l.length:Int)<=2 ^ 24:=by have:sizeLine=2 ^ 24:=rfl;lia
  refine tail_any hl.typeIs list_getitem_look ?_ (hs _ _);unfold seqIndex? at hj;by_cases hneg:x<0
  . simp only[hneg,if_true] at hj;split at hj
    . rename_i hc;simp only[Bool.and_eq_true,decide_eq_true_eq] at hc;cases hj
      refine wpAny_getItem_list_neg hl hneg (by rw[hlen];lia) (by lia) (x:=w) (by rw[hlen];exact hw') (hQ _ _ _ R2 (e1a.trans e2a) rw')
    . cases hj
  . simp only[hneg,if_false] at hj;split at hj
    . rename_i hc;simp only[Bool.and_eq_true,decide_eq_true_eq] at hc;cases hj
      refine wpAny_getItem_list hl (by simp_all) (by lia) hw' (hQ _ _ _ R2 (e1a.trans e2a) rw')
    . cases hj
theorem Iaa {i:Expr}{x:Int}(he:Ev C k fr m σ e (.tup l) z1)(hi:Ev C k fr m z1 i (.int x) z')(hx:∃j,seqIndex? x l.length=some j/\l[j]?=some v)(hb:autoParam (-2 ^ 63<=x/\x<2 ^ 63) ap1._auto_1)(hs:autoParam (∀o w,subscripted i false o w=operate [o,w] (getItem o w)) ap0._auto_1):Ev C k fr m σ (.Subscript e i p) v z':=fun A env g s rm R F Q E hQ=>by
  refine PyProof.Rows.Subscript_ (he A env g s rm R F _ _ fun va g1 s1a R1 e1a ra=>hi A env g1 s1a rm R1 (F.up e1a) _ _ fun vi g2 s2 R2 e2a rx=>?_);obtain ⟨t,rfl⟩:=rx;refine qa2 (ra.up e2a) ?_;intro b vs n eq_9_3 hg ho hr;subst eq_9_3;refine qa4 (hx) ?_;intro j hj hv;refine qa4 (hr.getA hv) ?_;intro w hw rw';have hlen:vs.size=l.length:=by rw[<- hr.length,Array.length_toList]
  have hw':vs[j]?=some w:=by rw[<- Array.getElem?_toList];exact hw
  refine tail_any ⟨_,ho,rfl⟩ PySem.F.slot_tuple_getitem.lookup ?_ (hs _ _);exact PySem.P.getItem_tuple ho hb.1 hb.2 (by rw[hlen];exact hj) hw' (hQ _ _ _ R2 (e1a.trans e2a) rw')
def EvO (C:Cx) (k:Nat) (fr:List Env) (m:List (Option AV)) (σ:List AObj) (e:Option Expr) (x:Option Int) (z':List AObj):Prop:=
  ∀(A:Around) (env:Env) (g:Addr->Own) (s:Shared),Room k fr A->Rep C.W fr g σ s->Fra C env m g s.heap->∀(Q:Value->Shared->Prop) (E:Value->Shared->Prop),
    (∀v' g' s',Rep C.W fr g' z' s'->Evo C.W noX C.Y g s.heap g' s'.heap->IsPart v' x->Q v' s')->wpAny (model C.W.prog C.W.w) A (valueOrNone (evalOpt e env)) Q E s
theorem EvO.none:EvO C k fr m σ none none σ:=fun A env g s rm R F Q E hQ=>wpAny_pure (hQ _ g s R Evo.refl .none)
theorem Ibe {x:Int}(h:Ev C k fr m σ e (.int x) z'):EvO C k fr m σ (some e) (some x) z':=fun A env g s rm R F Q E hQ=>
  h A env g s rm R F Q E fun v g' s' R' e' r=>by obtain ⟨t,rfl⟩:=r;exact hQ _ g' s' R' e' (.int x t)
theorem Icn {lo hi st:Option Expr}{a:AV}{xl xh xs:Option Int}(he:Ev C k fr m σ e a z1)(hl:EvO C k fr m z1 lo xl z2)(hh:EvO C k fr m z2 hi xh z3)(ht:EvO C k fr m z3 st xs z')(hL:Lv z' a l)(h0:xs≠some 0)(hz:l.length<=sizeLine)(rm:Room k fr A)(R:Rep C.W fr g σ s)(F:Fra C env m g s.heap)(hQ:∀g' s',Rep C.W fr g' z' s'->Evo C.W noX C.Y g s.heap g' s'.heap->∀vs,RVs C.W g' s'.heap (qdw l xl xh xs) vs->Q (.ref s'.heap.objs.size) { s' with heap:=s'.heap.push (qab vs.toArray 0) }):
    wpAny (model C.W.prog C.W.w) A (eval (.Subscript e (.Slice lo hi st p) q) env) Q E s:=by
  refine PyProof.Rows.Subscript_ (he A env g s rm R F _ _ fun va g1 s1a R1 e1a ra=>?_);rw[arm_eval_Slice];refine wpAny_bind (hl A env g1 s1a rm R1 (F.up e1a) _ _ fun vl g2 s2 R2 e2a pl=>?_);refine wpAny_bind (wpAny_holding (hh A env g2 s2 rm R2 ((F.up e1a).up e2a) _ _ fun vh g3 s3 R3 e3a ph=>?_));refine wpAny_bind (wpAny_holding (ht A env g3 s3 rm R3 (((F.up e1a).up e2a).up e3a) _ _ fun vt g4 s4 R4 e4 pt=>?_));refine And.elim ?_ (R4.push { cls:=.type "slice",data:=.fields #[vl,vh,vt] } .other rfl (.inr rfl));intro R5 e5;refine wpAny_newObj_type ?_ (by size_fits);refine qa2 (hL.at R5 ((((ra.up e2a).up e3a).up e4).up e5)) ?_;intro b vs n eq_14_3 ho hr _;subst eq_14_3;have hl:=qam ho;have hlen:vs.size=l.length:=by rw[<- hr.length,Array.length_toList]
  have fin:=hQ _ _ R5 ((((e1a.trans e2a).trans e3a).trans e4).trans e5.no) _ (hr.pick xl xh xs);have hg:wpAny (model C.W.prog C.W.w) A (getItem (.ref b) (.ref s4.heap.objs.size)) Q E { s4 with heap:=s4.heap.push { cls:=.type "slice",data:=.fields #[vl,vh,vt] } }:=by
    refine wpAny_getItem_list_slice hl (Heap.IsSliceOf.new ..) pl ph pt h0 ?_ (by rw[hlen];exact hz);simpa using fin
  cases st with
  | none=>exact tail_any (ops:=[.ref s4.heap.objs.size,.ref b]) hl.typeIs list_getitem_look hg rfl
  | some st=>exact tail_any (ops:=[.ref b,.ref s4.heap.objs.size]) hl.typeIs list_getitem_look hg rfl
theorem Ibm {lo hi st:Option Expr}{a:AV}{xl xh xs:Option Int}(he:Ev C k fr m σ e a z1)(hl:EvO C k fr m z1 lo xl z2)(hh:EvO C k fr m z2 hi xh z3)(ht:EvO C k fr m z3 st xs z')(hL:Lv z' a l)(h0:xs≠some 0)(hz:l.length<=sizeLine):Ev C k fr m σ (.Subscript e (.Slice lo hi st p) q) (.lst (qdw l xl xh xs)) z':=fun A env g s rm R F Q E hQ=>by
  refine Icn he hl hh ht hL h0 hz rm R F fun g' s' R' e' vs r=>?_
  refine And.elim ?_ (R'.newFz (qab vs.toArray 0));intro R2 e2a;exact hQ _ _ _ R2 (e'.trans e2a.no) ⟨_,_,_,rfl,qa5,Heap.get?_push_size _ rfl,by simpa using r.up e2a⟩
end
end
section
inductive AFl where
  | next | brk | cont | ret (v:AV)
noncomputable def RFl (W:Wd) (g:Addr->Own) (h:Heap):AFl->Flow->Prop
  | .next,f=>f=.next
  | .brk,f=>f=.brk
  | .cont,f=>f=.cont
  | .ret v,f=>∃v',f=.ret v'/\RV W g h v v'
def Ex (C:Cx) (k:Nat) (fr:List Env) (m:List (Option AV)) (σ:List AObj) (st:Stmt) (fl:AFl) (m':List (Option AV)) (z':List AObj):Prop:=
  ∀(A:Around) (env:Env) (g:Addr->Own) (s:Shared),Room k fr A->Rep C.W fr g σ s->Fra C env m g s.heap->∀(Q:Flow->Shared->Prop) (E:Value->Shared->Prop),
    (∀f' g' s',Rep C.W fr g' z' s'->Evo C.W (FX C.nm env) C.Y g s.heap g' s'.heap->Fra C env m' g' s'.heap->RFl C.W g' s'.heap fl f'->Q f' s')->wpAny (model C.W.prog C.W.w) A (exec st env) Q E s
def Exs (C:Cx) (k:Nat) (fr:List Env) (m:List (Option AV)) (σ:List AObj) (sts:List Stmt) (fl:AFl) (m':List (Option AV)) (z':List AObj):Prop:=
  ∀(A:Around) (env:Env) (g:Addr->Own) (s:Shared),Room k fr A->Rep C.W fr g σ s->Fra C env m g s.heap->∀(Q:Flow->Shared->Prop) (E:Value->Shared->Prop),
    (∀f' g' s',Rep C.W fr g' z' s'->Evo C.W (FX C.nm env) C.Y g s.heap g' s'.heap->Fra C env m' g' s'.heap->RFl C.W g' s'.heap fl f'->Q f' s')->wpAny (model C.W.prog C.W.w) A (execs sts env) Q E s
def As (C:Cx) (k:Nat) (fr:List Env) (m:List (Option AV)) (σ:List AObj) (t:Expr) (v:AV) (m':List (Option AV)) (z':List AObj):Prop:=
  ∀(A:Around) (env:Env) (g:Addr->Own) (s:Shared) (v':Value),Room k fr A->Rep C.W fr g σ s->Fra C env m g s.heap->RV C.W g s.heap v v'->∀(Q:Unit->Shared->Prop) (E:Value->Shared->Prop),
    (∀g' s',Rep C.W fr g' z' s'->Evo C.W (FX C.nm env) C.Y g s.heap g' s'.heap->Fra C env m' g' s'.heap->Q () s')->wpAny (model C.W.prog C.W.w) A (assign t env v') Q E s
section
theorem Evo.toX {X:Addr->Prop}(e:Evo W noX Y g h g' h'):Evo W X Y g h g' h':=
  ⟨fun a o ho _ hq=>e.keep a o ho (fun q=>q) hq,e.keepL,fun a q _=>e.fz a q fun q=>q,e.loc,e.aux,fun a o ho q _=>e.oth a o ho q fun q=>q,e.tabs⟩
theorem Evo.toY {X:Addr->Prop}(e:Evo W X noY g h g' h'):Evo W X Y g h g' h':=
  ⟨e.keep,fun a o n ho hg hy=>e.keepL a o n ho hg fun q=>q,e.fz,e.loc,e.aux,e.oth,e.tabs⟩
theorem Exs.nil:Exs C k fr m σ [] .next m σ:=fun A env g s rm R F Q E hQ=>wpAny_execs_nil (hQ _ g s R Evo.refl F rfl)
theorem Exs.cons {r:List Stmt}{fl:AFl}(h1:Ex C k fr m σ st .next m1 z1)(h2:Exs C k fr m1 z1 r fl m' z'):Exs C k fr m σ (st::r) fl m' z':=fun A env g s rm R F Q E hQ=>by
  refine wpAny_execs_cons (h1 A env g s rm R F _ _ fun f' g1 s1a R1 e1a F1 hf=>?_);obtain rfl:f'=.next:=hf;exact h2 A env g1 s1a rm R1 F1 Q E fun f' g2 s2 R2 e2a F2 hf=>hQ f' g2 s2 R2 (e1a.trans e2a) F2 hf
theorem Exs.ret {r:List Stmt}(h1:Ex C k fr m σ st (.ret v) m' z'):Exs C k fr m σ (st::r) (.ret v) m' z':=fun A env g s rm R F Q E hQ=>by
  refine wpAny_execs_cons (h1 A env g s rm R F _ _ fun f' g1 s1a R1 e1a F1 hf=>?_);refine qa4 (hf) ?_;intro v' eq_0_1 hv;subst eq_0_1;exact hQ _ g1 s1a R1 e1a F1 ⟨v',rfl,hv⟩
theorem Exs.brk {r:List Stmt}(h1:Ex C k fr m σ st .brk m' z'):Exs C k fr m σ (st::r) .brk m' z':=fun A env g s rm R F Q E hQ=>by
  refine wpAny_execs_cons (h1 A env g s rm R F _ _ fun f' g1 s1a R1 e1a F1 hf=>?_);obtain rfl:f'=.brk:=hf;exact hQ _ g1 s1a R1 e1a F1 rfl
theorem qn2 {Γ:Ctx}{E:Value->Pos->Shared->Prop}{m:Str->Option Value}(hn:s.heap.Ns a m)(name:Str)(v:Value)(Q:Unit->Pos->Shared->Prop)(hQ:∀h',h'.Ns a (fun x=>if x=name then some v else m x)->Heap.SameBut a s.heap h'->(∀o,s.heap.get? a=some o->∃o',h'.get? a=some o'/\o'.cls=o.cls) ->
      Q () p { s with heap:=h',toks:=s.toks+1 }):Sem.wp M Γ (nsSet a name v) Q E p s:=by
  refine qa2 hn ?_;intro o es ep ho hd hk hm;have hany:es.any (·.refKey)=false:=by
    rw[Array.any_eq_false'];intro e he;refine qgr (hk e he) ?_;intro n t h;simp[DictEntry.refKey,h]
  have key:∃B hs key,∀Q,Sem.wp M Γ (nsSet a name v) Q E p s=(B/\Q () p { s with heap:=s.heap.update a (Obj.putName name hs key v),toks:=s.toks+1 }):=by
    exact ⟨_,_,_,fun Q=>by
      simp only[nsSet,strHash,Sem.wp_bind',Sem.wp_cmd_ask,Sem.wp_pure',Sem.wp_cmd_mkText];rw[Sem.wp_loadPart_of M Γ E p { s with toks:=s.toks+1 } _ ho];simp only[hd,aRefKeyMayBeTheName_eq,aRefKeyMayBeTheNameByArray,hany,Bool.and_false,Bool.false_eq_true,if_false,Sem.wp_cmd_updatePart];exact rfl⟩
  refine qnw key ?_;intro B hs key hw;have this:=Sem.wp_nsSet M Γ E p s hn name v (fun _ _ s'=>s'.heap.Ns a (fun x=>if x=name then some v else m x)/\Heap.SameBut a s.heap s'.heap) fun h' h1 h2=>⟨h1,h2⟩
  rw[hw] at this ⊢;refine ⟨this.1,hQ _ this.2.1 this.2.2 fun o' q=>?_⟩;obtain rfl:=Sj (ho.symm.trans q);obtain ⟨c,d,dt,sl⟩:=o;obtain rfl:dt=.dict es ep:=hd;have hf:(Obj.putName name hs key v ⟨c,d,.dict es ep,sl⟩).cls=c/\(Obj.putName name hs key v ⟨c,d,.dict es ep,sl⟩).isFreed=false:=by
    simp only[Obj.putName_eq,Obj.putNameByArray];cases es.findIdx? (·.key.isStr name) <;> exact ⟨rfl,rfl⟩
  exact ⟨_,Heap.get?_update_self (Obj.putName name hs key v) ho hf.2,hf.1⟩
theorem qda {name:Str}{m:Str->Option Value}{v:Value}{Q:Unit->Shared->Prop}(hl:env.kindOf name=some .local)(hn:s.heap.Ns env.locals m)(h:∀h',h'.Ns env.locals (fun x=>if x=name then some v else m x)->Heap.SameBut env.locals s.heap h'->(∀o,s.heap.get? env.locals=some o->∃o',h'.get? env.locals=some o'/\o'.cls=o.cls) ->
      Q () { s with heap:=h',toks:=s.toks+1 })(hp:autoParam ((env.scope.kind==.class||(env.scope.kind==.module&&env.locals != env.globals))=false) ap0._auto_1):wpAny M A (storeName env name v) Q E s:=by
  rw[storeName_local hl hp];exact fun Γ p _=>qn2 hn name v _ h
theorem qcd {m:List (Option α)}{a b:α}(h:(m.set i (some a))[j]?=some (some b)):(j=i/\b=a)\/(j≠i/\m[j]?=some (some b)):=by
  by_cases hj:j=i
  . subst hj;rcases Nat.lt_or_ge j m.length with hl | hl
    . rw[List.getElem?_set_self hl] at h;exact .inl ⟨rfl,(Sj (Sj h)).symm⟩
    . rw[List.getElem?_eq_none (by rw[List.length_set];exact hl)] at h;cases h
  . rw[List.getElem?_set_ne (Ne.symm hj)] at h;exact .inr ⟨hj,h⟩
theorem qbw (hi:C.nm[i]?=some (x,.local))(hp:plain av=true\/∀(i:Nat) (x:Str),C.nm[i]?≠some (x,.cell)){v:Value}(R:Rep C.W fr g σ s)(F:Fra C env m g s.heap)(r:RV C.W g s.heap av v){Q:Unit->Shared->Prop}(hQ:∀g' s',Rep C.W fr g' σ s'->Evo C.W (FX C.nm env) noY g s.heap g' s'.heap->Fra C env (m.set i (some av)) g' s'.heap->Q () s'):wpAny (model C.W.prog C.W.w) A (storeName env x v) Q E s:=by
  refine qa4 (F.names i x _ hi) ?_;intro k' h3 h4;obtain rfl:k'=.local:=by cases k' <;> first | rfl | (exact absurd h4 (by decide))
  refine qa4 F.ns ?_;intro mh hn hm;refine qda h3 hn (fun h' hn' hs hcc=>?_) (by simp[F.kind]);refine qav hn ?_;intro oL es ep hL hx hr;refine qav hn' ?_;intro oL' es' ep' hL' hx' hr';have hxo:XOk (fun a=>a=env.locals) g s.heap:=fun a ha=>by
    subst ha;exact ⟨.inl F.Lo,fun o vs ho hd=>nomatch ((congrArg Obj.data (Sj (hL.symm.trans ho))).symm.trans hx).symm.trans hd⟩
  obtain ⟨R',e⟩:=R.turn (g':=g) (h':=h') (s.toks+1) (fun a=>a=env.locals) hxo (fun a ha=>ha ▸ F.Lz) (fun _ _=>rfl) (fun a ha=>ha ▸ F.Lo)
    (fun a o ho ha=>(hs.2 a ha).trans ho) (fun a o es n ha ho hd=>by subst ha;refine qa4 (hcc o ho) ?_;intro o' h5 h6;exact ⟨oL',es',ep',hL',hx',(Sj (hL'.symm.trans h5)) ▸ h6⟩)
  have up:∀av v,RV C.W g s.heap av v->RV C.W g h' av v:=fun av v r=>r.mono e hxo av (.inl fun a ha=>ha ▸ F.Lo) v
  refine hQ g _ R' (e.weak (X':=FX C.nm env) (Y':=noY) R.low (fun a o _ ha=>.inl ha) (fun n q=>q.elim)) ⟨F.kind,F.names,F.nd,F.glob,F.blt,F.code,F.Lo,F.Lz,⟨_,hn',fun j y av' h1 h2=>?_⟩,fun j y kd h1 h2=>?_,?_,F.inj⟩
  . rcases qcd h2 with ⟨rfl,rfl⟩ | ⟨hj,h2⟩
    . obtain rfl:=(Prod.mk.inj (Sj (hi.symm.trans h1))).1;exact ⟨v,if_pos rfl,up _ _ r⟩
    . refine qa4 (hm j y av' h1 h2) ?_;intro w h5 h6;exact ⟨w,(if_neg fun q=>hj (by subst q;exact F.nd j i y _ _ h1 hi)).trans h5,up _ _ h6⟩
  . refine qat (F.cell j y kd h1 h2) ?_;intro c ov h5 h6 h7 h8 h9;have hc:c≠env.locals:=fun q=>by subst q;rw[hL] at h7;obtain rfl:=Sj h7;exact nomatch hx
    refine ⟨c,ov,h5,h6,(hs.2 c hc).trans h7,h8,fun av' q=>?_⟩;rcases qcd q with ⟨rfl,_⟩ | ⟨_,q⟩
    . obtain rfl:=(Prod.mk.inj (Sj (hi.symm.trans h1))).2;exact nomatch h2
    . exact (h9 av' q).imp fun w q=>⟨q.1,up _ _ q.2⟩
  . rcases F.pl with q | q
    . exact .inl q
    . refine hp.symm.imp_right fun hp j av' h=>?_
      rcases qcd h with ⟨_,rfl⟩ | ⟨_,h⟩
      . exact hp
      . exact q j av' h
theorem qer (hi:C.nm[i]?=some (x,.cell))(hp:plain av=true){v:Value}(R:Rep C.W fr g σ s)(F:Fra C env m g s.heap)(r:RV C.W g s.heap av v){Q:Unit->Shared->Prop}(hQ:∀g' s',Rep C.W fr g' σ s'->Evo C.W (FX C.nm env) noY g s.heap g' s'.heap->Fra C env (m.set i (some av)) g' s'.heap->Q () s'):wpAny (model C.W.prog C.W.w) A (storeName env x v) Q E s:=by
  refine qa4 (F.names i x _ hi) ?_;intro k' h3 h4;refine qat (F.cell i x .cell hi rfl) ?_;intro c ov h5 h6 h7 h8 h9;have hplm:∀(i:Nat) (av:AV),m[i]?=some (some av)->plain av=true:=F.pl.resolve_left fun q=>q i x hi
  have hcell:cellOf env x=pure c:=by unfold cellOf;rw[h5]
  have hxo:XOk (fun a=>a=c) g s.heap:=fun a ha=>by
    subst ha;exact ⟨h8.imp id fun q=>⟨q,_,h7⟩,fun o vs ho hd=>nomatch (congrArg Obj.data (Sj (h7.symm.trans ho))).trans hd⟩
  have hself:(s.heap.update c fun o=>{ o with data:=.cell (some v) }).get? c=some (qb5 (some v)):=by
    first | exact Heap.get?_update_self _ h7 rfl | exact Heap.get?_update_self (fun o=>{ o with data:=.cell (some v) }) h7 rfl
  have hs:Heap.SameBut c s.heap (s.heap.update c fun o=>{ o with data:=.cell (some v) }):=Heap.SameBut.update ..;obtain ⟨R',e⟩:=R.turn (g':=qc9 g c .other) (h':=s.heap.update c fun o=>{ o with data:=.cell (some v) }) s.toks (fun a=>a=c) hxo (fun a ha=>ha ▸ h6) (fun a ha=>qa9 ha) (fun a ha=>ha ▸ qa5)
    (fun a o ho ha=>(hs.2 a ha).trans ho) (fun a o es n ha ho hd=>by subst ha;exact nomatch (congrArg Obj.data (Sj (h7.symm.trans ho))).trans hd)
  have up:∀av u,plain av=true->RV C.W g s.heap av u->RV C.W (qc9 g c .other) (s.heap.update c fun o=>{ o with data:=.cell (some v) }) av u:=fun av u hp r=>r.mono e hxo av (.inr hp) u
  have fin:wpAny (model C.W.prog C.W.w) A (cellSet c (some v)) Q E s:=by
    unfold cellSet;refine wpAny_bind (wpAny_load h7 ?_);refine wpAny_update h7 (hQ _ _ R' (e.weak R.low (fun a o _ ha=>.inr ⟨i,x,hi,by rw[ha];exact h5⟩) (fun n q=>q.elim)) ?_);refine qa4 F.ns ?_;intro mh hn hm;refine qav hn ?_;intro oL es ep hL hx hr;have hcL:env.locals≠c:=fun q=>by rw[q,h7] at hL;obtain rfl:=Sj hL;exact nomatch hx
    refine ⟨F.kind,F.names,F.nd,F.glob,F.blt,F.code,by rw[qa9 hcL];exact F.Lo,F.Lz,⟨mh,⟨oL,es,ep,(hs.2 _ hcL).trans hL,hx,hr⟩,fun j y av' h1 h2=>?_⟩,fun j y kd h1 h2=>?_,.inr fun j av' h=>?_,F.inj⟩
    . rcases qcd h2 with ⟨rfl,_⟩ | ⟨_,h2⟩
      . exact nomatch (Prod.mk.inj (Sj (hi.symm.trans h1))).2
      . exact (hm j y av' h1 h2).imp fun w q=>⟨q.1,up _ _ (hplm j av' h2) q.2⟩
    . by_cases hj:j=i
      . subst hj;obtain ⟨rfl,rfl⟩:=Prod.mk.inj (Sj (hi.symm.trans h1));refine ⟨c,some v,h5,h6,hself,.inl qa5,fun av' q=>?_⟩;rcases qcd q with ⟨_,rfl⟩ | ⟨q,_⟩
        . exact ⟨v,rfl,up _ _ hp r⟩
        . exact absurd rfl q
      . refine qat (F.cell j y kd h1 h2) ?_;intro c' ov' h10 h11 h12 h13 h14;have hcc:c'≠c:=fun q=>by subst q;exact hj (F.inj i j x y kd c' hi h1 h2 h5 h10).symm
        refine ⟨c',ov',h10,h11,(hs.2 _ hcc).trans h12,by rw[qa9 hcc];exact h13,fun av' q=>?_⟩;have q:=(qcd q).resolve_left fun q=>hj q.1
        exact (h14 av' q.2).imp fun w z=>⟨z.1,up _ _ (hplm j av' q.2) z.2⟩
    . rcases qcd h with ⟨_,rfl⟩ | ⟨_,h⟩
      . exact hp
      . exact hplm j av' h
  unfold storeName;cases k' with
  | «local»=>cases h4
  | globalExplicit=>cases h4
  | globalImplicit=>cases h4
  | cell=>simp[h3,F.kind,hcell];exact fin
  | free=>simp[h3,F.kind,hcell];exact fin
theorem Ibs (hi:C.nm[i]?=some (x,.local))(hp:plain av=true):As C k fr m σ (.Name x p) av (m.set i (some av)) σ:=fun A env g s v rm R F r Q E hQ=>by
  show wpAny _ A (standAt p >>= fun _=>bindName env x v) Q E s;exact wpAny_bind (wpAny_standAt (wpAny_bindName (qbw hi (.inl hp) R F r fun g1 s1a R1 e1a F1=>hQ g1 s1a R1 e1a.toY F1)))
theorem Idi (hi:C.nm[i]?=some (x,.cell))(hp:plain av=true):As C k fr m σ (.Name x p) av (m.set i (some av)) σ:=fun A env g s v rm R F r Q E hQ=>by
  show wpAny _ A (standAt p >>= fun _=>bindName env x v) Q E s;exact wpAny_bind (wpAny_standAt (wpAny_bindName (qer hi hp R F r fun g1 s1a R1 e1a F1=>hQ g1 s1a R1 e1a.toY F1)))
theorem Ia4 (he:Ev C k fr m σ e v z1)(ht:As C k fr m z1 t v m' z')(hsw:autoParam (∀env,swapsWithSole [t] e p.line env=pure false) ap0._auto_1)(hst:autoParam (∀env,swappedStores [t] e env=pure none) ap0._auto_1)(hta:autoParam (∀env,(assignEach [t] env).map (·.2)=[PySem.assign t env]) ap0._auto_1):
    Ex C k fr m σ (.Assign [t] e p) .next m' z':=fun A env g s rm R F Q E hQ=>by
  refine wpAny_Assign_stores (he A env g s rm R F _ _ fun v' g1 s1a R1 e1a rv=>?_) (hsw env) (hst env);show wpAny _ A (assignAll v' ((assignEach [t] env).map (·.2))) _ _ _;rw[hta];exact ht A env g1 s1a v' rm R1 (F.up e1a) rv _ _ fun g2 s2 R2 e2a F2=>hQ _ g2 s2 R2 (e1a.toX.trans e2a) F2 rfl
theorem Iaj (he:Ev C k fr m σ e v z'):Ex C k fr m σ (.Return (some e) p) (.ret v) m z':=fun A env g s rm R F Q E hQ=>
  wpAny_Return_some (he A env g s rm R F _ _ fun v' g1 s1a R1 e1a rv=>hQ _ g1 s1a R1 e1a.toX (F.up e1a) ⟨v',rfl,rv⟩)
theorem Ia9 {a b:List Stmt}{c:Bool}{fl:AFl}(ht:Tr C k fr m σ t c z1)(ha:c=true->Exs C k fr m z1 a fl m' z')(hb:c=false->Exs C k fr m z1 b fl m' z'):Ex C k fr m σ (.If t a b p) fl m' z':=fun A env g s rm R F Q E hQ=>by
  refine wpAny_If (ht A env g s rm R F _ _ fun g1 s1a R1 e1a=>?_);cases c with
  | true=>exact ha rfl A env g1 s1a rm R1 (F.up e1a) Q E fun f' g2 s2 R2 e2a F2 hf=>hQ f' g2 s2 R2 (e1a.toX.trans e2a) F2 hf
  | false=>exact hb rfl A env g1 s1a rm R1 (F.up e1a) Q E fun f' g2 s2 R2 e2a F2 hf=>hQ f' g2 s2 R2 (e1a.toX.trans e2a) F2 hf
theorem Idx:Ex C k fr m σ (.Break p) .brk m σ:=fun A env g s rm R F Q E hQ=>
  show wpAny _ A (standAt p >>= fun _=>pure .brk) Q E s from wpAny_bind (wpAny_standAt (wpAny_pure (hQ _ g s R Evo.refl F rfl)))
theorem Idg {np:Pos}{op:Operator}{a b:AV}(hi:C.nm[i]?=some (x,.local))(ha:m[i]?=some (some a))(he:Ev C k fr m σ e b z1)(ho:Op2 C.W C.Y k fr z1 (inplaceOp op) a b v z')(hp:plain v=true):
    Ex C k fr m σ (.AugAssign (.Name x np) op e p) .next (m.set i (some v)) z':=fun A env g s rm R F Q E hQ=>by
  refine qa4 (F.ns) ?_;intro mh hn hm;refine qa4 (hm i x a hi ha) ?_;intro w h1 h2;refine qa4 (F.names i x _ hi) ?_;intro k' h3 h4;have:k'=.local:=by cases k' <;> first | rfl | (exact absurd h4 (by decide))
  subst this;refine wpAny_AugAssign_Name (wpAny_loadName_local F.kind h3 hn h1 (he A env g s rm R F _ _ fun vb g1 s1a R1 e1a rb=>ho A g1 s1a w vb rm R1 (h2.up e1a) rb _ _ fun v' g2 s2 R2 e2a rv=>?_));exact qbw hi (.inl hp) R2 ((F.up e1a).up e2a) rv fun g3 s3 R3 e3a F3=>hQ _ g3 s3 R3 ((e1a.trans e2a).toX.trans e3a.toY) F3 rfl
end
end
variable {fl:AFl}
section
section
inductive Binds (nm:List (Str×NameKind)):List Str->List AV->List (Option AV)->List (Option AV)->Prop
  | nil {m:List (Option AV)}:Binds nm [] [] m m
  | cons {x:Str} {xs:List Str} {v:AV} {vs:List AV} {i:Nat} {kd:NameKind} {m m'} (hi:nm[i]?=some (x,kd)) (hk:kd=.local\/kd=.cell) (hp:plain v=true\/∀(i:Nat) (x:Str),nm[i]?≠some (x,.cell))
      (r:Binds nm xs vs (m.set i (some v)) m'):Binds nm (x::xs) (v::vs) m m'
theorem Binds.plains (B:Binds nm xs vs m m'):(∀(i:Nat) (x:Str),nm[i]?≠some (x,.cell))\/Mine.plains vs=true:=by
  induction B with
  | nil=>exact .inr rfl
  | cons hi hk hp r ih=>
    rcases ih with q | q
    . exact .inl q
    . rcases hp with p | p
      . exact .inr (by show (plain _&&Mine.plains _)=true;rw[p,q];rfl)
      . exact .inl p
theorem qql (F:Fra C env m g h)(hn:∀(i:Nat) (x:Str),C.nm[i]?≠some (x,.cell)):∀a,FX C.nm env a->g a=.other:=fun a ha=>by
  rcases ha with rfl | ⟨i,x,hi,_⟩
  . exact F.Lo
  . exact absurd hi (hn i x)
theorem qgk:∀{xs:List Str} {vs:List AV} {m m':List (Option AV)} {g:Addr->Own} {s:Shared} {us:List Value} (B:Binds C.nm xs vs m m')
    (R:Rep C.W fr g σ s) (F:Fra C env m g s.heap) (r:RVs C.W g s.heap vs us) {Q:PUnit->Shared->Prop}
    (hQ:∀g' s',Rep C.W fr g' σ s'->Evo C.W (FX C.nm env) noY g s.heap g' s'.heap->Fra C env m' g' s'.heap->Q ⟨⟩ s') (f:Str×Value->PUnit->Sem (ForInStep PUnit))
    (hf:∀x u,f x u=(do storeName env x.1 x.2;pure (.yield ⟨⟩))),wpAny (model C.W.prog C.W.w) A (forIn (xs.zip us) ⟨⟩ f) Q E s:=by
  intro xs;induction xs with
  | nil=>
    intro vs m m' g s us B R F r Q hQ f hf;cases B
    rw[List.zip_nil_left,List.forIn_nil];exact wpAny_pure (hQ g s R Evo.refl F)
  | cons x xs ih=>
    intro vs m m' g s us B R F r Q hQ f hf;cases B with
    | cons hi hk hp B=>
      refine qa3 (r) ?_;intro u us' eq_0_2 r1 r2;subst eq_0_2;rw[List.zip_cons_cons,List.forIn_cons,hf];have go:∀g' s',Rep C.W fr g' σ s'->Evo C.W (FX C.nm env) noY g s.heap g' s'.heap->Fra C env _ g' s'.heap->_:=fun g' s' R' e' F'=>
        ih B R' F' (r2.mono e' F.xok _ (B.plains.imp (fun q=>qql F q) id) _) (fun g'' s'' R'' e'' F''=>hQ g'' s'' R'' (e'.trans e'') F'') f hf
      rcases hk with rfl | rfl
      . exact wpAny_bind (wpAny_bind (qbw hi hp R F r1 fun g' s' R' e' F'=>wpAny_pure (go g' s' R' e' F')))
      . exact wpAny_bind (wpAny_bind (qer hi (hp.resolve_right fun q=>q _ _ hi) R F r1 fun g' s' R' e' F'=>wpAny_pure (go g' s' R' e' F')))
theorem qp8:∀(names:List (Str×NameKind)) (cl:List (Str×Addr)) (g:Addr->Own) (s:Shared) (f:Str×NameKind->List (Str×Addr)->Sem (ForInStep (List (Str×Addr)))) (Q:List (Str×Addr)->Shared->Prop),
    (∀x c,f x c=(if x.2==.cell then do let a <- alloc { cls:=.type "cell",data:=.cell none };pure (.yield ((x.1,a)::c)) else pure (.yield c))) ->
    (∀(i j:Nat) (x:Str) (k k':NameKind),names[i]?=some (x,k)->names[j]?=some (x,k')->i=j)->Rep W fr g σ s ->
    (∀cl' s',Rep W fr g σ s'->Evo W noX noY g s.heap g s'.heap->(∀a o,s.heap.get? a=some o->s'.heap.get? a=some o) ->
      (∀x,(∀(i:Nat),names[i]?≠some (x,.cell))->cl'.lookup x=cl.lookup x) ->
      (∀(i:Nat) (x:Str),names[i]?=some (x,.cell)->∃c,cl'.lookup x=some c/\s.heap.get? c=none/\s'.heap.get? c=some (qb5 none)) ->
      (∀(i j:Nat) (x y:Str) (c:Addr),names[i]?=some (x,.cell)->names[j]?=some (y,.cell)->cl'.lookup x=some c->cl'.lookup y=some c->i=j)->Q cl' s') ->
    wpAny (model W.prog W.w) A (forIn names cl f) Q E s:=by
  intro names;induction names with
  | nil=>
    intro cl g s f Q hf hd R hQ;rw[List.forIn_nil];exact wpAny_pure (hQ cl s R Evo.refl (fun _ _ h=>h) (fun _ _=>rfl) (fun i x h=>by simp at h) (fun i j x y c h=>by simp at h))
  | cons p names ih=>
    intro cl g s f Q hf hd R hQ;obtain ⟨x,kd⟩:=p;have hd':∀(i j:Nat) (x:Str) (k k':NameKind),names[i]?=some (x,k)->names[j]?=some (x,k')->i=j:=fun i j x k k' h1 h2=>by
      have:=hd (i+1) (j+1) x k k' (by simpa using h1) (by simpa using h2);lia
    have hx:∀(j:Nat) (k':NameKind),names[j]?≠some (x,k'):=fun j k' h=>by
      have:=hd 0 (j+1) x kd k' rfl (by simpa using h);lia
    rw[List.forIn_cons,hf];by_cases hk:kd=.cell
    . subst hk;simp only[beq_self_eq_true,if_true];refine And.elim ?_ (R.push (qb5 none) .other rfl (.inr rfl));intro R1 e1a;have hgo:qc9 g s.heap.objs.size .other=g:=by
        funext a
        by_cases ha:a=s.heap.objs.size
        . subst ha;rw[qa5,R.top]
        . exact qa9 ha
      rw[hgo] at R1 e1a;refine wpAny_bind (wpAny_bind (wpAny_alloc (wpAny_pure (ih _ g _ f Q hf hd' R1 fun cl' s' R' e' hk' hl hn hj=>?_))));have up:∀a o,s.heap.get? a=some o->s'.heap.get? a=some o:=fun a o ho=>hk' a o (Heap.get?_push_of_some _ ho)
      have hxl:cl'.lookup x=some s.heap.objs.size:=by rw[hl x (fun i=>hx i _)];simp
      refine hQ cl' s' R' (e1a.trans e') up (fun y hy=>?_) (fun i y hy=>?_) (fun i j y z c hy hz h1 h2=>?_)
      . rw[hl y fun i h=>hy (i+1) (by simpa using h)];have hne:(y==x)=false:=by
          have:y≠x:=fun q=>by subst q;exact hy 0 rfl
          simpa using this
        rw[List.lookup_cons,hne]
      . cases i with
        | zero=>
          simp at hy;subst hy;exact ⟨_,hxl,qak _,hk' _ _ (Heap.get?_push_size _ rfl)⟩
        | succ i=>
          refine qal (hn i y (by simpa using hy)) ?_;intro c h1 h2 h3;refine ⟨c,h1,?_,h3⟩;cases q:s.heap.get? c with
          | none=>rfl
          | some o=>have:=Heap.get?_push_of_some (qb5 none) q;rw[h2] at this;cases this
      . cases i with
        | zero=>
          cases j with
          | zero=>rfl
          | succ j=>
            exfalso
            simp at hy;subst hy;rw[hxl] at h1;obtain rfl:=Sj h1;refine qal (hn j z (by simpa using hz)) ?_;intro c h4 h5 h6;rw[h2] at h4;obtain rfl:=Sj h4;rw[Heap.get?_push_size _ rfl] at h5;cases h5
        | succ i=>
          cases j with
          | zero=>
            exfalso
            simp at hz;subst hz;rw[hxl] at h2;obtain rfl:=Sj h2;refine qal (hn i y (by simpa using hy)) ?_;intro c h4 h5 h6;rw[h1] at h4;obtain rfl:=Sj h4;rw[Heap.get?_push_size _ rfl] at h5;cases h5
          | succ j=>
            have:=hj i j y z c (by simpa using hy) (by simpa using hz) h1 h2;lia
    . have hk':(kd==NameKind.cell)=false:=by simpa using hk
      simp only[hk',Bool.false_eq_true,if_false];refine wpAny_bind (wpAny_pure (ih _ g _ f Q hf hd' R fun cl' s' R' e' up hl hn hj=>hQ cl' s' R' e' up (fun y hy=>hl y fun i h=>hy (i+1) (by simpa using h)) (fun i y hy=>?_) (fun i j y z c hy hz h1 h2=>?_)))
      . cases i with
        | zero=>simp at hy;exact absurd hy.2 hk
        | succ i=>exact hn i y (by simpa using hy)
      . cases i with
        | zero=>simp at hy;exact absurd hy.2 hk
        | succ i=>
          cases j with
          | zero=>simp at hz;exact absurd hz.2 hk
          | succ j=>have:=hj i j y z c (by simpa using hy) (by simpa using hz) h1 h2;lia
theorem Rep.cons (R:Rep C.W fr g σ s)(F:Fra C env m g s.heap)(hf:env.frame=some env.locals)(hcl:∃o,s.heap.get? env.locals=some o/\o.cls=.type "frame"):Rep C.W (env::fr) g σ s:=
  { R with frs:=fun e he=>(by
      rcases List.mem_cons.mp he with rfl | he
      . refine qa4 (F.ns) ?_;intro mh ne_6_1 _;refine qav ne_6_1 ?_;intro oL es ep hL hLd _;refine qa4 (hcl) ?_;intro o ho hc;rw[hL] at ho;obtain rfl:=Sj ho;exact ⟨_,oL,es,ep,hf,hL,hLd,F.Lo,hc,F.Lz,by rw[F.kind];exact nofun⟩
      . exact R.frs e he) }
def quh (C:Cx) (cl:List (Str×Addr)) (m:List (Option AV)) (g:Addr->Own) (h:Heap):Prop:=
  ∀(i:Nat) (x:Str) (k:NameKind),C.nm[i]?=some (x,k)->(k=.free->∃c ov,cl.lookup x=some c/\C.W.s1.heap.get? c=none/\h.get? c=some (qb5 ov)/\(g c=.other\/g c=.fz) /\
    ∀av,m[i]?=some (some av)->∃v,ov=some v/\RV C.W g h av v)/\(k≠.free->∀av,m[i]?≠some (some av))
theorem qcx {closure:List (Str×Addr)}{us:List Value}{qual:Str}{func:Option Addr}{code:Value}{around:Option Env}{m0:List (Option AV)}{Q:Env->Shared->Prop}(hnm:C.nm=scope.names)(hnd:∀(i j:Nat) (x:Str) (k k':NameKind),C.nm[i]?=some (x,k)->C.nm[j]?=some (x,k')->i=j)(hk:scope.kind=.function)(hlk:∀(i:Nat) (x:Str) (k:NameKind),C.nm[i]?=some (x,k)->scope.names.lookup x=some k)(hcd:(match around with | some o=>o.code | none=>code)=C.cd)(hbl:∀o,around=some o->o.builtins=builtinsNs)(R:Rep C.W fr g σ s)(hfree:quh C closure m0 g s.heap)(hpl:(∀(i:Nat) (x:Str),C.nm[i]?≠some (x,.cell))\/∀(i:Nat) (av:AV),m0[i]?=some (some av)->plain av=true)(B:Binds C.nm xs vs m0 m1)(hr:RVs C.W g s.heap vs us)(hml:m0.length=C.nm.length)(hQ:∀env g' s',Rep C.W fr g' σ s'->Evo C.W noX noY g s.heap g' s'.heap->Fra C env m1 g' s'.heap->env.scope=scope->s.heap.get? env.locals=none->(∀x,(∀(i:Nat),C.nm[i]?≠some (x,.cell))->env.cells.lookup x=closure.lookup x) ->
      (∀(i:Nat) (x:Str) (c:Addr),C.nm[i]?=some (x,.cell)->env.cells.lookup x=some c->s.heap.get? c=none)->(around=none->env.frame=some env.locals/\env.func=func)->(∀o,around=some o->env.frame=o.frame)->(around=none->Rep C.W (env::fr) g' σ s')->Q env s'):
    wpAny (model C.W.prog C.W.w) A (newFunctionEnv scope mainGlobals closure (xs.zip us) qual func code around builtinsNs) Q E s:=by
  have key:∀(cls:String) (mk:Addr->List (Str×Addr)->Env),(∀L cl,(mk L cl).scope=scope/\(mk L cl).locals=L/\(mk L cl).globals=mainGlobals/\(mk L cl).builtins=builtinsNs/\(mk L cl).cells=cl/\(mk L cl).code=C.cd /\
        (around=none->(mk L cl).frame=some L/\(mk L cl).func=func)/\∀o,around=some o->(mk L cl).frame=o.frame)->(around=none->cls="frame") ->
      wpAny (model C.W.prog C.W.w) A (do
        let locals <- alloc { cls:=.type cls,data:=.dict #[] }
        let cells <- forIn scope.names closure fun x c=>(if x.2==.cell then do let a <- alloc { cls:=.type "cell",data:=.cell none };pure (.yield ((x.1,a)::c)) else pure (.yield c):Sem (ForInStep (List (Str×Addr))))
        let _ <- forIn (xs.zip us) PUnit.unit fun x u=>(do storeName (mk locals cells) x.1 x.2;pure (.yield PUnit.unit):Sem (ForInStep PUnit))
        pure (mk locals cells)) Q E s:=by
    intro cls mk hmk hcls;have htop:=R.top;obtain ⟨R1,e1a⟩:=R.push { cls:=.type cls,data:=.dict #[] } .other rfl (.inr rfl);have hgo:qc9 g s.heap.objs.size .other=g:=by
      funext a
      by_cases ha:a=s.heap.objs.size
      . subst ha;rw[qa5,htop]
      . exact qa9 ha
    rw[hgo] at R1 e1a;refine wpAny_bind (wpAny_alloc (wpAny_bind ?_));refine qp8 scope.names closure g _ _ _ (fun _ _=>rfl) (fun i j x k k' h1 h2=>hnd i j x k k' (by rw[hnm];exact h1) (by rw[hnm];exact h2)) R1 fun cl' s2 R2 e2a up hl hn hj=>?_
    refine qny (hmk s.heap.objs.size cl') ?_;intro q1 q2 q3 q4 q5 q6 q7 q8;have hL:s2.heap.get? s.heap.objs.size=some { cls:=.type cls,data:=.dict #[] }:=up _ _ (Heap.get?_push_size _ rfl);have e12:=e1a.trans e2a;have hkeep:∀a o,s.heap.get? a=some o->s2.heap.get? a=some o:=fun a o ho=>up a o (Heap.get?_push_of_some _ ho)
    have hs1:∀a,s.heap.get? a=none->C.W.s1.heap.get? a=none:=fun a ha=>by
      cases q:C.W.s1.heap.get? a with
      | none=>rfl
      | some o=>
        by_cases ht:C.W.tab a
        . refine qa4 (R.tabs a ht) ?_;intro more h2 _;rw[ha] at h2;cases h2
        . have:=R.base a o q ht;rw[ha] at this;cases this
    have hg0:∀a,s.heap.get? a=none->g a=.other:=fun a ha=>Classical.byContradiction fun q=>by
      obtain ⟨o,ho⟩:=R.low a q;rw[ha] at ho;cases ho
    have hcl:∀(i:Nat) (x:Str),C.nm[i]?=some (x,.cell)->∃c,cl'.lookup x=some c/\s.heap.get? c=none/\s2.heap.get? c=some (qb5 none):=fun i x hi=>by
      refine qal (hn i x (by rw[<- hnm];exact hi)) ?_;intro c h1 h2 h3;refine ⟨c,h1,?_,h3⟩;cases q:s.heap.get? c with
      | none=>rfl
      | some o=>have:=Heap.get?_push_of_some ({ cls:=.type cls,data:=.dict #[] }:Obj) q;rw[h2] at this;cases this
    have hnc:∀(i:Nat) (x:Str),C.nm[i]?=some (x,.free)->cl'.lookup x=closure.lookup x:=fun i x hi=>hl x fun j q=>by
      have:=hnd i j x _ _ hi (by rw[hnm];exact q);subst this;rw[hnm] at hi;rw[hi] at q;cases q
    have F2:Fra C (mk s.heap.objs.size cl') m0 g s2.heap:=by
      refine ⟨by rw[q1];exact hk,fun i x kd hi=>⟨kd,by unfold Env.kindOf;rw[q1];exact hlk i x kd hi,rfl⟩,hnd,q3,q4,q6,by rw[q2];exact htop,by rw[q2];exact hs1 _ (qak _),⟨fun _=>none,by
          rw[q2];exact ⟨_,#[],0,hL,rfl,fun _ he=>by simp at he,fun _=>rfl⟩,fun i x av h1 h2=>absurd h2 ((hfree i x _ h1).2 nofun av)⟩,fun i x kd h1 h2=>?_,hpl,fun i j x y kd c h1 h2 h3 h4 h5=>?_⟩
      . rw[q5];cases kd with
        | «local»=>cases h2
        | globalExplicit=>cases h2
        | globalImplicit=>cases h2
        | cell=>
          refine qal (hcl i x h1) ?_;intro c h3 h4 h5;exact ⟨c,none,h3,hs1 c h4,h5,.inl (hg0 c h4),fun av q=>absurd q ((hfree i x _ h1).2 nofun av)⟩
        | free=>
          refine qat ((hfree i x _ h1).1 rfl) ?_;intro c ov h3 h4 h5 h6 h7;refine ⟨c,ov,by rw[hnc i x h1];exact h3,h4,hkeep _ _ h5,h6,fun av q=>?_⟩;refine qa4 (h7 av q) ?_;intro v h8 h9;exact ⟨v,h8,h9.up e12⟩
      . rw[q5] at h4 h5;cases kd with
        | «local»=>cases h3
        | globalExplicit=>cases h3
        | globalImplicit=>cases h3
        | cell=>exact hj i j x y c (by rw[<- hnm];exact h1) (by rw[<- hnm];exact h2) h4 h5
        | free=>
          exfalso
          refine qal (hcl i x h1) ?_;intro c1 h6 h7 h8;refine qb0 ((hfree j y _ h2).1 rfl) ?_;intro c2 ov h9 h10 h11 _;rw[hnc j y h2,h9] at h5;obtain rfl:=Sj h5;rw[h4] at h6;obtain rfl:=Sj h6;rw[h7] at h11;cases h11
    have fin:∀g3 s3,Rep C.W fr g3 σ s3->(around=none->Rep C.W (mk s.heap.objs.size cl'::fr) g3 σ s3)->Evo C.W (FX C.nm (mk s.heap.objs.size cl')) noY g s2.heap g3 s3.heap->Fra C (mk s.heap.objs.size cl') m1 g3 s3.heap->Q (mk s.heap.objs.size cl') s3:=fun g3 s3 R3 hRc e3a F3=>by
      have hfresh:∀a o,s.heap.get? a=some o->¬FX C.nm (mk s.heap.objs.size cl') a:=fun a o ho ha=>by
        rcases ha with rfl | ⟨i,x,hi,hc⟩
        . rw[q2] at ho;rw[qak] at ho;cases ho
        . rw[q5] at hc;refine qal (hcl i x hi) ?_;intro c h1 h2 h3;rw[hc] at h1;obtain rfl:=Sj h1;rw[h2] at ho;cases ho
      have e13:Evo C.W noX noY g s.heap g3 s3.heap:=(e12.toX.trans e3a).weak R.low (fun a o ho ha=>hfresh a o ho ha) (fun _ q=>q);exact hQ _ g3 s3 R3 e13 F3 q1 (by rw[q2];exact qak _) (fun x hx=>by rw[q5];exact hl x fun i h=>hx i (by rw[hnm];exact h)) (fun i x c hi hc=>by
        rw[q5] at hc;refine qal (hcl i x hi) ?_;intro c' h1 h2 h3;rw[hc] at h1;obtain rfl:=Sj h1;exact h2) (fun h=>by rw[q2];exact q7 h) q8 hRc
    by_cases ha:around=none
    . have R2':=R2.cons F2 ((q7 ha).1.trans (by rw[q2])) ⟨_,by rw[q2];exact hL,by rw[hcls ha]⟩;exact wpAny_bind (qgk B R2' F2 (hr.up e12) (fun g3 s3 R3 e3a F3=>wpAny_pure (fin g3 s3 (R3.fewer fun e he=>List.mem_cons_of_mem _ he) (fun _=>R3) e3a F3)) _ fun _ _=>rfl)
    . exact wpAny_bind (qgk B R2 F2 (hr.up e12) (fun g3 s3 R3 e3a F3=>wpAny_pure (fin g3 s3 R3 (fun h=>absurd h ha) e3a F3)) _ fun _ _=>rfl)
  unfold newFunctionEnv;cases around with
  | none=>
    have:=key "frame" (fun L cl=>{ scope,locals:=L,globals:=mainGlobals,cells:=cl,qual,func,code,frame:=some L,builtins:=builtinsNs }) (fun L cl=>⟨rfl,rfl,rfl,rfl,rfl,hcd,fun _=>⟨rfl,rfl⟩,(fun o h=>by cases h)⟩) fun _=>rfl
    exact this
  | some o=>
    have:=key "dict" (fun L cl=>{ scope,locals:=L,globals:=mainGlobals,cells:=cl,qual,func,code:=o.code,frame:=o.frame,builtins:=o.builtins }) (fun L cl=>⟨rfl,rfl,rfl,hbl o rfl,rfl,hcd,(fun h=>by cases h),(fun o' h=>by obtain rfl:=Sj h;rfl)⟩) fun h=>by cases h
    exact this
end
end
section
structure qr4 (C:Cx) (a:Addr) (fd:FuncData) (body:List Stmt):Prop where
  get:∃o,C.W.s1.heap.get? a=some o/\o.data=.func fd
  nt:¬C.W.tab a
  co:fd.scope.isCoroutine=false
  gen:fd.scope.isGenerator=false
  kind:fd.scope.kind=.function
  body:fd.body=.stmts body
  code:∃c o vs t,fd.code=.ref c/\C.W.s1.heap.get? c=some o/\¬C.W.tab c/\o.data=.fields vs/\vs[1]?=some (.str fd.qualname t)
  clo:fd.closure=[]
  glob:fd.globals=mainGlobals
  blt:fd.builtins=builtinsNs
  nm:C.nm=fd.scope.names
  nd:∀(i j:Nat) (x:Str) (k k':NameKind),C.nm[i]?=some (x,k)->C.nm[j]?=some (x,k')->i=j
  lk:∀(i:Nat) (x:Str) (k:NameKind),C.nm[i]?=some (x,k)->fd.scope.names.lookup x=some k
  cd:fd.code=C.cd
  nofree:∀(i:Nat) (x:Str),C.nm[i]?≠some (x,.free)
def qd1 (W:Wd) (fd:FuncData) (args:List AV) (kn:List Str) (kv:List AV) (xs:List Str) (vs:List AV):Prop:=
  ∀(fr:List Env) (g:Addr->Own) (σ:List AObj) (s:Shared) (us ks:List Value),Rep W fr g σ s->RVs W g s.heap args us->RVs W g s.heap kv ks->∃ws,BindsTo s fd ⟨us,kn.zip ks⟩ (xs.zip ws)/\RVs W g s.heap vs ws
section
theorem Evo.wkB {Y':Nat->Prop}(R:Rep W fr g σ s)(e:Evo W noX Y g s.heap g' h')(hY:∀n,n<σ.length->Y n->Y' n):Evo W noX Y' g s.heap g' h':=
  ⟨e.keep,fun a o n ho hg hy=>e.keepL a o n ho hg fun q=>hy (hY n (R.bnd a n hg) q),e.fz,e.loc,e.aux,e.oth,e.tabs⟩
noncomputable def qes:AFl->AV
  | .ret v=>v
  | _=>.none
noncomputable def quj (f:Flow):Value:=match f with | .ret v=>v | _=>.none
theorem qih {f:Flow}(r:RFl W g h fl f):RV W g h (qes fl) (quj f):=by
  cases fl with
  | next=>obtain rfl:f=.next:=r;exact (rfl:Value.none=Value.none)
  | brk=>obtain rfl:f=.brk:=r;exact (rfl:Value.none=Value.none)
  | cont=>obtain rfl:f=.cont:=r;exact (rfl:Value.none=Value.none)
  | ret v=>refine qa4 (r) ?_;intro v' eq_0_1 hv;subst eq_0_1;exact hv
end
end
section
section
def Kept (W:Wd) (f:AV):Prop:=∀(fr:List Env) (g:Addr->Own) (σ:List AObj) (s:Shared) (v:Value),Rep W fr g σ s->RV W g s.heap f v ->
  ∃kp,(kp=Keeper.frame\/kp=Keeper.machine\/kp=Keeper.boundFrame)/\Looks (model W.prog W.w) s.heap (keeperOf v) kp
theorem Kept.builtin {id:String}:Kept W (.glob (.builtin id)):=fun fr g σ s v R r=>by
  obtain rfl:v=.builtin id:=r;exact ⟨.machine,.inr (.inl rfl),Looks.of_pure rfl⟩
theorem Kept.type {id:String}:Kept W (.glob (.type id)):=fun fr g σ s v R r=>by
  obtain rfl:v=.type id:=r;exact ⟨.machine,.inr (.inl rfl),Looks.of_pure rfl⟩
theorem Icy {fd:FuncData}(F:qr4 C a fd body):Kept C.W (.glob (.ref a)):=fun fr g σ s v R r=>by
  obtain rfl:v=.ref a:=r;refine qa4 (F.get) ?_;intro o ho hd;refine ⟨.frame,.inl rfl,fun A Q E s' hk hq=>?_⟩;show wpAny _ A (load a >>= _) Q E s';refine wpAny_bind (wpAny_load (hk _ _ (R.base a o ho F.nt)) ?_);rw[hd];exact wpAny_pure hq
theorem Kept.clo {l:Lam}{ns:List Str}{cs:List AV}:Kept W (.clo l ns cs):=fun fr g σ s v R r=>by
  refine qa2 (r) ?_;intro a fd vs eq_1_3 hg hc _;subst eq_1_3;refine ⟨.frame,.inl rfl,fun A Q E s' hk hq=>?_⟩;show wpAny _ A (load a >>= _) Q E s';exact wpAny_bind (wpAny_load (hk _ _ hc.get) (wpAny_pure hq))
theorem Kept.bound {f:String}{sv:AV}:Kept W (.bound f sv):=fun fr g σ s v R r=>by
  refine qb0 (r) ?_;intro a u eq_2_2 hg ho _;subst eq_2_2;refine ⟨.machine,.inr (.inl rfl),fun A Q E s' hk hq=>?_⟩;show wpAny _ A (load a >>= _) Q E s';exact wpAny_bind (wpAny_load (hk _ _ ho) (wpAny_pure hq))
structure EvK (C:Cx) (k:Nat) (fr:List Env) (m:List (Option AV)) (σ:List AObj) (kws:List Keyword) (kn:List Str) (kv:List AV) (z':List AObj):Prop where
  names:∀env p,(backToKw p (keywordEach kws env)).filterMap (·.1)=kn/\(backToKw p (keywordEach kws env)).all (·.1.isSome)=true
  run:∀(A:Around) (env:Env) (g:Addr->Own) (s:Shared) (p:Pos),Room k fr A->Rep C.W fr g σ s->Fra C env m g s.heap->∀(Q:List Value->Shared->Prop) (E:Value->Shared->Prop),
    (∀vs' g' s',Rep C.W fr g' z' s'->Evo C.W noX C.Y g s.heap g' s'.heap->RVs C.W g' s'.heap kv vs'->Q vs' s')->wpAny (model C.W.prog C.W.w) A (evalAll ((backToKw p (keywordEach kws env)).map (·.2))) Q E s
theorem EvK.nil:EvK C k fr m σ [] [] [] σ:=⟨fun env p=>⟨rfl,rfl⟩,fun A env g s p rm R F Q E hQ=>wpAny_pure (hQ [] g s R Evo.refl rfl)⟩
theorem qd9 (n:Option Str)(e:Expr)(p:Pos)(r:List Keyword)(env:Env):keywordEach (⟨n,e,p⟩::r) env=(n,eval e env)::keywordEach r env:=rfl
theorem EvK.cons {r:List Keyword}(he:Ev C k fr m σ e v z1)(hr:EvK C k fr m z1 r kn kv z'):EvK C k fr m σ (⟨some x,e,q⟩::r) (x::kn) (v::kv) z':=
  ⟨fun env p=>by
    rw[qd9];refine And.elim ?_ (hr.names env p);intro h1 h2;exact ⟨by show x::List.filterMap (·.1) (backToKw p (keywordEach r env))=_;rw[h1],by show (true&&List.all (backToKw p (keywordEach r env)) (·.1.isSome))=true;rw[h2];rfl⟩,fun A env g s p rm R F Q E hQ=>by
    rw[qd9];show wpAny _ A (evalAll ((do let v <- eval e env;standAt p;pure v)::(backToKw p (keywordEach r env)).map (·.2))) Q E s;refine wpAny_evalAll_cons (wpAny_bind (he A env g s rm R F _ _ fun va g1 s1a R1 e1a ra=>wpAny_bind (wpAny_standAt (wpAny_pure ?_))));exact hr.run A env g1 s1a p rm R1 (F.up e1a) _ _ fun vs' g2 s2 R2 e2a rv=>hQ _ g2 s2 R2 (e1a.trans e2a) ⟨va,vs',rfl,ra.up e2a,rv⟩⟩
theorem qe6 {f:Value}{args:List (Bool×Sem Value)}{kws:List (Option Str×Sem Value)}{Q:Args->Shared->Prop}(hpl:args.any (·.1)=false)(hall:kws.all (·.1.isSome)=true)(h:wpAny M A (spliced args) (fun vs s1a=>wpAny M A (evalAll (kws.map (·.2))) (fun ks s2=>Q ⟨vs,(kws.filterMap (·.1)).zip ks⟩ s2) E s1a) E s):wpAny M A (evalArgs f true args kws) Q E s:=by
  have fin:wpAny M A (spliced args >>= fun pos=>holding (pos++[]) (do
      let kw:=(kws.filterMap (·.1)).zip (<- evalAll (kws.map (·.2)))
      return (⟨pos,kw⟩:Args))) Q E s:=by
    refine wpAny_bind (wpAny_mono h (fun vs s1a h1a=>wpAny_holding (wpAny_bind (wpAny_mono h1a (fun ks s2 h2a=>wpAny_pure h2a) fun _ _ x=>x))) fun _ _ x=>x)
  cases args with
  | nil=>
    refine evalArgs_kw_nil hall ?_;exact fun Γ p hΓ=>(h Γ p hΓ:_) Γ p hΓ
  | cons a r=>
    obtain ⟨b,x⟩:=a;have hb:b=false:=by simp at hpl;exact hpl.1
    subst hb;exact evalArgs_kw hall h
theorem qgj {f:AV}{first:List AV}{kws:List Keyword}(hf:Kept C.W f)(ha:Evs C k fr m σ es args z1)(hk:EvK C k fr m z1 kws kn kv z2)(hc:Calls C.W C.Y k fr z2 f (first++args) kn kv v z')(hpl:∀env p,(backTo p (starEach es env)).any (·.1)=false){p':Pos}{vf:Value}{fs:List Value}(rm:Room k fr A)(R:Rep C.W fr g σ s)(F:Fra C env m g s.heap)(rf:RV C.W g s.heap f vf)(rs:RVs C.W g s.heap first fs)(hQ:∀v' g' s',Rep C.W fr g' z' s'->Evo C.W noX C.Y g s.heap g' s'.heap->RV C.W g' s'.heap v v'->Q v' s'):
    wpAny (model C.W.prog C.W.w) A (callWith p vf fs (backTo p' (starEach es env)) (backToKw p' (keywordEach kws env))) Q E s:=by
  refine And.elim ?_ (hk.names env p');intro hn hal;refine callWith_of (P:=fun h=>∃kp,(kp=Keeper.frame\/kp=Keeper.machine\/kp=Keeper.boundFrame)/\Looks (model C.W.prog C.W.w) h (keeperOf vf) kp) ?_ (fun h q=>q) ?_
  . rw[hpl];simp only[Bool.false_or,List.any_eq_false];intro q hq;have:=List.all_eq_true.mp hal q hq;cases hq1:q.1 <;> simp_all
  . refine qe6 (hpl _ _) hal (ha A env g s p' rm R F _ _ fun vs g1 s1a R1 e1a rv=>hk.run A env g1 s1a p' rm R1 (F.up e1a) _ _ fun ks g2 s2 R2 e2a rk=>?_);rw[hn];refine ⟨hf fr g2 z2 s2 vf R2 ((rf.up e1a).up e2a),?_⟩;exact hc A g2 s2 vf (fs++vs) ks rm R2 ((rf.up e1a).up e2a) (((rs.up e1a).up e2a).append (rv.up e2a)) rk Q E fun v' g3 s3 R3 e3a r3=>hQ v' g3 s3 R3 ((e1a.trans e2a).trans e3a) r3
theorem Ev.call {kws:List Keyword}{f:AV}(hn:Ev C k fr m σ (.Name x q) f z1)(hf:Kept C.W f)(ha:Evs C k fr m z1 es args z2)(hk:EvK C k fr m z2 kws kn kv z3)(hc:Calls C.W C.Y k fr z3 f args kn kv v z')(hpl:autoParam (∀env p,(backTo p (starEach es env)).any (·.1)=false) ap0._auto_1):Ev C k fr m σ (.Call (.Name x q) es kws p) v z':=fun A env g s rm R F Q E hQ=>by
  refine wpAny_Call_Name_kw (hn A env g s rm R F _ _ fun vf g1 s1a R1 e1a rf=>?_);exact qgj (first:=[]) hf ha hk hc hpl rm R1 (F.up e1a) rf rfl fun v' g2 s2 R2 e2a r2=>hQ v' g2 s2 R2 (e1a.trans e2a) r2
end
end
section
structure Priv (W:Wd) (g:Addr->Own) (h:Heap) (a:Addr):Prop where
  own:g a=.other
  new:W.s1.heap.get? a=none
  obj:∃o,h.get? a=some o/\(∀es n,o.data≠.dict es n)/\(∀v,o.data≠.cell v)/\(∀vs,o.data=.fields vs->o.cls≠.type "code")/\o.cls≠.type "frame"
section
variable {g2:Addr->Own} {s2:Shared}
theorem Iav (h:W.s1.heap.get? a=none):¬W.tab a:=fun q=>by rw[W.tabEx a q] at h;cases h
theorem Priv.xok {C:Addr->Prop}(hC:∀a,C a->Priv W g h a):XOk C g h:=fun a ha=>
  ⟨.inl (hC a ha).own,fun o vs ho hd=>by
    refine qeu ((hC a ha).obj) ?_;intro o' ho' _ _ hc _;rw[ho] at ho';obtain rfl:=Sj ho';exact hc vs hd⟩
theorem Rep.turn2 (R:Rep W fr g σ s)(tk:Nat)(C:Addr->Prop)(hC:∀a,C a->Priv W g s.heap a)(hg:∀a o,s.heap.get? a=some o->¬C a->g' a=g a)(hg':∀a,C a->g' a=.other\/(g' a=.fz/\∃o,h'.get? a=some o))(hn:∀a,s.heap.get? a=none->g' a=.other\/(g' a=.fz/\∃o,h'.get? a=some o))(hk:∀a o,s.heap.get? a=some o->¬C a->h'.get? a=some o):
    Rep W fr g' σ { s with heap:=h',toks:=tk }/\Evo W C noY g s.heap g' h':=by
  have hX:=Priv.xok hC;have hnC:∀{a:Addr},g a≠.other->¬C a:=fun {a} q hc=>q (hC a hc).own
  have hin:∀{a:Addr},g a≠.other->g' a=g a:=fun {a} q=>by refine Exists.elim (R.low a q) ?_;intro o ho;exact hg a o ho (hnC q)
  have hcase:∀a,(∃o,s.heap.get? a=some o)\/s.heap.get? a=none:=fun a=>by cases s.heap.get? a with | none=>exact .inr rfl | some o=>exact .inl ⟨o,rfl⟩
  have hback:∀a,g' a=g a\/g' a=.other\/(g' a=.fz/\∃o,h'.get? a=some o):=fun a=>by
    rcases hcase a with ⟨o,ho⟩ | ho
    . by_cases hc:C a
      . exact .inr (hg' a hc)
      . exact .inl (hg a o ho hc)
    . exact .inr (hn a ho)
  have hlc:∀a k,g' a=.loc k->g a=.loc k:=fun a k q=>by
    rcases hback a with r | r | ⟨r,_⟩
    . rw[<- r];exact q
    . rw[r] at q;cases q
    . rw[r] at q;cases q
  have hla:∀a k,g' a=.aux k->g a=.aux k:=fun a k q=>by
    rcases hback a with r | r | ⟨r,_⟩
    . rw[<- r];exact q
    . rw[r] at q;cases q
    . rw[r] at q;cases q
  have hnb:∀{a o},W.s1.heap.get? a=some o->¬C a:=fun {a o} ho hc=>by rw[(hC a hc).new] at ho;cases ho
  have hnt:∀{a},W.tab a->¬C a:=fun {a} ht hc=>Iav (hC a hc).new ht
  have e:Evo W C noY g s.heap g' h':=⟨fun a o ho hx _=>.of (hk a o ho hx),fun a o n ho hq _=>hk a o ho (hnC (by rcases hq with q | q <;> rw[q] <;> exact nofun)),fun a q hx=>by rw[hin (by rw[q];exact nofun)];exact q,
    fun a n q=>by rw[hin (by rw[q];exact nofun)];exact q,fun a n q=>by rw[hin (by rw[q];exact nofun)];exact q,fun a o ho q hx=>.inl (by rw[hg a o ho hx];exact q),fun a o ht ho=>⟨o,hk a o ho (hnt ht)⟩⟩
  refine ⟨⟨fun a o ho ht=>hk a o (R.base a o ho ht) (hnb ho),fun a o ho=>?_,
    fun a ht=>?_,fun a ht=>?_,fun a ha=>?_,fun n ao ho=>?_,fun a b n qa qb=>R.uniq a b n (hlc a n qa) (hlc b n qb),R.pl,fun a n q=>R.bnd a n (q.imp (hlc a n) (hla a n)),fun en he=>?_,R.gens,R.os⟩,e⟩
  . by_cases ht:W.tab a
    . refine qa4 (R.tabs a ht) ?_;intro more h2 _;rw[hg a _ h2 (hnb ho)];exact R.baseO a o ho
    . rw[hg a _ (R.base a o ho ht) (hnb ho)];exact R.baseO a o ho
  . refine qa4 (R.tabs a ht) ?_;intro more h2 _;rw[hg a _ h2 (hnt ht)];exact R.tabO a ht
  . refine qal (R.tabs a ht) ?_;intro more h2 h3 h4;exact ⟨more,hk a _ h2 (hnt ht),h3,fun pos v q=>(h4 pos v q).mono e hX⟩
  . rcases hback a with r | r | ⟨_,r⟩
    . rw[r] at ha;refine Exists.elim (R.low a ha) ?_;intro o ho;exact ⟨o,hk a o ho (hnC ha)⟩
    . exact absurd r ha
    . exact r
  . refine qa4 (R.locs n ao ho) ?_;intro a qa hr;exact ⟨a,e.loc a n qa,hr.mono e hX (fun o q=>hk a o q (hnC (by rw[qa];exact nofun))) (fun d hd o q=>hk d o q (hnC (by rw[hd];exact nofun))) ao (R.pl n ao ho)⟩
  . refine qaj (R.frs en he) ?_;intro f o es ep h1 h2 h3 h4 h5;have hc:¬C f:=fun hc=>by
      refine qal ((hC f hc).obj) ?_;intro o' ho' q _;rw[h2] at ho';obtain rfl:=Sj ho';exact q _ _ h3
    exact ⟨f,o,es,ep,h1,hk f o h2 hc,h3,by rw[hg f o h2 hc];exact h4,h5⟩
theorem Iau (R:Rep W fr g σ s)(e:Evo W noX Y g s.heap g2 s2.heap)(R2:Rep W fr g2 z' s2)(ha:s2.heap.get? a=none):s.heap.get? a=none:=by
  cases q:s.heap.get? a with
  | none=>rfl
  | some o=>
    exfalso
    have hlow:g2 a=.other:=Classical.byContradiction fun r=>by refine Exists.elim (R2.low a r) ?_;intro o ho;rw[ha] at ho;cases ho
    cases hg:g a with
    | fz=>rw[e.fz a hg fun x=>x] at hlow;cases hlow
    | loc n=>rw[e.loc a n hg] at hlow;cases hlow
    | aux n=>rw[e.aux a n hg] at hlow;cases hlow
    | other=>
      by_cases ht:W.tab a
      . refine Exists.elim (e.tabs a o ht q) ?_;intro o' ho';rw[ha] at ho';cases ho'
      . refine qa4 ((e.keep a o q (fun x=>x) (.inr ⟨hg,ht⟩)).ex) ?_;intro o' ho' _;rw[ho'] at ha;cases ha
theorem Rep.new1 (R:Rep W fr g σ s)(ha:s.heap.get? a=none):W.s1.heap.get? a=none:=by
  cases q:W.s1.heap.get? a with
  | none=>rfl
  | some o=>
    by_cases ht:W.tab a
    . refine qa4 (R.tabs a ht) ?_;intro more h2 _;rw[ha] at h2;cases h2
    . have:=R.base a o q ht;rw[ha] at this;cases this
theorem Rep.newO (R:Rep W fr g σ s)(ha:s.heap.get? a=none):g a=.other:=Classical.byContradiction fun q=>by
  refine Exists.elim (R.low a q) ?_;intro o ho;rw[ha] at ho;cases ho
theorem Priv.keep (F:Fra C env m g h)(e:Evo C.W (FX C.nm env) C.Y g h g' h')(p:Priv C.W g h a)(ho:h.get? a=some o):h'.get? a=some o/\Priv C.W g' h' a:=by
  refine qba (p.obj) ?_;intro o' ho' hd hc hk;rw[ho] at ho';obtain rfl:=Sj ho';have hx:¬FX C.nm env a:=fun hx=>by
    rcases hx with rfl | ⟨i,x,hi,hcl⟩
    . refine qa4 (F.ns) ?_;intro mh ne_15_1 _;refine qav ne_15_1 ?_;intro oL es ep hL hLd _;rw[ho] at hL;obtain rfl:=Sj hL;exact hd _ _ hLd
    . refine qb0 (F.cell i x .cell hi rfl) ?_;intro c ov h3 h4 h5 _;rw[hcl] at h3;obtain rfl:=Sj h3;rw[ho] at h5;obtain rfl:=Sj h5;exact hc _ rfl
  have h1:=(e.keep a o ho hx (.inr ⟨p.own,Iav p.new⟩)).get hk.2;refine ⟨h1,?_,p.new,o,h1,hd,hc,hk⟩;rcases e.oth a o ho p.own hx with q | ⟨_,v,q⟩
  . exact q
  . rw[h1] at q;obtain rfl:=Sj q;exact absurd rfl (hc v)
theorem Iaq (e:Evo W noX Y g h g' h')(p:Priv W g h a)(ho:h.get? a=some o):h'.get? a=some o/\Priv W g' h' a:=by
  refine qba (p.obj) ?_;intro o' ho' hd hc hk;rw[ho] at ho';obtain rfl:=Sj ho';have h1:=(e.keep a o ho (fun x=>x) (.inr ⟨p.own,Iav p.new⟩)).get hk.2;refine ⟨h1,?_,p.new,o,h1,hd,hc,hk⟩;rcases e.oth a o ho p.own (fun x=>x) with q | ⟨_,v,q⟩
  . exact q
  . rw[h1] at q;obtain rfl:=Sj q;exact absurd rfl (hc v)
theorem Fra.turn {X:Addr->Prop}(F:Fra C env m g h)(hX:∀a,X a->Priv C.W g h a)(e:Evo C.W X Y g h g' h'):Fra C env m g' h':=by
  have hXo:=Priv.xok hX;have up:∀av v,RV C.W g h av v->RV C.W g' h' av v:=fun av v r=>r.mono e hXo av (.inl fun a q=>(hX a q).own) v
  refine qa4 (F.ns) ?_;intro mh ne_18_1 hm;refine qav ne_18_1 ?_;intro oL es ep hL hLd r;have hxL:¬X env.locals:=fun q=>by
    refine qal ((hX _ q).obj) ?_;intro o ho hd _;rw[hL] at ho;obtain rfl:=Sj ho;exact hd _ _ hLd
  refine qal ((e.keep _ _ hL hxL (.inr ⟨F.Lo,qbc F.Lz⟩)).ex) ?_;intro oL' hL' hLd' _;rw[hLd] at hLd';refine ⟨F.kind,F.names,F.nd,F.glob,F.blt,F.code,?_,F.Lz,⟨mh,⟨oL',es,ep,hL',hLd',r⟩,fun i x av h1 h2=>?_⟩,fun i x k h1 h2=>?_,F.pl,F.inj⟩
  . rcases e.oth _ _ hL F.Lo hxL with q | ⟨_,u,q⟩
    . exact q
    . rw[hL'] at q;obtain rfl:=Sj q;cases hLd'
  . refine qa4 (hm i x av h1 h2) ?_;intro v h3 h4;exact ⟨v,h3,up _ _ h4⟩
  . refine qat (F.cell i x k h1 h2) ?_;intro c ov h3 h4 h5 h6 h7;have hxc:¬X c:=fun q=>by
      refine qba ((hX _ q).obj) ?_;intro o ho _ hc _;rw[h5] at ho;obtain rfl:=Sj ho;exact hc _ rfl
    have h5':h'.get? c=some (qb5 ov):=(e.keep _ _ h5 hxc (h6.symm.imp id fun q=>⟨q,qbc h4⟩)).get;refine ⟨c,ov,h3,h4,h5',?_,fun av q=>?_⟩
    . rcases h6 with q | q
      . exact (e.oth _ _ h5 q hxc).imp id (·.1)
      . exact .inr (e.fz _ q hxc)
    . refine qa4 (h7 av q) ?_;intro v h8 h9;exact ⟨v,h8,up _ _ h9⟩
end
inductive AIt where
  | seq (v:AV) (l:List AV)
  | tup (l:List AV)
  | range (a c:Int) (n:Nat)
  | enum (v:AV) (l:List AV)
  | zip (v1:AV) (l1:List AV) (v2:AV) (l2:List AV)
noncomputable def AIt.items:AIt->List AV
  | .seq _ l=>l
  | .tup l=>l
  | .range a c n=>(List.range n).map fun i=>.int (a+(i:Nat)*c)
  | .enum _ l=>l.zipIdx.map fun p=>.tup [.int p.2,p.1]
  | .zip _ l1 _ l2=>List.zipWith (fun a b=>.tup [a,b]) l1 l2
noncomputable def AIt.Ok (σ:List AObj):AIt->Prop
  | .seq v l=>Lv σ v l
  | .enum v l=>Lv σ v l
  | .zip v1 l1 v2 l2=>Lv σ v1 l1/\Lv σ v2 l2
  | _=>True
noncomputable def AIt.plain:AIt->Bool
  | .seq v _=>Mine.plain v
  | .tup l=>Mine.plains l
  | .enum v _=>Mine.plain v
  | .zip v1 _ v2 _=>Mine.plain v1&&Mine.plain v2
  | .range ..=>true
noncomputable def AIt.pairs:AIt->Bool
  | .enum ..=>true
  | .zip ..=>true
  | _=>false
noncomputable def AIt.St (W:Wd) (g:Addr->Own) (h:Heap) (ws:List Addr) (it:Value) (i:Nat):AIt->Prop
  | .seq v l=>∃r la,it=.ref r/\ws=[r]/\RV W g h v (.ref la)/\h.IsListIter r la i
  | .tup l=>∃r la vs k,it=.ref r/\ws=[r]/\g la=.fz/\h.get? la=some (ql1 vs k)/\RVs W g h l vs.toList/\h.IsTupleIter r la i
  | .range a c n=>∃r,it=.ref r/\ws=[r]/\IsRangeIter h r (a+(i:Nat)*c) ((n:Int) - (i:Nat)) c
  | .enum v l=>∃e r la,it=.ref e/\ws=[e,r]/\e≠r/\RV W g h v (.ref la)/\(∃old,IsEnum h e r i old)/\h.IsListIter r la i
  | .zip v1 l1 v2 l2=>∃z TI TO i1 i2 la lb,it=.ref z/\ws=[z,TI,TO,i1,i2]/\ws.Nodup/\RV W g h v1 (.ref la)/\RV W g h v2 (.ref lb) /\
      IsZip h z TI TO .none/\IsPair h TI (.ref i1) (.ref i2)/\(∃a b,IsPair h TO a b)/\h.IsListIter i1 la i/\h.IsListIter i2 lb i
theorem AIt.St.mono {X:Addr->Prop}(e:Evo W X Y g h g' h')(hX:XOk X g h)(hk:∀a∈ws,∀o,h.get? a=some o->h'.get? a=some o)(ai:AIt)(hp:(∀a,X a->g a=.other)\/ai.plain=true)(S:ai.St W g h ws it i):ai.St W g' h' ws it i:=by
  cases ai with
  | seq v l=>
    refine qb0 S ?_;intro r la h1 h2 h3 h4;subst h2;exact ⟨r,la,h1,rfl,h3.mono e hX v hp _,h4.at (hk r (.head _))⟩
  | tup l=>
    refine qaz S ?_;intro r la vs k h1 h2 h3 h4 h5 h6;subst h2;have hx:¬X la:=hX.not h3 h4 (fun q=>by simp at q);exact ⟨r,la,vs,k,h1,rfl,e.fz la h3 hx,(e.keep la _ h4 hx (.inl h3)).get,h5.mono e hX l hp _,h6.at (hk r (.head _))⟩
  | range a c n=>
    refine qal S ?_;intro r h1 h2 h3;subst h2;exact ⟨r,h1,rfl,hk r (.head _) _ h3⟩
  | enum v l=>
    refine qbb S ?_;intro ee r la h1 h2 h3 h4 h5 h6;subst h2;exact ⟨ee,r,la,h1,rfl,h3,h4.mono e hX v hp _,h5.imp fun _ q=>hk ee (.head _) _ q,h6.at (hk r (.tail _ (.head _)))⟩
  | zip v1 l1 v2 l2=>
    refine qb7 S ?_;intro z TI TO i1 i2 la lb h1 h2 h3 h4 h5 h6 h7 h8 h9 h10;subst h2;have hq:=hp.imp_right fun q=>Bool.and_eq_true_iff.mp q
    have k1:=fun x y=>hk x (.tail _ y)
    exact ⟨z,TI,TO,i1,i2,la,lb,h1,rfl,h3,h4.mono e hX v1 (hq.imp_right (·.1)) _,h5.mono e hX v2 (hq.imp_right (·.2)) _,hk z (.head _) _ h6,k1 TI (.head _) _ h7,h8.imp fun _ q=>q.imp fun _ q=>k1 TO (.tail _ (.head _)) _ q,h9.at (k1 i1 (.tail _ (.tail _ (.head _)))),h10.at (k1 i2 (.tail _ (.tail _ (.tail _ (.head _)))))⟩
end
variable {ai:AIt}
section
def Nd (o:Obj):Prop:=(∀es n,o.data≠.dict es n)/\(∀v,o.data≠.cell v)/\(∀vs,o.data=.fields vs->o.cls≠.type "code")/\o.cls≠.type "frame"
theorem ndf {n:String}{vs:Array Value}(hd:o.data=.fields vs)(hc:o.cls=.type n)(hn:(n == "code" || n == "frame")=false):Nd o:=by
  refine And.elim ?_ (Bool.or_eq_false_iff.mp hn);intro h1 h2;refine ⟨fun _ _ q=>?_,fun _ q=>?_,fun _ _ q=>?_,fun q=>?_⟩
  . cases hd.symm.trans q
  . cases hd.symm.trans q
  . cases hc.symm.trans q;exact Bool.noConfusion h1
  . cases hc.symm.trans q;exact Bool.noConfusion h2
theorem AIt.St.objs (ai:AIt)(S:ai.St W g h ws it i):∀a∈ws,∃o,h.get? a=some o/\(∀es n,o.data≠.dict es n)/\(∀v,o.data≠.cell v)/\(∀vs,o.data=.fields vs->o.cls≠.type "code")/\o.cls≠.type "frame":=by
  show ∀a∈ws,∃o,h.get? a=some o/\Nd o;have li:∀{r la:Addr} {i:Nat},h.IsListIter r la i->∃o,h.get? r=some o/\Nd o:=fun h=>Exists.elim h fun o q=>⟨o,q.1,ndf q.2.2 q.2.1 rfl⟩
  cases ai with
  | seq v l=>refine qb0 S ?_;intro r la h1 h2 h3 h4;subst h2;exact fac (li h4) fa0
  | tup l=>refine qaz S ?_;intro r la vs k h1 h2 h3 h4 h5 h6;subst h2;exact fac (Exists.elim h6 fun o q=>⟨o,q.1,ndf q.2.2 q.2.1 rfl⟩) fa0
  | range a c n=>refine qal S ?_;intro r h1 h2 h3;subst h2;exact fac ⟨_,h3,ndf rfl rfl rfl⟩ fa0
  | enum v l=>
    refine qbb S ?_;intro ee r la h1 h2 h3 h4 h5 h6;subst h2;exact fac (h5.elim fun _ q=>⟨_,q,ndf rfl rfl rfl⟩) (fac (li h6) fa0)
  | zip v1 l1 v2 l2=>
    refine qb7 S ?_;intro z TI TO i1 i2 la lb h1 h2 h3 h4 h5 h6 h7 h8 h9 h10;subst h2;have pr:∀{a:Addr} {u v:Value},IsPair h a u v->∃o,h.get? a=some o/\Nd o:=fun q=>⟨_,q,nofun,nofun,nofun,by simp⟩
    exact fac ⟨_,h6,ndf rfl rfl rfl⟩ (fac (pr h7) (fac (h8.elim fun _ q=>q.elim fun _ q=>pr q) (fac (li h9) (fac (li h10) fa0))))
theorem qd7 {r:Addr}{v:Value}{Q:Unit->Shared->Prop}{n:String}{vs:Array Value}(ho:s.heap.get? r=some o)(hc:o.cls=.type n)(hd:o.data=.fields vs)(hn:(["enumerate", "zip", "dict_itemiterator", "dict_reverseitemiterator", "odict_iterator", "itertools.zip_longest", "itertools.pairwise"].contains n)=false)(hQ:Q () s):
    wpAny (model prog w) A (letOwnedTupleGo t (.ref r) v) Q E s:=by
  have key:∀a,wpAny (model prog w) A (do
      let o <- load r
      match o.cls,o.data with
      | .type n,.fields vs=>
        if ["enumerate", "zip", "dict_itemiterator", "dict_reverseitemiterator", "odict_iterator", "itertools.zip_longest", "itertools.pairwise"].contains n&&vs[0]? == some (rawInt a) then
          rule "for.unpacks-the-owned-tuple"
          updateField r 0 .none
      | _,_=>pure ()) Q E s:=fun a=>by
    refine wpAny_bind (wpAny_load ho ?_);rw[hc,hd];show wpAny _ A (if (_&&_)=true then _ else _) Q E s;rw[hn,Bool.false_and,if_neg (by simp)];exact wpAny_pure hQ
  unfold letOwnedTupleGo;cases t <;> first
    | exact wpAny_pure hQ
    | (cases v <;> first | exact wpAny_pure hQ | exact key _)
section
theorem Id3 {ai:AIt}(R:Rep W fr g σ s)(hP:∀a∈ws,Priv W g s.heap a)(tk:Nat)(T:Option Addr)(hT:∀t,T=some t->s.heap.get? t=none/\∃o,h'.get? t=some o)(hk:∀b o,b∉ws->s.heap.get? b=some o->h'.get? b=some o):
    ∃g',Rep W fr g' σ { s with heap:=h',toks:=tk }/\Evo W (·∈ws) noY g s.heap g' h'/\(∀t,T=some t->g' t=.fz)/\∀a∈ws,g' a=.other:=by
  have hnot:∀t,T=some t->∀a∈ws,a≠t:=fun t ht a ha q=>by
    refine qa4 ((hP a ha).obj) ?_;intro o ho _;rw[q,(hT t ht).1] at ho;cases ho
  cases T with
  | none=>
    obtain ⟨R',e'⟩:=R.turn2 (g':=g) (h':=h') tk (·∈ws) hP (fun _ _ _ _=>rfl) (fun a ha=>.inl (hP a ha).own) (fun a ha=>.inl (R.newO ha)) (fun a o ho ha=>hk a o ha ho);exact ⟨g,R',e',(fun t q=>by cases q),fun a ha=>(hP a ha).own⟩
  | some t=>
    obtain ⟨h1,h2⟩:=hT t rfl;obtain ⟨R',e'⟩:=R.turn2 (g':=qc9 g t .fz) (h':=h') tk (·∈ws) hP (fun a o ho _=>qa9 fun q=>by rw[q,h1] at ho;cases ho) (fun a ha=>.inl (by rw[qa9 (hnot t rfl a ha)];exact (hP a ha).own))
      (fun a ha=>by
        by_cases q:a=t
        . subst q;exact .inr ⟨qa5,h2⟩
        . rw[qa9 q];exact .inl (R.newO ha)) (fun a o ho ha=>hk a o ha ho)
    exact ⟨_,R',e',(fun t' q=>by obtain rfl:=Sj q;exact qa5),fun a ha=>by rw[qa9 (hnot t rfl a ha)];exact (hP a ha).own⟩
theorem qsb (hP:∀a∈ws,Priv W g s.heap a)(S:ai.St W g' h' ws it i)(ho:∀a∈ws,g' a=.other):∀a∈ws,Priv W g' h' a:=fun a ha=>
  ⟨ho a ha,(hP a ha).new,S.objs ai a ha⟩
theorem qmd (hO:Lv σ v l)(R:Rep W fr g σ s)(rv:RV W g s.heap v (.ref la)){r:Addr}(p:Priv W g s.heap r):la≠r:=fun q=>by
  refine qa2 (hO.at R rv) ?_;intro a vs n ha _ _ hf;cases ha;subst q
  rcases hf with q | ⟨n,q⟩ <;> rw[p.own] at q <;> cases q
theorem qpx {X:Addr->Prop}(e:Evo W X Y g s.heap g' h')(hX:∀a,X a->Priv W g s.heap a)(rv:RV W g s.heap v (.ref la)):RV W g' h' v (.ref la):=
  rv.mono e (Priv.xok hX) v (.inl fun a q=>(hX a q).own) _
theorem qkx {z TI TO i1 i2 l1 l2:Addr}(h:[z,TI,TO,i1,i2].Nodup)(h1:∀c∈[z,TI,TO,i1,i2],l1≠c)(h2:∀c∈[z,TI,TO,i1,i2],l2≠c):ZipApart z TI TO i1 i2 l1 l2:=by
  simp at h;refine qrd (h) ?_;intro ne_9_0 ne_9_1 ne_9_2 d1;refine qrd ne_9_0 ?_;intro a1 a2 a3 a4;refine qee ne_9_1 ?_;intro b1 b2 b3;refine And.elim ?_ ne_9_2;intro c1 c2;exact ⟨Ne.symm a1,Ne.symm a2,Ne.symm a3,Ne.symm a4,b1,b2,b3,c1,c2,d1,h1 _ (by simp),h1 _ (by simp),h1 _ (by simp),h1 _ (by simp),h2 _ (by simp),h2 _ (by simp),h2 _ (by simp),h2 _ (by simp)⟩
theorem qne {vs:Array Value}(r:RVs W g h l vs.toList)(hy:l[i]?=some y):∃w,vs[i]?=some w/\RV W g h y w:=by
  refine qa4 (r.getA hy) ?_;intro w hw rw';exact ⟨w,by rw[<- Array.getElem?_toList];exact hw,rw'⟩
theorem qli (hO:Lv σ v l)(R:Rep W fr g σ s)(rv:RV W g s.heap v (.ref la))(hy:l[i]?=some y):∃vs w,s.heap.IsList la vs/\vs[i]?=some w/\RV W g s.heap y w:=by
  refine qa2 (hO.at R rv) ?_;intro a vs n ha ho hr _;refine qa4 (qne hr hy) ?_;intro w hw rw';exact ⟨vs,w,Value.ref.inj ha ▸ qam ho,hw,rw'⟩
theorem qlh (hO:Lv σ v l)(R:Rep W fr g σ s)(rv:RV W g s.heap v (.ref la)):∃vs,s.heap.IsList la vs/\vs.size=l.length:=by
  refine qa2 (hO.at R rv) ?_;intro a vs n ha ho hr _;exact ⟨vs,Value.ref.inj ha ▸ qam ho,Array.length_toList.symm.trans hr.length⟩
theorem qqm (p:Priv W g s.heap a):s.heap.objs.size≠a:=fun q=>by
  refine qa4 p.obj ?_;intro o ho _;rw[<- q,qak] at ho;cases ho
theorem qs3 {x:AV}(h:(AIt.enum x l).items[i]?=some v):∃y,l[i]?=some y/\v=.tup [.int (i:Nat),y]:=by
  refine qa4 (Option.map_eq_some_iff.mp (List.getElem?_map.symm.trans h)) ?_;intro p hp e;subst e;refine qa4 (Option.map_eq_some_iff.mp (List.getElem?_zipIdx.symm.trans hp)) ?_;intro y hy e;subst e;exact ⟨y,hy,by rw[Nat.zero_add]⟩
theorem qsk {x x':AV}{l':List AV}(h:(AIt.zip x l x' l').items[i]?=some v):∃y y',l[i]?=some y/\l'[i]?=some y'/\v=.tup [y,y']:=by
  refine qa3 (List.getElem?_zipWith_eq_some.mp h) ?_;intro y y' h1 h2 e;exact ⟨y,y',h1,h2,e.symm⟩
theorem Icd {w:Value}(R:Rep W fr g σ s)(hP:∀a∈ws,Priv W g s.heap a)(hQ:∀v' g' s',Rep W fr g' σ s'->Evo W (·∈ws) noY g s.heap g' s'.heap->ai.St W g' s'.heap ws it (i+1)->(∀a∈ws,Priv W g' s'.heap a)->RV W g' s'.heap v v'->Q v' s')(T:Option Addr)(hT:∀t,T=some t->s.heap.get? t=none/\∃o,h'.get? t=some o)(hk:∀b o,b∉ws->s.heap.get? b=some o->h'.get? b=some o)(q:∀g',Evo W (·∈ws) noY g s.heap g' h'->(∀t,T=some t->g' t=.fz)->ai.St W g' h' ws it (i+1)/\RV W g' h' v w):Q w { s with heap:=h',toks:=tk }:=by
  refine qba (Id3 (ai:=ai) R hP tk T hT hk) ?_;intro g' R' e' hTf ho';exact And.elim (fun S' r=>hQ w g' _ R' e' S' (qsb hP S' ho') r) (q g' e' hTf)
theorem qnf {w:Value}(hP:∀a∈ws,Priv W g s.heap a)(e:Evo W (·∈ws) noY g s.heap g' h')(r:RV W g s.heap y w):RV W g' h' y w:=
  r.mono e (Priv.xok hP) y (.inl fun a q=>(hP a q).own) _
theorem zk {z TI TO i1 i2 b:Addr}{P:Prop}(hb:b∉[z,TI,TO,i1,i2])(h:b≠z->b≠TO->b≠i1->b≠i2->P):P:=
  h (fun q=>hb (q ▸ List.mem_cons_self)) (fun q=>hb (q ▸ .tail _ (.tail _ List.mem_cons_self))) (fun q=>hb (q ▸ .tail _ (.tail _ (.tail _ List.mem_cons_self)))) (fun q=>hb (q ▸ .tail _ (.tail _ (.tail _ (.tail _ List.mem_cons_self)))))
theorem AIt.step (hO:ai.Ok σ)(rm:Room k fr A)(R:Rep W fr g σ s)(S:ai.St W g s.heap ws it i)(hP:∀a∈ws,Priv W g s.heap a)(hv:ai.items[i]?=some v)(ht:ai.pairs=true->∃elts n p,t=.Tuple elts n p)(hQ:∀v' g' s',Rep W fr g' σ s'->Evo W (·∈ws) noY g s.heap g' s'.heap->ai.St W g' s'.heap ws it (i+1)->(∀a∈ws,Priv W g' s'.heap a)->RV W g' s'.heap v v'->Q v' s'):
    wpAny (model W.prog W.w) A (pyNext it) (fun r s1a=>∃v',r=some v'/\wpAny (model W.prog W.w) A (letOwnedTupleGo t it v') (fun _ s2=>Q v' s2) E s1a) E s:=by
  cases ai with
  | seq x l=>
    refine qb0 (S) ?_;intro r la eq_10_2 eq_10_3 h3 h4;subst eq_10_2;subst eq_10_3;refine qa3 (qli (hO:Lv σ x l) R h3 hv) ?_;intro vs w ho hw rw';refine (Walks.list rm.handled r la (qmd hO R h3 (hP r List.mem_cons_self)) vs).item i s _ _ (Array.getElem?_eq_some_iff.mp hw).1 ⟨h4,ho⟩ fun u h' tk hu hs' hk=>?_
    obtain rfl:=Sj (hw.symm.trans hu);refine qal (id hs'.1) ?_;intro o ho' hc' hd';exact ⟨w,rfl,qd7 ho' hc' hd' (by decide) (Icd (s:=s) (ai:=.seq x l) R hP hQ none (fun _ q=>nomatch q) hk fun g' e' _=>⟨⟨r,la,rfl,rfl,qpx e' hP h3,hs'.1⟩,qnf hP e' rw'⟩)⟩
  | tup l=>
    refine qaz (S) ?_;intro r la vs n eq_15_4 eq_15_5 h3 h4 h5 h6;subst eq_15_4;subst eq_15_5;have hne:la≠r:=fun q=>by rw[q,(hP r List.mem_cons_self).own] at h3;cases h3
    have hne':la∉[r]:=fun q=>hne (List.mem_singleton.mp q)
    refine qa4 (qne h5 hv) ?_;intro w hw rw';refine (Walks.tuple rm.handled r la hne vs).item i s _ _ (Array.getElem?_eq_some_iff.mp hw).1 ⟨h6,⟨_,h4,rfl,n,rfl⟩⟩ fun u h' tk hu hs' hk=>?_
    obtain rfl:=Sj (hw.symm.trans hu);refine qal (id hs'.1) ?_;intro o ho' hc' hd';exact ⟨w,rfl,qd7 ho' hc' hd' (by decide) (Icd (s:=s) (ai:=.tup l) R hP hQ none (fun _ q=>nomatch q) hk fun g' e' _=>⟨⟨r,la,vs,n,rfl,rfl,e'.fz la h3 hne',hk la _ hne' h4,h5.mono e' (Priv.xok hP) l (.inl fun a q=>(hP a q).own) _,hs'.1⟩,qnf hP e' rw'⟩)⟩
  | range a c n=>
    refine qal (S) ?_;intro r eq_19_1 eq_19_2 h3;subst eq_19_1;subst eq_19_2;refine qa4 (Option.map_eq_some_iff.mp (List.getElem?_map.symm.trans hv)) ?_;intro j hj eq_1;subst eq_1;refine Exists.elim (List.getElem?_eq_some_iff.mp hj) ?_;intro hi hj';rw[List.getElem_range] at hj';subst hj';rw[List.length_range] at hi;refine (Walks.range rm.handled r a c n).item i s _ _ hi h3 fun u h' tk hu hs' hk=>?_
    refine Exists.elim hu ?_;intro tt eq_0_1;subst eq_0_1;exact ⟨_,rfl,qd7 (n := "range_iterator") hs' rfl rfl (by decide) (Icd (s:=s) (ai:=.range a c n) R hP hQ none (fun _ q=>nomatch q) hk fun g' e' _=>⟨⟨r,rfl,rfl,hs'⟩,tt,rfl⟩)⟩
  | enum x l=>
    refine qnw (ht rfl) ?_;intro elts n' p' eq_22_3;subst eq_22_3;refine qbb (S) ?_;intro e r la eq_23_3 eq_23_4 h3 h4 h5 h6;subst eq_23_3;subst eq_23_4;refine qa4 (qs3 hv) ?_;intro y hy eq_25_2;subst eq_25_2;refine qa3 (qli (hO:Lv σ x l) R h4 hy) ?_;intro vs w ho hw rw';refine Exists.elim h5 ?_;intro old h5;refine wpAny_pyNext_enum_item h5 h6 ho hw h3 fun h' hm hit' hT hsz hk=>?_
    refine ⟨_,rfl,wpAny_letOwnedTupleGo_enum hm fun h'' he' hs'=>?_⟩;have hT':=(hs'.2 _ (qqm (hP e List.mem_cons_self))).trans hT;exact Icd (s:=s) (ai:=.enum x l) R hP hQ (some s.heap.objs.size) (fun t q=>Sj q ▸ ⟨qak _,_,hT'⟩) (h':=h'') (fun b o hb q=>(hs'.2 b (fun q=>hb (q ▸ List.mem_cons_self))).trans (hk b o (fun q=>hb (q ▸ List.mem_cons_self)) (fun q=>hb (q ▸ .tail _ List.mem_cons_self)) q))
      fun g' e' hTf=>⟨⟨e,r,la,rfl,rfl,h3,qpx e' hP h4,⟨_,he'⟩,hit'.at fun o q=>(hs'.2 r h3.symm).trans q⟩,⟨_,_,_,rfl,hTf _ rfl,hT',_,_,rfl,⟨_,rfl⟩,_,_,rfl,qnf hP e' rw',rfl⟩⟩
  | zip v1 l1 v2 l2=>
    refine qnw (ht rfl) ?_;intro elts n' p' eq_30_3;subst eq_30_3;refine qb7 (S) ?_;intro z TI TO i1 i2 la lb eq_31_7 eq_31_8 h3 h4 h5 h6 h7 ne_31_14 h9 h10;subst eq_31_7;subst eq_31_8;refine qgr ne_31_14 ?_;intro a1a b1 h8;have O:=(hO:Lv σ v1 l1/\Lv σ v2 l2)
    have D:=qkx h3 (fun c hc=>qmd O.1 R h4 (hP c hc)) fun c hc=>qmd O.2 R h5 (hP c hc)
    refine qa3 (qsk hv) ?_;intro y y' hy hy' eq_34_4;subst eq_34_4;refine qa3 (qli O.1 R h4 hy) ?_;intro vs w ho hw rw';refine qa3 (qli O.2 R h5 hy') ?_;intro us w2 ho2 hw2 rw2;refine wpAny_pyNext_zip_item D h6 h7 h8 h9 h10 ho ho2 hw hw2 fun h' a1 a2 a3 a4 a5 a6 hk=>?_
    refine ⟨_,rfl,wpAny_letOwnedTupleGo_zip a1 fun h'' hz' hs'=>?_⟩;have hT':=(hs'.2 _ (qqm (hP z List.mem_cons_self))).trans a5;exact Icd (s:=s) (ai:=.zip v1 l1 v2 l2) R hP hQ (some s.heap.objs.size) (fun t q=>Sj q ▸ ⟨qak _,_,hT'⟩) (h':=h'') (fun b o hb q=>(hs'.2 b (fun q=>hb (q ▸ List.mem_cons_self))).trans (zk hb (hk b o) q))
      fun g' e' hTf=>⟨⟨z,TI,TO,i1,i2,la,lb,rfl,rfl,h3,qpx e' hP h4,qpx e' hP h5,hz',(hs'.2 _ D.TIz).trans (hk _ _ D.TIz D.TITO D.TIi1 D.TIi2 h7),
      ⟨_,_,(hs'.2 _ D.TOz).trans a2⟩,a3.at fun o q=>(hs'.2 _ D.i1z).trans q,a4.at fun o q=>(hs'.2 _ D.i2z).trans q⟩,⟨_,_,_,rfl,hTf _ rfl,hT',_,_,rfl,qnf hP e' rw',_,_,rfl,qnf hP e' rw2,rfl⟩⟩
theorem Icu (hO:ai.Ok σ)(rm:Room k fr A)(R:Rep W fr g σ s)(S:ai.St W g s.heap ws it i)(hP:∀a∈ws,Priv W g s.heap a)(hv:ai.items.length=i){Q:Option Value->Shared->Prop}(hQ:∀g' s',Rep W fr g' σ s'->Evo W (·∈ws) noY g s.heap g' s'.heap->Q none s'):
    wpAny (model W.prog W.w) A (pyNext it) Q E s:=by
  have fin:∀h' tk,(∀b o,b∉ws->s.heap.get? b=some o->h'.get? b=some o)->Q none { s with heap:=h',toks:=tk }:=fun h' tk hk=>by
    refine qba (Id3 (ai:=ai) R hP tk none (fun _ q=>nomatch q) hk) ?_;intro g' R' e' _ ho';exact hQ g' _ R' e'
  cases ai with
  | seq x l=>
    refine qb0 (S) ?_;intro r la eq_40_2 eq_40_3 h3 h4;subst eq_40_2;subst eq_40_3;refine qa4 (qlh (hO:Lv σ x l) R h3) ?_;intro vs ho hl;exact (Walks.list rm.handled r la (qmd hO R h3 (hP r List.mem_cons_self)) vs).done s _ _ ⟨hl.trans hv ▸ h4,ho⟩ fin
  | tup l=>
    refine qaz (S) ?_;intro r la vs n eq_42_4 eq_42_5 h3 h4 h5 h6;subst eq_42_4;subst eq_42_5;have hne:la≠r:=fun q=>by rw[q,(hP r List.mem_cons_self).own] at h3;cases h3
    exact (Walks.tuple rm.handled r la hne vs).done s _ _ ⟨(Array.length_toList.symm.trans h5.length).trans hv ▸ h6,⟨_,h4,rfl,n,rfl⟩⟩ fin
  | range a c n=>
    refine qal (S) ?_;intro r eq_43_1 eq_43_2 h3;subst eq_43_1;subst eq_43_2;obtain rfl:n=i:=((List.length_map _).trans List.length_range).symm.trans hv;exact (Walks.range rm.handled r a c n).done s _ _ h3 fin
  | enum x l=>
    refine qbb (S) ?_;intro e r la eq_44_3 eq_44_4 h3 h4 ne_44_7 h6;subst eq_44_3;subst eq_44_4;refine Exists.elim ne_44_7 ?_;intro old h5;refine qa4 (qlh (hO:Lv σ x l) R h4) ?_;intro vs ho hl;have hi:vs.size<=i:=Nat.le_of_eq (hl.trans (((List.length_map _).trans List.length_zipIdx).symm.trans hv));exact wpAny_pyNext_enum_end rm.handled h5 h6 ho (Array.getElem?_eq_none hi) fun h' he=>fin h' s.toks fun b o hb q=>he b o (fun q=>hb (q ▸ .tail _ List.mem_cons_self)) q
  | zip v1 l1 v2 l2=>
    refine qb7 (S) ?_;intro z TI TO i1 i2 la lb eq_46_7 eq_46_8 h3 h4 h5 h6 h7 ne_46_14 h9 h10;subst eq_46_7;subst eq_46_8;refine qgr ne_46_14 ?_;intro a1a b1 h8;have O:=(hO:Lv σ v1 l1/\Lv σ v2 l2)
    have D:=qkx h3 (fun c hc=>qmd O.1 R h4 (hP c hc)) fun c hc=>qmd O.2 R h5 (hP c hc)
    refine qa4 (qlh O.1 R h4) ?_;intro vs ho e1;refine qa4 (qlh O.2 R h5) ?_;intro us ho2 e2;have hi:min l1.length l2.length=i:=List.length_zipWith.symm.trans hv;refine wpAny_pyNext_zip_end rm.handled D h6 h7 h8 h9 h10 ho ho2 ?_ fun h' hk=>fin h' s.toks fun b o hb q=>zk hb (hk b o) q
    by_cases hle:l1.length<=l2.length
    . exact .inl (Array.getElem?_eq_none (Nat.le_of_eq (e1.trans ((Nat.min_eq_left hle).symm.trans hi))))
    . exact .inr (Array.getElem?_eq_none (Nat.le_of_eq (e2.trans ((Nat.min_eq_right (Nat.le_of_not_le hle)).symm.trans hi))))
theorem Idj (S:ai.St W g s.heap ws it i)(hQ:Q it s):wpAny (model W.prog W.w) A (pyIter it) Q E s:=by
  cases ai with
  | seq x l=>refine qb0 (S) ?_;intro r la eq_49_2 eq_49_3 h3 h4;subst eq_49_2;subst eq_49_3;exact wpAny_pyIter_listiter h4 hQ
  | tup l=>refine qaz (S) ?_;intro r la vs n eq_50_4 eq_50_5 h3 h4 h5 h6;subst eq_50_4;subst eq_50_5;exact wpAny_pyIter_tupleiter h6 hQ
  | range a c n=>refine qal (S) ?_;intro r eq_51_1 eq_51_2 h3;subst eq_51_1;subst eq_51_2;exact wpAny_pyIter_rangeiter h3 hQ
  | enum x l=>refine qbb (S) ?_;intro e r la eq_52_3 eq_52_4 h3 h4 ne_52_7 h6;subst eq_52_3;subst eq_52_4;refine Exists.elim ne_52_7 ?_;intro old h5;exact wpAny_pyIter_enum h5 hQ
  | zip v1 l1 v2 l2=>refine qg0 (S) ?_;intro z TI TO i1 i2 la lb eq_53_7 eq_53_8 h3 h4 h5 h6 _;subst eq_53_7;subst eq_53_8;exact wpAny_pyIter_zip h6 hQ
end
end
section
theorem qbl {target:Expr}(turn:wpAny (model prog w) A (pyNext it) (fun r s1a=>match r with
      | none=>wpAny (model prog w) A (execs orelse env) (fun f s3=>R (.ok f) s3) (notedBy (model prog w) A env fun e s'=>R (.error e) s') s1a
      | some v=>wpAny (model prog w) A (letOwnedTupleGo target it v) (fun _ s1'=>
          wpAny (model prog w) A (assign target env v) (fun _ s2=>wpAny (model prog w) A (execs body env) (fun f s3=>match f with
            | .next | .cont=>codeAny (model prog w) A (.forLoop target it body orelse env) R s3
            | .brk=>R (.ok .next) s3
            | .ret v=>R (.ok (.ret v)) s3) (notedBy (model prog w) A env fun e s'=>R (.error e) s') s2) (notedBy (model prog w) A env fun e s'=>R (.error e) s') s1') (notedBy (model prog w) A env fun e s'=>R (.error e) s') s1a) (notedBy (model prog w) A env fun e s'=>R (.error e) s') s):
    codeAny (model prog w) A (.forLoop target it body orelse env) R s:=by
  refine codeAny_of_tree ?_;show wpAny _ A ((forTurn target it body orelse env).onRaise (fun x=>do noteFrame x env;theTreesLotGoes x)) _ _ s;refine wpAny_noted ?_;simp only[forTurn];refine wpAny_bind (wpAny_standAt (wpAny_bind (wpAny_onRaise (wpAny_mono turn (fun r s1a h1a=>?_) fun _ _ h'=>wpAny_standAt h'))));cases r with
  | none=>exact wpAny_pure ⟨rfl,codeAny_block h1a⟩
  | some v=>
    refine wpAny_bind (wpAny_mono h1a (fun _ s1' h1'=>?_) fun _ _ h'=>h');refine wpAny_bind (wpAny_mono h1' (fun _ s2 h2a=>wpAny_bind (wpAny_mono h2a (fun f s3 h3=>?_) fun _ _ h'=>h')) fun _ _ h'=>h');cases f with
    | next=>exact wpAny_pure ⟨rfl,h3⟩
    | cont=>exact wpAny_pure ⟨rfl,h3⟩
    | brk=>exact wpAny_pure h3
    | ret v=>exact wpAny_pure h3
def ItE (C:Cx) (k:Nat) (fr:List Env) (m:List (Option AV)) (σ:List AObj) (e:Expr) (ai:AIt) (z':List AObj):Prop:=
  ∀(A:Around) (env:Env) (g:Addr->Own) (s:Shared),Room k fr A->Rep C.W fr g σ s->Fra C env m g s.heap->∀(Q:Value->Shared->Prop) (E:Value->Shared->Prop),
    (∀it g' s' ws,Rep C.W fr g' z' s'->Evo C.W noX C.Y g s.heap g' s'.heap->ai.St C.W g' s'.heap ws it 0->(∀a∈ws,Priv C.W g' s'.heap a)->(∀a∈ws,s.heap.get? a=none)->Q it s') ->
    wpAny (model C.W.prog C.W.w) A (eval e env) (fun x s1a=>wpAny (model C.W.prog C.W.w) A (pyIter x) Q E s1a) E s
def CallIt (W:Wd) (Y:Nat->Prop) (k:Nat) (fr:List Env) (σ:List AObj) (f:AV) (args:List AV) (ai:AIt) (z':List AObj):Prop:=
  ∀(A:Around) (g:Addr->Own) (s:Shared) (vf:Value) (vs:List Value),Room k fr A->Rep W fr g σ s->RV W g s.heap f vf->RVs W g s.heap args vs->∀(Q:Value->Shared->Prop) (E:Value->Shared->Prop),
    (∀it g' s' ws,Rep W fr g' z' s'->Evo W noX Y g s.heap g' s'.heap->ai.St W g' s'.heap ws it 0->(∀a∈ws,Priv W g' s'.heap a)->(∀a∈ws,s.heap.get? a=none)->Q it s') ->
    wpAny (model W.prog W.w) A (call vf vs []) (fun x s1a=>wpAny (model W.prog W.w) A (pyIter x) Q E s1a) E s
section
theorem qf8 {f:AV}{first:List AV}{kws:List Keyword}(hf:Kept C.W f)(ha:Evs C k fr m σ es args z1)(hk:EvK C k fr m z1 kws kn kv z2)(hpl:∀env p,(backTo p (starEach es env)).any (·.1)=false){p':Pos}{vf:Value}{fs:List Value}(rm:Room k fr A)(R:Rep C.W fr g σ s)(F:Fra C env m g s.heap)(rf:RV C.W g s.heap f vf)(rs:RVs C.W g s.heap first fs)(hQ:∀g' s' vs ks,Rep C.W fr g' z2 s'->Evo C.W noX C.Y g s.heap g' s'.heap->RV C.W g' s'.heap f vf->RVs C.W g' s'.heap (first++args) vs->RVs C.W g' s'.heap kv ks ->
      wpAny (model C.W.prog C.W.w) A (call vf vs (kn.zip ks)) Q E s'):
    wpAny (model C.W.prog C.W.w) A (callWith p vf fs (backTo p' (starEach es env)) (backToKw p' (keywordEach kws env))) Q E s:=by
  refine And.elim ?_ (hk.names env p');intro hn hal;refine callWith_of (P:=fun h=>∃kp,(kp=Keeper.frame\/kp=Keeper.machine\/kp=Keeper.boundFrame)/\Looks (model C.W.prog C.W.w) h (keeperOf vf) kp) ?_ (fun h q=>q) ?_
  . rw[hpl];simp only[Bool.false_or,List.any_eq_false];intro q hq;have:=List.all_eq_true.mp hal q hq;cases hq1:q.1 <;> simp_all
  . refine qe6 (hpl _ _) hal (ha A env g s p' rm R F _ _ fun vs g1 s1a R1 e1a rv=>hk.run A env g1 s1a p' rm R1 (F.up e1a) _ _ fun ks g2 s2 R2 e2a rk=>?_);rw[hn];refine ⟨hf fr g2 z2 s2 vf R2 ((rf.up e1a).up e2a),?_⟩;exact hQ g2 s2 (fs++vs) ks R2 (e1a.trans e2a) ((rf.up e1a).up e2a) (((rs.up e1a).up e2a).append (rv.up e2a)) rk
theorem ItE.call {f:AV}(hn:Ev C k fr m σ (.Name x q) f z1)(hf:Kept C.W f)(ha:Evs C k fr m z1 es args z2)(hc:CallIt C.W C.Y k fr z2 f args ai z')(hpl:autoParam (∀env p,(backTo p (starEach es env)).any (·.1)=false) ap0._auto_1):ItE C k fr m σ (.Call (.Name x q) es [] p) ai z':=fun A env g s rm R F Q E hQ=>by
  refine wpAny_Call_Name_kw (hn A env g s rm R F _ _ fun vf g1 s1a R1 e1a rf=>?_);refine qf8 (first:=[]) hf ha EvK.nil hpl rm R1 (F.up e1a) rf rfl fun g2 s2 vs ks R2 e2a rf rv rk=>?_
  obtain rfl:ks=[]:=rk;exact hc A g2 s2 vf vs rm R2 rf rv Q E fun it g3 s3 ws R3 e3a S hP hfr=>hQ it g3 s3 ws R3 ((e1a.trans e2a).trans e3a) S hP fun a ha=>Iau R (e1a.trans e2a) R2 (hfr a ha)
theorem Rep.newPriv (R:Rep W fr g σ s)(o:Obj)(hf:o.isFreed=false)(hd:∀es n,o.data≠.dict es n)(hc:∀v,o.data≠.cell v)(hk:(∀vs,o.data=.fields vs->o.cls≠.type "code")/\o.cls≠.type "frame"):
    Rep W fr g σ { s with heap:=s.heap.push o }/\Evo W noX noY g s.heap g (s.heap.push o)/\Priv W g (s.heap.push o) s.heap.objs.size:=by
  have htop:=R.top;refine And.elim ?_ (R.push o .other hf (.inr rfl));intro R1 e1a;have hgo:qc9 g s.heap.objs.size .other=g:=by
    funext a
    by_cases ha:a=s.heap.objs.size
    . subst ha;rw[qa5,htop]
    . exact qa9 ha
  rw[hgo] at R1 e1a;exact ⟨R1,e1a,htop,R.new1 (qak _),o,Heap.get?_push_size _ hf,hd,hc,hk⟩
theorem ItE.list (he:Ev C k fr m σ e v z')(hL:Lv z' v l):ItE C k fr m σ e (.seq v l) z':=fun A env g s rm R F Q E hQ=>by
  refine he A env g s rm R F _ _ fun va g1 s1a R1 e1a ra=>?_
  refine qa2 (hL.at R1 ra) ?_;intro a vs n eq_2_3 ho hr _;subst eq_2_3;refine wpAny_pyIter_list (qam ho) ?_;refine qee (R1.newPriv { cls:=.type "list_iterator",data:=.fields #[.ref a,.int 0 0] } rfl (by nofun) (by nofun) ⟨(fun _ _ q=>by simp at q),by simp⟩) ?_;intro R2 e2a p2;refine hQ _ _ _ [s1a.heap.objs.size] R2 (e1a.trans e2a.no) ⟨_,a,rfl,rfl,ra.up e2a,_,Heap.get?_push_size _ rfl,rfl,rfl⟩ (fun b hb=>by simp at hb;subst hb;exact p2) fun b hb=>?_
  simp at hb;subst hb;exact Iau R e1a R1 (qak _)
theorem ItE.tuple (he:Ev C k fr m σ e (.tup l) z'):ItE C k fr m σ e (.tup l) z':=fun A env g s rm R F Q E hQ=>by
  refine he A env g s rm R F _ _ fun va g1 s1a R1 e1a ra=>?_
  refine qa2 (ra) ?_;intro a vs n eq_4_3 hg ho hr;subst eq_4_3;refine wpAny_pyIter_tuple ⟨_,ho,rfl,n,rfl⟩ ?_;refine qee (R1.newPriv { cls:=.type "tuple_iterator",data:=.fields #[.ref a,.int 0 0] } rfl (by nofun) (by nofun) ⟨(fun _ _ q=>by simp at q),by simp⟩) ?_;intro R2 e2a p2;refine hQ _ _ _ [s1a.heap.objs.size] R2 (e1a.trans e2a.no) ⟨_,a,vs,n,rfl,rfl,e2a.fz a hg (fun q=>q),Heap.get?_push_of_some _ ho,hr.up e2a,_,Heap.get?_push_size _ rfl,rfl,rfl⟩ (fun b hb=>by simp at hb;subst hb;exact p2) fun b hb=>?_
  simp at hb;subst hb;exact Iau R e1a R1 (qak _)
theorem ql8 {r:Addr}{a b:Int}{t u v:Tok}(R:Rep W fr g σ s)(hr:IsRange s.heap r a b 1 t u v)(h:-(2 ^ 62)<=a/\a<2 ^ 62/\-(2 ^ 62)<=b/\b<2 ^ 62)(hQ:∀it g' s' ws,Rep W fr g' σ s'->Evo W noX noY g s.heap g' s'.heap->(AIt.range a 1 (b - a).toNat).St W g' s'.heap ws it 0->(∀a∈ws,Priv W g' s'.heap a)->(∀a∈ws,s.heap.get? a=none)->Q it s'):wpAny (model W.prog W.w) A (pyIter (.ref r)) Q E s:=by
  refine wpAny_pyIter_range hr (small_one h.1 h.2.1 h.2.2.1 h.2.2.2) ?_;refine qee (R.newPriv { cls:=.type "range_iterator",data:=.fields #[rawInt a,rawInt (Builtin.Range.rangeSize a b 1),rawInt 1] } rfl nofun nofun ⟨(fun _ _ q=>by simp at q),by simp⟩) ?_;intro R2 e2a p2;have hz:Builtin.Range.rangeSize a b 1=(((b - a).toNat:Nat):Int) - (0:Nat):=by rw[rangeSize_one];split <;> grind
  have ho:(s.heap.push { cls:=.type "range_iterator",data:=.fields #[rawInt a,rawInt (Builtin.Range.rangeSize a b 1),rawInt 1] }).get? s.heap.objs.size=some { cls:=.type "range_iterator",data:=.fields #[rawInt a,rawInt (Builtin.Range.rangeSize a b 1),rawInt 1] }:=Heap.get?_push_size _ rfl;refine hQ _ _ _ [s.heap.objs.size] R2 e2a ⟨s.heap.objs.size,rfl,rfl,?_⟩ (fun c hc=>by rw[List.mem_singleton] at hc;rw[hc];exact p2) fun c hc=>by rw[List.mem_singleton] at hc;rw[hc];exact qak _
  rw[<- hz,show a+((0:Nat):Int)*1=a by simp];exact ho
theorem Ibr {a b:Int}(h:-(2 ^ 62)<=a/\a<2 ^ 62/\-(2 ^ 62)<=b/\b<2 ^ 62):CallIt W Y k fr σ (.glob (.type "range")) [.int a,.int b] (.range a 1 (b - a).toNat) σ:=fun A g s vf vs rm R rf rv Q E hQ=>by
  obtain rfl:vf=.type "range":=rf;refine qa3 (rv) ?_;intro v1 q1 eq_7_2 ne_7_3 r1;subst eq_7_2;obtain ⟨t1,rfl⟩:=ne_7_3;refine qa3 (r1) ?_;intro v2 q2 eq_8_2 ne_8_3 r2;subst eq_8_2;obtain ⟨t2,rfl⟩:=ne_8_3;obtain rfl:q2=[]:=r2;refine call_range_2 ?_;refine qee (R.newPriv { cls:=.type "range",data:=.fields #[.int a t1,.int b t2,.int 1 s.toks] } rfl nofun nofun ⟨(fun _ _ q=>by simp at q),by simp⟩) ?_;intro R1 e1a p1;exact ql8 (R1.tok (s.toks+1)) (IsRange.new ..) h fun it g' s' ws R' e' S hP hf=>hQ it g' s' ws R' (e1a.trans e').no S hP fun c hc=>Iau R e1a R1 (hf c hc)
theorem Iag {b:Int}(h:-(2 ^ 62)<=b/\b<2 ^ 62):CallIt W Y k fr σ (.glob (.type "range")) [.int b] (.range 0 1 b.toNat) σ:=fun A g s vf vs rm R rf rv Q E hQ=>by
  obtain rfl:vf=.type "range":=rf;refine qa3 (rv) ?_;intro v2 q2 eq_10_2 ne_10_3 r2;subst eq_10_2;obtain ⟨t2,rfl⟩:=ne_10_3;obtain rfl:q2=[]:=r2;refine call_range_1 ?_;refine qee (R.newPriv { cls:=.type "range",data:=.fields #[.int 0 s.toks,.int b t2,.int 1 (s.toks+1)] } rfl nofun nofun ⟨(fun _ _ q=>by simp at q),by simp⟩) ?_;intro R1 e1a p1;refine ql8 (R1.tok (s.toks+1+1)) (IsRange.new ..) ⟨by decide,by decide,h.1,h.2⟩ fun it g' s' ws R' e' S hP hf=>hQ it g' s' ws R' (e1a.trans e').no ?_ hP fun c hc=>Iau R e1a R1 (hf c hc)
  rw[Int.sub_zero] at S;exact S
theorem Rep.keepsAll (R:Rep W fr g σ s)(hk:∀a o,s.heap.get? a=some o->h'.get? a=some o):Rep W fr g σ { s with heap:=h' }/\Evo W noX noY g s.heap g h':=R.keeps s.toks hk
theorem CallIt.enum (hL:Lv σ v l):CallIt W Y k fr σ (.glob (.type "enumerate")) [v] (.enum v l) σ:=fun A g s vf vs rm R rf rv Q E hQ=>by
  obtain rfl:vf=.type "enumerate":=rf;refine qa3 (rv) ?_;intro v2 q2 eq_12_2 ra r2;subst eq_12_2;obtain rfl:q2=[]:=r2;refine qa2 (hL.at R ra) ?_;intro a us n eq_13_3 ho hr _;subst eq_13_3;refine call_enumerate_1 ho fun h' he hit hsz hk=>?_
  refine wpAny_pyIter_enum he ?_;refine And.elim ?_ (R.keepsAll hk);intro R1 e1a;have n0:s.heap.get? s.heap.objs.size=none:=qak _;have n1:s.heap.get? (s.heap.objs.size+1)=none:=Heap.get?_none_of_le (Nat.le_succ _);refine hQ _ g _ [s.heap.objs.size+1,s.heap.objs.size] R1 e1a.no ⟨_,_,a,rfl,rfl,Nat.succ_ne_self _,ra.up e1a,⟨_,he⟩,hit⟩ (fun b hb=>?_) fun b hb=>?_
  . simp at hb;rcases hb with rfl | rfl
    . exact ⟨R.newO n1,R.new1 n1,_,he,by exact nofun,by exact nofun,(fun _ _ q=>by simp at q),by simp⟩
    . refine qal (hit) ?_;intro o h1 h2 h3;exact ⟨R.newO n0,R.new1 n0,o,h1,(fun _ _ q=>by rw[h3] at q;cases q),(fun _ q=>by rw[h3] at q;cases q),(fun _ _ q=>by rw[h2] at q;simp at q),by rw[h2];simp⟩
  . simp at hb;rcases hb with rfl | rfl
    . exact n1
    . exact n0
theorem CallIt.zip {l':List AV}(hL:Lv σ v l)(hL':Lv σ v' l'):CallIt W Y k fr σ (.glob (.type "zip")) [v,v'] (.zip v l v' l') σ:=fun A g s vf vs rm R rf rv Q E hQ=>by
  obtain rfl:vf=.type "zip":=rf;refine qa3 (rv) ?_;intro v1 q1 eq_16_2 ra r1;subst eq_16_2;refine qa3 (r1) ?_;intro v2 q2 eq_17_2 rb r2;subst eq_17_2;obtain rfl:q2=[]:=r2;refine qa2 (hL.at R ra) ?_;intro a us n eq_18_3 ho hr _;subst eq_18_3;refine qa2 (hL'.at R rb) ?_;intro b us' n' eq_19_3 ho' hr' _;subst eq_19_3;refine call_zip_2 (qam ho) (qam ho') fun h' hz hTI hTO h1 h2 hsz hk=>?_
  refine wpAny_pyIter_zip hz ?_;refine And.elim ?_ (R.keepsAll hk);intro R1 e1a;have nn:∀j,s.heap.get? (s.heap.objs.size+j)=none:=fun j=>Heap.get?_none_of_le (Nat.le_add_right _ _)
  have S:(AIt.zip v l v' l').St W g h' [s.heap.objs.size+4,s.heap.objs.size+2,s.heap.objs.size+3,s.heap.objs.size,s.heap.objs.size+1] (.ref (s.heap.objs.size+4)) 0:=
    ⟨_,_,_,_,_,a,b,rfl,rfl,by simp,ra.up e1a,rb.up e1a,hz,hTI,⟨_,_,hTO⟩,h1,h2⟩
  have hn:∀c∈[s.heap.objs.size+4,s.heap.objs.size+2,s.heap.objs.size+3,s.heap.objs.size,s.heap.objs.size+1],s.heap.get? c=none:=fun c hc=>by
    simp at hc;rcases hc with rfl | rfl | rfl | rfl | rfl
    . exact nn 4
    . exact nn 2
    . exact nn 3
    . exact nn 0
    . exact nn 1
  exact hQ _ g _ _ R1 e1a.no S (fun c hc=>⟨R.newO (hn c hc),R.new1 (hn c hc),S.objs _ c hc⟩) hn
def ForC (C:Cx) (k:Nat) (fr:List Env) (t:Expr) (body orelse:List Stmt) (ai:AIt) (i:Nat) (m:List (Option AV)) (σ:List AObj) (fl:AFl) (m':List (Option AV)) (z':List AObj):Prop:=
  ∀(A:Around) (env:Env) (g:Addr->Own) (s:Shared) (it:Value) (ws:List Addr),Room k fr A->Rep C.W fr g σ s->Fra C env m g s.heap->ai.St C.W g s.heap ws it i->(∀a∈ws,Priv C.W g s.heap a)->∀(R:Result->Shared->Prop),
    (∀f' g' s',Rep C.W fr g' z' s'->Evo C.W (fun a=>FX C.nm env a\/a∈ws) C.Y g s.heap g' s'.heap->Fra C env m' g' s'.heap->RFl C.W g' s'.heap fl f'->R (.ok f') s')->codeAny (model C.W.prog C.W.w) A (.forLoop t it body orelse env) R s
theorem Evo.inX {X X':Addr->Prop}(e:Evo W X Y g h g' h')(hX:∀a,X a->X' a):Evo W X' Y g h g' h':=
  ⟨fun a o ho hx hq=>e.keep a o ho (fun q=>hx (hX a q)) hq,e.keepL,fun a q hx=>e.fz a q fun q=>hx (hX a q),e.loc,e.aux,fun a o ho q hx=>e.oth a o ho q fun q=>hx (hX a q),e.tabs⟩
theorem ForC.done (hO:ai.Ok σ)(hi:ai.items.length=i)(ho:Exs C k fr m σ orelse fl m' z'):ForC C k fr t body orelse ai i m σ fl m' z':=fun A env g s it ws rm R F S hP Rr hR=>by
  refine qbl (Icu hO rm R S hP hi fun g1 s1a R1 e1a=>?_);exact ho A env g1 s1a rm R1 (F.turn hP e1a) _ _ fun f' g2 s2 R2 e2a F2 hf=>hR f' g2 s2 R2 ((e1a.inX fun _ q=>.inr q).toY.trans (e2a.inX fun _ q=>.inl q)) F2 hf
theorem ForC.turn {bf:AFl}(hO:ai.Ok σ)(hp:ai.plain=true)(hv:ai.items[i]?=some v)(ht:ai.pairs=true->∃elts n p,t=.Tuple elts n p)(ha:As C k fr m σ t v m1 z1)(hb:Exs C k fr m1 z1 body bf m2 z2)(hn:(bf=.next\/bf=.cont)/\ForC C k fr t body orelse ai (i+1) m2 z2 fl m' z'\/bf=.brk/\fl=.next/\m'=m2/\z'=z2\/(∃u,bf=.ret u/\fl=.ret u/\m'=m2/\z'=z2)):ForC C k fr t body orelse ai i m σ fl m' z':=fun A env g s it ws rm R F S hP Rr hR=>by
  refine qbl (wpAny_mono (AIt.step (t:=t) hO rm R S hP hv ht (Q:=fun v' s1a=>∃g1,Rep C.W fr g1 σ s1a/\Evo C.W (·∈ws) noY g s.heap g1 s1a.heap/\ai.St C.W g1 s1a.heap ws it (i+1)/\(∀a∈ws,Priv C.W g1 s1a.heap a)/\RV C.W g1 s1a.heap v v')
    fun v' g1 s1a R1 e1a S1 hP1 rv=>⟨g1,R1,e1a,S1,hP1,rv⟩) (fun r s1a h1a=>?_) fun _ _ e=>e)
  refine qa4 (h1a) ?_;(try clear h1a);intro v' eq_21_1 h1a;subst eq_21_1;refine wpAny_mono h1a (fun _ s1' h1'=>?_) fun _ _ e=>e
  refine qeu (h1') ?_;intro g1 R1 e1a S1 hP1 rv;have F1:=F.turn hP e1a;refine ha A env g1 s1' v' rm R1 F1 rv _ _ fun g2 s2 R2 e2a F2=>?_
  have keep:∀{g1 g2:Addr->Own} {h1a h2a:Heap} {m:List (Option AV)},Fra C env m g1 h1a->Evo C.W (FX C.nm env) C.Y g1 h1a g2 h2a->(∀a∈ws,Priv C.W g1 h1a a)->(∀a∈ws,∀o,h1a.get? a=some o->h2a.get? a=some o)/\∀a∈ws,Priv C.W g2 h2a a:=fun {g1 g2 h1a h2a m} F e hP=>
    ⟨fun a ha o ho=>(Priv.keep F e (hP a ha) ho).1,fun a ha=>by refine qa4 ((hP a ha).obj) ?_;intro o ho _;exact (Priv.keep F e (hP a ha) ho).2⟩
  refine And.elim ?_ (keep F1 e2a hP1);intro k2 hP2;have S2:=AIt.St.mono e2a F1.xok k2 ai (.inr hp) S1;refine hb A env g2 s2 rm R2 F2 _ _ fun f' g3 s3 R3 e3a F3 hf=>?_
  refine And.elim ?_ (keep F2 e3a hP2);intro k3 hP3;have S3:=AIt.St.mono e3a F2.xok k3 ai (.inr hp) S2;have e13:Evo C.W (fun a=>FX C.nm env a\/a∈ws) C.Y g s.heap g3 s3.heap:=((e1a.inX fun _ q=>.inr q).toY.trans (e2a.inX fun _ q=>.inl q)).trans (e3a.inX fun _ q=>.inl q);rcases hn with ⟨hbf,hn⟩ | ⟨rfl,rfl,rfl,rfl⟩ | ⟨u,rfl,rfl,rfl,rfl⟩
  . have go:codeAny (model C.W.prog C.W.w) A (.forLoop t it body orelse env) Rr s3:=hn A env g3 s3 it ws rm R3 F3 S3 hP3 Rr fun f' g4 s4 R4 e4 F4 hf=>hR f' g4 s4 R4 (e13.trans e4) F4 hf
    rcases hbf with rfl | rfl
    . obtain rfl:f'=.next:=hf;exact go
    . obtain rfl:f'=.cont:=hf;exact go
  . obtain rfl:f'=.brk:=hf;exact hR .next g3 s3 R3 e13 F3 rfl
  . refine qa4 (hf) ?_;intro v'' eq_26_1 hv'';subst eq_26_1;exact hR _ g3 s3 R3 e13 F3 ⟨v'',rfl,hv''⟩
theorem ForC.next (hO:ai.Ok σ)(hp:ai.plain=true)(hv:ai.items[i]?=some v)(ht:ai.pairs=true->∃elts n p,t=.Tuple elts n p)(ha:As C k fr m σ t v m1 z1)(hb:Exs C k fr m1 z1 body .next m2 z2)(hn:ForC C k fr t body orelse ai (i+1) m2 z2 fl m' z'):ForC C k fr t body orelse ai i m σ fl m' z':=.turn hO hp hv ht ha hb (.inl ⟨.inl rfl,hn⟩)
theorem ForC.brk (hO:ai.Ok σ)(hp:ai.plain=true)(hv:ai.items[i]?=some v)(ht:ai.pairs=true->∃elts n p,t=.Tuple elts n p)(ha:As C k fr m σ t v m1 z1)(hb:Exs C k fr m1 z1 body .brk m' z'):
    ForC C k fr t body orelse ai i m σ .next m' z':=.turn hO hp hv ht ha hb (.inr (.inl ⟨rfl,rfl,rfl,rfl⟩))
theorem Ib8 (hi:ItE C k fr m σ iter ai z1)(hf:ForC C k fr t body orelse ai 0 m z1 fl m' z')(hs:autoParam (∀x env,foldedSetIterable iter env x=pure x) ap0._auto_1):
    Ex C k fr m σ (.For t iter body orelse p) fl m' z':=fun A env g s rm R F Q E hQ=>by
  refine wpAny_For (hi A env g s rm R F _ _ fun it g1 s1a ws R1 e1a S hP hfr=>?_) (fun x=>hs x env);refine hf A env g1 s1a it ws rm R1 (F.up e1a) S hP _ fun f' g2 s2 R2 e2a F2 hf=>?_
  refine hQ f' g2 s2 R2 ?_ F2 hf;exact ((e1a.toX (X:=fun a=>FX C.nm env a\/a∈ws)).trans e2a).weak R.low (fun a o ho q=>q.resolve_right fun q=>by rw[hfr a q] at ho;cases ho) fun _ q=>q
end
end
section
section
theorem Rep.turn3 (R:Rep W fr g σ s)(tk:Nat)(C:Addr->Prop)(hC:∀a,C a->g a=.other/\W.s1.heap.get? a=none)(hX:XOk C g s.heap)(hfr:∀en∈fr,∀f,en.frame=some f->¬C f)(hg:∀a,¬C a->g' a=g a)(hg':∀a,C a->g' a=.other\/(g' a=.fz/\∃o,h'.get? a=some o))(hk:∀a o,s.heap.get? a=some o->¬C a->h'.get? a=some o):
    Rep W fr g' σ { s with heap:=h',toks:=tk }/\Evo W C noY g s.heap g' h':=by
  have hnC:∀{a:Addr},g a≠.other->¬C a:=fun {a} q hc=>q (hC a hc).1
  have hin:∀{a:Addr},g a≠.other->g' a=g a:=fun {a} q=>hg a (hnC q)
  have hback:∀a,g' a=g a\/g' a=.other\/(g' a=.fz/\∃o,h'.get? a=some o):=fun a=>by
    by_cases hc:C a
    . exact .inr (hg' a hc)
    . exact .inl (hg a hc)
  have hlc:∀a k,g' a=.loc k->g a=.loc k:=fun a k q=>by
    rcases hback a with r | r | ⟨r,_⟩
    . rw[<- r];exact q
    . rw[r] at q;cases q
    . rw[r] at q;cases q
  have hla:∀a k,g' a=.aux k->g a=.aux k:=fun a k q=>by
    rcases hback a with r | r | ⟨r,_⟩
    . rw[<- r];exact q
    . rw[r] at q;cases q
    . rw[r] at q;cases q
  have hnb:∀{a o},W.s1.heap.get? a=some o->¬C a:=fun {a o} ho hc=>by rw[(hC a hc).2] at ho;cases ho
  have hnt:∀{a},W.tab a->¬C a:=fun {a} ht hc=>Iav (hC a hc).2 ht
  have e:Evo W C noY g s.heap g' h':=⟨fun a o ho hx _=>.of (hk a o ho hx),fun a o n ho hq _=>hk a o ho (hnC (by rcases hq with q | q <;> rw[q] <;> nofun)),fun a q hx=>by rw[hin (by rw[q];nofun)];exact q,
    fun a n q=>by rw[hin (by rw[q];nofun)];exact q,fun a n q=>by rw[hin (by rw[q];nofun)];exact q,fun a o ho q hx=>.inl (by rw[hg a hx];exact q),fun a o ht ho=>⟨o,hk a o ho (hnt ht)⟩⟩
  refine ⟨⟨fun a o ho ht=>hk a o (R.base a o ho ht) (hnb ho),fun a o ho=>by rw[hg a (hnb ho)];exact R.baseO a o ho,
    fun a ht=>by rw[hg a (hnt ht)];exact R.tabO a ht,fun a ht=>?_,fun a ha=>?_,fun n ao ho=>?_,fun a b n qa qb=>R.uniq a b n (hlc a n qa) (hlc b n qb),R.pl,fun a n q=>R.bnd a n (q.imp (hlc a n) (hla a n)),fun en he=>?_,R.gens,R.os⟩,e⟩
  . refine qal (R.tabs a ht) ?_;intro more h2 h3 h4;exact ⟨more,hk a _ h2 (hnt ht),h3,fun pos v q=>(h4 pos v q).mono e hX⟩
  . rcases hback a with r | r | ⟨_,r⟩
    . rw[r] at ha;refine Exists.elim (R.low a ha) ?_;intro o ho;exact ⟨o,hk a o ho (hnC ha)⟩
    . exact absurd r ha
    . exact r
  . refine qa4 (R.locs n ao ho) ?_;intro a qa hr;exact ⟨a,e.loc a n qa,hr.mono e hX (fun o q=>hk a o q (hnC (by rw[qa];nofun))) (fun d hd o q=>hk d o q (hnC (by rw[hd];nofun))) ao (R.pl n ao ho)⟩
  . refine qaj (R.frs en he) ?_;intro f o es ep h1 h2 h3 h4 h5;have hc:¬C f:=hfr en he f h1;exact ⟨f,o,es,ep,h1,hk f o h2 hc,h3,by rw[hg f hc];exact h4,h5⟩
theorem Fra.turn3 {X:Addr->Prop}(F:Fra C env m g h)(hXo:XOk X g h)(hXg:∀a,X a->g a=.other)(hxL:¬X env.locals)(hxc:∀c v,X c->h.get? c≠some (qb5 v))(e:Evo C.W X Y g h g' h'):Fra C env m g' h':=by
  have up:∀av v,RV C.W g h av v->RV C.W g' h' av v:=fun av v r=>r.mono e hXo av (.inl hXg) v
  refine qa4 (F.ns) ?_;intro mh ne_4_1 hm;refine qav ne_4_1 ?_;intro oL es ep hL hLd r;refine qal ((e.keep _ _ hL hxL (.inr ⟨F.Lo,qbc F.Lz⟩)).ex) ?_;intro oL' hL' hLd' _;rw[hLd] at hLd';refine ⟨F.kind,F.names,F.nd,F.glob,F.blt,F.code,?_,F.Lz,⟨mh,⟨oL',es,ep,hL',hLd',r⟩,fun i x av h1 h2=>?_⟩,fun i x k h1 h2=>?_,F.pl,F.inj⟩
  . rcases e.oth _ _ hL F.Lo hxL with q | ⟨_,u,q⟩
    . exact q
    . rw[hL'] at q;obtain rfl:=Sj q;cases hLd'
  . refine qa4 (hm i x av h1 h2) ?_;intro v h3 h4;exact ⟨v,h3,up _ _ h4⟩
  . refine qat (F.cell i x k h1 h2) ?_;intro c ov h3 h4 h5 h6 h7;have hx:¬X c:=fun q=>hxc c ov q h5
    have h5':h'.get? c=some (qb5 ov):=(e.keep _ _ h5 hx (h6.symm.imp id fun q=>⟨q,qbc h4⟩)).get;refine ⟨c,ov,h3,h4,h5',?_,fun av q=>?_⟩
    . rcases h6 with q | q
      . exact (e.oth _ _ h5 q hx).imp id (·.1)
      . exact .inr (e.fz _ q hx)
    . refine qa4 (h7 av q) ?_;intro v h8 h9;exact ⟨v,h8,up _ _ h9⟩
theorem qao:∀{l l':List AV},plains (l++l')=(plains l&&plains l')
  | [],l'=>rfl
  | a::l,l'=>by show (plain a&&plains (l++l'))=((plain a&&plains l)&&plains l');rw[qao,Bool.and_assoc]
structure Acc (W:Wd) (g:Addr->Own) (h:Heap) (D:Addr) (acc:List AV):Prop where
  priv:Priv W g h D
  obj:∃vs n,h.get? D=some (qab vs n)/\RVs W g h acc vs.toList
  pl:plains acc=true
theorem Acc.up {D:Addr}(a:Acc W g h D acc)(e:Evo W noX Y g h g' h'):Acc W g' h' D acc:=by
  refine qcw (a.obj) ?_;intro vs n ho hr;refine And.elim ?_ (Iaq e a.priv ho);intro q p;exact ⟨p,⟨vs,n,q,hr.up e⟩,a.pl⟩
theorem Acc.frame {D:Addr}(F:Fra C env m g h)(e:Evo C.W (FX C.nm env) C.Y g h g' h')(a:Acc C.W g h D acc):Acc C.W g' h' D acc:=by
  refine qcw (a.obj) ?_;intro vs n ho hr;refine And.elim ?_ (Priv.keep F e a.priv ho);intro q p;exact ⟨p,⟨vs,n,q,hr.mono e F.xok acc (.inr a.pl) _⟩,a.pl⟩
theorem Acc.turn {X:Addr->Prop}{D:Addr}(a:Acc W g h D acc)(hX:∀a,X a->Priv W g h a)(hD:¬X D)(e:Evo W X Y g h g' h'):Acc W g' h' D acc:=by
  refine qcw (a.obj) ?_;intro vs n ho hr;have h1:=(e.keep D _ ho hD (.inr ⟨a.priv.own,Iav a.priv.new⟩)).get;refine ⟨⟨?_,a.priv.new,_,h1,by nofun,by nofun,by nofun,by simp⟩,⟨vs,n,h1,hr.mono e (Priv.xok hX) acc (.inr a.pl) _⟩,a.pl⟩;rcases e.oth D _ ho a.priv.own hD with q | ⟨_,v,q⟩
  . exact q
  . rw[h1] at q;injection q with q;injection q with q1 q2 q3;cases q3
theorem Acc.push (R:Rep W fr g σ s){D:Addr}{u:Value}(a:Acc W g s.heap D acc)(hv:RV W g s.heap v u)(hp:plain v=true)(hz:acc.length<=sizeLine)(hQ:∀s',Rep W fr g σ s'->Evo W (·=D) noY g s.heap g s'.heap->Acc W g s'.heap D (acc++[v])->Q .none s'):wpAny (model W.prog W.w) A (call (.builtin "list.append") [.ref D,u]) Q E s:=by
  refine qcw (a.obj) ?_;intro vs n ho hr;refine wpAny_list_append_plain (items:=vs) ?_ (fun h' hl hs=>?_) (by rw[<- Array.length_toList,hr.length];exact hz)
  . exact ⟨n,ho⟩
  . have hX:∀b,b=D->Priv W g s.heap b:=fun b q=>q ▸ a.priv
    refine And.elim ?_ (R.turn2 (g':=g) (h':=h') s.toks (·=D) hX (fun _ _ _ _=>rfl) (fun b q=>.inl (q ▸ a.priv.own)) (fun b q=>.inl (R.newO q)) (fun b o q hb=>(hs.2 b hb).trans q));intro R' e';refine Exists.elim hl ?_;intro n' hl;refine hQ _ R' e' ⟨⟨a.priv.own,a.priv.new,_,hl,by nofun,by nofun,by nofun,by simp⟩,⟨_,n',hl,?_⟩,?_⟩
    . rw[Array.toList_push];exact (hr.mono e' (Priv.xok hX) acc (.inr a.pl) _).append ⟨u,[],rfl,hv.mono e' (Priv.xok hX) v (.inr hp) _,rfl⟩
    . exact by rw[qao,a.pl];show (true&&(plain v&&true))=true;rw[hp];rfl
end
end
section
def qiz (prog:Program) (w:World) (A:Around) (elt:Expr) (gens:List Comprehension) (scope:Scope) (pos:Pos) (d:Nat) (acc:Value) (env:Env) (Q:Unit->Shared->Prop) (E:Value->Shared->Prop) (s:Shared):Prop:=
  match gens[d+1]? with
  | some g'=>wpAny (model prog w) A (eval g'.iter env) (fun x s1a=>wpAny (model prog w) A (foldedSetIterable g'.iter env x) (fun x s2=>wpAny (model prog w) A (pyIter x) (fun it s3=>
      wpAny (model prog w) A (runOwn (.compStart (.ListComp elt gens scope pos) (d+1) it acc env) env) (fun _ s4=>Q () s4) E s3) E s2) E s1a) E s
  | none=>wpAny (model prog w) A (eval elt env) (fun x s1a=>wpAny (model prog w) A (call (.builtin "list.append") [acc,x]) (fun _ s2=>Q () s2) E s1a) E s
theorem qd0 (hg:gens[d]?=some ⟨t,iter,ifs,0⟩)(hns:∀g',gens[d+1]?=some g'->g'.is_async=0){acc:Value}(turn:wpAny (model prog w) A (pyNext it) (fun r s1a=>match r with
      | none=>R (.ok .next) s1a
      | some v=>wpAny (model prog w) A (letOwnedTupleGo t it v) (fun _ s1'=>wpAny (model prog w) A (assign t env v) (fun _ s2=>
          wpAny (model prog w) A (forIn ifs true fun c r=>if r=true then do let ok <- isTrue c env (eval c env);pure (ForInStep.yield ok) else pure (ForInStep.yield r)) (fun ok s3=>
            if ok=true then qiz prog w A elt gens scope pos d acc env (fun _ s5=>codeAny (model prog w) A (.compLoop (.ListComp elt gens scope pos) d it acc env) R s5) (notedBy (model prog w) A env fun e s'=>R (.error e) s') s3
            else codeAny (model prog w) A (.compLoop (.ListComp elt gens scope pos) d it acc env) R s3) (notedBy (model prog w) A env fun e s'=>R (.error e) s') s2) (notedBy (model prog w) A env fun e s'=>R (.error e) s') s1') (notedBy (model prog w) A env fun e s'=>R (.error e) s') s1a) (notedBy (model prog w) A env fun e s'=>R (.error e) s') s):
    codeAny (model prog w) A (.compLoop (.ListComp elt gens scope pos) d it acc env) R s:=by
  refine codeAny_of_tree ?_;show wpAny _ A ((compTurn (.ListComp elt gens scope pos) d it acc env).onRaise (fun x=>do noteFrame x env;theTreesLotGoes x)) _ _ s;refine wpAny_noted ?_;unfold compTurn;simp only[hg];unfold qiz at turn;cases h:gens[d+1]? with
  | none=>
    rw[h] at turn;refine wpAny_bind (wpAny_standAt (wpAny_bind (wpAny_mono turn (fun r s1a h1a=>?_) fun _ _ h'=>h')));cases r with
    | none=>exact wpAny_pure h1a
    | some v=>
      refine wpAny_bind (wpAny_mono h1a (fun _ s1' h1'=>?_) fun _ _ h'=>h');refine wpAny_bind (wpAny_mono h1' (fun _ s2 h2a=>wpAny_bind (wpAny_mono h2a (fun ok s3 h3=>?_) fun _ _ h'=>h')) fun _ _ h'=>h');cases ok with
      | false=>exact wpAny_pure ⟨rfl,h3⟩
      | true=>exact wpAny_bind (wpAny_bind (wpAny_mono h3 (fun x s4 h4=>wpAny_bind (wpAny_mono h4 (fun _ s5 h5=>wpAny_pure (wpAny_pure ⟨rfl,h5⟩)) fun _ _ h'=>h')) fun _ _ h'=>h'))
  | some g'=>
    obtain ⟨t',i',f',a'⟩:=g';have h0:a'=0:=hns _ h;subst h0;rw[h] at turn;refine wpAny_bind (wpAny_standAt (wpAny_bind (wpAny_mono turn (fun r s1a h1a=>?_) fun _ _ h'=>h')));cases r with
    | none=>exact wpAny_pure h1a
    | some v=>
      refine wpAny_bind (wpAny_mono h1a (fun _ s1' h1'=>?_) fun _ _ h'=>h');refine wpAny_bind (wpAny_mono h1' (fun _ s2 h2a=>wpAny_bind (wpAny_mono h2a (fun ok s3 h3=>?_) fun _ _ h'=>h')) fun _ _ h'=>h');cases ok with
      | false=>exact wpAny_pure ⟨rfl,h3⟩
      | true=>
        refine wpAny_bind (wpAny_mono h3 (fun x s4 h4=>wpAny_bind (wpAny_standAt ?_)) fun _ _ h'=>h');show wpAny _ A (foldedSetIterable i' env x >>= _) _ _ _;refine wpAny_bind (wpAny_mono h4 (fun x s5 h5=>?_) fun _ _ h'=>h');refine wpAny_bind (wpAny_holding ?_);show wpAny _ A (pyIter x) _ _ _;exact wpAny_mono h5 (fun it s6 h6=>wpAny_bind (wpAny_mono h6 (fun _ s7 h7=>wpAny_pure ⟨rfl,h7⟩) fun _ _ h'=>h')) fun _ _ h'=>h'
theorem qc6 (hg:gens[d]?=some ⟨t,iter,ifs,0⟩){acc:Value}(h0:codeAny (model prog w) A (.compLoop (.ListComp elt gens scope pos) d it acc env) R s)(h:wpAny (model prog w) A (pyIter it) (fun it' s'=>codeAny (model prog w) A (.compLoop (.ListComp elt gens scope pos) d it' acc env) R s') (notedBy (model prog w) A env fun x s'=>R (.error x) s') s):
    codeAny (model prog w) A (.compStart (.ListComp elt gens scope pos) d it acc env) R s:=by
  refine codeAny_of_tree ?_;show wpAny _ _ ((compStart (.ListComp elt gens scope pos) d it acc env).onRaise (fun x=>do noteFrame x env;standAt theWindowsPlace)) _ _ s;refine wpAny_notedAt ?_;unfold compStart;have hc:clausesOf (.ListComp elt gens scope pos)=gens:=rfl;rw[hc,hg];show wpAny _ _ (ask >>= _) _ _ s;refine wpAny_bind (wpAny_askSetting (wpAny_ite ?_));split
  . first
      | exact wpAny_bind (wpAny_pure (wpAny_pure (And.intro rfl h0)))
      | exact wpAny_pure (And.intro rfl h0)
  . first
      | exact wpAny_bind (wpAny_rule (wpAny_bind (wpAny_standAt (wpAny_bind (wpAny_mono h (fun it' s' h'=>wpAny_pure (And.intro rfl h')) fun _ _ x=>x)))))
      | (refine wpAny_bind (wpAny_rule ?_);show wpAny _ _ (standAt iter.pos >>= _) _ _ s;exact wpAny_bind (wpAny_standAt (wpAny_bind (wpAny_mono h (fun it' s' h'=>wpAny_pure (And.intro rfl h')) fun _ _ x=>x))))
def Tests (C:Cx) (k:Nat) (fr:List Env) (m:List (Option AV)) (σ:List AObj) (ifs:List Expr) (b:Bool) (z':List AObj):Prop:=
  ∀(A:Around) (env:Env) (g:Addr->Own) (s:Shared),Room k fr A->Rep C.W fr g σ s->Fra C env m g s.heap->∀(Q:Bool->Shared->Prop) (E:Value->Shared->Prop),
    (∀g' s',Rep C.W fr g' z' s'->Evo C.W noX C.Y g s.heap g' s'.heap->Q b s') ->
    wpAny (model C.W.prog C.W.w) A (forIn ifs true fun c r=>if r=true then do let ok <- isTrue c env (eval c env);pure (ForInStep.yield ok) else pure (ForInStep.yield r)) Q E s
def CompC (C:Cx) (k:Nat) (fr:List Env) (elt:Expr) (gens:List Comprehension) (scope:Scope) (pos:Pos) (d:Nat) (ai:AIt) (i:Nat) (m:List (Option AV)) (σ:List AObj) (acc:List AV) (m':List (Option AV)) (z':List AObj) (acc':List AV):Prop:=
  ∀(A:Around) (env:Env) (g:Addr->Own) (s:Shared) (it:Value) (ws:List Addr) (D:Addr),Room k fr A->Rep C.W fr g σ s->Fra C env m g s.heap->ai.St C.W g s.heap ws it i->(∀a∈ws,Priv C.W g s.heap a)->Acc C.W g s.heap D acc->D∉ws->∀(R:Result->Shared->Prop),
    (∀g' s',Rep C.W fr g' z' s'->Evo C.W (fun a=>FX C.nm env a\/a=D\/a∈ws) C.Y g s.heap g' s'.heap->Fra C env m' g' s'.heap->Acc C.W g' s'.heap D acc'->R (.ok .next) s') ->
    codeAny (model C.W.prog C.W.w) A (.compLoop (.ListComp elt gens scope pos) d it (.ref D) env) R s
def Inner (C:Cx) (k:Nat) (fr:List Env) (elt:Expr) (gens:List Comprehension) (scope:Scope) (pos:Pos) (d:Nat) (m:List (Option AV)) (σ:List AObj) (acc:List AV) (m':List (Option AV)) (z':List AObj) (acc':List AV):Prop:=
  ∀(A:Around) (env:Env) (g:Addr->Own) (s:Shared) (D:Addr),Room k fr A->Rep C.W fr g σ s->Fra C env m g s.heap->Acc C.W g s.heap D acc->∀(Q:Unit->Shared->Prop) (E:Value->Shared->Prop),
    (∀g' s',Rep C.W fr g' z' s'->Evo C.W (fun a=>FX C.nm env a\/a=D) C.Y g s.heap g' s'.heap->Fra C env m' g' s'.heap->Acc C.W g' s'.heap D acc'->Q () s') ->
    qiz C.W.prog C.W.w A elt gens scope pos d (.ref D) env Q E s
section
variable {acc1 acc':List AV}
theorem Tests.nil:Tests C k fr m σ [] true σ:=fun A env g s rm R F Q E hQ=>wpAny_tests_nil (hQ g s R Evo.refl)
theorem Tests.one {c:Expr}{b:Bool}(h:Tr C k fr m σ c b z'):Tests C k fr m σ [c] b z':=fun A env g s rm R F Q E hQ=>wpAny_tests_one (h A env g s rm R F Q E hQ)
theorem Iaw (hn:gens[d+1]?=none)(he:Ev C k fr m σ elt v z')(hp:plain v=true)(hz:acc.length<=sizeLine):Inner C k fr elt gens scope pos d m σ acc m z' (acc++[v]):=fun A env g s D rm R F a Q E hQ=>by
  unfold qiz;rw[hn];refine he A env g s rm R F _ _ fun v' g1 s1a R1 e1a rv=>?_
  refine Acc.push R1 (a.up e1a) rv hp hz fun s2 R2 e2a a2=>?_
  have F1:=F.up e1a;have hX:∀b,b=D->Priv C.W g1 s1a.heap b:=fun b q=>q ▸ (a.up e1a).priv
  exact hQ g1 s2 R2 (e1a.toX.trans (e2a.inX fun _ q=>.inr q).toY) (F1.turn hX e2a) a2
theorem Icg (hn:gens[d+1]?=some ⟨t,iter,ifs,0⟩)(hi:ItE C k fr m σ iter ai z1)(hc:CompC C k fr elt gens scope pos (d+1) ai 0 m z1 acc m' z' acc')(hs:autoParam (∀x env,foldedSetIterable iter env x=pure x) ap0._auto_1):
    Inner C k fr elt gens scope pos d m σ acc m' z' acc':=fun A env g s D rm R F a Q E hQ=>by
  unfold qiz;rw[hn];refine (wpAny_mono (hi A env g s rm R F (fun it s'=>∃g' ws,Rep C.W fr g' z1 s'/\Evo C.W noX C.Y g s.heap g' s'.heap/\ai.St C.W g' s'.heap ws it 0/\(∀a∈ws,Priv C.W g' s'.heap a)/\(∀a∈ws,s.heap.get? a=none)) E fun it g' s' ws R' e' S hP hf=>⟨g',ws,R',e',S,hP,hf⟩) (fun x s1a h1a=>?_) fun _ _ e=>e);show wpAny _ A (foldedSetIterable iter env x) _ _ _;rw[hs];refine wpAny_pure ?_;refine wpAny_mono h1a (fun it s2 h2a=>?_) fun _ _ e=>e
  refine qat (h2a) ?_;intro g2 ws R2 e2a S hP hf;have hD:D∉ws:=fun q=>by refine qa4 (a.priv.obj) ?_;intro o ho _;rw[hf D q] at ho;cases ho
  refine wpAny_runOwn ?_;have loop:codeAny (model C.W.prog C.W.w) A (.compLoop (.ListComp elt gens scope pos) (d+1) it (.ref D) env) (fun r s'=>match r with | .ok f=>Q () s' | .error e=>cameBackBy (model C.W.prog C.W.w) A env E e s') s2:=
    hc A env g2 s2 it ws D rm R2 (F.up e2a) S hP (a.up e2a) hD _ fun g3 s3 R3 e3a F3 a3=>by
      refine hQ g3 s3 R3 ?_ F3 a3;exact ((e2a.toX (X:=fun a=>FX C.nm env a\/a=D\/a∈ws)).trans e3a).weak R.low (fun b o ho q=>by
        rcases q with q | q | q
        . exact .inl q
        . exact .inr q
        . rw[hf b q] at ho;cases ho) fun _ q=>q
  exact qc6 hn loop (Idj S loop)
theorem CompC.done (hg:gens[d]?=some ⟨t,iter,ifs,0⟩)(hO:ai.Ok σ)(hi:ai.items.length=i)(hns:∀g',gens[d+1]?=some g'->g'.is_async=0):CompC C k fr elt gens scope pos d ai i m σ acc m σ acc:=fun A env g s it ws D rm R F S hP a hD Rr hR=>by
  refine qd0 hg hns (Icu hO rm R S hP hi fun g1 s1a R1 e1a=>?_);exact hR g1 s1a R1 (e1a.inX fun _ q=>.inr (.inr q)).toY (F.turn hP e1a) (a.turn hP hD e1a)
theorem CompC.turn {b:Bool}(hg:gens[d]?=some ⟨t,iter,ifs,0⟩)(hO:ai.Ok σ)(hp:ai.plain=true)(hv:ai.items[i]?=some v)(ht:ai.pairs=true->∃elts n p,t=.Tuple elts n p)(ha:As C k fr m σ t v m1 z1)(hb:Tests C k fr m1 z1 ifs b z2)(hn:(b=true/\Inner C k fr elt gens scope pos d m1 z2 acc m2 z3 acc1)\/(b=false/\m2=m1/\z3=z2/\acc1=acc))(hr:CompC C k fr elt gens scope pos d ai (i+1) m2 z3 acc1 m' z' acc')(hns:∀g',gens[d+1]?=some g'->g'.is_async=0):CompC C k fr elt gens scope pos d ai i m σ acc m' z' acc':=fun A env g s it ws D rm R F S hP a hD Rr hR=>by
  refine qd0 hg hns (wpAny_mono (AIt.step (t:=t) hO rm R S hP hv ht (Q:=fun v' s1a=>∃g1,Rep C.W fr g1 σ s1a/\Evo C.W (·∈ws) noY g s.heap g1 s1a.heap/\ai.St C.W g1 s1a.heap ws it (i+1)/\(∀a∈ws,Priv C.W g1 s1a.heap a)/\RV C.W g1 s1a.heap v v')
    fun v' g1 s1a R1 e1a S1 hP1 rv=>⟨g1,R1,e1a,S1,hP1,rv⟩) (fun r s1a h1a=>?_) fun _ _ e=>e)
  refine qa4 (h1a) ?_;(try clear h1a);intro v' eq_3_1 h1a;subst eq_3_1;refine wpAny_mono h1a (fun _ s1' h1'=>?_) fun _ _ e=>e
  refine qeu (h1') ?_;intro g1 R1 e1a S1 hP1 rv;have F1:=F.turn hP e1a;have a1a:=a.turn hP hD e1a;refine ha A env g1 s1' v' rm R1 F1 rv _ _ fun g2 s2 R2 e2a F2=>?_
  have keep:∀{g1 g2:Addr->Own} {h1a h2a:Heap} {m:List (Option AV)},Fra C env m g1 h1a->Evo C.W (FX C.nm env) C.Y g1 h1a g2 h2a->(∀a∈ws,Priv C.W g1 h1a a)->(∀a∈ws,∀o,h1a.get? a=some o->h2a.get? a=some o)/\∀a∈ws,Priv C.W g2 h2a a:=fun {g1 g2 h1a h2a m} F e hP=>
    ⟨fun a ha o ho=>(Priv.keep F e (hP a ha) ho).1,fun a ha=>by refine qa4 ((hP a ha).obj) ?_;intro o ho _;exact (Priv.keep F e (hP a ha) ho).2⟩
  refine And.elim ?_ (keep F1 e2a hP1);intro k2 hP2;have S2:=AIt.St.mono e2a F1.xok k2 ai (.inr hp) S1;have a2:=Acc.frame F1 e2a a1a;refine hb A env g2 s2 rm R2 F2 _ _ fun g3 s3 R3 e3a=>?_
  have F3:=F2.up e3a;have a3:=a2.up e3a;have hP3:∀a∈ws,Priv C.W g3 s3.heap a:=fun a ha=>by refine qa4 ((hP2 a ha).obj) ?_;intro o ho _;exact (Iaq e3a (hP2 a ha) ho).2
  have S3:=AIt.St.mono e3a XOk.no (fun a ha o ho=>(Iaq e3a (hP2 a ha) ho).1) ai (.inr hp) S2;have e13:Evo C.W (fun a=>FX C.nm env a\/a=D\/a∈ws) C.Y g s.heap g3 s3.heap:=((e1a.inX fun _ q=>.inr (.inr q)).toY.trans (e2a.inX fun _ q=>.inl q)).trans e3a.toX;rcases hn with ⟨rfl,hn⟩ | ⟨rfl,rfl,rfl,rfl⟩
  . rw[if_pos rfl];refine hn A env g3 s3 D rm R3 F3 a3 _ _ fun g4 s4 R4 e4 F4 a4=>?_
    have hXo:XOk (fun a=>FX C.nm env a\/a=D) g3 s3.heap:=fun b hb=>by
      rcases hb with hb | rfl
      . exact F3.xok b hb
      . exact Priv.xok (C:=(·=b)) (fun c q=>q ▸ a3.priv) b rfl
    have k4:∀a∈ws,∀o,s3.heap.get? a=some o->s4.heap.get? a=some o/\Priv C.W g4 s4.heap a:=fun a ha o ho=>by
      refine qba ((hP3 a ha).obj) ?_;intro o' ho' hd hc hk;rw[ho] at ho';obtain rfl:=Sj ho';have hx:¬(FX C.nm env a\/a=D):=fun q=>by
        rcases q with (rfl | ⟨i,x,hi,hcl⟩) | rfl
        . refine qa4 (F3.ns) ?_;intro mh ne_9_1 _;refine qav ne_9_1 ?_;intro oL es ep hL hLd _;rw[ho] at hL;obtain rfl:=Sj hL;exact hd _ _ hLd
        . refine qb0 (F3.cell i x .cell hi rfl) ?_;intro c ov h3 h4 h5 _;rw[hcl] at h3;obtain rfl:=Sj h3;rw[ho] at h5;obtain rfl:=Sj h5;exact hc _ rfl
        . exact hD ha
      have h1:=(e4.keep a o ho hx (.inr ⟨(hP3 a ha).own,Iav (hP3 a ha).new⟩)).get hk.2;refine ⟨h1,?_,(hP3 a ha).new,o,h1,hd,hc,hk⟩;rcases e4.oth a o ho (hP3 a ha).own hx with q | ⟨_,v,q⟩
      . exact q
      . rw[h1] at q;obtain rfl:=Sj q;exact absurd rfl (hc v)
    have S4:=AIt.St.mono e4 hXo (fun a ha o ho=>(k4 a ha o ho).1) ai (.inr hp) S3;exact hr A env g4 s4 it ws D rm R4 F4 S4 (fun a ha=>by refine qa4 ((hP3 a ha).obj) ?_;intro o ho _;exact (k4 a ha o ho).2) a4 hD Rr fun g5 s5 R5 e5 F5 a5=>
      hR g5 s5 R5 ((e13.trans (e4.inX fun b q=>q.elim .inl fun q=>.inr (.inl q))).trans e5) F5 a5
  . rw[if_neg (by simp)];exact hr A env g3 s3 it ws D rm R3 F3 S3 hP3 a3 hD Rr fun g5 s5 R5 e5 F5 a5=>hR g5 s5 R5 (e13.trans e5) F5 a5
end
end
section
theorem qd8 (h : ∀ (i : Nat) (x : Str), scope.names[i]? = some (x, .free) -> ∃ c, env.cells.lookup x = some c):
    ∃ cl, closureFor scope env = pure cl /\ ∀ (i : Nat) (x : Str), scope.names[i]? = some (x, .free) -> cl.lookup x = env.cells.lookup x := by
  have key : ∀ (l : List (Str×NameKind)) (cs : List (Str×Addr)), (∀ x c, cs.lookup x = some c -> env.cells.lookup x = some c) -> (∀ (i : Nat) (x : Str), l[i]? = some (x, .free) -> ∃ c, env.cells.lookup x = some c) ->
      ∃ cl, (forIn l cs fun x c => (if x.2==.free then do let a <- cellOf env x.1; pure (.yield ((x.1, a)::c)) else pure (.yield c) : Sem (ForInStep (List (Str×Addr))))) = pure cl /\
        (∀ x c, cl.lookup x = some c -> env.cells.lookup x = some c) /\ (∀ x, cs.lookup x ≠ none -> cl.lookup x ≠ none) /\ ∀ (i : Nat) (x : Str), l[i]? = some (x, .free) -> cl.lookup x ≠ none := by
    intro l;induction l with
    | nil => intro cs h1 _; exact ⟨cs, by rw[List.forIn_nil], h1, fun _ h => h, fun i x h => by simp at h⟩
    | cons p l ih =>
      intro cs h1 h2;obtain ⟨x, k⟩ := p;rw[List.forIn_cons];by_cases hk : k = .free
      . subst hk;refine Exists.elim (h2 0 x rfl) ?_;intro c hc;have hcell : cellOf env x = pure c := by unfold cellOf; rw[hc]
        have hin : ∀ y d, ((x, c)::cs).lookup y = some d -> env.cells.lookup y = some d := fun y d q => by
          rw[List.lookup_cons] at q;cases hb : y==x with
          | true => rw[hb] at q; have hyx : y = x := by simpa using hb
                    subst hyx; (first | (have q__ := Sj q; subst q__) | (have q__ := q; subst q__) | cases q); exact hc
          | false => rw[hb] at q; exact h1 y d q
        refine qba (ih ((x, c)::cs) hin (fun i y q => h2 (i+1) y (by simpa using q))) ?_; intro cl e1 e2 e3 e4;refine ⟨cl, ?_, e2, fun y q => e3 y ?_, fun i y q => ?_⟩
        . simp only[beq_self_eq_true, if_true, hcell, pure_bind];exact e1
        . rw[List.lookup_cons]; cases hb : y==x with
          | true => simp
          | false => exact q
        . cases i with
          | zero => simp at q; subst q; exact e3 x (by simp)
          | succ i => exact e4 i y (by simpa using q)
      . have hkb : (k==NameKind.free) = false := by simpa using hk
        refine qba (ih cs h1 (fun i y q => h2 (i+1) y (by simpa using q))) ?_; intro cl e1 e2 e3 e4;refine ⟨cl, ?_, e2, e3, fun i y q => ?_⟩
        . simp only[hkb, Bool.false_eq_true, if_false, pure_bind];exact e1
        . cases i with
          | zero => simp at q; exact absurd q.2 hk
          | succ i => exact e4 i y (by simpa using q)
  refine qba (key scope.names [] (fun _ _ h => by simp at h) h) ?_; intro cl e1 e2 e3 e4;refine ⟨cl, ?_, fun i x q => ?_⟩
  . unfold closureFor;have : (forIn scope.names ([] : List (Str×Addr)) fun x c => (if x.2==.free then do let a <- cellOf env x.1; pure (.yield ((x.1, a)::c)) else pure (.yield c) : Sem (ForInStep (List (Str×Addr))))) = pure cl := e1;exact (congrArg (· >>= fun r => pure r) this).trans rfl
  . cases hc : cl.lookup x with
    | none => exact absurd hc (e4 i x q)
    | some c => exact (e2 x c hc).symm
theorem qcq:∀{names:List (Str×NameKind)} {x:Str} {k:NameKind},names.lookup x=some k ->
    ∃k',(names.map fun (n,k)=>if (k==NameKind.free&&env.scope.kind==.function&&env.kindOf n==some .cell) then (n,NameKind.cell) else (n,k)).lookup x=some k'/\kcl k'=kcl k
  | [],_,_,h=>by simp at h
  | (n,k0)::r,x,k,h=>by
    show ∃k',List.lookup x ((if (k0==NameKind.free&&env.scope.kind==.function&&env.kindOf n==some .cell)=true then (n,NameKind.cell) else (n,k0))::_)=some k'/\_;cases hx:x==n with
    | true=>
      simp only[List.lookup_cons,hx] at h;obtain rfl:=Sj h;by_cases hc:(k0==NameKind.free&&env.scope.kind==.function&&env.kindOf n==some .cell)=true
      . rw[if_pos hc];refine ⟨.cell,by simp only[List.lookup_cons,hx],?_⟩;simp at hc;rw[hc.1.1];rfl
      . rw[if_neg hc];exact ⟨k0,by simp only[List.lookup_cons,hx],rfl⟩
    | false=>
      simp only[List.lookup_cons,hx] at h;by_cases hc:(k0==NameKind.free&&env.scope.kind==.function&&env.kindOf n==some .cell)=true
      . rw[if_pos hc];simp only[List.lookup_cons,hx];exact qcq h
      . rw[if_neg hc];simp only[List.lookup_cons,hx];exact qcq h
structure CompIn (C:Cx) (m:List (Option AV)) (names:List (Str×NameKind)) (m0:List (Option AV)):Prop where
  nd:∀(i j:Nat) (x:Str) (k k':NameKind),names[i]?=some (x,k)->names[j]?=some (x,k')->i=j
  len:m0.length=names.length
  free:∀(i:Nat) (x:Str),names[i]?=some (x,.free)->∃(j:Nat) (kd:NameKind),C.nm[j]?=some (x,kd)/\kcl kd=1/\∀av,m0[i]?=some (some av)->m[j]?=some (some av)
  rest:∀(i:Nat) (x:Str) (k:NameKind),names[i]?=some (x,k)->k≠.free->∀av,m0[i]?≠some (some av)
  pl:(∀(i:Nat) (x:Str),names[i]?≠some (x,.cell))\/∀(i:Nat) (av:AV),m0[i]?=some (some av)->plain av=true
theorem qcf (nd:∀(i j:Nat) (x:Str) (k k':NameKind),names[i]?=some (x,k)->names[j]?=some (x,k')->i=j):∀(i:Nat) (x:Str) (k:NameKind),names[i]?=some (x,k)->names.lookup x=some k:=by
  induction names with
  | nil=>intro i x k h;simp at h
  | cons p l ih=>
    intro i x k h;obtain ⟨y,k'⟩:=p;rw[List.lookup_cons];cases i with
    | zero=>simp at h;rw[h.1,h.2];simp
    | succ i=>
      have hb:(x==y)=false:=by
        have:x≠y:=fun q=>by subst q;have:=nd (i+1) 0 x k k' h rfl;lia
        simpa using this
      rw[hb];exact ih (fun i j x k k' h1 h2=>by have:=nd (i+1) (j+1) x k k' (by simpa using h1) (by simpa using h2);lia) i x k (by simpa using h)
section
variable {m0 mc:List (Option AV)} {acc':List AV}
theorem qje {rest:List Comprehension}{use:Option (Value->Sem Unit)}(hk:scope.kind=.function)(hi:ItE C k fr m σ iter ai z1)(hin:CompIn C m scope.names m0)(hc:CompC { C with nm:=scope.names } k fr elt (⟨t,iter,ifs,0⟩::rest) scope pos 0 ai 0 m0 z1 [] mc z' acc')(hs:∀x env,foldedSetIterable iter env x=pure x)(rm:Room k fr A)(R:Rep C.W fr g σ s)(F:Fra C env m g s.heap)(hQ:∀g' s' D L,Rep C.W fr g' z' s'->Evo C.W noX C.Y g s.heap g' s'.heap->RV C.W g' s'.heap (.lst acc') (.ref D)->s.heap.get? L=none->g' L=.other->(∃mh,s'.heap.Ns L mh)->C.W.s1.heap.get? L=none ->
      compPost (model C.W.prog C.W.w) A E use Q (.ref D) L (.ok .next) s'):
    wpAny (model C.W.prog C.W.w) A (comprehension (.ListComp elt (⟨t,iter,ifs,0⟩::rest) scope pos) scope env p (newList []) false (eval iter env) use) Q E s:=by
  obtain ⟨cl,hcl,hlk⟩:=qd8 (scope:=scope) (env:=env) fun i x hx=>by
    refine qa3 (hin.free i x hx) ?_;intro j kd h1 h2 h3;refine qcw (F.cell j x kd h1 h2) ?_;intro c ov h4 _;exact ⟨c,h4⟩
  refine wpAny_comprehension_free (g:=⟨t,iter,ifs,0⟩) rfl (fun x=>hs x env) hcl hk (fun x hx hl=>by
    obtain ⟨i,hi,hx'⟩:=List.mem_iff_getElem.mp hx;obtain ⟨y,ky⟩:=x;obtain rfl:ky=.local:=hl;exact qcf hin.nd i y _ (by rw[List.getElem?_eq_getElem hi,hx'])) ?_
  refine hi A env g s rm R F _ _ fun it g1 s1a ws R1 e1a S hP hf=>?_
  refine wpAny_newObj_type (wpAny_mono (Q:=fun cenv s4=>codeAny (model C.W.prog C.W.w) A (.compStart (.ListComp elt (⟨t,iter,ifs,0⟩::rest) scope pos) 0 it (.ref s1a.heap.objs.size) { cenv with scope:=relabel scope env }) (compPost (model C.W.prog C.W.w) A E use Q (.ref s1a.heap.objs.size) cenv.locals) s4) ?_ (fun cenv s4 h=>h) fun _ _ e=>e) (by size_fits);refine qee (R1.newPriv { cls:=.type "list",data:=.seq ([]:List Value).toArray } rfl nofun nofun ⟨by exact nofun,by simp⟩) ?_;intro R2 e2a p2;have hD2:(s1a.heap.push { cls:=.type "list",data:=.seq ([]:List Value).toArray }).get? s1a.heap.objs.size=some (qab ([]:List Value).toArray 0):=Heap.get?_push_size _ rfl;have A2:Acc C.W g1 (s1a.heap.push { cls:=.type "list",data:=.seq ([]:List Value).toArray }) s1a.heap.objs.size []:=⟨p2,⟨_,_,hD2,rfl⟩,rfl⟩
  have F2:=(F.up e1a).up e2a;have hDn:s.heap.get? s1a.heap.objs.size=none:=Iau R e1a R1 (qak _);have hD:s1a.heap.objs.size∉ws:=fun q=>by refine qa4 ((hP _ q).obj) ?_;intro o ho _;rw[qak] at ho;cases ho
  rw[show env.globals=mainGlobals from F.glob];refine qcx (C:={ C with nm:=scope.names }) (xs:=[]) (vs:=[]) (us:=[]) (m0:=m0) (m1:=m0) rfl hin.nd hk (qcf hin.nd) (by exact F.code) (fun o h=>by obtain rfl:=Sj h;exact F.blt) R2 (fun i x kd hx=>⟨fun hkf=>?_,fun hkf=>hin.rest i x kd hx hkf⟩) hin.pl .nil rfl hin.len fun cenv g3 s3 R3 e3a F3 hsc hL hcells hown _ hfr _=>?_
  . subst hkf;refine qa3 (hin.free i x hx) ?_;intro j kj h1 h2 h3;refine qat (F2.cell j x kj h1 h2) ?_;intro c ov h4 h5 h6 h7 h8;exact ⟨c,ov,by rw[hlk i x hx];exact h4,h5,h6,h7,fun av q=>h8 av (h3 av q)⟩
  . have F3':Fra { C with nm:=scope.names } { cenv with scope:=relabel scope env } m0 g3 s3.heap:={ F3 with
        kind:=hk
        names:=fun i x kd hx=>by
          refine qa4 (qcq (env:=env) (qcf hin.nd i x kd hx)) ?_;intro k' h1 h2;exact ⟨k',h1,h2⟩ }
    have S2:=AIt.St.mono e2a XOk.no (fun a ha o ho=>(Iaq e2a (hP a ha) ho).1) ai (.inl fun _ q=>q.elim) S;have hP2:∀a∈ws,Priv C.W g1 (s1a.heap.push { cls:=.type "list",data:=.seq ([]:List Value).toArray }) a:=fun a ha=>by
      refine qa4 ((hP a ha).obj) ?_;intro o' ho' _;exact (Iaq e2a (hP a ha) ho').2
    have S3:=AIt.St.mono e3a XOk.no (fun a ha o ho=>(Iaq e3a (hP2 a ha) ho).1) ai (.inl fun _ q=>q.elim) S2;have hP3:∀a∈ws,Priv C.W g3 s3.heap a:=fun a ha=>by
      refine qa4 ((hP2 a ha).obj) ?_;intro o' ho' _;exact (Iaq e3a (hP2 a ha) ho').2
    have A3:=A2.up e3a;have e13:Evo C.W noX C.Y g s.heap g3 s3.heap:=(e1a.trans e2a.no).trans e3a.no;have hLn:s.heap.get? cenv.locals=none:=Iau R (e1a.trans e2a.no) R2 hL;have hcn:∀b,FX scope.names { cenv with scope:=relabel scope env } b->s.heap.get? b=none:=fun b hb=>by
      rcases hb with rfl | ⟨i,x,hx,hc⟩
      . exact hLn
      . exact Iau R (e1a.trans e2a.no) R2 (hown i x b hx hc)
    have loop:codeAny (model C.W.prog C.W.w) A (.compLoop (.ListComp elt (⟨t,iter,ifs,0⟩::rest) scope pos) 0 it (.ref s1a.heap.objs.size) { cenv with scope:=relabel scope env }) (compPost (model C.W.prog C.W.w) A E use Q (.ref s1a.heap.objs.size) cenv.locals) s3:=by
      refine hc A { cenv with scope:=relabel scope env } g3 s3 it ws s1a.heap.objs.size rm R3 F3' S3 hP3 A3 hD _ fun g4 s4 R4 e4 F4 A4=>?_
      have e14:Evo C.W noX C.Y g s.heap g4 s4.heap:=((e13.toX (X:=fun a=>FX scope.names { cenv with scope:=relabel scope env } a\/a=s1a.heap.objs.size\/a∈ws)).trans e4).weak R.low (fun b o ho q=>by
        rcases q with q | q | q
        . rw[hcn b q] at ho;cases ho
        . subst q;rw[hDn] at ho;cases ho
        . rw[hf b q] at ho;cases ho) fun _ q=>q
      refine qcw (A4.obj) ?_;intro vs n hDo hDr;have hX:∀b,b=s1a.heap.objs.size->Priv C.W g4 s4.heap b:=fun b q=>q ▸ A4.priv
      obtain ⟨R5,e5⟩:=R4.turn2 (g':=qc9 g4 s1a.heap.objs.size .fz) (h':=s4.heap) s4.toks (·=s1a.heap.objs.size) hX (fun b o _ q=>qa9 q) (fun b q=>by subst q;exact .inr ⟨qa5,_,hDo⟩) (fun b q=>.inl (by
          rw[qa9 (fun q'=>by subst q';rw[hDo] at q;cases q)];exact R4.newO q)) (fun b o q _=>q)
      have e15:Evo C.W noX C.Y g s.heap (qc9 g4 s1a.heap.objs.size .fz) s4.heap:=((e14.toX (X:=(·=s1a.heap.objs.size))).trans e5.toY).weak R.low (fun b o ho q=>by subst q;rw[hDn] at ho;cases ho) fun _ q=>q
      have hLD:cenv.locals≠s1a.heap.objs.size:=fun q=>by
        refine qa4 (F4.ns) ?_;intro mh ne_18_1 _;refine qav ne_18_1 ?_;intro oL es ep h1 h2 _;have h1':s4.heap.get? cenv.locals=some oL:=h1;rw[q,hDo] at h1';obtain rfl:=Sj h1';cases h2
      refine hQ (qc9 g4 s1a.heap.objs.size .fz) s4 s1a.heap.objs.size cenv.locals R5 e15 ⟨_,vs,n,rfl,qa5,hDo,hDr.mono e5 (Priv.xok hX) acc' (.inl fun b q=>(hX b q).own) _⟩ hLn (by rw[qa9 hLD];exact F4.Lo) ?_ F4.Lz;refine qa4 (F4.ns) ?_;intro mh h1 _;exact ⟨mh,h1⟩
    exact qc6 (t:=t) (iter:=iter) (ifs:=ifs) rfl loop (Idj S3 loop)
theorem qh3 {s0:Shared}{g0:Addr->Own}{L:Addr}(R0:Rep W fr g0 z1 s0)(R:Rep W fr g σ s)(hL0:s0.heap.get? L=none)(hLg:g L=.other)(hL1:W.s1.heap.get? L=none)(hns:∃mh,s.heap.Ns L mh)(hs:Heap.SameBut L s.heap h'):
    Rep W fr g σ { s with heap:=h' }/\Evo W (·=L) noY g s.heap g h'/\XOk (·=L) g s.heap:=by
  refine qdt (hns) ?_;intro mh oL es ep h1 h2 _;have hX:XOk (·=L) g s.heap:=fun a ha=>by
    subst ha;exact ⟨.inl hLg,fun o vs ho hd=>by rw[h1] at ho;obtain rfl:=Sj ho;rw[h2] at hd;cases hd⟩
  obtain ⟨R',e'⟩:=R.turn3 (g':=g) (h':=h') s.toks (·=L) (fun a ha=>ha ▸ ⟨hLg,hL1⟩) hX (fun en he f hf q=>by
    refine qdt (R0.frs en he) ?_;intro f' o es' ep' h3 h4 _;rw[hf] at h3;obtain rfl:=Sj h3;subst q;rw[hL0] at h4;cases h4) (fun _ _=>rfl) (fun a ha=>.inl (ha ▸ hLg)) (fun a o ho ha=>(hs.2 a ha).trans ho)
  exact ⟨R',e',hX⟩
theorem Iae {rest:List Comprehension}(hi:ItE C k fr m σ iter ai z1)(hin:CompIn C m scope.names m0)(hc:CompC { C with nm:=scope.names } k fr elt (⟨t,iter,ifs,0⟩::rest) scope pos 0 ai 0 m0 z1 [] mc z' acc')(hk:autoParam (scope.kind=.function) ap0._auto_1)(hs:autoParam (∀x env,foldedSetIterable iter env x=pure x) ap0._auto_1):
    Ev C k fr m σ (.ListComp elt (⟨t,iter,ifs,0⟩::rest) scope pos) (.lst acc') z':=fun A env g s rm R F Q E hQ=>by
  rw[eval_ListComp];refine qje (use:=none) hk hi hin hc hs rm R F fun g' s' D L R' e' rv hL0 hLg hns hL1=>?_
  obtain ⟨mh,hn⟩:=id hns;refine ⟨mh,hn,fun h' hs'=>?_⟩;refine qee (qh3 R R' hL0 hLg hL1 hns hs') ?_;intro R2 e2a hX;exact hQ _ g' _ R2 (((e'.toX (X:=(·=L))).trans e2a.toY).weak R.low (fun b o ho q=>by subst q;rw[hL0] at ho;cases ho) fun _ q=>q) (rv.mono e2a hX _ (.inl fun b q=>q ▸ hLg) _)
theorem Ib4 {rest:List Comprehension}(hx:C.nm[i]?=some (x,.local))(hi:ItE C k fr m σ iter ai z1)(hin:CompIn C m scope.names m0)(hc:CompC { C with nm:=scope.names } k fr elt (⟨t,iter,ifs,0⟩::rest) scope pos 0 ai 0 m0 z1 [] mc z' acc')(hp:plains acc'=true)(hk:autoParam (scope.kind=.function) ap0._auto_1)(hs:autoParam (∀x env,foldedSetIterable iter env x=pure x) ap0._auto_1):
    Ex C k fr m σ (.Assign [.Name x px] (.ListComp elt (⟨t,iter,ifs,0⟩::rest) scope pos) p) .next (m.set i (some (.lst acc'))) z':=fun A env g s rm R F Q E hQ=>by
  refine qa4 (F.names i x _ hx) ?_;intro k' h3 h4;have hkk:k'=.local:=by cases k' <;> first | rfl | (exact absurd h4 (by decide))
  subst hkk;have hsw:∀b,swapsWith (.ListComp elt (⟨t,iter,ifs,0⟩::rest) scope pos) (some (.Name x px)) p.line env=pure b->wpAny (model C.W.prog C.W.w) A (exec (.Assign [.Name x px] (.ListComp elt (⟨t,iter,ifs,0⟩::rest) scope pos) p) env) Q E s:=fun b hb=>by
    cases b with
    | false=>
      refine wpAny_Assign_stores (Iae hi hin hc hk hs A env g s rm R F _ _ fun v' g1 s1a R1 e1a rv=>?_) hb (by rfl);show wpAny _ A (assignAll v' ((assignEach [.Name x px] env).map (·.2))) _ _ _;rw[show (assignEach [.Name x px] env).map (·.2)=[PySem.assign (.Name x px) env] from rfl];exact Ibs (p:=px) hx (av:=.lst acc') hp A env g1 s1a v' rm R1 (F.up e1a) rv _ _ fun g2 s2 R2 e2a F2=>hQ _ g2 s2 R2 (e1a.toX.trans e2a) F2 rfl
    | true=>
      rw[exec_Assign_Name_used _ _ _ _ hb];refine wpAny_bind (wpAny_standAt (wpAny_bind ?_));show wpAny _ A (do let _ <- comprehension (.ListComp elt (⟨t,iter,ifs,0⟩::rest) scope pos) scope env _ (newList []) false (eval iter env) (some (PySem.assign (.Name x px) env))) _ _ s;refine wpAny_bind (wpAny_mono (Q:=fun _ s'=>Q .next s') (qje (use:=some (PySem.assign (.Name x px) env)) (Q:=fun _ s'=>Q .next s') hk hi hin hc hs rm R F fun g' s' D L R' e' rv hL0 hLg hns hL1=>?_) (fun _ s' hq=>wpAny_pure (wpAny_pure hq)) fun _ _ e=>e);have F':=F.up e';refine Ibs (p:=px) hx (av:=.lst acc') hp A env g' s' (.ref D) rm R' F' rv _ _ fun g2 s2 R2 e2a F2=>?_
      have hLx:¬FX C.nm env L:=fun q=>by
        rcases q with rfl | ⟨j,y,hj,hc⟩
        . refine qa4 (F.ns) ?_;intro mh ne_25_1 _;refine qbu ne_25_1 ?_;intro oL es ep hL _;rw[hL0] at hL;cases hL
        . refine qb0 (F.cell j y .cell hj rfl) ?_;intro c ov h5 h6 h7 _;rw[hc] at h5;obtain rfl:=Sj h5;rw[hL0] at h7;cases h7
      refine qdt (id hns) ?_;intro mh oL es ep h5 h6 h7;refine qal ((e2a.keep L oL h5 hLx (.inr ⟨hLg,Iav hL1⟩)).ex) ?_;intro oL' h5' h6' _;rw[h6] at h6';have hLg2:g2 L=.other:=by
        rcases e2a.oth L oL h5 hLg hLx with q | ⟨_,v,q⟩
        . exact q
        . rw[h5'] at q;obtain rfl:=Sj q;cases h6'
      have hns2:s2.heap.Ns L mh:=⟨oL',es,ep,h5',h6',h7⟩
      refine ⟨mh,hns2,fun h' hs'=>?_⟩;refine qee (qh3 R R2 hL0 hLg2 hL1 ⟨mh,hns2⟩ hs') ?_;intro R3 e3a hX;have hxc:∀(c:Addr) (v:Option Value),c=L->s2.heap.get? c≠some (qb5 v):=fun c v q r=>by
        subst q;rw[h5'] at r;obtain rfl:=Sj r;cases h6'
      have hxL:¬env.locals=L:=fun q=>hLx (.inl q.symm)
      have F3:=F2.turn3 hX (fun b q=>q ▸ hLg2) hxL hxc e3a;refine hQ _ g2 _ R3 ?_ F3 rfl;exact (((e'.toX (X:=fun a=>FX C.nm env a\/a=L)).trans (e2a.inX fun _ q=>.inl q)).trans (e3a.inX fun _ q=>.inr q).toY).weak R.low (fun b o ho q=>by
        rcases q with q | q
        . exact q
        . subst q;rw[hL0] at ho;cases ho) fun _ q=>q
  exact hsw _ rfl
end
end
section
theorem qcl (turn:wpAny (model prog w) A (isTrue test env (eval test env)) (fun b s2=>
        if b then wpAny (model prog w) A (execs body env) (fun f s3=>match f with
            | .next | .cont=>codeAny (model prog w) A (.whileLoop test body orelse env) R s3
            | .brk=>R (.ok .next) s3
            | .ret v=>R (.ok (.ret v)) s3) (notedBy (model prog w) A env fun e s'=>R (.error e) s') s2
        else wpAny (model prog w) A (execs orelse env) (fun f s3=>R (.ok f) s3) (notedBy (model prog w) A env fun e s'=>R (.error e) s') s2)
        (notedBy (model prog w) A env fun e s'=>R (.error e) s') s):codeAny (model prog w) A (.whileLoop test body orelse env) R s:=by
  refine codeAny_of_tree ?_;show wpAny _ A ((whileTurn test body orelse env).onRaise (fun x=>do noteFrame x env;theTreesLotGoes x)) _ _ s;refine wpAny_noted ?_;simp only[whileTurn];refine wpAny_bind (wpAny_mono turn (fun b s2 h2a=>?_) fun _ _ h'=>h');cases b with
  | false=>
    simp only[Bool.false_eq_true,if_false] at h2a ⊢;exact wpAny_bind (wpAny_mono h2a (fun f s3 h3=>wpAny_pure h3) fun _ _ h'=>h')
  | true=>
    simp only[if_true] at h2a ⊢;refine wpAny_bind (wpAny_mono h2a (fun f s3 h3=>?_) fun _ _ h'=>h');cases f with
    | next=>exact wpAny_pure ⟨rfl,h3⟩
    | cont=>exact wpAny_pure ⟨rfl,h3⟩
    | brk=>exact wpAny_pure h3
    | ret v=>exact wpAny_pure h3
def WhileC (C:Cx) (k:Nat) (fr:List Env) (test:Expr) (body orelse:List Stmt) (m:List (Option AV)) (σ:List AObj) (fl:AFl) (m':List (Option AV)) (z':List AObj):Prop:=
  ∀(A:Around) (env:Env) (g:Addr->Own) (s:Shared),Room k fr A->Rep C.W fr g σ s->Fra C env m g s.heap->∀(R:Result->Shared->Prop),
    (∀f' g' s',Rep C.W fr g' z' s'->Evo C.W (FX C.nm env) C.Y g s.heap g' s'.heap->Fra C env m' g' s'.heap->RFl C.W g' s'.heap fl f'->R (.ok f') s')->codeAny (model C.W.prog C.W.w) A (.whileLoop test body orelse env) R s
section
theorem Ib6 (ht:Tr C k fr m σ test false z1)(ho:Exs C k fr m z1 orelse fl m' z'):WhileC C k fr test body orelse m σ fl m' z':=fun A env g s rm R F Rr hR=>by
  refine qcl (ht A env g s rm R F _ _ fun g1 s1a R1 e1a=>?_);rw[if_neg (by simp)];exact ho A env g1 s1a rm R1 (F.up e1a) _ _ fun f' g2 s2 R2 e2a F2 hf=>hR f' g2 s2 R2 (e1a.toX.trans e2a) F2 hf
theorem WhileC.next (ht:Tr C k fr m σ test true z1)(hb:Exs C k fr m z1 body .next m1 z2)(hr:WhileC C k fr test body orelse m1 z2 fl m' z'):WhileC C k fr test body orelse m σ fl m' z':=fun A env g s rm R F Rr hR=>by
  refine qcl (ht A env g s rm R F _ _ fun g1 s1a R1 e1a=>?_);rw[if_pos rfl];refine hb A env g1 s1a rm R1 (F.up e1a) _ _ fun f' g2 s2 R2 e2a F2 hf=>?_
  obtain rfl:f'=.next:=hf;exact hr A env g2 s2 rm R2 F2 Rr fun f' g3 s3 R3 e3a F3 hf=>hR f' g3 s3 R3 ((e1a.toX.trans e2a).trans e3a) F3 hf
theorem Iat (h:WhileC C k fr test body orelse m σ fl m' z'):Ex C k fr m σ (.While test body orelse p) fl m' z':=fun A env g s rm R F Q E hQ=>
  wpAny_While (h A env g s rm R F _ fun f' g' s' R' e' F' hf=>hQ f' g' s' R' e' F' hf)
theorem qct (hi:C.nm[i]?=some (x,kd))(hk:kd=.local\/kd=.cell)(hp:plain av=true){v:Value}(R:Rep C.W fr g σ s)(F:Fra C env m g s.heap)(r:RV C.W g s.heap av v){Q:Unit->Shared->Prop}(hQ:∀g' s',Rep C.W fr g' σ s'->Evo C.W (FX C.nm env) noY g s.heap g' s'.heap->Fra C env (m.set i (some av)) g' s'.heap->Q () s'):wpAny (model C.W.prog C.W.w) A (storeName env x v) Q E s:=by
  rcases hk with rfl | rfl
  . exact qbw hi (.inl hp) R F r hQ
  . exact qer hi hp R F r hQ
theorem As.name (hi:C.nm[i]?=some (x,kd))(hp:plain av=true)(hk:autoParam (kd=.local\/kd=.cell) ap1._auto_1):As C k fr m σ (.Name x p) av (m.set i (some av)) σ:=fun A env g s v rm R F r Q E hQ=>by
  show wpAny _ A (standAt p >>= fun _=>bindName env x v) Q E s;exact wpAny_bind (wpAny_standAt (wpAny_bindName (qct hi hk hp R F r fun g1 s1a R1 e1a F1=>hQ g1 s1a R1 e1a.toY F1)))
def AsL (C:Cx) (k:Nat) (fr:List Env) (m:List (Option AV)) (σ:List AObj) (ts:List Expr) (vs:List AV) (m':List (Option AV)) (z':List AObj):Prop:=
  ∀(A:Around) (env:Env) (g:Addr->Own) (s:Shared) (us:List Value),Room k fr A->Rep C.W fr g σ s->Fra C env m g s.heap->RVs C.W g s.heap vs us->∀(Q:Unit->Shared->Prop) (E:Value->Shared->Prop),
    (∀g' s',Rep C.W fr g' z' s'->Evo C.W (FX C.nm env) C.Y g s.heap g' s'.heap->Fra C env m' g' s'.heap->Q () s')->wpAny (model C.W.prog C.W.w) A (assignInOrder ((assignEach ts env).map (·.2)) us) Q E s
theorem AsL.nil:AsL C k fr m σ [] [] m σ:=fun A env g s us rm R F r Q E hQ=>wpAny_pure (hQ g s R Evo.refl F)
theorem AsL.cons {ts:List Expr}(h1:As C k fr m σ t v m1 z1)(h2:AsL C k fr m1 z1 ts vs m' z')(hp:autoParam (plains vs=true) ap0._auto_1)(he:autoParam (∀env,assignEach (t::ts) env=(false,PySem.assign t env)::assignEach ts env) ap0._auto_1):
    AsL C k fr m σ (t::ts) (v::vs) m' z':=fun A env g s us rm R F r Q E hQ=>by
  refine qa3 (r) ?_;intro u q eq_0_2 r1 r2;subst eq_0_2;rw[he];show wpAny _ A (do holding q (PySem.assign t env u);assignInOrder ((assignEach ts env).map (·.2)) q) Q E s;refine wpAny_bind (wpAny_holding (h1 A env g s u rm R F r1 _ _ fun g1 s1a R1 e1a F1=>?_));exact h2 A env g1 s1a q rm R1 F1 (r2.mono e1a F.xok vs (.inr hp) _) Q E fun g2 s2 R2 e2a F2=>hQ g2 s2 R2 (e1a.trans e2a) F2
theorem qgf (R:Rep W fr g σ s)(hs:Heap.ExtBut s.heap.objs.size s.heap h'):Rep W fr g σ { s with heap:=h' }/\Evo W noX noY g s.heap g h':=
  R.keepsAll fun a o ho=>hs a o (qh0 ho) ho
theorem As.tuple {ts:List Expr}(h:AsL C k fr m σ ts vs m' z')(hl:autoParam (∀env,(assignEach ts env).length=vs.length) ap0._auto_1)(hstar:autoParam (∀env,(assignEach ts env).findIdx? (·.1)=none) ap0._auto_1):
    As C k fr m σ (.Tuple ts n p) (.tup vs) m' z':=fun A env g s v rm R F r Q E hQ=>by
  refine qa2 (r) ?_;intro a us n' eq_1_3 hg ho hr;subst eq_1_3;refine wpAny_assign_Tuple rm.handled ⟨_,ho,rfl,n',rfl⟩ (by rw[hl,<- hr.length,Array.length_toList]) (hstar env) fun h' hs=>?_
  refine And.elim ?_ (qgf R hs);intro R1 e1a;exact h A env g _ _ rm R1 (F.up e1a) (hr.up e1a) Q E fun g2 s2 R2 e2a F2=>hQ g2 s2 R2 (e1a.no.toX.trans e2a) F2
theorem qie {names ids:List Str}{P:Prop}{U:Sem (Option (List Str))}{b1 b2 b3 b4:Bool}(h2:b2=false)(hc:b3=true\/b4=false)(hn:names.length=ids.length->names=ids/\P){r:Sem (Option (List Str))}(hr:r=(if b1=true then pure none else if b2=true then pure none else if (names.length != ids.length||names.eraseDups.length != names.length)=true then pure none else if b3=true then pure none else if b4=true then U else pure (some names))):r=pure none\/(r=pure (some ids)/\P):=by
  subst hr h2;cases b1
  . by_cases h:(names.length != ids.length||names.eraseDups.length != names.length)=true
    . exact .inl (if_pos h)
    . have hl:names.length=ids.length:=by
        rcases Nat.decEq names.length ids.length with q | q
        . exact absurd (Bool.or_eq_true_iff.mpr (.inl (bne_iff_ne.mpr q))) h
        . exact q
      cases b3
      . obtain rfl:=hc.resolve_left Bool.false_ne_true;exact .inr ⟨(if_neg h).trans (congrArg (fun x=>pure (some x)) (hn hl).1),(hn hl).2⟩
      . exact .inl (if_neg h)
  . exact .inl rfl
theorem qos {c:Str×Pos->Bool}:∀l:List (Str×Pos),(l.filterMap fun q=>if c q=true then some q.1 else none).length<=l.length/\((l.filterMap fun q=>if c q=true then some q.1 else none).length=l.length->(l.filterMap fun q=>if c q=true then some q.1 else none)=l.map (·.1)/\∀q∈l,c q=true)
  | []=>⟨Nat.le_refl _,fun _=>⟨rfl,fun _ h=>absurd h List.not_mem_nil⟩⟩
  | a::l=>by
    have ih:=qos (c:=c) l;rw[List.filterMap_cons];cases h:c a with
    | false=>
      rw[if_neg Bool.false_ne_true];exact ⟨Nat.le_succ_of_le ih.1,fun q=>absurd (Nat.lt_succ_of_le ih.1) (Nat.not_lt.mpr (Nat.le_of_eq q.symm))⟩
    | true=>
      rw[if_pos rfl];refine ⟨Nat.succ_le_succ ih.1,fun q=>?_⟩;refine And.elim ?_ (ih.2 (Nat.succ.inj q));intro h1 h2;exact ⟨congrArg (a.1 :: ·) h1,List.forall_mem_cons.mpr ⟨h,h2⟩⟩
theorem kl {b:Bool}(h:(env.kindOf x==some .local&&b)=true):env.kindOf x=some .local:=by simp at h;exact h.1
theorem qup {y:Str}{p':Pos}{e2:Expr}(hst:([e1,e2].any fun | .Starred ..=>true | _=>false)=false)(hc:([e1,e2].all (foldedForSure 8)=true)\/[e1,e2].all (constantsAlone 8)=false):
    swappedStores [.Tuple [.Name x px,.Name y py] n p] (.Tuple [e1,e2] n' p') env=pure none \/
      (swappedStores [.Tuple [.Name x px,.Name y py] n p] (.Tuple [e1,e2] n' p') env=pure (some [x,y])/\env.kindOf x=some .local/\env.kindOf y=some .local):=by
  have hf:=qos (c:=fun q=>env.kindOf q.1==some .local&&q.2.line==px.line) [(x,px),(y,py)];exact qie hst hc (fun h=>(hf.2 h).imp_right fun q=>⟨kl (q _ (.head _)),kl (q _ (.tail _ (.head _)))⟩) rfl
theorem quo {y z:Str}{pz p':Pos}{e2 e3:Expr}(hst:([e1,e2,e3].any fun | .Starred ..=>true | _=>false)=false)(hc:([e1,e2,e3].all (foldedForSure 8)=true)\/[e1,e2,e3].all (constantsAlone 8)=false):
    swappedStores [.Tuple [.Name x px,.Name y py,.Name z pz] n p] (.Tuple [e1,e2,e3] n' p') env=pure none \/
      (swappedStores [.Tuple [.Name x px,.Name y py,.Name z pz] n p] (.Tuple [e1,e2,e3] n' p') env=pure (some [x,y,z])/\env.kindOf x=some .local/\env.kindOf y=some .local/\env.kindOf z=some .local):=by
  have hf:=qos (c:=fun q=>env.kindOf q.1==some .local&&q.2.line==px.line) [(x,px),(y,py),(z,pz)];exact qie hst hc (fun h=>(hf.2 h).imp_right fun q=>⟨kl (q _ (.head _)),kl (q _ (.tail _ (.head _))),kl (q _ (.tail _ (.tail _ (.head _))))⟩) rfl
theorem qde {ts:List Expr}{tp:Pos}{value:Expr}{names:List Str}{Q:Flow->Shared->Prop}(h:wpAny (model C.W.prog C.W.w) A (eval value env) (fun v s1a=>wpAny (model C.W.prog C.W.w) A (unpackItems v names.length none) (fun items s2=>
      wpAny (model C.W.prog C.W.w) A (assignInOrder (names.reverse.map fun n=>bindName env n) items.reverse) (fun _=>Q .next) E s2) E s1a) E s)(hw:swappedStores [.Tuple ts n tp] value env=pure (some names))(hs:swapsWithSole [.Tuple ts n tp] value p.line env=pure false):
    wpAny (model C.W.prog C.W.w) A (exec (.Assign [.Tuple ts n tp] value p) env) Q E s:=Assign_Tuple_swapped h hs hw
theorem Ic9 {y:Str}{pt pd:Pos}{e2:Expr}{kx ky:NameKind}{a b:AV}(he:Ev C k fr m σ (.Tuple [e1,e2] n' pd) (.tup [a,b]) z')(hx:C.nm[i]?=some (x,kx))(hy:C.nm[j]?=some (y,ky))(hij:i≠j)(hpa:plain a=true)(hpb:plain b=true)(hkx:autoParam (kx=.local\/kx=.cell) ap1._auto_1)(hky:autoParam (ky=.local\/ky=.cell) ap1._auto_1)(hst:autoParam (([e1,e2].any fun | .Starred ..=>true | _=>false)=false) ap0._auto_1)(hc:autoParam (([e1,e2].all (foldedForSure 8) || ![e1,e2].all (constantsAlone 8))=true) ap0._auto_1):
    Ex C k fr m σ (.Assign [.Tuple [.Name x px,.Name y py] n pt] (.Tuple [e1,e2] n' pd) p) .next ((m.set i (some a)).set j (some b)) z':=fun A env g s rm R F Q E hQ=>by
  rcases qup (px:=px) (py:=py) (p:=pt) (p':=pd) (n:=n) (n':=n') (x:=x) (y:=y) (env:=env) hst (orB hc) with hw | ⟨hw,hlx,hly⟩
  . refine wpAny_Assign_stores (he A env g s rm R F _ _ fun v' g1 s1a R1 e1a rv=>?_) rfl hw;show wpAny _ A (assignAll v' [PySem.assign (.Tuple [.Name x px,.Name y py] n pt) env]) _ _ _;exact As.tuple (AsL.cons (As.name hx hpa hkx) (AsL.cons (As.name hy hpb hky) AsL.nil) (by show (plain b&&true)=true;rw[hpb];rfl)) (fun _=>rfl) (fun _=>rfl) A env g1 s1a v' rm R1 (F.up e1a) rv _ _ fun g2 s2 R2 e2a F2=>hQ _ g2 s2 R2 (e1a.toX.trans e2a) F2 rfl
  . refine qde (names:=[x,y]) (he A env g s rm R F _ _ fun v' g1 s1a R1 e1a rv=>?_) hw rfl;refine qa2 (rv) ?_;intro t us n'' eq_3_3 hg ho hr;subst eq_3_3;have hsz:us.size=2:=by rw[<- Array.length_toList,hr.length];rfl
    rw[show ([x,y]:List Str).length=us.size from hsz.symm];refine wpAny_unpackItems_tuple rm.handled ⟨_,ho,rfl,n'',rfl⟩ fun h' hs=>?_
    refine And.elim ?_ (qgf R1 hs);intro R2 e2a;have hr2a:=hr.up e2a;refine qa3 (hr2a) ?_;intro u1 q1 hu1 r1 hr1;refine qa3 (hr1) ?_;intro u2 q2 eq_6_2 r2 hr2;subst eq_6_2;obtain rfl:q2=[]:=hr2;rw[hu1];show wpAny _ A (do holding [u1] (bindName env y u2);holding [] (bindName env x u1);pure ()) _ _ _;have F2:=(F.up e1a).up e2a;refine wpAny_bind (wpAny_holding (wpAny_bindName (qct hy hky hpb R2 F2 r2 fun g3 s3 R3 e3a F3=>?_)));refine wpAny_bind (wpAny_holding (wpAny_bindName (qct hx hkx hpa R3 F3 (r1.mono e3a F2.xok a (.inr hpa) _) fun g4 s4 R4 e4 F4=>?_)));refine wpAny_pure (hQ _ g4 s4 R4 (((e1a.trans e2a.no).toX.trans e3a.toY).trans e4.toY) ?_ rfl);rw[List.set_comm _ _ hij];exact F4
theorem Icm {y z:Str}{pz pt pd:Pos}{e2 e3:Expr}{l:Nat}{kx ky kz:NameKind}{a b c:AV}(he:Ev C k fr m σ (.Tuple [e1,e2,e3] n' pd) (.tup [a,b,c]) z')(hx:C.nm[i]?=some (x,kx))(hy:C.nm[j]?=some (y,ky))(hz:C.nm[l]?=some (z,kz))(hij:i≠j)(hil:i≠l)(hjl:j≠l)(hpa:plain a=true)(hpb:plain b=true)(hpc:plain c=true)(hkx:autoParam (kx=.local\/kx=.cell) ap1._auto_1)(hky:autoParam (ky=.local\/ky=.cell) ap1._auto_1)(hkz:autoParam (kz=.local\/kz=.cell) ap1._auto_1)(hst:autoParam (([e1,e2,e3].any fun | .Starred ..=>true | _=>false)=false) ap0._auto_1)(hc:autoParam (([e1,e2,e3].all (foldedForSure 8) || ![e1,e2,e3].all (constantsAlone 8))=true) ap0._auto_1):
    Ex C k fr m σ (.Assign [.Tuple [.Name x px,.Name y py,.Name z pz] n pt] (.Tuple [e1,e2,e3] n' pd) p) .next (((m.set i (some a)).set j (some b)).set l (some c)) z':=fun A env g s rm R F Q E hQ=>by
  rcases quo (px:=px) (py:=py) (pz:=pz) (p:=pt) (p':=pd) (n:=n) (n':=n') (x:=x) (y:=y) (z:=z) (env:=env) hst (orB hc) with hw | ⟨hw,hlx,hly,hlz⟩
  . refine wpAny_Assign_stores (he A env g s rm R F _ _ fun v' g1 s1a R1 e1a rv=>?_) rfl hw;show wpAny _ A (assignAll v' [PySem.assign (.Tuple [.Name x px,.Name y py,.Name z pz] n pt) env]) _ _ _;exact As.tuple (AsL.cons (As.name hx hpa hkx) (AsL.cons (As.name hy hpb hky) (AsL.cons (As.name hz hpc hkz) AsL.nil) (by show (plain c&&true)=true;rw[hpc];rfl)) (by show (plain b&&(plain c&&true))=true;rw[hpb,hpc];rfl)) (fun _=>rfl) (fun _=>rfl) A env g1 s1a v' rm R1 (F.up e1a) rv _ _
      fun g2 s2 R2 e2a F2=>hQ _ g2 s2 R2 (e1a.toX.trans e2a) F2 rfl
  . refine qde (names:=[x,y,z]) (he A env g s rm R F _ _ fun v' g1 s1a R1 e1a rv=>?_) hw rfl;refine qa2 (rv) ?_;intro t us n'' eq_7_3 hg ho hr;subst eq_7_3;have hsz:us.size=3:=by rw[<- Array.length_toList,hr.length];rfl
    rw[show ([x,y,z]:List Str).length=us.size from hsz.symm];refine wpAny_unpackItems_tuple rm.handled ⟨_,ho,rfl,n'',rfl⟩ fun h' hs=>?_
    refine And.elim ?_ (qgf R1 hs);intro R2 e2a;have hr2a:=hr.up e2a;refine qa3 (hr2a) ?_;intro u1 q1 hu1 r1 hr1;refine qa3 (hr1) ?_;intro u2 q2 eq_10_2 r2 hr2;subst eq_10_2;refine qa3 (hr2) ?_;intro u3 q3 eq_11_2 r3 hr3;subst eq_11_2;obtain rfl:q3=[]:=hr3;rw[hu1];show wpAny _ A (do holding [u2,u1] (bindName env z u3);holding [u1] (bindName env y u2);holding [] (bindName env x u1);pure ()) _ _ _;have F2:=(F.up e1a).up e2a;refine wpAny_bind (wpAny_holding (wpAny_bindName (qct hz hkz hpc R2 F2 r3 fun g3 s3 R3 e3a F3=>?_)));refine wpAny_bind (wpAny_holding (wpAny_bindName (qct hy hky hpb R3 F3 (r2.mono e3a F2.xok b (.inr hpb) _) fun g4 s4 R4 e4 F4=>?_)));refine wpAny_bind (wpAny_holding (wpAny_bindName (qct hx hkx hpa R4 F4 ((r1.mono e3a F2.xok a (.inr hpa) _).mono e4 F3.xok a (.inr hpa) _) fun g5 s5 R5 e5 F5=>?_)));refine wpAny_pure (hQ _ g5 s5 R5 ((((e1a.trans e2a.no).toX.trans e3a.toY).trans e4.toY).trans e5.toY) ?_ rfl);rw[List.set_comm (some c) (some b) (Ne.symm hjl),List.set_comm (some c) (some a) (Ne.symm hil),List.set_comm (some b) (some a) (Ne.symm hij)] at F5;exact F5
end
end
section
theorem fn_slot_ga:Slot "function" "__getattribute__" "object.__getattribute__":=
  .of (owner := "object") (n := "__getattribute__") (by rw[typeLookup_type,builtinLookup_eq_fast];kernel_rfl) (by decide +kernel) (by decide +kernel) (by decide +kernel)
    (by first | exact .inl (by decide +kernel) | exact .inr (by decide +kernel)) (by rw[isSubtype_type];kernel_rfl)
theorem fn_slot_sa:Slot "function" "__setattr__" "object.__setattr__":=
  .of (owner := "object") (n := "__setattr__") (by rw[typeLookup_type,builtinLookup_eq_fast];kernel_rfl) (by decide +kernel) (by decide +kernel) (by decide +kernel)
    (by first | exact .inl (by decide +kernel) | exact .inr (by decide +kernel)) (by rw[isSubtype_type];kernel_rfl)
theorem qkf:typeLookup (.type "function") "__getattr__"=pure none:=by rw[typeLookup_type,builtinLookup_eq_fast];kernel_rfl
theorem qqy:mroOf (.type "function")=pure [.type "function",.type "object"]:=by rw[mroOf_type];kernel_rfl
theorem qeh:isSubtype (.type "function") (.type "module")=pure false:=by rw[isSubtype_type];kernel_rfl
theorem qdm:isSubtype (.type "list") (.type "module")=pure false:=by rw[isSubtype_type];kernel_rfl
theorem qgi:isSubtype (.type "dict") (.type "module")=pure false:=by rw[isSubtype_type];kernel_rfl
theorem qh2:typeLookup (.type "list") "tag"=pure none:=by rw[typeLookup_type,builtinLookup_eq_fast];kernel_rfl
theorem qh8:typeLookup (.type "dict") "tag"=pure none:=by rw[typeLookup_type,builtinLookup_eq_fast];kernel_rfl
section
theorem qj5 {g:Array GenState}{d:Drawn}{t:Nat}{x dx:Addr}{fd:FuncData}{mh:Str->Option Value}{name:Str}{v:Value}{fill expr:Bool}(hx:h.get? x=some { cls:=.type "function",dict:=some dx,data:=.func fd })(hn:h.Ns dx mh)(hl:typeLookup (.type "function") name=pure none)(hv:mh name=some v)(hh:handedOut v=pure v)(hq:Q v ⟨h,g,d,t,os⟩):wpAny (model prog w) A (getAttrBy (.ref x) (.str name tk) fill expr) Q E ⟨h,g,d,t,os⟩:=by
  have hT:∀tk',(⟨h,g,d,tk',os⟩:Shared).TypeIs (.ref x) "function":=fun _=>⟨_,hx,rfl⟩
  have f3:=fn_slot_ga.lookup;have f4:=fn_slot_ga.bind (.ref x);have f5:=qkf;unfold getAttrBy;repeat (any_goals (first | assumption | exact hT _ | wp_step))
  rw[if_neg (by cases expr <;> simp[onTheHeap])];repeat (any_goals (first | assumption | exact hT _ | ((with_reducible show wpAny _ _ (call (Value.builtin "object.__getattribute__") _ _) _ _ _);refine wpAny_call_entry fn_slot_ga (hT _) PySem.F.entry_object_getattribute ?_ (PySem.F.args_object_getattribute_2 _ _)) | (with_reducible refine wpAny_nsGet hn ?_;rw[hv]) | wp_step))
  refine ⟨v,rfl,?_⟩;show wpAny _ _ (handedOut v) Q E _;rw[hh];exact wpAny_pure hq
theorem qrw {x dx:Addr}{fd:FuncData}{mh:Str->Option Value}{name:Str}{v:Value}{expr:Bool}(hx:s.heap.get? x=some { cls:=.type "function",dict:=some dx,data:=.func fd })(hn:s.heap.Ns dx mh)(hl:typeLookup (.type "function") name=pure none)(hv:mh name=some v)(hh:handedOut v=pure v)(hq:Q v { s with toks:=s.toks+1 }):wpAny (model prog w) A (getAttr (.ref x) name expr) Q E s:=by
  obtain ⟨h,g,d,t,os⟩:=s;unfold getAttr;refine wpAny_bind ?_;repeat (any_goals (first | (with_reducible exact qj5 hx hn hl hv hh hq) | wp_step))
set_option maxHeartbeats 1000000 in
theorem qor {g:Array GenState}{d:Drawn}{t:Nat}{x dx:Addr}{fd:FuncData}{mh:Str->Option Value}{name:Str}(hA:A.handled=none)(hx:h.get? x=some { cls:=.type "function",dict:=some dx,data:=.func fd })(hn:h.Ns dx mh)(hl:typeLookup (.type "function") name=pure none)(hv:mh name=none)(hname:(["__module__", "__name__", "__qualname__", "__doc__", "__annotations__"]:List Str).contains name=false)(hq:∀h' tk e,Heap.NewExcOf h h' e "AttributeError"->E (.ref e) ⟨h',g,d,tk,os⟩)(hsz:name.length+100<=sizeLine):wpAny (model prog w) A (getAttrBy (.ref x) (.str name tk) false false) Q E ⟨h,g,d,t,os⟩:=by
  have hT:∀tk',(⟨h,g,d,tk',os⟩:Shared).TypeIs (.ref x) "function":=fun _=>⟨_,hx,rfl⟩
  have f1:=sub_AttributeError;have f3:=fn_slot_ga.lookup;have f4:=fn_slot_ga.bind (.ref x);have f5:=qkf;unfold getAttrBy;repeat (any_goals (first | assumption | exact hT _ | wp_step))
  refine codeAny_call_builtin fn_slot_ga.plain PySem.F.entry_object_getattribute (fn_slot_ga.check _ _ _ _ _ _ _ _ (hT _) (PySem.F.args_object_getattribute_2 _ _) ?_);show wpAny (model prog w) A.in1 (Builtin.«object.__getattribute__» ⟨[.ref x,.str name tk],[]⟩) _ _ _;unfold Builtin.«object.__getattribute__»;repeat (any_goals (first | assumption | exact hT _ | (with_reducible refine wpAny_nsGet hn ?_;rw[hv]) | wp_step))
  simp only[hname,Bool.false_eq_true,if_false];repeat (any_goals (first | assumption | exact hT _ | wp_step))
  refine wpAny_raiseAttrError hA (fun h' tk' e hx'=>?_) (PySem.attrMsg_fits (by decide +kernel) hsz);refine qgr (hx'.there) ?_;intro t' u' he;show wpAny _ _ (getattributeRaised _ _ _ _ _ _ _) _ _ _;unfold getattributeRaised;repeat (any_goals (first | assumption | wp_step))
  exact hq _ _ _ hx'.of
end
end
section
section
theorem qey {T:String}{name:Str}{id:String}{B:Builtin}{self:Value}{rest:List Value}{S:PySem.Spec}(slot:Slot T name id)(hT:s.TypeIs self T)(entry:entryFor table id=some B)(args:argsOk id ⟨self::rest,[]⟩)(g:Meets (B ⟨self::rest,[]⟩) S)(h:S A R s):codeAny (model prog w) A (.call (.builtin id) ⟨self::rest,[]⟩) R s:=
  codeAny_call_builtin slot.plain entry (slot.check _ _ _ _ _ _ _ _ hT args (g prog w A R s h))
set_option maxHeartbeats 1000000 in
theorem qk5 {g:Array GenState}{d:Drawn}{t:Nat}{xs:Array Value}{name:Str}(hA:A.handled=none)(hx:h.get? a=some (qab xs k))(hmiss:typeLookup (.type "list") name=pure none)(hname:(["__module__", "__name__", "__qualname__", "__doc__", "__annotations__"]:List Str).contains name=false)(hq:∀h' tk e,Heap.NewExcOf h h' e "AttributeError"->E (.ref e) ⟨h',g,d,tk,os⟩)(hsz:name.length+100<=sizeLine):wpAny (model prog w) A (getAttrBy (.ref a) (.str name tk) false false) Q E ⟨h,g,d,t,os⟩:=by
  have hT:∀tk',(⟨h,g,d,tk',os⟩:Shared).TypeIs (.ref a) "list":=fun _=>⟨_,hx,rfl⟩
  have f1:=sub_AttributeError;have f3:=PySem.F.slot_list_getattribute.lookup;have f4:=PySem.F.slot_list_getattribute.bind (.ref a);have f5:=am_list_getattr_none;unfold getAttrBy;repeat (any_goals (first | assumption | exact hT _ | wp_step))
  refine qey PySem.F.slot_list_getattribute (hT _) am_entry_list_getattribute (PySem.F.args_list_getattribute_2 _ _) (meets_getattribute_miss_list a xs k #[] name tk hmiss hname hsz) ⟨hx,hA,fun h' tk' e hx'=>?_⟩;refine qgr (hx'.there) ?_;intro t' u' he;show wpAny _ _ (getattributeRaised _ _ _ _ _ _ _) _ _ _;unfold getattributeRaised;repeat (any_goals (first | assumption | wp_step))
  exact hq _ _ _ hx'.of
set_option maxHeartbeats 1000000 in
theorem qko {g:Array GenState}{d:Drawn}{t:Nat}{es:Array DictEntry}{sl:Array (Option Value)}{name:Str}(hA:A.handled=none)(hx:h.get? a=some { cls:=.type "dict",dict:=none,data:=.dict es k,slots:=sl })(hmiss:typeLookup (.type "dict") name=pure none)(hname:(["__module__", "__name__", "__qualname__", "__doc__", "__annotations__"]:List Str).contains name=false)(hq:∀h' tk e,Heap.NewExcOf h h' e "AttributeError"->E (.ref e) ⟨h',g,d,tk,os⟩)(hsz:name.length+100<=sizeLine):wpAny (model prog w) A (getAttrBy (.ref a) (.str name tk) false false) Q E ⟨h,g,d,t,os⟩:=by
  have hT:∀tk',(⟨h,g,d,tk',os⟩:Shared).TypeIs (.ref a) "dict":=fun _=>⟨_,hx,rfl⟩
  have f1:=sub_AttributeError;have f3:=PySem.F.slot_dict_getattribute.lookup;have f4:=PySem.F.slot_dict_getattribute.bind (.ref a);have f5:=am_dict_getattr_none;unfold getAttrBy;repeat (any_goals (first | assumption | exact hT _ | wp_step))
  refine qey PySem.F.slot_dict_getattribute (hT _) am_entry_dict_getattribute (PySem.F.args_dict_getattribute_2 _ _) (meets_getattribute_miss_dict a es k sl name tk hmiss hname hsz) ⟨hx,hA,fun h' tk' e hx'=>?_⟩;refine qgr (hx'.there) ?_;intro t' u' he;show wpAny _ _ (getattributeRaised _ _ _ _ _ _ _) _ _ _;unfold getattributeRaised;repeat (any_goals (first | assumption | wp_step))
  exact hq _ _ _ hx'.of
theorem qiv:builtinKind "hasattr"=none:=by decide +kernel
theorem qhj:plainId "hasattr"=true:=by decide +kernel
theorem qhy:entryFor table "hasattr"=some Builtin.«hasattr»:=entryFor_of_fast (by kernel_rfl)
theorem qjk (a b:Value):argsOk "hasattr" ⟨[a,b],[]⟩:=by unfold argsOk;kernel_rfl
set_option maxHeartbeats 1000000 in
theorem qch {g:Array GenState}{d:Drawn}{t:Nat}{x:Addr}{T:String}{name:Str}(hx:h.get? x=some o)(hT:o.cls=.type T)(hm:isSubtype (.type T) (.type "module")=pure false)(hl:typeLookup (.type T) name=pure none)(hq:wpAny (model prog w) A.in1 (getAttrBy (.ref x) (.str name tk) false false) (fun v s'=>Q (.bool true) s') (fun e s'=>∃a,e=.ref a/\(∃o,s'.heap.get? a=some o/\o.cls=.type "AttributeError")/\Q (.bool false) s') ⟨h,g,d,t,os⟩):
    wpAny (model prog w) A (call (.builtin "hasattr") [.ref x,.str name tk]) Q E ⟨h,g,d,t,os⟩:=by
  obtain ⟨c,dct,dat,sl⟩:=o;simp only at hT;subst hT;have hTI:∀tk',(⟨h,g,d,tk',os⟩:Shared).TypeIs (.ref x) T:=fun _=>⟨_,hx,rfl⟩
  have f1:=sub_AttributeError;refine PySem.Calls.call_function_entry qiv qhj qhy (qjk _ _) ?_;unfold Builtin.«hasattr»;repeat (any_goals (first | assumption | exact hTI _ | ((with_reducible show wpAny _ _ (getAttrBy _ _ _ _) _ _ _);refine wpAny_mono hq (fun v s' hv=>?_) (fun e s' he=>?_)) | (obtain ⟨a,rfl,hTe,hQ⟩:=he;have hTe':s'.TypeIs (.ref a) "AttributeError":=hTe;clear hTe) | wp_step))
  . exact ⟨_,rfl,hv⟩
  . exact ⟨_,rfl,hQ⟩
end
end
section
open PySem.Builtin PySem.Builtin.ObjectAttr
section
theorem qj4 (self:Value):refuseLoop self "__setattr__" [.type "function",.type "object"]=pure ():=by
  kernel_rfl
theorem qph (a b c:Value):argsOk "object.__setattr__" ⟨[a,b,c],[]⟩:=PySem.F.store_object.args a b c
set_option maxHeartbeats 1000000 in
theorem qhv {g:Array GenState}{d:Drawn}{t:Nat}{x:Addr}{fd:FuncData}{name:Str}{v:Value}{Q:Unit->Shared->Prop}(hx:h.get? x=some { cls:=.type "function",data:=.func fd })(hl:typeLookup (.type "function") name=pure none)(hq:∀h' tk',h'.get? x=some { cls:=.type "function",dict:=some h.objs.size,data:=.func fd }->h'.Ns1 h.objs.size (fun y=>if y=name then some v else none) ->
      (∀b o,b≠x->h.get? b=some o->h'.get? b=some o)->Q () ⟨h',g,d,tk',os⟩):wpAny (model prog w) A (setAttr (.ref x) name v) Q E ⟨h,g,d,t,os⟩:=by
  have hT:∀tk',(⟨h,g,d,tk',os⟩:Shared).TypeIs (.ref x) "function":=fun _=>⟨_,hx,rfl⟩
  have f2:=fn_slot_sa.lookup;have f3:=fn_slot_sa.bind (.ref x);have hm:=qqy;have hpass:=qj4 (.ref x);unfold setAttr callSpecial? specialOf;repeat (any_goals (first | assumption | exact hT _ | wp_step))
  refine codeAny_call_builtin fn_slot_sa.plain PySem.F.store_object.entry (fn_slot_sa.check _ _ _ _ _ _ _ _ (hT _) (qph _ _ _) ?_);show wpAny (model prog w) A.in1 (Builtin.«object.__setattr__» ⟨[.ref x,.str name t,v],[]⟩) _ _ _;unfold Builtin.«object.__setattr__»;repeat (any_goals ((fail_if_success (with_reducible show wpAny _ _ (storeInDict _ _ _ _) _ _ _));(first | assumption | exact hT _ | rw[refuse_eq] | rw[hpass] | wp_step)))
  have hxs:x≠h.objs.size:=Nat.ne_of_lt (Heap.lt_size hx);have hx1:(h.push { cls:=.type "dict",data:=.dict #[] }).get? x=some { cls:=.type "function",data:=.func fd }:=Heap.get?_push_of_some _ hx;show wpAny _ _ (storeInDict h.objs.size (.str name t) name v) _ _ _;unfold storeInDict newKeyGuard;have hgd:((h.push { cls:=.type "dict",data:=.dict #[] }).update x fun o=>{ cls:=o.cls,dict:=some h.objs.size,data:=o.data,slots:=o.slots }).get? h.objs.size
      = some { cls:=.type "dict",data:=.dict #[] }:=
    (Heap.get?_update_ne _ _ _ _ hxs.symm).trans (Heap.get?_push_at rfl rfl)
  have hnd:((h.push { cls:=.type "dict",data:=.dict #[] }).update x fun o=>{ cls:=o.cls,dict:=some h.objs.size,data:=o.data,slots:=o.slots }).Ns h.objs.size (fun _=>none):=
    ⟨_,#[],_,hgd,rfl,fun e he=>absurd he (by simp),fun _=>rfl⟩
  refine wpAny_bind (wpAny_pure (wpAny_bind (wpAny_nsSet1 (Heap.Ns1.of_empty hnd) fun h' hn' hs=>?_)));refine qav (hn'.count (Within.cons name v Within.nil)) ?_;intro oD esD epD hoD hdD hcD;refine wpAny_bind (wpAny_lookBehind hoD (by rw[hdD];exact pastItsLine_dict (Nat.le_trans hcD (by rw[List.length_cons,List.length_nil,sizeLine_eq];simp +arith))) ?_);have hx':h'.get? x=some { cls:=.type "function",dict:=some h.objs.size,data:=.func fd }:=(hs.2 x hxs).trans (Heap.get?_update_self _ hx1 rfl);repeat (any_goals (first | assumption | wp_step))
  exact hq h' _ hx' hn' fun b o hb ho=>(hs.2 b (Nat.ne_of_lt (Heap.lt_size ho))).trans ((Heap.get?_update_ne _ _ _ _ hb).trans (Heap.get?_push_of_some _ ho))
set_option maxHeartbeats 1000000 in
theorem qhu {g:Array GenState}{d:Drawn}{t:Nat}{x dx:Addr}{fd:FuncData}{name:Str}{v:Value}{mh:Str->Option Value}{ns:List Str}{Q:Unit->Shared->Prop}(hx:h.get? x=some { cls:=.type "function",dict:=some dx,data:=.func fd })(hn:h.Ns1 dx mh)(hl:typeLookup (.type "function") name=pure none)(hq:∀h' tk',h'.Ns1 dx (fun y=>if y=name then some v else mh y) ->
      (∀b o,b≠dx->h.get? b=some o->h'.get? b=some o)->Q () ⟨h',g,d,tk',os⟩)(hw:Within mh ns)(hsz:ns.length+1<=sizeLine):wpAny (model prog w) A (setAttr (.ref x) name v) Q E ⟨h,g,d,t,os⟩:=by
  have hT:∀tk',(⟨h,g,d,tk',os⟩:Shared).TypeIs (.ref x) "function":=fun _=>⟨_,hx,rfl⟩
  have f2:=fn_slot_sa.lookup;have f3:=fn_slot_sa.bind (.ref x);have hm:=qqy;have hpass:=qj4 (.ref x);unfold setAttr callSpecial? specialOf;repeat (any_goals (first | assumption | exact hT _ | wp_step))
  refine codeAny_call_builtin fn_slot_sa.plain PySem.F.store_object.entry (fn_slot_sa.check _ _ _ _ _ _ _ _ (hT _) (qph _ _ _) ?_);show wpAny (model prog w) A.in1 (Builtin.«object.__setattr__» ⟨[.ref x,.str name t,v],[]⟩) _ _ _;unfold Builtin.«object.__setattr__»;repeat (any_goals ((fail_if_success (with_reducible show wpAny _ _ (storeInDict _ _ _ _) _ _ _));(first | assumption | exact hT _ | rw[refuse_eq] | rw[hpass] | wp_step)))
  show wpAny _ _ (storeInDict dx (.str name t) name v) _ _ _;unfold storeInDict newKeyGuard;refine wpAny_bind (wpAny_pure (wpAny_bind (wpAny_nsSet1 hn fun h' hn' hs=>?_)));refine qav (hn'.count (Within.cons name v hw)) ?_;intro oD esD epD hoD hdD hcD;refine wpAny_bind (wpAny_lookBehind hoD (by rw[hdD];exact pastItsLine_dict (Nat.le_trans hcD (by rw[List.length_cons];lia))) ?_);repeat (any_goals (first | assumption | wp_step))
  exact hq h' _ hn' fun b o hb ho=>(hs.2 b hb).trans ho
end
end
section
noncomputable def qlb:AV->Bool
  | .glob (.ref _)=>true
  | .glob _=>false
  | .any=>false
  | _=>true
theorem qnt {v:Value}(r:RV W g h av v)(ho:qlb av=true):handedOut v=pure v:=by
  cases av with
  | none=>obtain rfl:v=.none:=r;rfl
  | bool b=>obtain rfl:v=.bool b:=r;rfl
  | int i=>obtain ⟨t,rfl⟩:=r;rfl
  | str x=>obtain ⟨t,rfl⟩:=r;rfl
  | tup l=>refine qbu (r) ?_;intro a vs n eq_2_3 _;subst eq_2_3;rfl
  | lst l=>refine qbu (r) ?_;intro a vs n eq_3_3 _;subst eq_3_3;rfl
  | loc n=>refine qa4 (r) ?_;intro a eq_4_1 _;subst eq_4_1;rfl
  | glob w=>
    obtain rfl:v=w:=r;cases v <;> first | rfl | (cases (ho:false=true))
  | bound f s=>refine qcw (r) ?_;intro a u eq_5_2 _;subst eq_5_2;rfl
  | clo l ns cs=>refine qbu (r) ?_;intro a fd vs eq_6_3 _;subst eq_6_3;rfl
  | any=>cases (ho:false=true)
theorem qep:∀{attrs:List Str} {vals:List AV} {vs:List Value} {av:AV},RVs W g h vals vs->(attrs.zip vals).lookup x=some av->∃v,(attrs.zip vs).lookup x=some v/\RV W g h av v
  | [],_,_,_,_,hl=>by simp at hl
  | _::_,[],_,_,_,hl=>by simp at hl
  | y::attrs,a::vals,vs,av,r,hl=>by
    refine qa3 (r) ?_;intro v q eq_7_2 r1 r2;subst eq_7_2;rw[List.zip_cons_cons,List.lookup_cons] at hl ⊢;cases hb:x==y with
    | true=>rw[hb] at hl;obtain rfl:=Sj hl;exact ⟨v,rfl,r1⟩
    | false=>rw[hb] at hl;exact qep r2 hl
section
theorem qgh (R:Rep W fr g σ s)(hn:σ[n]?=some (.elem attrs vals))(ra:RV W g s.heap (.loc n) va):
    ∃a fd d mh vs,va=.ref a/\g a=.loc n/\s.heap.get? a=some { cls:=.type "function",dict:=some d,data:=.func fd }/\g d=.aux n/\s.heap.Ns1 d mh/\RVs W g s.heap vals vs/\(∀x,mh x=(attrs.zip vs).lookup x)/\attrs.length=vs.length:=by
  refine qa4 (ra) ?_;intro a eq_8_1 hg;subst eq_8_1;refine qhm (R.locs n _ hn) ?_;intro a' hg' fd d mh vs h1 h2 h3 h4 h5 h6;have:a'=a:=R.uniq _ _ _ hg' hg;subst this;exact ⟨a',fd,d,mh,vs,rfl,hg,h1,h2,h3,h4,h5,h6⟩
theorem qj8 {ex:Bool}(R:Rep W fr g σ s)(hn:σ[n]?=some (.elem attrs vals))(ra:RV W g s.heap (.loc n) va)(hx:(attrs.zip vals).lookup x=some av)(ho:qlb av=true)(hl:typeLookup (.type "function") x=pure none)(hQ:∀v s',Rep W fr g σ s'->s'.heap=s.heap->RV W g s'.heap av v->Q v s'):wpAny (model W.prog W.w) A (getAttr va x ex) Q E s:=by
  refine qbj (qgh R hn ra) ?_;intro a fd d mh vs eq_10_5 hg h1 h2 h3 h4 h5 h6;subst eq_10_5;refine qa4 (qep h4 hx) ?_;intro v hv rv;exact qrw h1 h3.ns hl (by rw[h5];exact hv) (qnt rv ho) (hQ v _ (R.tok _) rfl rv)
theorem Iah (he:Ev C k fr m σ e (.loc n) z')(hn:z'[n]?=some (.elem attrs vals))(hx:(attrs.zip vals).lookup x=some av)(hl:typeLookup (.type "function") x=pure none)(ho:autoParam (qlb av=true) ap0._auto_1)(hb:autoParam (∀env w,attributeBase e x env w=w) ap0._auto_1):Ev C k fr m σ (.Attribute e x p) av z':=fun A env g s rm R F Q E hQ=>by
  rw[arm_eval_Attribute,hb];refine wpAny_bind (he A env g s rm R F _ _ fun va g1 s1a R1 e1a ra=>?_);refine wpAny_bind (wpAny_standAt (wpAny_bind (wpAny_holding (qj8 R1 hn ra hx ho hl fun v s2 R2 h2a rv=>?_))));refine wpAny_bind (wpAny_letTemporaryGo (wpAny_pure ?_));exact hQ v g1 s2 R2 (by rw[h2a];exact e1a) rv
def MethOk (W:Wd) (fr:List Env) (σ:List AObj) (a:AV) (x:Str) (f:AV) (first:List AV):Prop:=
  ∀(A:Around) (g:Addr->Own) (s:Shared) (va:Value) (pl:Sem Bool) (Q:Value×List Value->Shared->Prop) (E:Value->Shared->Prop),Rep W fr g σ s->RV W g s.heap a va ->
    (∀vf fs s',Rep W fr g σ s'->s'.heap=s.heap->RV W g s'.heap f vf->RVs W g s'.heap first fs->Q (vf,fs) s')->wpAny (model W.prog W.w) A (getMethod va x pl) Q E s
theorem Iam {pl:Env->Sem Bool}{o:Expr}{a f:AV}{first:List AV}(he:Ev C k fr m σ o a z1)(hm:MethOk C.W fr z1 a x f first)(hf:Kept C.W f)(ha:Evs C k fr m z1 es args z2)(hc:Calls C.W C.Y k fr z2 f (first++args) [] [] v z')(hpl:autoParam (∀env p,(backTo p (starEach es env)).any (·.1)=false) ap0._auto_1)(he':autoParam (∀env,eval (.Call (.Attribute o x q) es [] p) env=(do
      let ov <- eval o env
      standAt q.atName
      let (f,first) <- holding [ov] (getMethod ov x (pl env))
      callWith p f first (backTo p (starEach es env)) [])) ap0._auto_1):Ev C k fr m σ (.Call (.Attribute o x q) es [] p) v z':=fun A env g s rm R F Q E hQ=>by
  refine MethodCall_ (pl:=pl env) ?_ (he' env);refine he A env g s rm R F _ _ fun va g1 s1a R1 e1a ra=>?_
  refine hm A g1 s1a va (pl env) _ _ R1 ra (fun vf fs s2 R2 h2a rf rs=>?_);have e2a:Evo C.W noX C.Y g s.heap g1 s2.heap:=by rw[h2a];exact e1a
  exact qgj (kws:=[]) (p':=p) hf ha EvK.nil hc hpl rm R2 (F.up e2a) rf rs fun v' g3 s3 R3 e3a r3=>hQ v' g3 s3 R3 (e2a.trans e3a) r3
theorem MethOk.list {a:AV}{id:String}(hL:Lv σ a l)(slot:Slot "list" x id)(hty:typeOf (.builtin id)=pure (.type "method_descriptor"):=by first | rfl | decide +kernel | kernel_rfl):MethOk W fr σ a x (.glob (.builtin id)) [a]:=
  fun A g s va pl Q E R ra hQ=>by
  refine qa2 (hL.at R ra) ?_;intro b vs n eq_12_3 ho hr _;subst eq_12_3;refine getMethod_builtin (qam ho).typeIs PySem.F.plainAttrs_list slot hty (fun a e=>by cases e;exact ⟨_,ho,rfl⟩) ?_;exact hQ _ _ s R rfl rfl ⟨_,[],rfl,ra,rfl⟩
theorem qq9:(Manifest.canonical "object.__getattribute__" != "object.__getattribute__")=false:=by decide +kernel
theorem MethOk.elem (hn:σ[n]?=some (.elem attrs vals))(hx:(attrs.zip vals).lookup x=some av)(hl:typeLookup (.type "function") x=pure none)(ho:autoParam (qlb av=true) ap0._auto_1):MethOk W fr σ (.loc n) x av []:=
  fun A g s va pl Q E R ra hQ=>by
  refine qbj (qgh R hn ra) ?_;intro a fd d mh vs eq_13_5 hg h1 h2 h3 h4 h5 h6;subst eq_13_5;have hT:s.TypeIs (.ref a) "function":=⟨_,h1,rfl⟩
  unfold getMethod;refine wpAny_bind (wpAny_specialOf hT fn_slot_ga.lookup ?_);show wpAny _ A (if (Manifest.canonical "object.__getattribute__" != "object.__getattribute__")=true then _ else _) Q E s;rw[qq9,if_neg Bool.false_ne_true];refine wpAny_bind (wpAny_specialOf hT qkf ?_);refine wpAny_bind (wpAny_specialOf hT hl ?_);show wpAny _ A (do return (<- getAttr (.ref a) x,[])) Q E s;exact wpAny_bind (qj8 R hn ra hx ho hl fun v s2 R2 h2a rv=>wpAny_pure (hQ v [] s2 R2 h2a rv rfl))
theorem MethOk.intBits {i:Int}:MethOk W fr σ (.int i) (Str.ofString "bit_length") (.glob (.builtin "int.bit_length")) [.int i]:=fun A g s va pl Q E R ra hQ=>by
  obtain ⟨t,rfl⟩:=ra;exact getMethod_int_bit_length (hQ _ _ s R rfl rfl ⟨_,[],rfl,⟨t,rfl⟩,rfl⟩)
end
end
section
section
theorem qgv {α:Type}{vs:List Value}:Within (fun x=>(attrs.zip vs).lookup x) attrs:=by
  intro y hy;have:∀(attrs:List Str) (vs:List Value),(attrs.zip vs).lookup y≠none->y∈attrs:=by
    intro attrs;induction attrs with
    | nil=>intro vs h;simp at h
    | cons z attrs ih=>
      intro vs h;cases vs with
      | nil=>simp at h
      | cons v vs=>
        rw[List.zip_cons_cons,List.lookup_cons] at h;cases hb:y==z with
        | true=>simp at hb;rw[hb];exact List.mem_cons_self
        | false=>rw[hb] at h;exact List.mem_cons_of_mem _ (ih vs h)
  exact this attrs vs hy
theorem qna {v:Value}(R:Rep W fr g σ s)(hn:σ[n]?=some .fn0)(ra:RV W g s.heap (.loc n) va)(rv:RV W g s.heap av v)(hp:plain av=true)(hl:typeLookup (.type "function") x=pure none){Q:Unit->Shared->Prop}(hQ:∀g' s',Rep W fr g' (σ.set n (.elem [x] [av])) s'->Evo W noX (·=n) g s.heap g' s'.heap->Q () s'):wpAny (model W.prog W.w) A (setAttr va x v) Q E s:=by
  refine qa4 (ra) ?_;intro a eq_0_1 hg;subst eq_0_1;refine qur (R.locs n _ hn) ?_;intro a' hg' fd h1;have:a'=a:=R.uniq _ _ _ hg' hg;subst this;refine qhv h1 hl fun h' tk' h2 h3 h4=>?_
  have htop:s.heap.get? s.heap.objs.size=none:=qak _;have hne:∀b o,s.heap.get? b=some o->b≠s.heap.objs.size:=fun b o ho q=>by rw[q,htop] at ho;cases ho
  have hk:∀b o,s.heap.get? b=some o->g b≠.loc n->g b≠.aux n->h'.get? b=some o:=fun b o ho q _=>h4 b o (fun q'=>q (by rw[q'];exact hg)) ho
  have e:=Evo.setLoc (g':=qc9 g s.heap.objs.size (.aux n)) R (n:=n) (fun b o ho=>qa9 (hne b o ho)) hk;have hd:∃o,h'.get? s.heap.objs.size=some o:=by refine qbu (h3) ?_;intro o _ _ q _;exact ⟨o,q⟩
  refine hQ _ _ (R.setLoc (ao':=.elem [x] [av]) tk' hn (fun b o ho=>qa9 (hne b o ho)) (fun b hb=>?_) hk (fun b o ho hq=>?_) (by show (plain av&&true)=true;rw[hp];rfl) (fun b hb=>?_)) e
  . by_cases q:b=s.heap.objs.size
    . subst q;exact .inr ⟨.inl qa5,hd⟩
    . rw[qa9 q];exact .inl (R.newO hb)
  . by_cases q:b=a'
    . subst q;exact ⟨_,h2⟩
    . exact ⟨o,h4 b o q ho⟩
  . have:b=a':=R.uniq _ _ _ hb hg;subst this;exact ⟨fd,_,_,[v],h2,qa5,h3,⟨v,[],rfl,rv.up e,rfl⟩,fun y=>by
      rw[List.zip_cons_cons,List.lookup_cons];by_cases q:y=x
      . subst q;simp
      . have:(y==x)=false:=by simpa using q
        rw[this,if_neg q];rfl,rfl⟩
theorem qm3 {v:Value}(R:Rep W fr g σ s)(hn:σ[n]?=some (.elem attrs vals))(ra:RV W g s.heap (.loc n) va)(rv:RV W g s.heap av v)(hp:plain av=true)(hl:typeLookup (.type "function") x=pure none)(hz:attrs.length+1<=sizeLine){Q:Unit->Shared->Prop}(hQ:∀g' s',Rep W fr g' (σ.set n (.elem (x::attrs) (av::vals))) s'->Evo W noX (·=n) g s.heap g' s'.heap->Q () s'):wpAny (model W.prog W.w) A (setAttr va x v) Q E s:=by
  refine qbj (qgh R hn ra) ?_;intro a fd d mh vs eq_3_5 hg h1 h2 h3 h4 h5 h6;subst eq_3_5;have hmh:mh=fun y=>(attrs.zip vs).lookup y:=funext h5
  subst hmh;refine qhu h1 h3 hl (fun h' tk' h7 h8=>?_) (qgv (α:=Unit)) hz;have hda:a≠d:=fun q=>by rw[q,h2] at hg;cases hg
  have hk:∀b o,s.heap.get? b=some o->g b≠.loc n->g b≠.aux n->h'.get? b=some o:=fun b o ho _ q=>h8 b o (fun q'=>q (by rw[q'];exact h2)) ho
  have e:=Evo.setLoc (g':=g) R (n:=n) (fun b o ho=>rfl) hk;have hd:∃o,h'.get? d=some o:=by refine qbu (h7) ?_;intro o _ _ q _;exact ⟨o,q⟩
  refine hQ _ _ (R.setLoc (ao':=.elem (x::attrs) (av::vals)) tk' hn (fun b o ho=>rfl) (fun b hb=>.inl (R.newO hb)) hk (fun b o ho hq=>?_) ?_ (fun b hb=>?_)) e
  . by_cases q:b=d
    . subst q;exact hd
    . exact ⟨o,h8 b o q ho⟩
  . have:=R.pl n _ hn;show (plain av&&plains vals)=true;rw[hp];exact this
  . have:b=a:=R.uniq _ _ _ hb hg;subst this;exact ⟨fd,d,_,v::vs,h8 b _ hda h1,h2,h7,⟨v,vs,rfl,rv.up e,h4.up e⟩,fun y=>by
      rw[List.zip_cons_cons,List.lookup_cons];by_cases q:y=x
      . subst q;simp
      . have:(y==x)=false:=by simpa using q
        rw[this,if_neg q],by simp[h6]⟩
theorem Evo.toN (e:Evo W noX (·=n) g h g' h')(hY:Y n):Evo W noX Y g h g' h':=e.wk fun m q=>q ▸ hY
theorem Ict {o:Expr}(he:Ev C k fr m σ o (.loc n) z1)(hn:z1[n]?=some .fn0)(hl:typeLookup (.type "function") x=pure none)(hY:C.Y n)(hp:autoParam (plain av=true) ap0._auto_1):
    As C k fr m σ (.Attribute o x p) av m (z1.set n (.elem [x] [av])):=fun A env g s v rm R F rv Q E hQ=>by
  rw[arm_assign_Attribute];refine wpAny_bind (wpAny_holding (he A env g s rm R F _ _ fun va g1 s1a R1 e1a ra=>?_));refine wpAny_bind (wpAny_standAt (wpAny_bind (wpAny_holding (qna R1 hn ra (rv.up e1a) hp hl fun g2 s2 R2 e2a=>?_))));have e:=e1a.trans (e2a.toN hY);exact wpAny_release (hQ g2 s2 R2 e.toX (F.up e))
theorem Iby {o:Expr}(he:Ev C k fr m σ o (.loc n) z1)(hn:z1[n]?=some (.elem attrs vals))(hl:typeLookup (.type "function") x=pure none)(hY:C.Y n)(hp:autoParam (plain av=true) ap0._auto_1)(hz:autoParam (attrs.length+1<=sizeLine) ap2._auto_1):
    As C k fr m σ (.Attribute o x p) av m (z1.set n (.elem (x::attrs) (av::vals))):=fun A env g s v rm R F rv Q E hQ=>by
  rw[arm_assign_Attribute];refine wpAny_bind (wpAny_holding (he A env g s rm R F _ _ fun va g1 s1a R1 e1a ra=>?_));refine wpAny_bind (wpAny_standAt (wpAny_bind (wpAny_holding (qm3 R1 hn ra (rv.up e1a) hp hl hz fun g2 s2 R2 e2a=>?_))));have e:=e1a.trans (e2a.toN hY);exact wpAny_release (hQ g2 s2 R2 e.toX (F.up e))
theorem qk4 (R:Rep W fr g σ s){e:Addr}(hx:Heap.NewExcOf s.heap h' e "AttributeError")(tk:Nat):Rep W fr g σ { s with heap:=h',toks:=tk }/\Evo W noX noY g s.heap g h':=R.keeps tk hx.keeps
theorem Ibq (hn:σ[n]?=some (.elem attrs vals))(hx:(attrs.zip vals).lookup x=some av)(ho:qlb av=true)(hl:typeLookup (.type "function") x=pure none):
    Calls W Y k fr σ (.glob (.builtin "hasattr")) [.loc n,.str x] [] [] (.bool true) σ:=fun A g s vf us ks rm R rf ru rk Q E hQ=>by
  obtain rfl:vf=.builtin "hasattr":=rf;refine qa3 (ru) ?_;intro v1 q1 eq_5_2 r1 q;subst eq_5_2;refine qa3 (q) ?_;(try clear q);intro v2 q2 eq_6_2 ne_6_3 q;subst eq_6_2;obtain ⟨t,rfl⟩:=ne_6_3;obtain rfl:q2=[]:=q;refine qbj (qgh R hn r1) ?_;intro a fd d mh vs eq_7_5 hg h1 h2 h3 h4 h5 h6;subst eq_7_5;refine qa4 (qep h4 hx) ?_;intro v hv rv;refine qch h1 rfl qeh hl (qj5 h1 h3.ns hl (by rw[h5];exact hv) (qnt rv ho) ?_);exact hQ _ g s R Evo.refl rfl
theorem Id1 (hn:σ[n]?=some (.elem attrs vals))(hx:x∉attrs)(hl:typeLookup (.type "function") x=pure none)(hnm:(["__module__", "__name__", "__qualname__", "__doc__", "__annotations__"]:List Str).contains x=false)(hz:x.length+100<=sizeLine):
    Calls W Y k fr σ (.glob (.builtin "hasattr")) [.loc n,.str x] [] [] (.bool false) σ:=fun A g s vf us ks rm R rf ru rk Q E hQ=>by
  obtain rfl:vf=.builtin "hasattr":=rf;refine qa3 (ru) ?_;intro v1 q1 eq_9_2 r1 q;subst eq_9_2;refine qa3 (q) ?_;(try clear q);intro v2 q2 eq_10_2 ne_10_3 q;subst eq_10_2;obtain ⟨t,rfl⟩:=ne_10_3;obtain rfl:q2=[]:=q;refine qbj (qgh R hn r1) ?_;intro a fd d mh vs eq_11_5 hg h1 h2 h3 h4 h5 h6;subst eq_11_5;have hv:mh x=none:=by
    cases hq:mh x with
    | none=>rfl
    | some v=>rw[h5] at hq;exact absurd (qgv (α:=Unit) (vs:=vs) x (by show List.lookup x (attrs.zip vs)≠none;rw[hq];simp)) hx
  refine qch h1 rfl qeh hl (qor rm.handled h1 h3.ns hl hv hnm (fun h' tk e hx'=>?_) hz);obtain ⟨R',e'⟩:=qk4 R hx' tk;exact ⟨e,rfl,(by refine qa3 (hx'.there) ?_;intro ob _ q1 q2 _;exact ⟨ob,q1,q2⟩),hQ _ g _ R' e'.no rfl⟩
theorem Ice (hL:Lv σ v l):
    Calls W Y k fr σ (.glob (.builtin "hasattr")) [v,.str "tag"] [] [] (.bool false) σ:=fun A g s vf us ks rm R rf ru rk Q E hQ=>by
  obtain rfl:vf=.builtin "hasattr":=rf;refine qa3 (ru) ?_;intro v1 q1 eq_14_2 r1 q;subst eq_14_2;refine qa3 (q) ?_;(try clear q);intro v2 q2 eq_15_2 ne_15_3 q;subst eq_15_2;obtain ⟨t,rfl⟩:=ne_15_3;obtain rfl:q2=[]:=q;refine qa2 (hL.at R r1) ?_;intro a vs n eq_16_3 ho hr _;subst eq_16_3;refine qch ho rfl qdm qh2 (qk5 rm.handled ho qh2 (by decide) (fun h' tk e hx'=>?_) (by decide));obtain ⟨R',e'⟩:=qk4 R hx' tk;exact ⟨e,rfl,(by refine qa3 (hx'.there) ?_;intro ob _ q1 q2 _;exact ⟨ob,q1,q2⟩),hQ _ g _ R' e'.no rfl⟩
end
end
section
mutual
noncomputable def toP:AV->PyData
  | .none=>.none
  | .bool b=>.bool b
  | .int i=>.int i
  | .str x=>.str x
  | .tup l=>.tuple (qgn l)
  | .lst l=>.list (qgn l)
  | _=>.none
termination_by structural x=>x
noncomputable def qgn:List AV->List PyData
  | []=>[]
  | a::l=>toP a::qgn l
termination_by structural x=>x
end
mutual
noncomputable def isD:AV->Bool
  | .none=>true
  | .int _=>true
  | .str x=>PyData.strOk x
  | .tup l=>qix l
  | .lst l=>qix l
  | _=>false
termination_by structural x=>x
noncomputable def qix:List AV->Bool
  | []=>true
  | a::l=>isD a&&qix l
termination_by structural x=>x
end
mutual
theorem RV.reads:(av:AV)->isD av=true->(v:Value)->RV W g h av v->∃as,Reads h v (toP av) as
  | .none,_,v,r=>by obtain rfl:v=.none:=r;exact ⟨_,.none⟩
  | .int i,_,v,r=>by obtain ⟨t,rfl⟩:=r;exact ⟨_,.int i t⟩
  | .str x,_,v,r=>by obtain ⟨t,rfl⟩:=r;exact ⟨_,.str x t⟩
  | .tup l,hd,v,r=>by
    refine qa2 (r) ?_;intro a vs n eq_2_3 hg ho hr;subst eq_2_3;obtain ⟨as,q⟩:=RVs.reads l hd _ hr;exact ⟨_,.tuple ho rfl rfl q⟩
  | .lst l,hd,v,r=>by
    refine qa2 (r) ?_;intro a vs n eq_4_3 hg ho hr;subst eq_4_3;obtain ⟨as,q⟩:=RVs.reads l hd _ hr;exact ⟨_,.list ho rfl rfl q⟩
  | .bool b,hd,_,_=>by cases (hd:false=true)
  | .loc n,hd,_,_=>by cases (hd:false=true)
  | .glob w,hd,_,_=>by cases (hd:false=true)
  | .bound f s,hd,_,_=>by cases (hd:false=true)
  | .clo l ns cs,hd,_,_=>by cases (hd:false=true)
  | .any,hd,_,_=>by cases (hd:false=true)
termination_by structural x=>x
theorem RVs.reads:(l:List AV)->qix l=true->(vs:List Value)->RVs W g h l vs->∃as,ReadsAll h vs (qgn l) as
  | [],_,vs,r=>by obtain rfl:vs=[]:=r;exact ⟨_,.nil⟩
  | a::l,hd,vs,r=>by
    refine qa3 (r) ?_;intro v q eq_6_2 r1 r2;subst eq_6_2;have hd':(isD a&&qix l)=true:=hd;rw[Bool.and_eq_true] at hd';refine Exists.elim (RV.reads a hd'.1 _ r1) ?_;intro as q1;refine Exists.elim (RVs.reads l hd'.2 _ r2) ?_;intro bs q2;exact ⟨_,.cons q1 q2⟩
termination_by structural x=>x
end
mutual
theorem qfl:(av:AV)->isD av=true->(toP av).canLay0=true
  | .none,_=>by simp[toP,PyData.canLay0]
  | .int i,_=>by simp[toP,PyData.canLay0]
  | .str x,h=>by simp[toP,PyData.canLay0];exact h
  | .tup l,h=>by simp only[toP,PyData.canLay0];exact qel l h
  | .lst l,h=>by simp only[toP,PyData.canLay0];exact qel l h
  | .bool b,hd=>by cases (hd:false=true)
  | .loc n,hd=>by cases (hd:false=true)
  | .glob w,hd=>by cases (hd:false=true)
  | .bound f s,hd=>by cases (hd:false=true)
  | .clo l ns cs,hd=>by cases (hd:false=true)
  | .any,hd=>by cases (hd:false=true)
termination_by structural x=>x
theorem qel:(l:List AV)->qix l=true->PyData.canLayAll0 (qgn l)=true
  | [],_=>by simp[qgn,PyData.canLayAll0]
  | a::l,h=>by
    have hd':(isD a&&qix l)=true:=h;rw[Bool.and_eq_true] at hd';simp only[qgn,PyData.canLayAll0,qfl a hd'.1,qel l hd'.2,Bool.and_self]
termination_by structural x=>x
end
mutual
theorem qoz:(a b:AV)->isD a=true->isD b=true->(PyData.eqv (toP a) (toP b)=true↔a=b)
  | .none,b,ha,hb=>by cases b <;> first | (cases (hb:false=true)) | simp[toP,PyData.eqv]
  | .int i,b,ha,hb=>by cases b <;> first | (cases (hb:false=true)) | simp[toP,PyData.eqv]
  | .str x,b,ha,hb=>by cases b <;> first | (cases (hb:false=true)) | simp[toP,PyData.eqv]
  | .tup l,b,ha,hb=>by
    cases b with
    | tup l'=>simp only[toP,PyData.eqv,AV.tup.injEq];exact qoy l l' ha hb
    | _=>first | (cases (hb:false=true)) | simp[toP,PyData.eqv]
  | .lst l,b,ha,hb=>by
    cases b with
    | lst l'=>simp only[toP,PyData.eqv,AV.lst.injEq];exact qoy l l' ha hb
    | _=>first | (cases (hb:false=true)) | simp[toP,PyData.eqv]
  | .bool b,_,hd,_=>by cases (hd:false=true)
  | .loc n,_,hd,_=>by cases (hd:false=true)
  | .glob w,_,hd,_=>by cases (hd:false=true)
  | .bound f s,_,hd,_=>by cases (hd:false=true)
  | .clo l ns cs,_,hd,_=>by cases (hd:false=true)
  | .any,_,hd,_=>by cases (hd:false=true)
termination_by structural x=>x
theorem qoy:(l l':List AV)->qix l=true->qix l'=true->(PyData.eqvAll (qgn l) (qgn l')=true↔l=l')
  | [],l',ha,hb=>by cases l' <;> simp[qgn,PyData.eqvAll]
  | a::l,l',ha,hb=>by
    cases l' with
    | nil=>simp[qgn,PyData.eqvAll]
    | cons b l'=>
      have ha':(isD a&&qix l)=true:=ha;have hb':(isD b&&qix l')=true:=hb;rw[Bool.and_eq_true] at ha' hb';simp only[qgn,PyData.eqvAll,Bool.and_eq_true,List.cons.injEq,qoz a b ha'.1 hb'.1,qoy l l' ha'.2 hb'.2]
termination_by structural x=>x
end
def Dv (σ:List AObj) (a d:AV):Prop:=(a=d\/∃(n:Nat) (l:List AV),a=.loc n/\σ[n]?=some (.lst l)/\d=.lst l)/\isD d=true/\(toP d).depth<=64
section
theorem Dv.reads {a d:AV}{v:Value}(D:Dv σ a d)(R:Rep W fr g σ s)(r:RV W g s.heap a v):∃as,Reads s.heap v (toP d) as:=by
  refine qee (D) ?_;intro h hd _;rcases h with rfl | ⟨n,l,rfl,e,rfl⟩
  . exact r.reads a hd v
  . refine qa4 (r) ?_;intro b eq_10_1 hg;subst eq_10_1;refine qk3 (R.locs n _ e) ?_;intro b' hg' vs m ho hr;have:b'=b:=R.uniq _ _ _ hg' hg;subst this;obtain ⟨as,q⟩:=hr.reads l hd _;exact ⟨_,.list ho rfl rfl q⟩
theorem Dv.shaped {a d:AV}(D:Dv σ a d):SeqAt.shaped (toP d)=true:=by
  unfold SeqAt.shaped;rw[qfl d D.2.1,Bool.true_and];exact decide_eq_true D.2.2
theorem Room.eqv (rm:Room k fr A):A.units+64<cLine:=by have:=rm.units;have:cLine=9900:=rfl;lia
theorem Icx {a b da db:AV}{c:Bool}(ha:Dv σ a da)(hb:Dv σ b db)(hc:c=true↔da=db):Op2 W Y k fr σ (compareOp .Eq) a b (.bool c) σ:=fun A g s va vb rm R ra rb Q E hQ=>by
  obtain ⟨as,ra'⟩:=ha.reads R ra;obtain ⟨bs,rb'⟩:=hb.reads R rb;have e:PyData.eqv (toP da) (toP db)=c:=by
    have:=qoz da db ha.2.1 hb.2.1;rw[<- hc] at this;exact Bool.eq_iff_iff.mpr this
  exact SeqAt.compareEq_shaped ra' rb' ha.shaped hb.shaped rm.eqv (by rw[e];exact hQ _ g s R Evo.refl rfl)
theorem Ibz {a b da db:AV}{c:Bool}(ha:Dv σ a da)(hb:Dv σ b db)(hc:c=true↔da≠db):Op2 W Y k fr σ (compareOp .NotEq) a b (.bool c) σ:=fun A g s va vb rm R ra rb Q E hQ=>by
  obtain ⟨as,ra'⟩:=ha.reads R ra;obtain ⟨bs,rb'⟩:=hb.reads R rb;have e:(!PyData.eqv (toP da) (toP db))=c:=by
    have:=qoz da db ha.2.1 hb.2.1;refine Bool.eq_iff_iff.mpr ?_;rw[hc,Bool.not_eq_true',Ne,<- this];simp
  exact SeqAt.compareNe_shaped ra' rb' ha.shaped hb.shaped rm.eqv (by rw[e];exact hQ _ g s R Evo.refl rfl)
theorem qr0 {d:AV}:∀{l:List AV},qix l=true->isD d=true->(((qgn l).any fun y=>PyData.eqv y (toP d))=true↔d∈l)
  | [],_,_=>by simp[qgn]
  | a::l,hl,hd=>by
    have hl':(isD a&&qix l)=true:=hl;rw[Bool.and_eq_true] at hl';simp only[qgn,List.any_cons,Bool.or_eq_true,qoz a d hl'.1 hd,qr0 hl'.2 hd,List.mem_cons];constructor
    . rintro (q | q)
      . exact .inl q.symm
      . exact .inr q
    . rintro (q | q)
      . exact .inl q.symm
      . exact .inr q
theorem Idv {a b d:AV}{c:Bool}(hb:Lv σ b l)(hl:qix l=true)(ha:Dv σ a d)(hc:c=true↔d∉l):Op2 W Y k fr σ (compareOp .NotIn) a b (.bool c) σ:=fun A g s va vb rm R ra rb Q E hQ=>by
  obtain ⟨as,ra'⟩:=ha.reads R ra;refine qa2 (hb.at R rb) ?_;intro x vs n eq_21_3 ho hr _;subst eq_21_3;obtain ⟨bs,rb'⟩:=hr.reads l hl _;have e:(!((qgn l).any fun y=>PyData.eqv y (toP d)))=c:=by
    refine Bool.eq_iff_iff.mpr ?_;rw[hc,Bool.not_eq_true',<- qr0 hl ha.2.1];simp
  refine SeqAt.notIn_list_reads (.list ho rfl rfl rb') ra' (qel l hl) (qfl d ha.2.1) ?_ (by rw[e];exact hQ _ g s R Evo.refl rfl);have h1:=rm.units;have h3:cLine=9900:=rfl;have h2:=ha.2.2;have:=Nat.min_le_right (PyData.depthAll (qgn l)) (toP d).depth;lia
theorem Ib2 {t:Value->Value->Sem Value}{a b:Int}{c:Bool}(h:∀(A:Around) (s:Shared) (ta tb:Tok) (Q:Value->Shared->Prop) (E:Value->Shared->Prop),A.handled=none->Q (.bool c) s->wpAny (model W.prog W.w) A (t (.int a ta) (.int b tb)) Q E s):
    Op2 W Y k fr σ t (.int a) (.int b) (.bool c) σ:=fun A g s va vb rm R ha hb Q E hQ=>by
  obtain ⟨ta,rfl⟩:=ha;obtain ⟨tb,rfl⟩:=hb;exact h A s ta tb Q E rm.handled (hQ _ g _ R Evo.refl rfl)
theorem Op2.lt {a b:Int}:Op2 W Y k fr σ (compareOp .Lt) (.int a) (.int b) (.bool (decide (a<b))) σ:=Ib2 fun _ _ _ _ _ _ _ h=>PyProof.Rows.lt_int h
theorem Op2.le {a b:Int}:Op2 W Y k fr σ (compareOp .LtE) (.int a) (.int b) (.bool (decide (a<=b))) σ:=Ib2 fun _ _ _ _ _ _ _ h=>PyProof.Rows.le_int h
theorem Icw {a b:Int}:Op2 W Y k fr σ (compareOp .Gt) (.int a) (.int b) (.bool (decide (b<a))) σ:=Ib2 fun _ _ _ _ _ _ _ h=>PyProof.Rows.gt_int h
theorem Iec {a b:Int}:Op2 W Y k fr σ (compareOp .GtE) (.int a) (.int b) (.bool (decide (b<=a))) σ:=Ib2 fun _ _ _ _ _ _ _ h=>PyProof.Rows.ge_int h
theorem Ibj {a b:Int}:Op2 W Y k fr σ (compareOp .Eq) (.int a) (.int b) (.bool (a==b)) σ:=Ib2 fun _ _ _ _ _ _ _ h=>PyProof.Rows.eq_int h
theorem Iee {a b:Int}:Op2 W Y k fr σ (compareOp .NotEq) (.int a) (.int b) (.bool (a != b)) σ:=Ib2 fun _ _ _ _ _ _ _ h=>PyProof.Rows.ne_int h
theorem Op2.and {a b:Int}:Op2 W Y k fr σ (binaryOp .BitAnd) (.int a) (.int b) (.int (Builtin.bitAnd a b)) σ:=Op2.ints fun _ _ _ _ _ _ _ h=>PyProof.Rows.and_int h
theorem Ied {a b:Int}:Op2 W Y k fr σ (binaryOp .BitXor) (.int a) (.int b) (.int (Builtin.bitXor a b)) σ:=Op2.ints fun _ _ _ _ _ _ _ h=>PyProof.Rows.xor_int h
theorem Ief {a b:Int}:Op2 W Y k fr σ (inplaceOp .BitOr) (.int a) (.int b) (.int (Builtin.bitOr a b)) σ:=Op2.ints fun _ _ _ _ _ _ _ h=>PyProof.Rows.ior_int h
theorem Ide {a b:Int}:Op2 W Y k fr σ (inplaceOp .BitXor) (.int a) (.int b) (.int (Builtin.bitXor a b)) σ:=Op2.ints fun _ _ _ _ _ _ _ h=>PyProof.Rows.ixor_int h
theorem Id6 {a n:Int}(hn:0<=n)(hn2:n<=1000000)(ha:a.natAbs<2 ^ 64):Op2 W Y k fr σ (binaryOp .LShift) (.int a) (.int n) (.int (a*2 ^ n.toNat)) σ:=Op2.ints fun _ _ _ _ _ _ _ h=>PyProof.Rows.lshift_int_small hn hn2 ha h
theorem Ie3 {a n:Int}(hn:0<=n)(hn2:n<=1000000)(ha:a.natAbs<2 ^ 64):Op2 W Y k fr σ (inplaceOp .LShift) (.int a) (.int n) (.int (a*2 ^ n.toNat)) σ:=Op2.ints fun _ _ _ _ _ _ _ h=>PyProof.Rows.ilshift_int_small hn hn2 ha h
theorem Ick {a n:Int}(hn:0<=n)(hn2:n<=1000000)(ha:a.natAbs<2 ^ 64):Op2 W Y k fr σ (binaryOp .Pow) (.int a) (.int n) (.int (a ^ n.toNat)) σ:=Op2.ints fun _ _ _ _ _ _ _ h=>PyProof.Rows.pow_int_small hn hn2 ha h
noncomputable def isNone:AV->Option Bool
  | .none=>some true
  | .any=>Option.none
  | .glob v=>some (v==.none)
  | _=>some false
theorem qok {a:AV}{v:Value}{b:Bool}(r:RV W g h a v)(hb:isNone a=some b):(v==Value.none)=b:=by
  cases a with
  | none=>obtain rfl:v=.none:=r;obtain rfl:=Sj hb;rfl
  | bool c=>obtain rfl:v=.bool c:=r;obtain rfl:=Sj hb;rfl
  | int i=>obtain ⟨t,rfl⟩:=r;obtain rfl:=Sj hb;rfl
  | str x=>obtain ⟨t,rfl⟩:=r;obtain rfl:=Sj hb;rfl
  | tup l=>refine qbu (r) ?_;intro a vs n eq_27_3 _;subst eq_27_3;obtain rfl:=Sj hb;rfl
  | lst l=>refine qbu (r) ?_;intro a vs n eq_28_3 _;subst eq_28_3;obtain rfl:=Sj hb;rfl
  | loc n=>refine qa4 (r) ?_;intro a eq_29_1 _;subst eq_29_1;obtain rfl:=Sj hb;rfl
  | glob w=>obtain rfl:v=w:=r;obtain rfl:=Sj hb;rfl
  | bound f s=>refine qcw (r) ?_;intro a u eq_30_2 _;subst eq_30_2;obtain rfl:=Sj hb;rfl
  | clo l ns cs=>refine qbu (r) ?_;intro a fd vs eq_31_3 _;subst eq_31_3;obtain rfl:=Sj hb;rfl
  | any=>cases hb
theorem Iab {a:AV}{b:Bool}(h:autoParam (isNone a=some b) ap0._auto_1):Op2 W Y k fr σ (compareOp .Is) a .none (.bool b) σ:=fun A g s va vb rm R ra rb Q E hQ=>by
  obtain rfl:vb=.none:=rb;exact is_none_gen (by rw[qok ra h];exact hQ _ g s R Evo.refl rfl)
theorem Ib1 {c d:Bool}:Op2 W Y k fr σ (compareOp .Is) (.bool c) (.bool d) (.bool (c==d)) σ:=fun A g s va vb rm R ra rb Q E hQ=>by
  obtain rfl:va=.bool c:=ra;obtain rfl:vb=.bool d:=rb;exact is_bool (hQ _ g s R Evo.refl rfl)
theorem Idl:Op2 W Y k fr σ (compareOp .Is) (.loc n) (.loc n) (.bool true) σ:=fun A g s va vb rm R ra rb Q E hQ=>by
  refine qa4 (ra) ?_;intro a eq_32_1 hg;subst eq_32_1;refine qa4 (rb) ?_;intro b eq_33_1 hg';subst eq_33_1;have:a=b:=R.uniq a b n hg hg';subst this;show wpAny _ A (do return Value.bool (<- isSame (.ref a) (.ref a))) Q E s;refine wpAny_bind ?_;show wpAny _ A (if (a==a)=true then pure true else _) _ E s;rw[if_pos (beq_self_eq_true a)];exact wpAny_pure (wpAny_pure (hQ _ g s R Evo.refl rfl))
theorem Tv.bool {b:Bool}:Tv W Y k fr σ (.bool b) b:=fun A g s va rm R ra Q E hQ=>by
  obtain rfl:va=.bool b:=ra;exact wpAny_truthy_bool (hQ g s R Evo.refl)
end
end
section
section
noncomputable abbrev qa0 (ns:List Int):List AV:=ns.map .int
theorem RVs.ints:∀{ns:List Int} {vs:List Value},RVs W g h (qa0 ns) vs->IntsAre vs ns
  | [],vs,r=>by obtain rfl:vs=[]:=r;exact .nil
  | n::ns,vs,r=>by refine qa3 (r) ?_;intro v q eq_0_2 ne_0_3 r2;subst eq_0_2;obtain ⟨t,rfl⟩:=ne_0_3;exact .cons n t (RVs.ints r2)
theorem RVs.pairs:∀{ns:List Int} {vs:List Value},RVs W g h (qa0 ns) vs->∃l:List (Int×Tok),vs=l.map (fun p=>Value.int p.1 p.2)/\l.map (·.1)=ns
  | [],vs,r=>by obtain rfl:vs=[]:=r;exact ⟨[],rfl,rfl⟩
  | n::ns,vs,r=>by
    refine qa3 (r) ?_;intro v q eq_1_2 ne_1_3 r2;subst eq_1_2;obtain ⟨t,rfl⟩:=ne_1_3;refine qa4 (RVs.pairs r2) ?_;intro l eq_2_1 eq_2_2;subst eq_2_1;subst eq_2_2;exact ⟨(n,t)::l,rfl,rfl⟩
theorem RVs.items {vs:Array Value}(r:RVs W g h (qa0 ns) vs.toList):∃xs:Array (Int×Tok),vs=intItems xs/\xs.toList.map (·.1)=ns:=by
  refine qa4 (RVs.pairs r) ?_;intro l e eq_3_2;subst eq_3_2;refine ⟨l.toArray,?_,by rfl⟩;apply Array.toList_inj.mp;rw[e];simp[intItems]
theorem Rep.updList (R:Rep W fr g σ s){l':List AV}{vs:Array Value}{m:Nat}(tk:Nat)(hn:σ[n]?=some (.lst l))(hg:g a=.loc n)(ho:s.heap.get? a=some (qab vs m)){f:Array Value->Array Value}(hr:RVs W g s.heap l' (f vs).toList)(hp:plains l'=true):Rep W fr g (σ.set n (.lst l')) { s with heap:=s.heap.update a (Obj.mapSeq f),toks:=tk }/\Evo W noX (·=n) g s.heap g (s.heap.update a (Obj.mapSeq f)):=by
  have hnew:=IsL.update ho f;have hother:∀b o,s.heap.get? b=some o->b≠a->(s.heap.update a (Obj.mapSeq f)).get? b=some o:=fun b o q hb=>(Heap.get?_update_ne _ _ _ _ hb).trans q
  have hk:∀b o,s.heap.get? b=some o->g b≠.loc n->g b≠.aux n->(s.heap.update a (Obj.mapSeq f)).get? b=some o:=fun b o q h1 _=>hother b o q fun e=>h1 (e ▸ hg)
  have e:=Evo.setLoc (g':=g) R (n:=n) (fun _ _ _=>rfl) hk;refine ⟨R.setLoc (ao':=.lst l') tk hn (fun _ _ _=>rfl) (fun b hb=>.inl (R.newO hb)) hk (fun b o q _=>?_) hp (fun b hb=>?_),e⟩
  . by_cases hb:b=a
    . subst hb;exact ⟨_,hnew⟩
    . exact ⟨o,hother b o q hb⟩
  . have:b=a:=R.uniq _ _ _ hb hg;subst this;exact ⟨_,_,hnew,hr.up e⟩
theorem qu6 (h:i<=2 ^ 24):¬(!Builtin.List.listFitsIndex ((i:Nat):Int))=true:=by
  simp[Builtin.List.listFitsIndex];lia
theorem qg5 (R:Rep W fr g σ s)(hn:σ[n]?=some (.lst l))(ra:RV W g s.heap (.loc n) va):∃a vs m,va=.ref a/\g a=.loc n/\s.heap.get? a=some (qab vs m)/\RVs W g s.heap l vs.toList:=by
  refine qa4 (ra) ?_;intro a eq_4_1 hg;subst eq_4_1;refine qk3 (R.locs n _ hn) ?_;intro a' hg' vs m ho hr;have:a'=a:=R.uniq _ _ _ hg' hg;subst this;exact ⟨a',vs,m,rfl,hg,ho,hr⟩
theorem Ib7 {a b:AV}{l':List AV}(ha:Lv σ a l)(hb:Lv σ b l')(hz:l.length+l'.length<=sizeLine):Op2 W Y k fr σ (binaryOp .Add) a b (.lst (l++l')) σ:=fun A g s va vb rm R ra rb Q E hQ=>by
  refine qa2 (ha.at R ra) ?_;intro x vs n eq_6_3 ho hr _;subst eq_6_3;refine qa2 (hb.at R rb) ?_;intro y us n' eq_7_3 ho' hr' _;subst eq_7_3;have e1:vs.size=l.length:=by rw[<- Array.length_toList,hr.length]
  have e2:us.size=l'.length:=by rw[<- Array.length_toList,hr'.length]
  refine And.elim ?_ (R.newFz (qab (vs++us) 0));intro R2 e2a;refine PySem.P.add_list ho ho' (hQ _ _ _ R2 e2a.no ⟨_,_,_,rfl,qa5,Heap.get?_push_size _ rfl,?_⟩) (by rw[e1,e2];exact hz);rw[Array.toList_append];exact (hr.append hr').up e2a
theorem qe2 {vs:Array Value}:∀n acc,(List.foldl (fun x1 x2=>x1++x2) acc (List.replicate n vs)).toList=acc.toList++(List.replicate n vs.toList).flatten
  | 0,acc=>by simp
  | n+1,acc=>by rw[List.replicate_succ,List.foldl_cons,qe2 n,List.replicate_succ,List.flatten_cons,Array.toList_append,List.append_assoc]
theorem RVs.flat {vs:List Value}(r:RVs W g h l vs):∀n,RVs W g h (List.replicate n l).flatten (List.replicate n vs).flatten
  | 0=>rfl
  | n+1=>by rw[List.replicate_succ,List.flatten_cons,List.replicate_succ,List.flatten_cons];exact r.append (RVs.flat r n)
theorem qfu (h:plains l=true):∀n,plains (List.replicate n l).flatten=true
  | 0=>rfl
  | n+1=>by rw[List.replicate_succ,List.flatten_cons,qao,h,qfu h n];rfl
theorem qlf {a:AV}{n:Int}{vb:Value}(ha:Lv σ a l)(h0:0<=n)(h1:n<2 ^ 24)(hz:l.length*n.toNat<=2 ^ 24)(R:Rep W fr g σ s)(ra:RV W g s.heap a va)(rb:RV W g s.heap (.int n) vb)(hQ:∀vs,RVs W g s.heap (List.replicate n.toNat l).flatten vs.toList->Q (.ref s.heap.objs.size) { s with heap:=s.heap.push (qab vs 0) }):wpAny (model W.prog W.w) A (binaryOp .Mult va vb) Q E s:=by
  refine qa2 (ha.at R ra) ?_;intro x vs m eq_9_3 ho hr _;subst eq_9_3;obtain ⟨t,rfl⟩:=rb;have e1:vs.size=l.length:=by rw[<- Array.length_toList,hr.length]
  have ht:n.toNat<2 ^ 24:=by simp_all
  have fin:wpAny (model W.prog W.w) A (binaryOp .Mult (.ref x) (.int n t)) Q E s:=
    wpAny_binaryOp_repeat_ref (T := "list") (U := "int") (by decide) ⟨_,ho,rfl⟩ (fun s'=>typeIs_int s' n t) noFill_list_mul PySem.F.fills_int_mul PySem.F.slot_int_rmul repeat_list PySem.F.slot_int_index.lookup
      (call_meets PySem.F.slot_int_rmul (typeIs_int s n t) PySem.F.entry_int_rmul (PySem.F.args_int_rmul_2 _ _) (int___rmul___int_list n t x vs m)
        ⟨ho,rfl,⟨_,ho,rfl⟩,call_meets PySem.F.slot_list_mul ⟨_,ho,rfl⟩ PySem.F.entry_list_mul (PySem.F.args_list_mul_2 _ _)
          (AutoListH.list___mul___list_int_3 x vs m n t (by simp[Builtin.List.listFitsIndex];lia) (by rw[e1];lia) (by simp[Builtin.List.listTooLong,sizeLine];rw[e1];omega))
          ⟨ho,hQ _ ?_⟩⟩)
  . exact fin
  . rw[qe2];by_cases he:vs.isEmpty=true
    . rw[if_pos he];have hv:vs=#[]:=by simpa using he
      subst hv;have:l=[]:=by cases l with | nil=>rfl | cons _ _=>simp at e1
      subst this;have e3:(List.replicate n.toNat ([]:List AV)).flatten=[]:=by simp
      rw[e3];simp;rfl
    . rw[if_neg he];exact hr.flat _
theorem Idd {a:AV}{n:Int}(ha:Lv σ a l)(h0:0<=n)(h1:n<2 ^ 24)(hz:l.length*n.toNat<=2 ^ 24):Op2 W Y k fr σ (binaryOp .Mult) a (.int n) (.lst (List.replicate n.toNat l).flatten) σ:=fun A g s va vb rm R ra rb Q E hQ=>by
  refine qlf ha h0 h1 hz R ra rb fun vs hr=>?_
  refine And.elim ?_ (R.newFz (qab vs 0));intro R2 e2a;exact hQ _ _ _ R2 e2a.no ⟨_,_,_,rfl,qa5,Heap.get?_push_size _ rfl,hr.up e2a⟩
theorem Idk {a:AV}{n:Int}(ha:Lv σ a l)(h0:0<=n)(h1:n<2 ^ 24)(hz:l.length*n.toNat<=2 ^ 24)(hp:plains l=true):Op2 W Y k fr σ (binaryOp .Mult) a (.int n) (.loc σ.length) (σ++[.lst (List.replicate n.toNat l).flatten]):=fun A g s va vb rm R ra rb Q E hQ=>by
  refine qlf ha h0 h1 hz R ra rb fun vs hr=>?_
  have e2a:Evo W noX Y g s.heap (qc9 g s.heap.objs.size (.loc σ.length)) (s.heap.push (qab vs 0)):=(R.pushEvo (qab vs 0) (.loc σ.length))
  refine And.elim ?_ (R.pushLoc (qab vs 0) (ao:=.lst (List.replicate n.toNat l).flatten) (qfu hp _) ⟨vs,0,Heap.get?_push_size _ rfl,hr.up e2a⟩);intro R2 e3a;exact hQ _ _ _ R2 e2a ⟨_,rfl,qa5⟩
theorem Calls.len (hL:Lv σ v l)(hz:l.length<=sizeLine):Calls W Y k fr σ (.glob (.builtin "len")) [v] [] [] (.int (l.length:Nat)) σ:=fun A g s vf us ks rm R rf ru rk Q E hQ=>by
  obtain rfl:vf=.builtin "len":=rf;refine qa3 (ru) ?_;intro u q eq_13_2 r q';subst eq_13_2;obtain rfl:q=[]:=q';refine qa2 (hL.at R r) ?_;intro x vs n eq_14_3 ho hr _;subst eq_14_3;have e1:vs.size=l.length:=by rw[<- Array.length_toList,hr.length]
  have hs:sizeLine=2 ^ 24:=rfl;refine PySem.Calls.call_len_list (qam ho) (by lia) ?_;exact hQ _ g _ (R.tok _) Evo.refl ⟨s.toks+1,by rw[e1]⟩
theorem Calls.sum (hL:Lv σ v (qa0 ns)):Calls W Y k fr σ (.glob (.builtin "sum")) [v] [] [] (.int ns.sum) σ:=fun A g s vf us ks rm R rf ru rk Q E hQ=>by
  obtain rfl:vf=.builtin "sum":=rf;refine qa3 (ru) ?_;intro u q eq_15_2 r q';subst eq_15_2;obtain rfl:q=[]:=q';refine qa2 (hL.at R r) ?_;intro x vs n eq_16_3 ho hr _;subst eq_16_3;refine qa4 (hr.items) ?_;intro xs eq_17_1 hx;subst eq_17_1;refine sum_intListG rm.handled (qam ho) fun h' tk t' hk=>?_
  refine And.elim ?_ (R.keeps tk hk);intro R1 e1a;refine hQ _ g _ R1 e1a.no ⟨t',?_⟩;rw[preSum_eq,List.take_of_length_le (by simp),hx]
theorem qly {xs:Array (Int×Tok)}{v:Value}(hv:(intItems xs)[i]?=some v):∃t,v=.int (numAt xs i) t/\numAt xs i∈xs.toList.map (·.1):=by
  refine Exists.elim (intItems_at hv) ?_;intro t eq_0_1;subst eq_0_1;refine ⟨t,rfl,?_⟩;simp only[intItems,Array.getElem?_map,Option.map_eq_some_iff] at hv;refine qa4 (hv) ?_;intro p hp _;have:p∈xs.toList:=by rw[<- Array.getElem?_toList] at hp;exact List.mem_of_getElem? hp
  exact List.mem_map.mpr ⟨p,this,by simp[numAt,hp]⟩
theorem qqr {xs:Array (Int×Tok)}{a:Int}(h:a∈xs.toList.map (·.1)):∃j,j<=xs.size - 1/\a=numAt xs j:=by
  refine qa4 (List.mem_map.mp h) ?_;intro p hp eq_21_2;subst eq_21_2;obtain ⟨j,hj,e⟩:=List.mem_iff_getElem.mp hp;have hj':j<xs.size:=by simpa using hj
  refine ⟨j,by omega,?_⟩;have:xs[j]?=some p:=by rw[<- Array.getElem?_toList,List.getElem?_eq_getElem hj,e]
  simp[numAt,this]
theorem Ie1 {M:Int}(hL:Lv σ v (qa0 ns))(hM:M∈ns)(hle:∀a∈ns,a<=M):Calls W Y k fr σ (.glob (.builtin "max")) [v] [] [] (.int M) σ:=fun A g s vf us ks rm R rf ru rk Q E hQ=>by
  obtain rfl:vf=.builtin "max":=rf;refine qa3 (ru) ?_;intro u q eq_23_2 r q';subst eq_23_2;obtain rfl:q=[]:=q';refine qa2 (hL.at R r) ?_;intro x vs n eq_24_3 ho hr _;subst eq_24_3;refine qa4 (hr.items) ?_;intro xs eq_25_1 eq_25_2;subst eq_25_1;subst eq_25_2;have hne:0<xs.size:=by refine qa4 (List.mem_map.mp hM) ?_;intro p hp _;have:=List.length_pos_of_mem hp;simpa using this
  refine max_intList rm.handled (qam ho) hne fun v h' tk hv hk=>?_
  refine And.elim ?_ (R.keeps tk hk);intro R1 e1a;refine qa4 (qly hv) ?_;intro t eq_28_1 hm;subst eq_28_1;refine qa4 (qqr hM) ?_;intro j hj e;have h1:=(argBest_gt (numAt xs) (xs.size - 1)).2 j hj;have h2:=hle _ hm;refine hQ _ g _ R1 e1a.no ⟨t,?_⟩;rw[show numAt xs (argBest (fun i j=>decide (numAt xs i > numAt xs j)) (xs.size - 1))=M by lia]
theorem Ie0 {M:Int}(hL:Lv σ v (qa0 ns))(hM:M∈ns)(hle:∀a∈ns,M<=a):Calls W Y k fr σ (.glob (.builtin "min")) [v] [] [] (.int M) σ:=fun A g s vf us ks rm R rf ru rk Q E hQ=>by
  obtain rfl:vf=.builtin "min":=rf;refine qa3 (ru) ?_;intro u q eq_30_2 r q';subst eq_30_2;obtain rfl:q=[]:=q';refine qa2 (hL.at R r) ?_;intro x vs n eq_31_3 ho hr _;subst eq_31_3;refine qa4 (hr.items) ?_;intro xs eq_32_1 eq_32_2;subst eq_32_1;subst eq_32_2;have hne:0<xs.size:=by refine qa4 (List.mem_map.mp hM) ?_;intro p hp _;have:=List.length_pos_of_mem hp;simpa using this
  refine min_intList rm.handled (qam ho) hne fun v h' tk hv hk=>?_
  refine And.elim ?_ (R.keeps tk hk);intro R1 e1a;refine qa4 (qly hv) ?_;intro t eq_35_1 hm;subst eq_35_1;refine qa4 (qqr hM) ?_;intro j hj e;have h1:=(argBest_lt (numAt xs) (xs.size - 1)).2 j hj;have h2:=hle _ hm;refine hQ _ g _ R1 e1a.no ⟨t,?_⟩;rw[show numAt xs (argBest (fun i j=>decide (numAt xs i<numAt xs j)) (xs.size - 1))=M by lia]
theorem Ibx {a b:Int}:Calls W Y k fr σ (.glob (.builtin "max")) [.int a,.int b] [] [] (.int (Max.max a b)) σ:=fun A g s vf us ks rm R rf ru rk Q E hQ=>by
  obtain rfl:vf=.builtin "max":=rf;refine qa3 (ru) ?_;intro u q eq_37_2 ne_37_3 q';subst eq_37_2;obtain ⟨t,rfl⟩:=ne_37_3;refine qa3 (q') ?_;(try clear q');intro u' q2 eq_38_2 ne_38_3 q';subst eq_38_2;obtain ⟨t',rfl⟩:=ne_38_3;obtain rfl:q2=[]:=q';refine max_two_ints rm.handled fun h' tk hk=>?_
  obtain ⟨R1,e1a⟩:=R.keeps tk hk;refine hQ _ g _ R1 e1a.no ?_;by_cases hb:b > a
  . rw[if_pos hb];exact ⟨t',by rw[show Max.max a b=b by lia]⟩
  . rw[if_neg hb];exact ⟨t,by rw[show Max.max a b=a by lia]⟩
theorem Ibw {a b:Int}:Calls W Y k fr σ (.glob (.builtin "min")) [.int a,.int b] [] [] (.int (Min.min a b)) σ:=fun A g s vf us ks rm R rf ru rk Q E hQ=>by
  obtain rfl:vf=.builtin "min":=rf;refine qa3 (ru) ?_;intro u q eq_40_2 ne_40_3 q';subst eq_40_2;obtain ⟨t,rfl⟩:=ne_40_3;refine qa3 (q') ?_;(try clear q');intro u' q2 eq_41_2 ne_41_3 q';subst eq_41_2;obtain ⟨t',rfl⟩:=ne_41_3;obtain rfl:q2=[]:=q';refine min_two_ints rm.handled fun h' tk hk=>?_
  obtain ⟨R1,e1a⟩:=R.keeps tk hk;refine hQ _ g _ R1 e1a.no ?_;by_cases hb:b<a
  . rw[if_pos hb];exact ⟨t',by rw[show Min.min a b=b by grind]⟩
  . rw[if_neg hb];exact ⟨t,by rw[show Min.min a b=a by lia]⟩
theorem Calls.append (hn:σ[n]?=some (.lst l))(hY:Y n)(hp:plain v=true)(hz:l.length<=sizeLine):Calls W Y k fr σ (.glob (.builtin "list.append")) [.loc n,v] [] [] .none (σ.set n (.lst (l++[v]))):=fun A g s vf us ks rm R rf ru rk Q E hQ=>by
  obtain rfl:vf=.builtin "list.append":=rf;refine qa3 (ru) ?_;intro u q eq_43_2 r1 q';subst eq_43_2;refine qa3 (q') ?_;(try clear q');intro u' q2 eq_44_2 r2 q';subst eq_44_2;obtain rfl:q2=[]:=q';refine qa2 (qg5 R hn r1) ?_;intro a vs m eq_45_3 hg ho hr;subst eq_45_3;have e1:vs.size=l.length:=by rw[<- Array.length_toList,hr.length]
  have hpl:plains l=true:=R.pl n _ hn;refine And.elim ?_ (R.updList (f:=fun xs=>xs.push u') (l':=l++[v]) s.toks hn hg ho (by rw[Array.toList_push];exact hr.append (show RVs W g s.heap [v] [u'] from ⟨u',[],rfl,r2,rfl⟩)) (by rw[qao,hpl];show (true&&(plain v&&true))=true;rw[hp];rfl));intro R' e';exact call_meets PySem.F.slot_list_append ⟨_,ho,rfl⟩ PySem.F.entry_list_append (PySem.F.args_list_append_2 _ _) (list_append a vs m u' (by rw[e1];exact hz)) ⟨ho,hQ _ _ _ R' (e'.toN hY) rfl⟩
theorem Ic2 {x:Int}(hx:x=(i:Nat))(hn:σ[n]?=some (.lst l))(hY:Y n)(hi:i<=l.length)(hp:plain v=true)(hz:l.length<=sizeLine):Calls W Y k fr σ (.glob (.builtin "list.insert")) [.loc n,.int x,v] [] [] .none (σ.set n (.lst (l.take i++[v]++l.drop i))):=fun A g s vf us ks rm R rf ru rk Q E hQ=>by
  cases (rf:vf=.builtin "list.insert")
  refine qa3 (ru) ?_;intro u q eq_47_2 r1 q';subst eq_47_2;refine qa3 (q') ?_;(try clear q');intro ui q2 eq_48_2 ne_48_3 q';subst eq_48_2;obtain ⟨t,rfl⟩:=ne_48_3;refine qa3 (q') ?_;(try clear q');intro u' q3 eq_49_2 r2 q';subst eq_49_2;cases (q':q3=[])
  refine qa2 (qg5 R hn r1) ?_;intro a vs m eq_50_3 hg ho hr;subst eq_50_3;have e1:vs.size=l.length:=by rw[<- Array.length_toList,hr.length]
  have hs:sizeLine=2 ^ 24:=rfl;have hpl:plains l=true:=R.pl n _ hn;have hpt:∀i,plains (l.take i)=true/\plains (l.drop i)=true:=fun i=>by
    have:=hpl;rw[<- List.take_append_drop i l,qao,Bool.and_eq_true] at this;exact this
  have hk:(if x<0 then (x+((vs.size:Nat):Int)).toNat else Min.min x.toNat vs.size)=i:=by
    rw[if_neg (by simp_all)];subst hx;simp;simp_all
  obtain ⟨R',e'⟩:=R.updList (f:=fun xs=>have k:=if x<0 then (x+((xs.size:Nat):Int)).toNat else Min.min x.toNat xs.size;(xs.extract 0 k).push u'++xs.extract k) (l':=l.take i++[v]++l.drop i) s.toks hn hg ho (by
    show RVs W g s.heap _ (((vs.extract 0 (if x<0 then (x+((vs.size:Nat):Int)).toNat else Min.min x.toNat vs.size)).push u'++vs.extract (if x<0 then (x+((vs.size:Nat):Int)).toNat else Min.min x.toNat vs.size)).toList);rw[hk,Array.toList_append,Array.toList_push];have h1:(vs.extract 0 i).toList=vs.toList.take i:=by simp
    have h2:(vs.extract i).toList=vs.toList.drop i:=by simp[List.take_of_length_le]
    have h3:RVs W g s.heap [v] [u']:=⟨u',[],rfl,r2,rfl⟩
    rw[h1,h2];exact ((hr.take i).append h3).append (hr.drop i)) (by
    rw[qao,qao,(hpt i).1,(hpt i).2];show (true&&(plain v&&true)&&true)=true;rw[hp];rfl)
  have h5:i<=2 ^ 24:=by rw[<- hs];exact Nat.le_trans hi hz
  have h6:vs.size<=sizeLine:=by rw[e1];exact hz
  have h7:¬(!Builtin.List.listFitsIndex x)=true:=by rw[hx];exact qu6 h5
  have M:=AutoListH.list_insert_list_int_val_1 a vs m x t u' h7 h6;refine call_meets PySem.F.slot_list_insert ⟨_,ho,rfl⟩ PySem.F.entry_list_insert (PySem.F.args_list_insert_3 _ _ _) M ⟨ho,?_⟩;exact hQ _ _ _ R' (e'.toN hY) rfl
theorem Idc {x:Int}(hL:Lv σ v (qa0 ns))(hz:ns.length<=1000)(hx:x∈ns):Calls W Y k fr σ (.glob (.builtin "list.index")) [v,.int x] [] [] (.int (ns.idxOf x:Nat)) σ:=fun A g s vf us ks rm R rf ru rk Q E hQ=>by
  obtain rfl:vf=.builtin "list.index":=rf;refine qa3 (ru) ?_;intro u q eq_51_2 r1 q';subst eq_51_2;refine qa3 (q') ?_;(try clear q');intro ui q2 eq_52_2 ne_52_3 q';subst eq_52_2;obtain ⟨t,rfl⟩:=ne_52_3;obtain rfl:q2=[]:=q';refine qa2 (hL.at R r1) ?_;intro a vs m eq_53_3 ho hr _;subst eq_53_3;have hi:=hr.ints;have hlen:=hi.length;have hj:ns.idxOf x<ns.length:=List.idxOf_lt_length_iff.mpr hx;refine call_meets PySem.F.slot_list_index ⟨_,ho,rfl⟩ PySem.F.entry_list_index (PySem.F.args_list_index_2 _ _)
    (SeqAt.list_indexAt a vs m none #[] (.int x t) (isInt x) (ns.idxOf x) (by simpa [<- hlen] using hj) (by lia) ?_ ?_) ⟨ho,fun y hy=>(eq_isInt x t hi y (by simpa using hy)).at _ _,hQ _ g _ (R.tok _) Evo.refl ⟨_,rfl⟩⟩
  . have:vs[ns.idxOf x]'(by simpa [<- hlen] using hj)=vs.toList[ns.idxOf x]'(by simp_all):=by rfl
    rw[this,isInt_at x hi _ (by lia) hj];simpa using List.getElem_idxOf hj
  . intro j hjs hlt;have:vs[j]=vs.toList[j]'(by simpa using hjs):=by rfl
    rw[this,isInt_at x hi j (by simpa using hjs) (by lia)];exact ne_of_lt_idxOf hlt _
theorem Calls.count {x:Int}(hL:Lv σ v (qa0 ns)):Calls W Y k fr σ (.glob (.builtin "list.count")) [v,.int x] [] [] (.int (ns.count x:Nat)) σ:=fun A g s vf us ks rm R rf ru rk Q E hQ=>by
  obtain rfl:vf=.builtin "list.count":=rf;refine qa3 (ru) ?_;intro u q eq_54_2 r1 q';subst eq_54_2;refine qa3 (q') ?_;(try clear q');intro ui q2 eq_55_2 ne_55_3 q';subst eq_55_2;obtain ⟨t,rfl⟩:=ne_55_3;obtain rfl:q2=[]:=q';refine qa2 (hL.at R r1) ?_;intro a vs m eq_56_3 ho hr _;subst eq_56_3;have hl:s.heap.IsList a vs.toList.toArray:=by simpa using qam ho
  exact count_list_ints hl hr.ints (hQ _ g _ (R.tok _) Evo.refl ⟨_,rfl⟩)
end
end
section
section
theorem Evo.adopt (R:Rep W fr g σ s)(ga:g a=.other)(gn:W.s1.heap.get? a=none)(hk:∀b o,s.heap.get? b=some o->b≠a->h'.get? b=some o):Evo W (·=a) noY g s.heap (qc9 g a (.loc σ.length)) h':=by
  have hne:∀{b},g b≠.other->b≠a:=fun q e=>q (e ▸ ga)
  have hin:∀{b},g b≠.other->qc9 g a (.loc σ.length) b=g b:=fun q=>qa9 (hne q)
  have hnt:∀{b},W.tab b->b≠a:=fun ht e=>Iav gn (e ▸ ht)
  exact ⟨fun b o ho hx _=>.of (hk b o ho hx),fun b o n ho hq _=>hk b o ho (hne (by rcases hq with q | q <;> rw[q] <;> nofun)),fun b q hx=>by rw[qa9 hx];exact q,
    fun b n q=>by rw[hin (by rw[q];nofun)];exact q,fun b n q=>by rw[hin (by rw[q];nofun)];exact q,fun b o ho q hx=>.inl (by rw[qa9 hx];exact q),fun b o ht ho=>⟨o,hk b o ho (hnt ht)⟩⟩
theorem Rep.adopt (R:Rep W fr g σ s)(tk:Nat)(ga:g a=.other)(gn:W.s1.heap.get? a=none)(hX:XOk (·=a) g s.heap)(hfr:∀en∈fr,∀f,en.frame=some f->f≠a)(hk:∀b o,s.heap.get? b=some o->b≠a->h'.get? b=some o)(ha:∃o,h'.get? a=some o)(hp:qdg ao=true)(hr:RO W (qc9 g a (.loc σ.length)) h' a σ.length ao):
    Rep W fr (qc9 g a (.loc σ.length)) (σ++[ao]) { s with heap:=h',toks:=tk }/\Evo W (·=a) noY g s.heap (qc9 g a (.loc σ.length)) h':=by
  have hne:∀{b},g b≠.other->b≠a:=fun q e=>q (e ▸ ga)
  have hin:∀{b},g b≠.other->qc9 g a (.loc σ.length) b=g b:=fun q=>qa9 (hne q)
  have hnb:∀{b o},W.s1.heap.get? b=some o->b≠a:=fun ho e=>by rw[e,gn] at ho;cases ho
  have hnt:∀{b},W.tab b->b≠a:=fun ht e=>Iav gn (e ▸ ht)
  have e:Evo W (·=a) noY g s.heap (qc9 g a (.loc σ.length)) h':=⟨fun b o ho hx _=>.of (hk b o ho hx),fun b o n ho hq _=>hk b o ho (hne (by rcases hq with q | q <;> rw[q] <;> exact nofun)),fun b q hx=>by rw[qa9 hx];exact q,
    fun b n q=>by rw[hin (by rw[q];exact nofun)];exact q,fun b n q=>by rw[hin (by rw[q];exact nofun)];exact q,fun b o ho q hx=>.inl (by rw[qa9 hx];exact q),fun b o ht ho=>⟨o,hk b o ho (hnt ht)⟩⟩
  have hwl:∀b n,qc9 g a (.loc σ.length) b=.loc n->(b=a/\n=σ.length)\/g b=.loc n:=fun b n hg=>by
    by_cases hb:b=a
    . subst hb;rw[qa5] at hg;injection hg with hg;exact .inl ⟨rfl,hg.symm⟩
    . rw[qa9 hb] at hg;exact .inr hg
  have hwa:∀b n,qc9 g a (.loc σ.length) b=.aux n->g b=.aux n:=fun b n hg=>by
    by_cases hb:b=a
    . subst hb;rw[qa5] at hg;cases hg
    . rw[qa9 hb] at hg;exact hg
  have split:∀(n:Nat) (ao':AObj),(σ++[ao])[n]?=some ao'->σ[n]?=some ao'\/(n=σ.length/\ao'=ao):=fun n ao' ho=>by
    by_cases hn:n<σ.length
    . rw[List.getElem?_append_left hn] at ho;exact .inl ho
    . rw[List.getElem?_append_right (Nat.le_of_not_lt hn)] at ho;have hn':n - σ.length=0:=by
        have:=(List.getElem?_eq_some_iff.mp ho).1;simp at this;assumption
      rw[hn'] at ho;obtain rfl:=Sj ho;exact .inr ⟨by grind,rfl⟩
  refine ⟨⟨fun b o ho ht=>hk b o (R.base b o ho ht) (hnb ho),fun b o ho=>by rw[qa9 (hnb ho)];exact R.baseO b o ho,fun b ht=>by rw[qa9 (hnt ht)];exact R.tabO b ht,fun b ht=>?_,fun b hb=>?_,fun n ao' ho=>?_,
    fun b c n hb hc=>?_,fun n ao' ho=>?_,fun b n hg=>?_,fun en he=>?_,R.gens,R.os⟩,e⟩
  . refine qal (R.tabs b ht) ?_;intro more h2 h3 h4;exact ⟨more,hk b _ h2 (hnt ht),h3,fun pos v q=>(h4 pos v q).mono e hX⟩
  . by_cases hq:b=a
    . subst hq;exact ha
    . rw[qa9 hq] at hb;obtain ⟨o',ho'⟩:=R.low b hb;exact ⟨o',hk b o' ho' hq⟩
  . rcases split n ao' ho with q | ⟨rfl,rfl⟩
    . refine qa4 (R.locs n ao' q) ?_;intro b hg hr';exact ⟨b,e.loc b n hg,hr'.mono e hX (fun o q=>hk b o q (hne (by rw[hg];exact nofun))) (fun d hd o q=>hk d o q (hne (by rw[hd];exact nofun))) ao' (R.pl n ao' q)⟩
    . exact ⟨a,qa5,hr⟩
  . rcases hwl b n hb with ⟨qa,qn⟩ | qa <;> rcases hwl c n hc with ⟨qb,rn⟩ | qb
    . rw[qa,qb]
    . have:=R.bnd c n (.inl qb);simp_all
    . have:=R.bnd b n (.inl qa);simp_all
    . exact R.uniq b c n qa qb
  . rcases split n ao' ho with q | ⟨rfl,rfl⟩
    . exact R.pl n ao' q
    . exact hp
  . rw[List.length_append];rcases hg with hg | hg
    . rcases hwl b n hg with ⟨_,q⟩ | q
      . rw[q];exact Nat.lt_succ_self _
      . exact Nat.lt_succ_of_lt (R.bnd b n (.inl q))
    . exact Nat.lt_succ_of_lt (R.bnd b n (.inr (hwa b n hg)))
  . refine qaj (R.frs en he) ?_;intro f o' es ep h1 h2 h3 h4 h5;have hf:=hfr en he f h1;exact ⟨f,o',es,ep,h1,hk f o' h2 hf,h3,by rw[qa9 hf];exact h4,h5⟩
end
noncomputable def prs:List Expr->List Expr->Env->Pos->List (Sem Value×Sem Value)
  | e::ks,v::vs,env,p=>(eval e env,do let x <- eval v env;standAt p;pure x)::prs ks vs env p
  | _,_,_,_=>[]
theorem qik:∀{ks vs:List Expr},ks.length=vs.length->(evalEachOpt (ks.map some) env).zip ((evalEach vs env).map fun v=>do let x <- v;standAt p;pure x)=(prs ks vs env p).map (fun p=>(some p.1,p.2))
  | [],[],_=>rfl
  | e::ks,v::vs,h=>by
    rw[qbv];show (some (eval e env),(do let x <- eval v env;standAt p;pure x))::((evalEachOpt (ks.map some) env).zip ((evalEach vs env).map fun v=>do let x <- v;standAt p;pure x))=_;rw[qik (by simpa using h)];rfl
  | [],_::_,h=>by simp at h
  | _::_,[],h=>by simp at h
theorem qjz:∀{ks vs:List Expr},ks.length=vs.length->(prs ks vs env p).length=ks.length
  | [],[],_=>rfl
  | e::ks,v::vs,h=>by show (prs ks vs env p).length+1=_;rw[qjz (by simpa using h)];rfl
  | [],_::_,h=>by simp at h
  | _::_,[],h=>by simp at h
def EvP (C:Cx) (k:Nat) (fr:List Env) (m:List (Option AV)) (σ:List AObj) (ks vs:List Expr) (ka va:List AV) (z':List AObj):Prop:=
  ∀(A:Around) (env:Env) (g:Addr->Own) (s:Shared) (p:Pos),Room k fr A->Rep C.W fr g σ s->Fra C env m g s.heap->∀(Q:List (Value×Value)->Shared->Prop) (E:Value->Shared->Prop),
    (∀us g' s',Rep C.W fr g' z' s'->Evo C.W noX C.Y g s.heap g' s'.heap->RVs C.W g' s'.heap ka (us.map (·.1))->RVs C.W g' s'.heap va (us.map (·.2))->Q us s') ->
    wpAny (model C.W.prog C.W.w) A (evalPairs (prs ks vs env p)) Q E s
section
theorem EvP.nil:EvP C k fr m σ [] [] [] [] σ:=fun A env g s p rm R F Q E hQ=>evalPairs_nil (hQ [] g s R Evo.refl rfl rfl)
theorem EvP.cons {v:Expr}{ks vs:List Expr}{a b:AV}{ka va:List AV}(he:Ev C k fr m σ e a z1)(hv:Ev C k fr m z1 v b z2)(hr:EvP C k fr m z2 ks vs ka va z'):EvP C k fr m σ (e::ks) (v::vs) (a::ka) (b::va) z':=fun A env g s p rm R F Q E hQ=>by
  refine evalPairs_cons (he A env g s rm R F _ _ fun x g1 s1a R1 e1a ra=>wpAny_bind (hv A env g1 s1a rm R1 (F.up e1a) _ _ fun y g2 s2 R2 e2a rb=>wpAny_bind (wpAny_standAt (wpAny_pure ?_))));exact hr A env g2 s2 p rm R2 ((F.up e1a).up e2a) _ _ fun us g3 s3 R3 e3a r1 r2=>hQ _ g3 s3 R3 ((e1a.trans e2a).trans e3a) ⟨x,us.map (·.1),rfl,(ra.up e2a).up e3a,r1⟩ ⟨y,us.map (·.2),rfl,rb.up e3a,r2⟩
theorem qjc [DecidableEq K]{knd:KeyKind C.W.prog C.W.w K}{ks vs:List Expr}{kk:List K}{enc:K->AV}{va:List AV}(hkeys:keys=ks.map some)(hlen:ks.length=vs.length)(h0:ks≠[])(h15:ks.length<=15)(henc:∀(x:K) (u:Value) (g:Addr->Own) (h:Heap),RV C.W g h (enc x) u->knd.is x u=true)(hnd:kk.Nodup)(he:EvP C k fr m σ ks vs (kk.map enc) va z')(rm:Room k fr A)(R:Rep C.W fr g σ s)(F:Fra C env m g s.heap)(hp:qdg ao=true)(hao:∀(us:List Value) (a n:Nat) (g:Addr->Own) (h:Heap),h.DictOf knd a (kk.zip us)->kk.length=us.length->RVs C.W g h va us->RO C.W g h a n ao)(hQ:∀v' g' s',Rep C.W fr g' (z'++[ao]) s'->Evo C.W noX C.Y g s.heap g' s'.heap->RV C.W g' s'.heap (.loc z'.length) v'->Q v' s'):wpAny (model C.W.prog C.W.w) A (eval (.Dict keys vs p) env) Q E s:=by
  subst hkeys;have htop:=R.top;obtain ⟨R1,e1a⟩:=R.push { cls:=.type "dict",data:=.dict #[] } .other rfl (.inr rfl);have hgo:qc9 g s.heap.objs.size .other=g:=by
    funext a
    by_cases ha:a=s.heap.objs.size
    . subst ha;rw[qa5,htop]
    . exact qa9 ha
  rw[hgo] at R1 e1a;have hne:∀b o,s.heap.get? b=some o->b≠s.heap.objs.size:=fun b o ho=>qh0 ho
  have hd0:(s.heap.push { cls:=.type "dict",data:=.dict #[] }).get? s.heap.objs.size=some { cls:=.type "dict",data:=.dict #[] }:=Heap.get?_push_size _ rfl;refine wpAny_Dict_pairs (knd:=knd) (pairs:=prs ks vs env p) (qik hlen) (by
    have:=qjz (env:=env) (p:=p) hlen;intro q;rw[q] at this;cases ks with | nil=>exact h0 rfl | cons _ _=>simp at this) (by rw[qjz hlen];exact h15) (he A env g _ p rm R1 (F.up e1a) _ _ fun us g2 s2 R2 e2a r1 r2=>?_)
  have ga2:g2 s.heap.objs.size=.other:=by
    rcases e2a.oth _ _ hd0 htop (fun q=>q) with q | ⟨_,v,q⟩
    . exact q
    . rw[(e2a.keep _ _ hd0 (fun q=>q) (.inr ⟨htop,Iav (R.new1 (qak _))⟩)).get] at q;injection q with q;injection q with q1 q2 q3;cases q3
  have hd2:=(e2a.keep _ _ hd0 (fun q=>q) (.inr ⟨htop,Iav (R.new1 (qak _))⟩)).get;have hcar:∀{kk:List K} {us:List (Value×Value)},RVs C.W g2 s2.heap (kk.map enc) (us.map (·.1))->Carries knd us (kk.zip (us.map (·.2)))/\kk.length=us.length:=by
    intro kk;induction kk with
    | nil=>intro us r;have:us.map (·.1)=[]:=r;cases us with | nil=>exact ⟨True.intro,rfl⟩ | cons _ _=>simp at this
    | cons x kk ih=>
      intro us r;refine qa3 (r) ?_;intro v q hv rx rr;cases us with
      | nil=>simp at hv
      | cons u us=>
        obtain ⟨u1,u2⟩:=u;simp at hv;obtain ⟨rfl,rfl⟩:=hv;obtain ⟨i1,i2⟩:=ih rr;exact ⟨⟨henc x u1 _ _ rx,rfl,i1⟩,by simp[i2]⟩
  obtain ⟨hc,hl⟩:=hcar r1;refine ⟨_,hc,⟨_,#[],0,hd2,⟨rfl,rfl,rfl⟩,rfl,fun e he=>absurd he (by simp),.nil,by simp⟩,fun h' hm hs=>?_⟩;have hmg:merged [] (kk.zip (us.map (·.2)))=kk.zip (us.map (·.2)):=merged_nil_of_nodup _ (by
    have:(kk.zip (us.map (·.2))).map (·.1)=kk:=by
      rw[<- List.unzip_fst,List.unzip_zip_left (by simp[hl])]
    rw[this];exact hnd)
  rw[hmg] at hm;have hX:XOk (·=s.heap.objs.size) g2 s2.heap:=fun b hb=>by
    subst hb;exact ⟨.inl ga2,fun o vs ho hd=>by rw[hd2] at ho;obtain rfl:=Sj ho;cases hd⟩
  have hk:∀b o,s2.heap.get? b=some o->b≠s.heap.objs.size->h'.get? b=some o:=fun b o ho hb=>(hs.2 b hb).trans ho
  have hn1:=R.new1 (qak _);have e3a:=Evo.adopt R2 (h':=h') ga2 hn1 hk;have hm':=hm;refine qbu (hm') ?_;intro o' _ _ ho' _;obtain ⟨R4,e4⟩:=R2.adopt (h':=h') (s2.toks+us.length) ga2 hn1 hX (fun en hen f hf q=>by
    refine qdt (R.frs en hen) ?_;intro f' o es ep h3 h4 _;rw[hf] at h3;obtain rfl:=Sj h3;exact hne f o h4 q) hk ⟨o',ho'⟩ (ao:=ao) hp (hao _ _ _ _ _ hm (by simp[hl]) (r2.mono e3a hX va (.inl fun b q=>q ▸ ga2) _))
  refine hQ _ _ _ R4 ?_ ⟨_,rfl,qa5⟩;exact (((e1a.no.trans e2a).toX (X:=(·=s.heap.objs.size))).trans e4.toY).weak R.low (fun b o ho q=>absurd q (hne b o ho)) fun _ q=>q
theorem Ev.dstr {ks vs:List Expr}{kk:List Str}{va:List AV}(he:EvP C k fr m σ ks vs (kk.map .str) va z')(hp:plains va=true)(hnd:kk.Nodup)(hkeys:keys=ks.map some)(hlen:ks.length=vs.length)(h0:ks≠[])(h15:ks.length<=15):
    Ev C k fr m σ (.Dict keys vs p) (.loc z'.length) (z'++[.dstr kk va]):=fun A env g s rm R F Q E hQ=>
  qjc (knd:=PySem.strKind C.W.prog C.W.w) (enc:=AV.str) hkeys hlen h0 h15 (fun x u g h r=>by obtain ⟨t,rfl⟩:=r;simp[PySem.strKind,Value.isStrOf]) hnd he rm R F (ao:=.dstr kk va) hp (fun us a n g h hm hl hr=>⟨us,hm,hl,hr⟩) hQ
theorem Ev.dint {ks vs:List Expr}{kk:List Int}{va:List AV}(he:EvP C k fr m σ ks vs (kk.map .int) va z')(hp:plains va=true)(hnd:kk.Nodup)(hkeys:keys=ks.map some)(hlen:ks.length=vs.length)(h0:ks≠[])(h15:ks.length<=15):
    Ev C k fr m σ (.Dict keys vs p) (.loc z'.length) (z'++[.dint kk va]):=fun A env g s rm R F Q E hQ=>
  qjc (knd:=PySem.intKind C.W.prog C.W.w) (enc:=AV.int) hkeys hlen h0 h15 (fun x u g h r=>by obtain ⟨t,rfl⟩:=r;simp[PySem.intKind,Value.isInt]) hnd he rm R F (ao:=.dint kk va) hp (fun us a n g h hm hl hr=>⟨us,hm,hl,hr⟩) hQ
theorem qh9 (hp:qdg ao=true)(R:Rep C.W fr g σ s)(hao:∀(a n:Nat) (g:Addr->Own) (h:Heap),h.get? a=some { cls:=.type "dict",data:=.dict #[] }->RO C.W g h a n ao)(hQ:∀v' g' s',Rep C.W fr g' (σ++[ao]) s'->Evo C.W noX C.Y g s.heap g' s'.heap->RV C.W g' s'.heap (.loc σ.length) v'->Q v' s'):wpAny (model C.W.prog C.W.w) A (eval (.Dict [] [] p) env) Q E s:=by
  rw[eval_Dict_empty];refine wpAny_bind (wpAny_standAt ?_);refine And.elim ?_ (R.pushLoc { cls:=.type "dict",data:=.dict #[] } (ao:=ao) hp (hao _ _ _ _ (Heap.get?_push_size _ rfl)));intro R2 e2a;exact wpAny_newObj_type (hQ _ _ _ R2 e2a.no ⟨_,rfl,qa5⟩) (by size_fits)
theorem Ico:Ev C k fr m σ (.Dict [] [] p) (.loc σ.length) (σ++[.dstr [] []]):=fun A env g s rm R F Q E hQ=>
  qh9 (ao:=.dstr [] []) rfl R (fun a n g h ho=>⟨[],⟨_,#[],0,ho,⟨rfl,rfl,rfl⟩,rfl,fun e he=>absurd he (by simp),.nil,by simp⟩,rfl,rfl⟩) hQ
theorem Iea:Ev C k fr m σ (.Dict [] [] p) (.loc σ.length) (σ++[.dint [] []]):=fun A env g s rm R F Q E hQ=>
  qh9 (ao:=.dint [] []) rfl R (fun a n g h ho=>⟨[],⟨_,#[],0,ho,⟨rfl,rfl,rfl⟩,rfl,fun e he=>absurd he (by simp),.nil,by simp⟩,rfl,rfl⟩) hQ
end
end
section
section
theorem qdu (R:Rep W fr g σ s)(hg:g a=.loc n):(a==sysModules)=false:=by
  have:a≠sysModules:=fun q=>by
    subst q;refine Exists.elim W.sm ?_;intro o ho;rcases R.baseO _ o ho with q | q <;> rw[hg] at q <;> cases q
  simpa using this
noncomputable def qc0 {K:Type} [DecidableEq K] (ks:List K) (vs:List AV) (x:K):Option AV:=((ks.zip vs).find? fun kv=>kv.1=x).map (·.2)
theorem qcb [DecidableEq K]{x:K}:∀{ks:List K} {vs:List AV} {us:List Value},RVs W g h vs us->(∀av,qc0 ks vs x=some av->∃u,valueAt (ks.zip us) x=some u/\RV W g h av u)/\(qc0 ks vs x=none->ks.length=us.length->valueAt (ks.zip us) x=none)
  | [],_,_,_=>⟨fun _ q=>by simp[qc0] at q,fun _ _=>rfl⟩
  | y::ks,[],us,r=>⟨fun _ q=>by simp[qc0] at q,fun _ hl=>by obtain rfl:us=[]:=r;simp at hl⟩
  | y::ks,v::vs,us,r=>by
    refine qa3 (r) ?_;intro u q eq_1_2 r1 r2;subst eq_1_2;obtain ⟨i1,i2⟩:=qcb (x:=x) (ks:=ks) r2;unfold qc0 valueAt at *;rw[List.zip_cons_cons,List.zip_cons_cons,List.find?_cons,List.find?_cons];by_cases hy:y=x
    . subst hy;simp only[decide_true];exact ⟨fun av e=>by simp at e;subst e;exact ⟨u,rfl,r1⟩,fun e=>by simp at e⟩
    . simp only[hy,decide_false];exact ⟨i1,fun e hl=>i2 e (by simpa using hl)⟩
theorem Icv {x:Int}{b:Bool}(hn:σ[n]?=some (.dint ks vs))(hb:b=(qc0 ks vs x).isSome):Op2 W Y k fr σ (compareOp .In) (.int x) (.loc n) (.bool b) σ:=fun A g s va vb rm R ra rb Q E hQ=>by
  obtain ⟨t,rfl⟩:=ra;refine qa4 (rb) ?_;intro a eq_4_1 hg;subst eq_4_1;refine qd5 (R.locs n _ hn) ?_;intro a' hg' us hm hl hr;have:a'=a:=R.uniq _ _ _ hg' hg;subst this;have e:(valueAt (ks.zip us) x).isSome=b:=by
    rw[hb];obtain ⟨i1,i2⟩:=qcb (x:=x) (ks:=ks) hr;cases hq:qc0 ks vs x with
    | none=>rw[i2 hq hl];rfl
    | some av=>refine qa4 (i1 av hq) ?_;intro u hu _;rw[hu];rfl
  refine wpAny_in_of (knd:=PySem.intKind W.prog W.w) (k:=x) (by simp[PySem.intKind,Value.isInt]) (qdu R hg) hm.mapOf ?_;rw[e];exact hQ _ g _ (R.tok _) Evo.refl rfl
end
section
theorem qjd:typeLookup (.type "dict") "__getitem__"=pure (some (.builtin "dict.__getitem__")):=PySem.slot_dict_getitem.lookup
theorem Ibv {i:Expr}{ks:List Str}(he:Ev C k fr m σ e (.loc n) z1)(hi:Ev C k fr m z1 i (.str x) z')(hn:z'[n]?=some (.dstr ks vs))(hx:qc0 ks vs x=some v)(hs:autoParam (∀o w,subscripted i false o w=operate [o,w] (getItem o w)) ap0._auto_1):Ev C k fr m σ (.Subscript e i p) v z':=fun A env g s rm R F Q E hQ=>by
  refine PyProof.Rows.Subscript_ (he A env g s rm R F _ _ fun va g1 s1a R1 e1a ra=>hi A env g1 s1a rm R1 (F.up e1a) _ _ fun vi g2 s2 R2 e2a rx=>?_);obtain ⟨t,rfl⟩:=rx;refine qa4 (ra.up e2a) ?_;intro a eq_9_1 hg;subst eq_9_1;refine qd5 (R2.locs n _ hn) ?_;intro a' hg' us hm hl hr;have:a'=a:=R2.uniq _ _ _ hg' hg;subst this;refine qa4 ((qcb (x:=x) (ks:=ks) hr).1 v hx) ?_;intro u hu ru;refine tail_any hm.typeIs qjd (wpAny_getItem_of (knd:=PySem.strKind C.W.prog C.W.w) (k:=x) (by simp[PySem.strKind,Value.isStrOf]) hm.mapOf hu ?_) (hs _ _);exact hQ _ g2 _ (R2.tok _) (e1a.trans e2a) ru
theorem Idy {i:Expr}{x:Int}(he:Ev C k fr m σ e (.loc n) z1)(hi:Ev C k fr m z1 i (.int x) z')(hn:z'[n]?=some (.dint ks vs))(hx:qc0 ks vs x=some v)(hs:autoParam (∀o w,subscripted i false o w=operate [o,w] (getItem o w)) ap0._auto_1):Ev C k fr m σ (.Subscript e i p) v z':=fun A env g s rm R F Q E hQ=>by
  refine PyProof.Rows.Subscript_ (he A env g s rm R F _ _ fun va g1 s1a R1 e1a ra=>hi A env g1 s1a rm R1 (F.up e1a) _ _ fun vi g2 s2 R2 e2a rx=>?_);obtain ⟨t,rfl⟩:=rx;refine qa4 (ra.up e2a) ?_;intro a eq_13_1 hg;subst eq_13_1;refine qd5 (R2.locs n _ hn) ?_;intro a' hg' us hm hl hr;have:a'=a:=R2.uniq _ _ _ hg' hg;subst this;refine qa4 ((qcb (x:=x) (ks:=ks) hr).1 v hx) ?_;intro u hu ru;refine tail_any hm.typeIs qjd (wpAny_getItem_of (knd:=PySem.intKind C.W.prog C.W.w) (k:=x) (by simp[PySem.intKind,Value.isInt]) hm.mapOf hu ?_) (hs _ _);exact hQ _ g2 _ (R2.tok _) (e1a.trans e2a) ru
noncomputable def qf1 {K:Type} [DecidableEq K] (ks:List K) (vs:List AV) (x:K) (v:AV):List K×List AV:=if x∈ks then (ks,(ks.zip vs).map fun kv=>if kv.1=x then v else kv.2) else (ks++[x],vs++[v])
theorem qeq [DecidableEq K]{x:K}{u:Value}{ks:List K}{us:List Value}(hl:ks.length=us.length)(hr:RVs W g h vs us)(ru:RV W g h v u):
    ∃us',stored (ks.zip us) x u=(qf1 ks vs x v).1.zip us'/\(qf1 ks vs x v).1.length=us'.length/\RVs W g h (qf1 ks vs x v).2 us':=by
  unfold stored qf1;by_cases hx:x∈ks
  . have hany:((ks.zip us).any fun kv=>decide (kv.1=x))=true:=by
      obtain ⟨i,hi,e⟩:=List.mem_iff_getElem.mp hx;refine List.any_eq_true.mpr ⟨(ks[i],us[i]'(by lia)),?_,by simp[e]⟩;exact List.mem_iff_getElem.mpr ⟨i,by simp;lia,by simp⟩
    rw[if_pos hany,if_pos hx];have key:∀(ks:List K) (vs:List AV) (us:List Value),ks.length=us.length->RVs W g h vs us->(ks.zip us).map (fun kv=>if kv.1=x then (kv.1,u) else kv)=ks.zip ((ks.zip us).map fun kv=>if kv.1=x then u else kv.2) /\
        RVs W g h ((ks.zip vs).map fun kv=>if kv.1=x then v else kv.2) ((ks.zip us).map fun kv=>if kv.1=x then u else kv.2):=by
      intro ks;induction ks with
      | nil=>intro vs us _ _;exact ⟨rfl,rfl⟩
      | cons y ks ih=>
        intro vs us hl r;cases us with
        | nil=>simp at hl
        | cons w us=>
          cases vs with
          | nil=>cases (r:w::us=[])
          | cons a vs=>
            refine qa3 (r) ?_;intro w' us' e r1 r2;injection e with e1 e2
            subst e1 e2;obtain ⟨i1,i2⟩:=ih vs us (by simpa using hl) r2;constructor
            . simp only[List.zip_cons_cons,List.map_cons];rw[<- i1];by_cases hy:y=x <;> simp[hy]
            . simp only[List.zip_cons_cons,List.map_cons];refine ⟨_,_,rfl,?_,i2⟩;by_cases hy:y=x
              . simp only[hy,if_true];exact ru
              . simp only[hy,if_false];exact r1
    obtain ⟨k1,k2⟩:=key ks vs us hl hr;exact ⟨_,k1,by simp[hl],k2⟩
  . have hany:((ks.zip us).any fun kv=>decide (kv.1=x))=false:=by
      rw[Bool.eq_false_iff];intro q;refine qa4 (List.any_eq_true.mp q) ?_;intro ne_20_0 hm e;obtain ⟨y,w⟩:=ne_20_0;have:=(List.of_mem_zip hm).1;simp at e;exact hx (e ▸ this)
    rw[if_neg (by rw[hany];simp),if_neg hx];refine ⟨us++[u],?_,by simp[hl],hr.append ⟨u,[],rfl,ru,rfl⟩⟩;rw[List.zip_append hl];rfl
theorem qet [DecidableEq K]{x:K}(hv:plain v=true):∀{ks:List K} {vs:List AV},plains vs=true->plains (qf1 ks vs x v).2=true:=by
  intro ks vs h;unfold qf1;split
  . have key:∀(ks:List K) (vs:List AV),plains vs=true->plains ((ks.zip vs).map fun kv=>if kv.1=x then v else kv.2)=true:=by
      intro ks;induction ks with
      | nil=>intro vs _;rfl
      | cons y ks ih=>
        intro vs h;cases vs with
        | nil=>rfl
        | cons a vs=>
          have h':(plain a&&plains vs)=true:=h;rw[Bool.and_eq_true] at h';simp only[List.zip_cons_cons,List.map_cons];show (plain (if y=x then v else a)&&plains _)=true;rw[ih vs h'.2];by_cases hy:y=x
          . rw[if_pos hy,hv];rfl
          . rw[if_neg hy,h'.1];rfl
    exact key ks vs h
  . rw[qao,h];show (true&&(plain v&&true))=true;rw[hv];rfl
theorem Rep.updDict (R:Rep W fr g σ s){ao':AObj}(tk:Nat)(hn:σ[n]?=some ao)(hg:g a=.loc n)(hs:Heap.SameBut a s.heap h')(ha:∃o,h'.get? a=some o)(hp:qdg ao'=true)(hr:Evo W noX (·=n) g s.heap g h'->RO W g h' a n ao'):Rep W fr g (σ.set n ao') { s with heap:=h',toks:=tk }/\Evo W noX (·=n) g s.heap g h':=by
  have hk:∀b o,s.heap.get? b=some o->g b≠.loc n->g b≠.aux n->h'.get? b=some o:=fun b o q h1 _=>(hs.2 b fun e=>h1 (e ▸ hg)).trans q
  have e:=Evo.setLoc (g':=g) R (n:=n) (fun _ _ _=>rfl) hk;refine ⟨R.setLoc (ao':=ao') tk hn (fun _ _ _=>rfl) (fun b hb=>.inl (R.newO hb)) hk (fun b o q _=>?_) hp (fun b hb=>?_),e⟩
  . by_cases hb:b=a
    . subst hb;exact ha
    . exact ⟨o,(hs.2 b hb).trans q⟩
  . have:b=a:=R.uniq _ _ _ hb hg;subst this;exact hr e
theorem qkw {o i:Expr}{v:Value}{Q:Unit->Shared->Prop}(h:wpAny M A (eval o env) (fun ov s1a=>wpAny M A (eval i env) (fun iv s2=>wpAny M A (setItem ov iv v) Q E s2) E s1a) E s):
    wpAny M A (PySem.assign (.Subscript o i p) env v) Q E s:=by
  rw[arm_assign_Subscript];refine wpAny_bind (wpAny_holding (wpAny_mono h (fun ov s1a h1a=>wpAny_bind (wpAny_holding (wpAny_mono h1a (fun iv s2 h2a=>?_) fun _ _ e=>e))) fun _ _ e=>e));exact wpAny_bind (wpAny_standAt (wpAny_bind (wpAny_holding (wpAny_mono h2a (fun _ s3 h3=>wpAny_release h3) fun _ _ e=>e))))
theorem Ieh {o i:Expr}{ks:List Str}(he:Ev C k fr m σ o (.loc n) z1)(hi:Ev C k fr m z1 i (.str x) z2)(hn:z2[n]?=some (.dstr ks vs))(hY:C.Y n)(hp:plain v=true)(hz:autoParam (ks.length<=sizeLine) ap2._auto_1):
    As C k fr m σ (.Subscript o i p) v m (z2.set n (.dstr (qf1 ks vs x v).1 (qf1 ks vs x v).2)):=fun A env g s u rm R F ru Q E hQ=>by
  refine qkw (he A env g s rm R F _ _ fun va g1 s1a R1 e1a ra=>hi A env g1 s1a rm R1 (F.up e1a) _ _ fun vi g2 s2 R2 e2a rx=>?_);obtain ⟨t,rfl⟩:=rx;refine qa4 (ra.up e2a) ?_;intro a eq_22_1 hg;subst eq_22_1;refine qd5 (R2.locs n _ hn) ?_;intro a' hg' us hm hl hr;have:a'=a:=R2.uniq _ _ _ hg' hg;subst this;refine wpAny_setItem_pairs (knd:=PySem.strKind C.W.prog C.W.w) (k:=x) (by simp[PySem.strKind,Value.isStrOf]) hm (fun h' hm' hs=>?_) (by rw[List.length_zip];simp_all);have hm2:=hm';refine qbu (hm2) ?_;intro o' _ _ ho' _;obtain ⟨R3,e3a⟩:=R2.updDict (ao':=.dstr (qf1 ks vs x v).1 (qf1 ks vs x v).2) (s2.toks+1) hn hg hs ⟨o',ho'⟩ (qet hp (R2.pl n _ hn)) (fun e=>by
    refine qal (qeq (x:=x) hl (hr.up e) ((ru.up (e1a.trans e2a)).up e)) ?_;intro us' h1 h2 h3;exact ⟨us',by rw[<- h1];exact hm',h2,h3⟩)
  have e:=(e1a.trans e2a).trans (e3a.toN hY);exact hQ g2 _ R3 e.toX (F.up e)
theorem Ie2 {o i:Expr}{x:Int}(he:Ev C k fr m σ o (.loc n) z1)(hi:Ev C k fr m z1 i (.int x) z2)(hn:z2[n]?=some (.dint ks vs))(hY:C.Y n)(hp:plain v=true)(hz:ks.length<=sizeLine):
    As C k fr m σ (.Subscript o i p) v m (z2.set n (.dint (qf1 ks vs x v).1 (qf1 ks vs x v).2)):=fun A env g s u rm R F ru Q E hQ=>by
  refine qkw (he A env g s rm R F _ _ fun va g1 s1a R1 e1a ra=>hi A env g1 s1a rm R1 (F.up e1a) _ _ fun vi g2 s2 R2 e2a rx=>?_);obtain ⟨t,rfl⟩:=rx;refine qa4 (ra.up e2a) ?_;intro a eq_27_1 hg;subst eq_27_1;refine qd5 (R2.locs n _ hn) ?_;intro a' hg' us hm hl hr;have:a'=a:=R2.uniq _ _ _ hg' hg;subst this;refine wpAny_setItem_pairs (knd:=PySem.intKind C.W.prog C.W.w) (k:=x) (by simp[PySem.intKind,Value.isInt]) hm (fun h' hm' hs=>?_) (by rw[List.length_zip];simp_all);have hm2:=hm';refine qbu (hm2) ?_;intro o' _ _ ho' _;obtain ⟨R3,e3a⟩:=R2.updDict (ao':=.dint (qf1 ks vs x v).1 (qf1 ks vs x v).2) (s2.toks+1) hn hg hs ⟨o',ho'⟩ (qet hp (R2.pl n _ hn)) (fun e=>by
    refine qal (qeq (x:=x) hl (hr.up e) ((ru.up (e1a.trans e2a)).up e)) ?_;intro us' h1 h2 h3;exact ⟨us',by rw[<- h1];exact hm',h2,h3⟩)
  have e:=(e1a.trans e2a).trans (e3a.toN hY);exact hQ g2 _ R3 e.toX (F.up e)
theorem qhg {l:Addr}{vs:Array Value}{mm:Nat}{x:Int}{t:Tok}{v:Value}{Q:Unit->Shared->Prop}(hxj:x=(j:Nat))(ho:s.heap.get? l=some (qab vs mm))(hj:j<vs.size)(hfit:j<2 ^ 24)(hQ:Q () { s with heap:=s.heap.update l (Obj.mapSeq (·.setIfInBounds j v)) }):wpAny (model W.prog W.w) A (setItem (.ref l) (.int x t) v) Q E s:=by
  have hl:=qam ho;unfold setItem;try with_reducible refine wpAny_holding ?_
  first | refine wpAny_bind (wpAny_pure ?_) | skip
  refine wpAny_bind (wpAny_sequenceKey hl.typeIs (by decide) ?_);refine wpAny_bind (wpAny_callSpecial?_slot (name:=Str.ofString "__setitem__") hl.typeIs slot_list_setitem
    (wpAny_call_entry slot_list_setitem hl.typeIs entry_list_setitem ?_ (args_list_setitem _ _ _)))
  show wpAny _ _ (Builtin.List.listSubscript? (.int x t) >>= _) _ _ s;refine wpAny_bind (wpAny_listSubscript_int (fitsIndex_of (by simp_all) (by lia)) ?_);subst hxj;have hx':vs[j]?=some vs[j]:=Array.getElem?_eq_getElem hj;show wpAny _ _ ((seqItemAt l j >>= fun r=>pure (r.map (j,·))) >>= _) _ _ s;refine wpAny_bind (wpAny_bind (wpAny_seqItemAt ho rfl (wpAny_pure ?_)));rw[hx'];show wpAny _ _ (setSeqItemAt l j v >>= _) _ _ s;refine wpAny_bind (wpAny_setSeqItemAt ho rfl ?_);first
    | exact wpAny_bind (wpAny_pure (wpAny_pure ⟨.none,rfl,wpAny_pure hQ⟩))
    | exact wpAny_pure ⟨.none,rfl,wpAny_pure hQ⟩
theorem Iei {o i:Expr}{x:Int}(he:Ev C k fr m σ o (.loc n) z1)(hi:Ev C k fr m z1 i (.int x) z2)(hx:x=(j:Nat))(hn:z2[n]?=some (.lst l))(hj:j<l.length)(hz:l.length<=2 ^ 24)(hY:C.Y n)(hp:plain v=true):
    As C k fr m σ (.Subscript o i p) v m (z2.set n (.lst (l.set j v))):=fun A env g s u rm R F ru Q E hQ=>by
  refine qkw (he A env g s rm R F _ _ fun va g1 s1a R1 e1a ra=>hi A env g1 s1a rm R1 (F.up e1a) _ _ fun vi g2 s2 R2 e2a rx=>?_);refine Exists.elim rx ?_;intro t eq_0_1;subst eq_0_1;refine qa2 (qg5 R2 hn (ra.up e2a)) ?_;intro a vs mm eq_32_3 hg ho hr;subst eq_32_3;have el:vs.size=l.length:=by rw[<- Array.length_toList,hr.length]
  refine qhg hx ho (by simp_all) (by lia) ?_;have hset:∀(l:List AV) (vs:List Value) (j:Nat),RVs C.W g2 s2.heap l vs->RVs C.W g2 s2.heap (l.set j v) (vs.set j u):=by
    intro l;induction l with
    | nil=>intro vs j r;cases (r:vs=[]);exact (rfl:([]:List Value)=[])
    | cons b l ih=>
      intro vs j r;refine qa3 (r) ?_;intro w q eq_33_2 r1 r2;subst eq_33_2;cases j with
      | zero=>exact ⟨u,q,rfl,ru.up (e1a.trans e2a),r2⟩
      | succ j=>exact ⟨w,_,rfl,r1,ih q j r2⟩
  have hps:∀(l:List AV) (j:Nat),plains l=true->plains (l.set j v)=true:=by
    intro l;induction l with
    | nil=>intro j h;rfl
    | cons b l ih=>
      intro j h;have h':(plain b&&plains l)=true:=h;rw[Bool.and_eq_true] at h';cases j with
      | zero=>show (plain v&&plains l)=true;rw[hp,h'.2];rfl
      | succ j=>show (plain b&&plains (l.set j v))=true;rw[h'.1,ih j h'.2];rfl
  refine And.elim ?_ (R2.updList (f:=fun xs=>xs.setIfInBounds j u) (l':=l.set j v) s2.toks hn hg ho (by simpa using hset l vs.toList j hr) (hps l j (R2.pl n _ hn)));intro R3 e3a;have e:=(e1a.trans e2a).trans (e3a.toN hY);exact hQ g2 _ R3 e.toX (F.up e)
end
end
section
open PySem.Builtin PySem.Builtin.Str
section
noncomputable abbrev qbh (ss:List PySem.Str):List AV:=ss.map .str
theorem RVs.strs:∀{ss:List PySem.Str} {vs:List Value},RVs W g h (qbh ss) vs->StrsAre vs ss
  | [],vs,r=>by obtain rfl:vs=[]:=r;exact .nil
  | x::ss,vs,r=>by refine qa3 (r) ?_;intro v q eq_0_2 ne_0_3 r2;subst eq_0_2;obtain ⟨t,rfl⟩:=ne_0_3;exact .cons x t (RVs.strs r2)
theorem Ic6:∀(l:List (PySem.Str×Tok)),RVs W g h (qbh (l.map (·.1))) (strValues l)
  | []=>rfl
  | (x,t)::l=>⟨.str x t,strValues l,rfl,⟨t,rfl⟩,Ic6 l⟩
theorem Ibp {i:Int}(hz:(baseText "0x" 16 i).length<=sizeLine):Calls W Y k fr σ (.glob (.builtin "hex")) [.int i] [] [] (.str (baseText "0x" 16 i)) σ:=fun A g s vf us ks rm R rf ru rk Q E hQ=>by
  obtain rfl:vf=.builtin "hex":=rf;refine qa3 (ru) ?_;intro u q eq_1_2 ne_1_3 q';subst eq_1_2;obtain ⟨t,rfl⟩:=ne_1_3;obtain rfl:q=[]:=q';exact P.hex_of_int (hQ _ g _ (R.tok _) Evo.refl ⟨_,rfl⟩) hz
theorem Calls.join {x:PySem.Str}{ss:List PySem.Str}(hL:Lv σ v (qbh ss))(hok:(ss.map (·.length)).sum+ss.length*x.length<=16777216):Calls W Y k fr σ (.glob (.builtin "str.join")) [.str x,v] [] [] (.str (Txt.join x ss)) σ:=fun A g s vf us ks rm R rf ru rk Q E hQ=>by
  obtain rfl:vf=.builtin "str.join":=rf;refine qa3 (ru) ?_;intro u q eq_2_2 ne_2_3 q';subst eq_2_2;obtain ⟨t,rfl⟩:=ne_2_3;refine qa3 (q') ?_;(try clear q');intro u2 q2 eq_3_2 r2 q';subst eq_3_2;obtain rfl:q2=[]:=q';refine qa2 (hL.at R r2) ?_;intro a vs m eq_4_3 ho hr _;subst eq_4_3;exact join_list (qam ho) hr.strs hok fun t' tk=>hQ _ g _ (R.tok _) Evo.refl ⟨t',rfl⟩
theorem Ida {x:PySem.Str}{ss:List PySem.Str}(hss:Txt.words x=ss)(hsz:x.length<=sizeLine)(hsz2:(spaceWords x (x.length+1)).length<=sizeLine):Calls W Y k fr σ (.glob (.builtin "str.split")) [.str x] [] [] (.lst (qbh ss)) σ:=fun A g s vf us ks rm R rf ru rk Q E hQ=>by
  obtain rfl:vf=.builtin "str.split":=rf;refine qa3 (ru) ?_;intro u q eq_5_2 ne_5_3 q';subst eq_5_2;obtain ⟨t,rfl⟩:=ne_5_3;obtain rfl:q=[]:=q';have fin:∀(l:List (PySem.Str×Tok)) (tk:Nat),l.map (·.1)=ss->Q (.ref s.heap.objs.size) { s with heap:=s.heap.push (qab (strValues l).toArray 0),toks:=tk }:=fun l tk hl=>by
    obtain ⟨R2,e2a⟩:=R.newFz (qab (strValues l).toArray 0);refine hQ _ _ _ (R2.tok tk) e2a.no ⟨_,_,_,rfl,qa5,Heap.get?_push_size _ rfl,?_⟩;rw[<- hl];exact Ic6 l
  refine call_meets PySem.F.slot_str_split (typeIs_str _ _ _) PySem.F.entry_str_split (PySem.F.args_str_split_1 _) (meets_str_split_space x t hsz hsz2) ?_;cases hw:spaceWords x (x.length+1)==[(0,x.length)]
  . simp only[Bool.false_eq_true,if_false];rw[strsFrom_eq];exact fin (numbered s.toks (PySem.wordsOf x)) _ (((numbered_texts _ _).trans (if_neg (ne_true_of_eq_false hw)).symm).trans hss)
  . simp only[if_true];exact fin [(x,t)] _ (((if_pos hw).symm:[x]=Txt.words x).trans hss)
theorem Idt {i:Int}(hi:i.natAbs<4611686018427387904):Calls W Y k fr σ (.glob (.type "str")) [.int i] [] [] (.str (Str.ofString (toString i))) σ:=fun A g s vf us ks rm R rf ru rk Q E hQ=>by
  cases (rf:vf=.type "str")
  refine qa3 (ru) ?_;intro u q eq_7_2 ne_7_3 q';subst eq_7_2;obtain ⟨t,rfl⟩:=ne_7_3;cases (q':q=[])
  refine str_of_int_fit (N:=4611686018427387904) (by split <;> omega) (Int.le_refl _) fun _=>?_
  exact hQ _ g _ (R.tok _) Evo.refl ⟨_,rfl⟩
theorem Ie4 {x y:PySem.Str}(hz:x.length+y.length<=sizeLine):Op2 W Y k fr σ (binaryOp .Add) (.str x) (.str y) (.str (x++y)) σ:=fun A g s va vb rm R ra rb Q E hQ=>by
  obtain ⟨t,rfl⟩:=ra;obtain ⟨u,rfl⟩:=rb;exact SB.add (fun t' tk=>hQ _ g _ (R.tok _) Evo.refl ⟨t',rfl⟩) hz
theorem MethOk.str {x:PySem.Str}{n:PySem.Str}{id:String}(slot:Slot "str" n id)(hty:typeOf (.builtin id)=pure (.type "method_descriptor")):MethOk W fr σ (.str x) n (.glob (.builtin id)) [.str x]:=fun A g s va pl Q E R ra hQ=>by
  obtain ⟨t,rfl⟩:=ra;exact getMethod_builtin (typeIs_str _ _ _) PySem.F.plainAttrs_str slot hty (fun a e=>by cases e) (hQ _ _ s R rfl rfl ⟨_,[],rfl,⟨t,rfl⟩,rfl⟩)
structure qjl (W:Wd) (a:Addr) (kvs:List (Int×PySem.Str)):Prop where
  nt:¬W.tab a
  ns:(a==sysModules)=false
  at_:∃us,W.s1.heap.DictOf (PySem.intKind W.prog W.w) a ((kvs.map (·.1)).zip us)/\StrsAre us (kvs.map (·.2))
theorem MethOk.tab {kvs:List (Int×PySem.Str)}(T:qjl W a kvs):MethOk W fr σ (.glob (.ref a)) "get" (.glob (.builtin "dict.get")) [.glob (.ref a)]:=fun A g s va pl Q E R ra hQ=>by
  obtain rfl:va=.ref a:=ra;refine qa4 (T.at_) ?_;intro us hm _;have hm':s.heap.DictOf (PySem.intKind W.prog W.w) a ((kvs.map (·.1)).zip us):=by
    rw[Heap.dictOf_iff] at hm ⊢;refine qa4 (hm) ?_;intro o ho q;exact ⟨o,R.base a o ho T.nt,q⟩
  exact getMethod_builtin hm'.typeIs PySem.F.plainAttrs_dict PySem.F.slot_dict_get PySem.F.type_dict_get (fun b e=>by
    cases e
    refine qav (hm') ?_;intro o es ep ho hx _;exact ⟨o,ho,hx.2.1⟩) (hQ _ _ s R rfl rfl ⟨_,[],rfl,rfl,rfl⟩)
theorem qn9:∀{ks:List Int} {us:List Value} {ss:List PySem.Str} {x:Int},ks.length=ss.length->StrsAre us ss->(∀y,(ks.zip ss).lookup x=some y->∃t,valueAt (ks.zip us) x=some (.str y t))/\((ks.zip ss).lookup x=none->valueAt (ks.zip us) x=none)
  | [],_,_,x,_,_=>⟨fun y q=>by simp at q,fun _=>rfl⟩
  | c::ks,_,[],x,hl,_=>by simp at hl
  | c::ks,us,y::ss,x,hl,r=>by
    cases r with
    | cons _ t r=>
      rename_i us;obtain ⟨i1,i2⟩:=qn9 (ks:=ks) (x:=x) (by simpa using hl) r;unfold valueAt at *;rw[List.zip_cons_cons,List.zip_cons_cons,List.lookup_cons,List.find?_cons];by_cases hc:c=x
      . subst hc;simp only[beq_self_eq_true,decide_true];exact ⟨fun y' e=>by obtain rfl:=Sj e;exact ⟨t,rfl⟩,fun e=>by cases e⟩
      . have:(x==c)=false:=by simp;exact fun q=>hc q.symm
        rw[this];simp only[hc,decide_false];exact ⟨i1,i2⟩
theorem Calls.get {kvs:List (Int×PySem.Str)}{x:Int}{d:PySem.Str}(T:qjl W a kvs):Calls W Y k fr σ (.glob (.builtin "dict.get")) [.glob (.ref a),.int x,.str d] [] [] (.str ((((kvs.map (·.1)).zip (kvs.map (·.2))).lookup x).getD d)) σ:=fun A g s vf us ks rm R rf ru rk Q E hQ=>by
  obtain rfl:vf=.builtin "dict.get":=rf;refine qa3 (ru) ?_;intro u q eq_15_2 r1 q';subst eq_15_2;obtain rfl:u=.ref a:=r1;refine qa3 (q') ?_;(try clear q');intro u2 q2 eq_16_2 ne_16_3 q';subst eq_16_2;obtain ⟨t,rfl⟩:=ne_16_3;refine qa3 (q') ?_;(try clear q');intro u3 q3 eq_17_2 ne_17_3 q';subst eq_17_2;obtain ⟨t',rfl⟩:=ne_17_3;obtain rfl:q3=[]:=q';refine qa4 (T.at_) ?_;intro us hm hs;have hm':s.heap.DictOf (PySem.intKind W.prog W.w) a ((kvs.map (·.1)).zip us):=by
    rw[Heap.dictOf_iff] at hm ⊢;refine qa4 (hm) ?_;intro o ho q;exact ⟨o,R.base a o ho T.nt,q⟩
  have hh:entryFor table "dict.get"=some Builtin.«dict.get»:=PySem.F.entry_dict_get;refine wpAny_call (codeAny_call_builtin PySem.F.slot_dict_get.plain hh (PySem.F.slot_dict_get.check _ _ _ _ _ _ _ _ hm'.typeIs (PySem.F.args_dict_get_3 _ _ _) ?_));refine meets_dict_get_default (PySem.intKind W.prog W.w) a (k:=x) (key:=.int x t) (by simp[PySem.intKind,Value.isInt]) T.ns (.str d t') A (fun r s'=>match r with | .ok (.ret v)=>Q v s' | .ok _=>False | .error e=>E e s') s ⟨_,hm'.mapOf,?_⟩;obtain ⟨i1,i2⟩:=qn9 (ks:=kvs.map (·.1)) (ss:=kvs.map (·.2)) (x:=x) (by simp) hs;show Q _ _;refine hQ _ g _ (R.tok _) Evo.refl ?_;cases hq:((kvs.map (·.1)).zip (kvs.map (·.2))).lookup x with
  | none=>rw[i2 hq];exact ⟨t',rfl⟩
  | some y=>obtain ⟨t2,e⟩:=i1 y hq;rw[e];exact ⟨t2,rfl⟩
theorem Icf {ks:List PySem.Str}(hn:σ[n]?=some (.dstr ks vs)):Calls W Y k fr σ (.glob (.builtin "hasattr")) [.loc n,.str "tag"] [] [] (.bool false) σ:=fun A g s vf us ks' rm R rf ru rk Q E hQ=>by
  obtain rfl:vf=.builtin "hasattr":=rf;refine qa3 (ru) ?_;intro v1 q1 eq_22_2 r1 q;subst eq_22_2;refine qa3 (q) ?_;(try clear q);intro v2 q2 eq_23_2 ne_23_3 q;subst eq_23_2;obtain ⟨t,rfl⟩:=ne_23_3;obtain rfl:q2=[]:=q;refine qa4 (r1) ?_;intro a eq_24_1 hg;subst eq_24_1;refine qd5 (R.locs n _ hn) ?_;intro a' hg' us hm hl hr;have:a'=a:=R.uniq _ _ _ hg' hg;subst this;refine qa2 (hm) ?_;intro ne_26_0 es ep ho ne_26_4 hd _;obtain ⟨c,dct,dat,sl⟩:=ne_26_0;obtain ⟨h1,h2,h3⟩:=ne_26_4;simp only at h1 h2 h3 hd;subst h1 h2 h3 hd;refine qch ho rfl qgi qh8 (qko rm.handled ho qh8 (by decide) (fun h' tk e hx'=>?_) (by decide));obtain ⟨R',e'⟩:=qk4 R hx' tk;exact ⟨e,rfl,(by refine qa3 (hx'.there) ?_;intro ob _ q1 q2 _;exact ⟨ob,q1,q2⟩),hQ _ g _ R' e'.no rfl⟩
theorem Ibt {ks ks':List PySem.Str}{vs':List AV}(hn:σ[n]?=some (.dstr ks vs))(hn':σ[n']?=some (.dstr ks' vs'))(hl:ks.length=ks'.length)(hlv:ks.length=vs.length)(hd:∀v∈vs,isD v=true/\(toP v).depth<=64)(hsub:∀(i:Nat) (x:PySem.Str) (v:AV),ks[i]?=some x->vs[i]?=some v->qc0 ks' vs' x=some v):Op2 W Y k fr σ (compareOp .Eq) (.loc n) (.loc n') (.bool true) σ:=fun A g s va vb rm R ra rb Q E hQ=>by
  refine qa4 (ra) ?_;intro a eq_29_1 hg;subst eq_29_1;refine qa4 (rb) ?_;intro b eq_30_1 hg2;subst eq_30_1;refine qd5 (R.locs n _ hn) ?_;intro a' hga us hm hl1 hr;have:a'=a:=R.uniq _ _ _ hga hg;subst this;refine qd5 (R.locs n' _ hn') ?_;intro b' hgb us' hm' hl2 hr';have:b'=b:=R.uniq _ _ _ hgb hg2;subst this;have hu:A.units<cLine:=rm.line;have hu2:A.in1.units+64<cLine:=by have h1:=rm.units;have h3:cLine=9900:=rfl;show A.units+1+64<cLine;lia
  have hits:∀(l1:List PySem.Str) (l2:List AV) (l3:List Value),l1.length=l2.length->RVs W g s.heap l2 l3->(∀v∈l2,isD v=true/\(toP v).depth<=64)->(∀(i:Nat) (x:PySem.Str) (v:AV),l1[i]?=some x->l2[i]?=some v->qc0 ks' vs' x=some v)->KeqHits A.in1 s (ks'.zip us') (l1.zip l3) true:=by
    intro l1;induction l1 with
    | nil=>intro l2 l3 _ _ _ _;exact .nil
    | cons x l1 ih=>
      intro l2 l3 e1 r hd hs;cases l2 with
      | nil=>simp at e1
      | cons v l2=>
        refine qa3 (r) ?_;intro w q eq_33_2 r1 r2;subst eq_33_2;refine qa4 ((qcb (x:=x) (ks:=ks') hr').1 v (hs 0 x v rfl rfl)) ?_;intro w' hw' rw';refine And.elim ?_ (hd v List.mem_cons_self);intro h1 h2;refine Exists.elim (r1.reads v h1 _) ?_;intro as ra;refine Exists.elim (rw'.reads v h1 _) ?_;intro bs rb;have hsh:SeqAt.shaped (toP v)=true:=by unfold SeqAt.shaped;rw[qfl v h1,Bool.true_and];exact decide_eq_true h2
        have heq:=keq_at (A:=A) ra rb hsh hsh hu2;rw[(qoz v v h1 h1).mpr rfl] at heq;exact KeqHits.hit (e:=true) (b:=true) hw' heq (ih l2 q (by simpa using e1) r2 (fun u hu=>hd u (List.mem_cons_of_mem _ hu)) fun i y u h3 h4=>hs (i+1) y u (by simpa using h3) (by simpa using h4))
  refine keq_eq (knd:=PySem.strKind W.prog W.w) (qdu R hg) (qdu R hg2) hm hm' hu (fun _=>hits ks vs us hlv hr hd hsub) ?_;have:((ks.zip us).length==(ks'.zip us').length&&true)=true:=by simp[List.length_zip,<- hl1,<- hl2,hl]
  rw[this];exact hQ _ g s R Evo.refl rfl
end
end
section
structure LamIn (C:Cx) (c P:Addr):Prop where
  cd:C.cd=.ref c
  hd:CodeHd C.W.s1.heap c P
  nc:¬C.W.tab c
  tab:C.W.tab P
  blt:C.W.s1.heap.BuiltinsAt C.W.mg P
  bm:∀bm,C.W.mg "__builtins__"=some (.ref bm)->¬C.W.tab bm
theorem qi3 {a b:Int}{c v:Value}:∀{l:List Value},TriplesOk l->codeAmong pos (l++[rawInt a,rawInt b,c])=some v->codeAmong pos l=some v\/v=c:=by
  intro l h
  fun_induction TriplesOk l with
  | case1=>
    intro q;simp only[List.nil_append,rawInt,codeAmong] at q;split at q
    . obtain rfl:=Sj q;exact .inr rfl
    . cases q
  | case2 x t y u z rest ih=>
    intro q;simp only[List.cons_append,codeAmong] at q ⊢;split at q
    . rename_i hc;rw[if_pos hc];obtain rfl:=Sj q;exact .inl rfl
    . rename_i hc;rw[if_neg hc];exact ih h q
  | case3=>exact absurd h (by simp)
section
theorem Rep.tabUp (R:Rep W fr g σ s)(tk:Nat)(hP:W.tab P)(hk:∀b o,s.heap.get? b=some o->b≠P->h'.get? b=some o)(hT:qr3 W g h' P):
    Rep W fr g σ { s with heap:=h',toks:=tk }/\Evo W noX noY g s.heap g h':=by
  have hPo:=R.tabO P hP;have hne:∀{b},g b≠.other->b≠P:=fun q e=>q (e ▸ hPo)
  have hkt:∀{b o},s.heap.get? b=some o->∃o',h'.get? b=some o':=fun {b o} ho=>by
    by_cases hb:b=P
    . subst hb;refine qa4 (hT) ?_;intro more h1 _;exact ⟨_,h1⟩
    . exact ⟨o,hk b o ho hb⟩
  have e:Evo W noX noY g s.heap g h':=⟨fun b o ho _ hq=>.of (hk b o ho (by
      rcases hq with q | ⟨_,q⟩
      . exact hne (by rw[q];exact nofun)
      . exact fun e=>q (e ▸ hP))),fun b o n ho hq _=>hk b o ho (hne (by rcases hq with q | q <;> rw[q] <;> exact nofun)),fun _ q _=>q,fun _ _ q=>q,fun _ _ q=>q,fun _ _ _ q _=>.inl q,fun b o _ ho=>hkt ho⟩
  refine ⟨⟨fun b o ho ht=>hk b o (R.base b o ho ht) (fun q=>ht (q ▸ hP)),R.baseO,R.tabO,fun b ht=>?_,fun b hb=>?_,fun n ao ho=>?_,R.uniq,R.pl,R.bnd,fun en he=>?_,R.gens,R.os⟩,e⟩
  . by_cases hb:b=P
    . subst hb;exact hT
    . refine qal (R.tabs b ht) ?_;intro more h2 h3 h4;exact ⟨more,hk b _ h2 hb,h3,fun pos v q=>(h4 pos v q).mono e XOk.no⟩
  . refine Exists.elim (R.low b hb) ?_;intro o ho;exact ⟨o,hk b o ho (hne hb)⟩
  . refine qa4 (R.locs n ao ho) ?_;intro b hg hr;exact ⟨b,hg,hr.mono e XOk.no (fun o q=>hk b o q (hne (by rw[hg];exact nofun))) (fun d hd o q=>hk d o q (hne (by rw[hd];exact nofun))) ao (R.pl n ao ho)⟩
  . refine qaj (R.frs en he) ?_;intro f o es ep h1 h2 h3 h4 h5;refine ⟨f,o,es,ep,h1,hk f o h2 (fun q=>?_),h3,h4,h5⟩;subst q;refine qa4 (R.tabs f hP) ?_;intro more h5 _;rw[h2] at h5;obtain rfl:=Sj h5;cases h3
open Classical in
noncomputable def capt (g:Addr->Own) (K:Addr->Prop):Addr->Own:=fun a=>if K a then .fz else g a
theorem qi4 {K:Addr->Prop}(h:K a):capt g K a=.fz:=if_pos h
theorem qc8 {K:Addr->Prop}(h:¬K a):capt g K a=g a:=if_neg h
theorem Rep.capt (R:Rep W fr g σ s){K:Addr->Prop}(hK:∀a,K a->W.s1.heap.get? a=none/\(g a=.other\/g a=.fz)/\∃v,s.heap.get? a=some (qb5 v)):
    Rep W fr (capt g K) σ s/\Evo W noX noY g s.heap (capt g K) s.heap:=by
  have hl:∀a n,(g a=.loc n\/g a=.aux n)->¬K a:=fun a n hq hk=>by
    rcases (hK a hk).2.1 with q | q <;> rcases hq with r | r <;> (rw[q] at r;cases r)
  have hinv:∀a o,Mine.capt g K a=o->o≠.fz->g a=o:=fun a o q hne=>by
    by_cases hk:K a
    . rw[qi4 hk] at q;exact absurd q.symm hne
    . rw[qc8 hk] at q;exact q
  have hbase:∀{a o},W.s1.heap.get? a=some o->¬K a:=fun ho hk=>by rw[(hK _ hk).1] at ho;cases ho
  have e:Evo W noX noY g s.heap (Mine.capt g K) s.heap:=⟨fun _ _ h _ _=>.of h,fun _ _ _ h _ _=>h,fun a q _=>by
      by_cases hk:K a
      . exact qi4 hk
      . rw[qc8 hk];exact q,fun a n q=>by rw[qc8 (hl a n (.inl q))];exact q,fun a n q=>by rw[qc8 (hl a n (.inr q))];exact q,fun a o ho q _=>by
      by_cases hk:K a
      . exact .inr ⟨qi4 hk,(hK a hk).2.2⟩
      . exact .inl (by rw[qc8 hk];exact q),fun a o _ ho=>⟨o,ho⟩⟩
  refine ⟨⟨R.base,fun a o ho=>by rw[qc8 (hbase ho)];exact R.baseO a o ho,fun a ht=>by rw[qc8 (hbase (W.tabEx a ht))];exact R.tabO a ht,fun a ht=>?_,fun a ha=>?_,fun n ao ho=>?_,
    fun a b n ha hb=>R.uniq a b n (hinv a _ ha nofun) (hinv b _ hb nofun),R.pl,fun a n q=>R.bnd a n (q.imp (fun q=>hinv a _ q nofun) fun q=>hinv a _ q nofun),fun en he=>?_,R.gens,R.os⟩,e⟩
  . refine qal (R.tabs a ht) ?_;intro more h2 h3 h4;exact ⟨more,h2,h3,fun pos v q=>(h4 pos v q).mono e XOk.no⟩
  . by_cases hk:K a
    . refine Exists.elim ((hK a hk).2.2) ?_;intro v hv;exact ⟨_,hv⟩
    . rw[qc8 hk] at ha;exact R.low a ha
  . refine qa4 (R.locs n ao ho) ?_;intro a qa hr;exact ⟨a,e.loc a n qa,hr.mono e XOk.no (fun _ q=>q) (fun _ _ _ q=>q) ao (R.pl n ao ho)⟩
  . refine qaj (R.frs en he) ?_;intro f o es ep h1 h2 h3 h4 h5;refine ⟨f,o,es,ep,h1,h2,h3,?_,h5⟩;rw[qc8 fun hk=>?_]
    . exact h4
    . refine Exists.elim ((hK f hk).2.2) ?_;intro v hv;rw[h2] at hv;obtain rfl:=Sj hv;cases h3
end
section
noncomputable abbrev qq2 (name qual:Str) (params:Arguments) (body:Expr) (scope:Scope) (cl:List (Str×Addr)) (pm cdv ct:Value):FuncData:=
  { name,qualname:=qual,params,body:=.expr body,scope,globals:=mainGlobals,closure:=cl,defaults:=.none,kwdefaults:=.none,doc:=.none,pyModule:=pm,annotations:=none,code:=cdv,closureTuple:=ct,builtins:=builtinsNs }
theorem qrh {name qual:Str}{params:Arguments}{body:FuncBody}{fl:Nat}:makeFunction name qual params body scope env [] [] [] pos fl=makeTail name qual params body scope env .none .none none pos fl:=by
  rw[makeFunction_eq];simp only[List.zip_nil_right,List.filterMap_nil,List.isEmpty_nil,if_true,pure_bind]
theorem CodeHd.at {c:Addr}(x:CodeHd h c P)(e:h'.get? c=h.get? c):CodeHd h' c P:=by unfold CodeHd;rw[e];exact x
section
variable {c:Addr}
theorem LamIn.hdAt (L:LamIn C c P)(R:Rep C.W fr g σ s):CodeHd s.heap c P:=by
  refine Exists.elim (L.hd.tab (C.W.tabEx P L.tab)).1 ?_;intro o h;refine Exists.elim h ?_;intro vs h;exact CodeHd.at L.hd ((R.base c o h.1 L.nc).trans h.1.symm)
theorem LamIn.bltAt (L:LamIn C c P)(R:Rep C.W fr g σ s):s.heap.BuiltinsAt C.W.mg P:=by
  refine Exists.elim L.blt ?_;intro bm h;refine Exists.elim h ?_;intro ob h;exact ⟨bm,ob,h.1,h.2.1,h.2.2.1,h.2.2.2.1,R.base bm ob h.2.2.2.2.1 (L.bm bm h.1),h.2.2.2.2.2⟩
theorem qll {qual:Str}{more:Array Value}(hT:C.W.tab P)(ht:TriplesOk more.toList)(hcodes:∀pos v,codeAmong pos more.toList=some v->CodeOk C.W g s.heap v)(R:Rep C.W fr g σ s)(tk:Nat)(c':Addr)(hx:Heap.ExtBut P s.heap h')(hge:s.heap.objs.size<=c')(hrec:h'.CodeRec (.ref c') qual)(htab:h'.get? P=some (tabObj (more++#[rawInt p.line,rawInt p.col,.ref c'])))(htc:∃P',s.heap.objs.size<=P'/\h'.IsCode c' P' #[]/\h'.TableAt c' P' #[]):
    Rep C.W fr g σ { s with heap:=h',toks:=tk }/\Evo C.W noX noY g s.heap g h'/\CodeOk C.W g h' (.ref c'):=by
  have hnone:s.heap.get? c'=none:=Heap.get?_none_of_le hge;have hok:CodeOk C.W g h' (.ref c'):=by
    obtain ⟨c2,o,vs,t,e1,e2,e3,e4⟩:=hrec;obtain rfl:c'=c2:=Value.ref.inj e1;refine Exists.elim htc ?_;intro P' q;refine qa3 q.2.2.1 ?_;intro o2 vs2 f1 f2 f3;obtain rfl:=Sj (e2.symm.trans f1);exact ⟨c',o,vs,qual,t,rfl,R.newO hnone,Iav (R.new1 hnone),e2,f2,e3,e4⟩
  have hO:=R.tabO _ hT;have hk:∀b o,s.heap.get? b=some o->b≠P->h'.get? b=some o:=fun b o ho hb=>hx b o hb ho
  have htl:(more++#[rawInt p.line,rawInt p.col,Value.ref c']).toList=more.toList++[rawInt p.line,rawInt p.col,.ref c']:=by simp
  have e0:Evo C.W noX noY g s.heap g h':=⟨fun b o ho _ hq=>.of (hx b o (fun q=>by
      subst q;rcases hq with q | ⟨_,q⟩
      . exact nomatch hO.symm.trans q
      . exact q hT) ho),fun b o n ho hq _=>hx b o (fun q=>by subst q;rw[hO] at hq;exact hq.elim (fun q=>nomatch q) fun q=>nomatch q) ho,fun _ q _=>q,fun _ _ q=>q,fun _ _ q=>q,fun _ _ _ q _=>.inl q,fun b o _ ho=>by
    by_cases hb:b=P
    . subst hb;exact ⟨_,htab⟩
    . exact ⟨o,hx b o hb ho⟩⟩
  obtain ⟨R',e'⟩:=R.tabUp (h':=h') tk hT hk ⟨_,htab,by
    rw[htl];exact TriplesOk_snoc _ _ _ _ ht,fun pos v q=>by
    rw[htl] at q;rcases qi3 ht q with q | q
    . exact (hcodes pos v q).mono e0 XOk.no
    . rw[q];exact hok⟩
  exact ⟨R',e',hok⟩
end
theorem qlk {c:Addr}{params:Arguments}{body:Expr}(L:LamIn C c P)(rm:Room k fr A)(R:Rep C.W fr g σ s)(F:Fra C env m g s.heap){clos:List (Str×Addr)}(hcl:closureFor scope env=pure clos)(hdef:defaultsOf params env=([],[]))(hQ:∀(cv ctv:Value) (qual:Str) (pm:Value) (h':Heap) (tk:Nat),Rep C.W fr g σ { s with heap:=h',toks:=tk }->Evo C.W noX noY g s.heap g h'->CodeOk C.W g h' cv->(∀b o,s.heap.get? b=some o->b≠P->h'.get? b=some o) ->
      Q (.ref h'.objs.size) { s with heap:=h'.push { cls:=.type "function",data:=.func (qq2 "<lambda>" qual params body scope clos pm cv ctv) },toks:=tk }):
    wpAny (model C.W.prog C.W.w) A (eval (.Lambda params body scope p) env) Q E s:=by
  refine qal (R.tabs P L.tab) ?_;intro more hP ht hcodes;have hcode:env.code=.ref c:=F.code.trans L.cd;have hCd:=L.hdAt R;refine kla_eval (params:=params) (body:=body) (scope:=scope) (pos:=p) hdef ?_;generalize env.qual++("<lambda>":Str)=qual;cases hf:codeAmong p more.toList with
  | some cv=>
    refine kla_makeFunctionHit hcl F.glob R.gNs hcode hCd hP ht hf (L.bltAt R) fun ctv h' tk hk _=>?_
    obtain ⟨R',e'⟩:=R.keeps tk hk;exact hQ cv ctv qual _ h' tk R' e' ((hcodes p cv hf).mono e' XOk.no) fun b o h _=>hk b o h
  | none=>
    have hgP:mainGlobals≠P:=fun q=>C.W.gNT (q ▸ L.tab)
    refine Exists.elim (L.bltAt R) ?_;intro bm h;refine Exists.elim h ?_;intro ob hb;rw[qrh];unfold makeTail;rw[hcl,F.glob];refine wpAny_bind (wpAny_pure ?_);cases clos with
    | nil=>
      refine wpAny_bind (wpAny_pure ?_);refine wpAny_bind (wpAny_functionCodeX hcode (hCd.code hP ht) (hCd.tab hP) hf fun c' h' tk hx hge _ _ hrec htb htc=>?_);have hg':=R.gNs.extBut hx hgP;refine wpAny_bind (wpAny_builtinsFor hg' hb.1 hb.2.1 (hx _ _ hb.2.2.2.1 hb.2.2.2.2.1) hb.2.2.2.2.2.1 hb.2.2.2.2.2.2.1 hb.2.2.2.2.2.2.2 ?_);refine wpAny_bind (wpAny_nsGet hg' ?_);obtain ⟨R',e',ho⟩:=qll L.tab ht hcodes R tk c' hx hge hrec htb.2 htc;exact wpAny_bind (wpAny_pure (wpAny_newObj_type (hQ _ .none qual _ h' tk R' e' ho fun b o h1 h2=>hx b o h2 h1) (by size_fits)))
    | cons q r=>
      refine wpAny_bind (wpAny_newTextTuple ?_);have hup:∀{oo:Obj} b o,s.heap.get? b=some o->(s.heap.push oo).get? b=some o:=fun b o e=>Heap.get?_push_of_some _ e
      refine wpAny_bind (wpAny_functionCodeX hcode ((hCd.keeps hup).code (hup _ _ hP) ht) ((hCd.keeps hup).tab (hup _ _ hP)) hf fun c' h' tk hx hge _ _ hrec htb htc=>?_);have hg':=(R.gNs.push _).extBut hx hgP;have hx':Heap.ExtBut P s.heap h':=fun b o hb' e=>hx b o hb' (hup b o e)
      have hge1:∀{oo:Obj},s.heap.objs.size<=(s.heap.push oo).objs.size:=fun {oo}=>Nat.le_trans (Nat.le_succ _) (Nat.le_of_eq (Heap.size_push _ _).symm)
      refine wpAny_bind (wpAny_builtinsFor hg' hb.1 hb.2.1 (hx' _ _ hb.2.2.2.1 hb.2.2.2.2.1) hb.2.2.2.2.2.1 hb.2.2.2.2.2.2.1 hb.2.2.2.2.2.2.2 ?_);refine wpAny_bind (wpAny_nsGet hg' ?_);obtain ⟨R',e',ho⟩:=qll L.tab ht hcodes R tk c' hx' (Nat.le_trans hge1 hge) hrec htb.2 (htc.imp fun _ q=>⟨Nat.le_trans hge1 q.1,q.2⟩);exact wpAny_bind (wpAny_pure (wpAny_newObj_type (hQ _ _ qual _ h' tk R' e' ho fun b o h1 h2=>hx' b o h2 h1) (by size_fits)))
end
end
section
structure LamCap (C:Cx) (m:List (Option AV)) (names:List (Str×NameKind)) (ns:List Str) (caps:List AV):Prop where
  free:∀(i:Nat) (x:Str),names[i]?=some (x,.free)->∃(j:Nat) (kd:NameKind),C.nm[j]?=some (x,kd)/\kcl kd=1
  capt:∀(i:Nat) (x:Str),ns[i]?=some x->∃(l:Nat) (j:Nat) (kd:NameKind) (av:AV),names[l]?=some (x,.free)/\C.nm[j]?=some (x,kd)/\kcl kd=1/\m[j]?=some (some av)/\caps[i]?=some av
  eqn:ns.length=caps.length
section
theorem qod {cl:List (Str×Addr)}(F:Fra C env m g h)(hcl:∀(i:Nat) (x:Str),names[i]?=some (x,.free)->cl.lookup x=env.cells.lookup x):
    ∀{ns:List Str} {caps:List AV},(∀(i:Nat) (x:Str),ns[i]?=some x->∃(l:Nat) (j:Nat) (kd:NameKind) (av:AV),names[l]?=some (x,.free)/\C.nm[j]?=some (x,kd)/\kcl kd=1/\m[j]?=some (some av)/\caps[i]?=some av)->ns.length=caps.length ->
    ∃vs,RVs C.W g h caps vs/\∀(i:Nat) (x:Str),ns[i]?=some x->∃(c:Addr) (u:Value),cl.lookup x=some c/\env.cells.lookup x=some c/\vs[i]?=some u/\h.get? c=some (qb5 (some u))/\C.W.s1.heap.get? c=none/\(g c=.other\/g c=.fz):=by
  intro ns;induction ns with
  | nil=>intro caps _ hl;cases caps with | nil=>exact ⟨[],rfl,fun i x q=>by simp at q⟩ | cons _ _=>simp at hl
  | cons x ns ih=>
    intro caps hc hl;cases caps with
    | nil=>simp at hl
    | cons a caps=>
      refine qa4 (ih (fun i y q=>by refine qaj (hc (i+1) y (by simpa using q)) ?_;intro l j kd av h1 h2 h3 h4 h5;exact ⟨l,j,kd,av,h1,h2,h3,h4,by simpa using h5⟩) (by simpa using hl)) ?_;intro vs r hv;refine qaj (hc 0 x rfl) ?_;intro l j kd av h1 h2 h3 h4 h5;simp at h5;subst h5;refine qat (F.cell j x kd h2 h3) ?_;intro c ov f1 f2 f3 f4 f5;refine qa4 (f5 a h4) ?_;intro u eq_3_1 ru;subst eq_3_1;refine ⟨u::vs,⟨u,vs,rfl,ru,r⟩,fun i y q=>?_⟩;cases i with
      | zero=>simp at q;subst q;exact ⟨c,u,by rw[hcl l x h1];exact f1,f1,rfl,f3,f2,f4⟩
      | succ i=>refine qb0 (hv i y (by simpa using q)) ?_;intro c' u' q1 q2 q3 q4;exact ⟨c',u',q1,q2,by simpa using q3,q4⟩
theorem Ic1 {c:Addr}{params:Arguments}{body:Expr}{ns:List Str}{caps:List AV}(L:LamIn C c P)(hcap:LamCap C m scope.names ns caps)(hdef:autoParam (∀env,defaultsOf params env=([],[])) ap0._auto_1):
    Ev C k fr m σ (.Lambda params body scope p) (.clo ⟨params,body,scope⟩ ns caps) σ:=fun A env g s rm R F Q E hQ=>by
  obtain ⟨cl,hcl,hlk⟩:=qd8 (scope:=scope) (env:=env) fun i x hx=>by
    refine qcw (hcap.free i x hx) ?_;intro j kd h1 h2;refine qcw (F.cell j x kd h1 h2) ?_;intro c ov h3 _;exact ⟨c,h3⟩
  refine qlk L rm R F hcl (hdef env) fun cv ctv qual pm h' tk R1 e1a ho hk=>?_
  have F1:=F.up e1a;refine qa4 (qod F1 hlk hcap.capt hcap.eqn) ?_;intro vs hr hv;obtain ⟨R2,e2a⟩:=R1.capt (K:=fun a=>∃(i:Nat) (x:Str),ns[i]?=some x/\env.cells.lookup x=some a) (fun a ⟨i,x,h1,h2⟩=>by
    refine qdj (hv i x h1) ?_;intro c u q1 q2 q3 q4 q5 q6;rw[q2] at h2;obtain rfl:=Sj h2;exact ⟨q5,q6,_,q4⟩)
  refine And.elim ?_ (R2.newFz { cls:=.type "function",data:=.func (qq2 "<lambda>" qual params body scope cl pm cv ctv) });intro R3 e3a;have hge:∀{b o},h'.get? b=some o->b≠h'.objs.size:=fun ho=>qh0 ho
  refine hQ _ _ _ R3 (e1a.no.trans (e2a.no.trans e3a.no)) ⟨_,qq2 "<lambda>" qual params body scope cl pm cv ctv,vs,rfl,qa5,⟨Heap.get?_push_size _ rfl,rfl,rfl,rfl,rfl,rfl,rfl,rfl,(ho.mono e2a XOk.no).mono e3a XOk.no⟩,(hr.up e2a).up e3a,fun i x hx=>?_⟩;refine qdj (hv i x hx) ?_;intro c u q1 q2 q3 q4 q5 q6;exact ⟨c,u,q1,by rw[qa9 (hge q4)];exact qi4 ⟨i,x,hx,q2⟩,q3,Heap.get?_push_of_some _ q4,q5⟩
theorem Icb {c:Addr}{params:Arguments}{body:Expr}(L:LamIn C c P)(hfree:∀(i:Nat) (x:Str),scope.names[i]?≠some (x,.free))(hdef:autoParam (∀env,defaultsOf params env=([],[])) ap0._auto_1):
    Ev C k fr m σ (.Lambda params body scope p) (.loc σ.length) (σ++[.fn0]):=fun A env g s rm R F Q E hQ=>by
  refine qa4 (qd8 (scope:=scope) (env:=env) fun i x hx=>absurd hx (hfree i x)) ?_;intro cl hcl hlk;refine qlk L rm R F hcl (hdef env) fun cv ctv qual pm h' tk R1 e1a ho hk=>?_
  refine And.elim ?_ (R1.pushLoc { cls:=.type "function",data:=.func (qq2 "<lambda>" qual params body scope cl pm cv ctv) } (ao:=.fn0) rfl ⟨_,Heap.get?_push_size _ rfl⟩);intro R3 e3a;exact hQ _ _ _ R3 (e1a.no.trans e3a.no) ⟨_,rfl,qa5⟩
theorem qqj {args:Args}{fd:FuncData}{body:Expr}(hroom:A.depth<recursionLimit)(ho:s.heap.get? a=some o)(hd':o.data=.func fd)(hco:fd.scope.isCoroutine=false)(hgen:fd.scope.isGenerator=false)(hbody:fd.body=.expr body){q:Str}(hcd:s.heap.CodeRec fd.code q)(h:wpAny (model prog w) A.in1 (bindArgs fd args) (fun binds s1a=>
      wpAny (model prog w) A.in1 (newFunctionEnv fd.scope fd.globals fd.closure binds (q ++ ".<locals>.") (some a) fd.code none fd.builtins)
        (fun env s2=>s2.heap.NoLimit/\codeAny (model prog w) A (.expr body env) R s2) (fun e s'=>R (.error e) s') s1a) (fun e s'=>R (.error e) s') s):
    codeAny (model prog w) A (.call (.ref a) args) R s:=by
  refine codeAny_of_tree ?_;show wpAny _ A.in1 (callAny (.ref a) args) _ _ s;simp only[callAny];refine wpAny_bind (wpAny_load ho ?_);refine qcv (hcd) ?_;intro c oc vs tq hc hoc hdc hq;simp only[hd',callFunction,hco,hgen,hbody,hc];rw[hc] at h;refine wpAny_bind (m:=field (.ref c) 1) (wpAny_field hoc hdc hq (wpAny_bind (wpAny_pure ?_)));exact wpAny_bind (wpAny_mono h (fun binds s1a h1a=>wpAny_bind (wpAny_mono h1a (fun env s2 h2a=>wpAny_bind (wpAny_enterFrame h2a.1 hroom
    (wpAny_pure (And.intro rfl h2a.2)))) fun _ _ h'=>h')) fun _ _ h'=>h')
structure CloIn (l:Lam) (ns:List Str) (caps:List AV) (m0:List (Option AV)):Prop where
  kind:l.scope.kind=.function
  co:l.scope.isCoroutine=false
  gen:l.scope.isGenerator=false
  nd:∀(i j:Nat) (x:Str) (k k':NameKind),l.scope.names[i]?=some (x,k)->l.scope.names[j]?=some (x,k')->i=j
  len:m0.length=l.scope.names.length
  free:∀(i:Nat) (x:Str),l.scope.names[i]?=some (x,.free)->∃j:Nat,ns[j]?=some x/\∀av:AV,m0[i]?=some (some av)->caps[j]?=some av
  rest:∀(i:Nat) (x:Str) (k:NameKind),l.scope.names[i]?=some (x,k)->k≠.free->∀av,m0[i]?≠some (some av)
  pl:(∀(i:Nat) (x:Str),l.scope.names[i]?≠some (x,.cell))\/∀(i:Nat) (av:AV),m0[i]?=some (some av)->plain av=true
end
end
section
theorem Rep.congr {s':Shared}(R:Rep W fr g σ s)(h1:s'.heap=s.heap)(h2:s'.gens=s.gens)(h3:s'.os=s.os):Rep W fr g σ s':=by
  obtain ⟨h,gs,d,tk,os⟩:=s;obtain ⟨h',gs',d',tk',os'⟩:=s';subst h1;subst h2;subst h3;exact ⟨R.base,R.baseO,R.tabO,R.tabs,R.low,R.locs,R.uniq,R.pl,R.bnd,R.frs,R.gens,R.os⟩
structure Fly (W:Wd) (fr:List Env) (g:Addr->Own) (σ:List AObj) (h0a:Heap) (made:Bool) (e:Addr) (X:String) (vs:List Value) (s:Shared):Prop where
  it:∃(FR:List Env) (s0:Shared) (B:Heap),s0.heap=h0a/\s.gens=s0.gens/\s.os=s0.os/\(∀e∈fr,e∈FR)/\Rep W FR g σ s0 /\
    (∀b o,h0a.get? b=some o->(∀en∈FR,en.frame≠some b)->B.get? b=some o)/\h0a.UpToSlots s.heap/\B.StaysIn s.heap /\
    ((made=true/\B.StaysIn h0a/\h0a.FunFrames B fr/\Heap.MadeExcOf h0a s.heap e (.type X) vs) \/
      (made=false/\∃t,B.get? t=none/\s.heap.TupAt t vs/\(Heap.FlyingW B fr e (.type X) (.ref t) s.heap\/∃L env rest,fr=env::rest/\env.frame=some L/\Heap.HeldW B fr e (.type X) (.ref t) L s.heap)))
section
variable {h0a:Heap} {e:Addr} {X:String} {vs:List Value}
theorem Fly.rep (y:Fly W fr g σ h0a mk e X vs s):Rep W fr g σ s/\Evo W noX noY g h0a g s.heap:=by
  refine qbt (y.it) ?_;intro FR s0 B eq_2_3 hg ho hsub R hc hu hB _;subst eq_2_3;obtain ⟨R',e'⟩:=R.slots (h':=s.heap) s.toks (fun a=>∃en∈FR,en.frame=some a) (fun a h=>h) (fun a o q hn=>hB a o (hc a o q fun en hen hf=>hn ⟨en,hen,hf⟩)) (fun a o ⟨en,hen,hf⟩ q=>by
    refine qcv (R.frs en hen) ?_;intro f o' es ep h1 h2 h3 _;rw[hf] at h1;obtain rfl:=Sj h1;rw[q] at h2;obtain rfl:=Sj h2;exact hu a o q fun vs hd=>by rw[h3] at hd;cases hd)
  exact ⟨(R'.fewer hsub).congr rfl hg ho,e'⟩
theorem qf3 {B:Heap}:∀{l:List Env},(∀en∈l,en.scope.kind≠.module/\∃f o,en.frame=some f/\B.get? f=none/\h.get? f=some o/\∀vs,o.data≠.fields vs)->h.FunFrames B l
  | [],_=>trivial
  | en::r,H=>by
    refine qpr (H en (.head _)) ?_;intro h1 f o h2 h3 h4 h5;exact ⟨h1,⟨f,o,h2,h3,h4,h5⟩,qf3 fun e he=>H e (.tail _ he)⟩
theorem Idf (R:Rep W fr g σ s){s':Shared}(hx:Heap.MadeExcOf s.heap s'.heap e (.type X) vs)(hg:s'.gens=s.gens)(ho:s'.os=s.os):Fly W fr g σ s.heap true e X vs s':=by
  have st:(hideAll s.heap (fr.filterMap (·.frame))).StaysIn s.heap:=fun b o q=>of_hideAll _ q
  refine ⟨fr,s,hideAll s.heap (fr.filterMap (·.frame)),rfl,hg,ho,fun _ h=>h,R,fun b o q hn=>?_,Heap.UpToSlots.of_keeps hx.keeps,fun b o q=>hx.keeps b o (st b o q),.inl ⟨rfl,st,?_,hx⟩⟩
  . refine hideAll_get _ q fun hm=>?_
    refine qa4 (List.mem_filterMap.mp hm) ?_;intro en hen hf;exact hn en hen hf
  . refine qf3 fun en hen=>?_
    refine qip (R.frs en hen) ?_;intro f o es ep h1 h2 h3 h4 h5 h6 h7;exact ⟨h7,f,o,h1,hideAll_none _ (List.mem_filterMap.mpr ⟨en,hen,h1⟩),h2,fun vs q=>by rw[h3] at q;cases q⟩
variable {Q:Unit->Shared->Prop}
theorem Fly.leave (hA:A.frames=some (env::fr))(y:Fly W (env::fr) g σ h0a mk e X vs s)(hQ:∀s',Fly W fr g σ h0a false e X vs s'->Q () s'):wpAny M A (leaving env (.ref e)) Q E s:=by
  refine qbt (y.it) ?_;intro FR s0 B eq_7_3 hg ho hsub R hc hu hB hk;subst eq_7_3;have hsub':∀e∈fr,e∈FR:=fun e he=>hsub e (.tail _ he)
  rcases hk with ⟨_,hB0,hF,hx⟩ | ⟨_,t,ht,htup,hf | ⟨L,env',rest,he,hfr,hh⟩⟩
  . refine qee (id hF) ?_;intro _ ne_8_1 _;refine qcw ne_8_1 ?_;intro L _ hf _;refine wpAny_leaves_madeW hA hf hB0 hF hx fun h' t f1 f2 f3 f4=>?_
    exact hQ _ ⟨FR,s0,B,rfl,hg,ho,hsub',R,hc,hu.trans f4,f1.1,.inr ⟨rfl,t,f3,f2,.inl f1⟩⟩
  . refine qee (id hf.2.2.1) ?_;intro _ ne_9_1 _;refine qcw ne_9_1 ?_;intro L _ hf' _;refine wpAny_leaves_onW hA hf' hf fun h' f1 f2=>?_
    exact hQ _ ⟨FR,s0,B,rfl,hg,ho,hsub',R,hc,hu.trans f2,f1.1,.inr ⟨rfl,t,ht,htup.of_slots f2,.inl f1⟩⟩
  . cases he
    unfold leaving;refine wpAny_bind (wpAny_noteFrame_againW hfr hh.2.2.2 ?_);refine wpAny_landsW hh fun h' hfl f2=>?_
    refine qrd (hfl) ?_;intro k1 k2 ne_10_2 k4;refine qee ne_10_2 ?_;intro _ _ k3;exact hQ _ ⟨FR,s0,B,rfl,hg,ho,hsub',R,hc,hu.trans f2,k1,.inr ⟨rfl,t,ht,htup.of_slots f2,.inl ⟨k1,k2,k3,k4⟩⟩⟩
def Hold (W:Wd) (env:Env) (fr:List Env) (g:Addr->Own) (σ:List AObj) (h0a:Heap) (e:Addr) (X:String) (vs:List Value) (s:Shared):Prop:=
  ∃(FR:List Env) (s0:Shared) (B:Heap),s0.heap=h0a/\s.gens=s0.gens/\s.os=s0.os/\(∀e∈env::fr,e∈FR)/\Rep W FR g σ s0 /\
    (∀b o,h0a.get? b=some o->(∀en∈FR,en.frame≠some b)->B.get? b=some o)/\h0a.UpToSlots s.heap /\
    ∃t L,B.get? t=none/\s.heap.TupAt t vs/\env.frame=some L/\Heap.HeldW B (env::fr) e (.type X) (.ref t) L s.heap
theorem Hold.fly (y:Hold W env fr g σ h0a e X vs s):Fly W (env::fr) g σ h0a false e X vs s:=by
  refine qbx (y) ?_;intro FR s0 B h1 h2 h3 h4 h5 h6 h7 t L h8 h9 h10 h11;exact ⟨FR,s0,B,h1,h2,h3,h4,h5,h6,h7,h11.1,.inr ⟨rfl,t,h8,h9,.inr ⟨L,env,fr,rfl,h10,h11⟩⟩⟩
theorem Fly.note (hA:A.frames=some (env::fr))(y:Fly W (env::fr) g σ h0a false e X vs s)(hQ:∀s',Hold W env fr g σ h0a e X vs s'->Q () s'):wpAny M A (noteFrame (.ref e) env) Q E s:=by
  refine qbt (y.it) ?_;intro FR s0 B eq_12_3 hg ho hsub R hc hu hB hk;subst eq_12_3;rcases hk with ⟨q,_⟩ | ⟨_,t,ht,htup,hf | ⟨L,env',rest,he,hfr,hh⟩⟩
  . cases q
  . refine qee (id hf.2.2.1) ?_;intro _ ne_13_1 _;refine qcw ne_13_1 ?_;intro L _ hf' _;refine wpAny_looks_onW hA hf' hf fun h' f1 f2=>?_
    exact hQ _ ⟨FR,s0,B,rfl,hg,ho,hsub,R,hc,hu.trans f2,t,L,ht,htup.of_slots f2,hf',f1⟩
  . cases he
    exact wpAny_noteFrame_againW hfr hh.2.2.2 (hQ _ ⟨FR,s0,B,rfl,hg,ho,hsub,R,hc,hu,t,L,ht,htup,hfr,hh⟩)
theorem qfr {base:Heap}{l:List Env}{L:Addr}{cls a0:Value}(hh:Heap.HeldW base l e cls a0 L s.heap)(hQ:∀h',Heap.HeldW base l e cls a0 L h'->s.heap.UpToSlots h'->Q () { s with heap:=h' }):wpAny M A (setFlight (.ref e) (some L)) Q E s:=by
  refine qed (hh) ?_;intro hkb f2 hl oe vs T oT ts he hcls hd h1 hnT hTe hT hdT h3;have hsz3:3<ts.size:=(Array.getElem?_eq_some_iff.mp h3).1;have other:∀b,b≠T->(s.heap.update T (Obj.mapFields (·.setIfInBounds 3 ((some L:Option Addr).elim Value.none fun f=>rawInt f)))).get? b=s.heap.get? b:=
    fun b hb=>Heap.get?_update_other _ _ (Ne.symm hb)
  have noRecord:∀b o,s.heap.get? b=some o->(∀vs,o.data≠.fields vs)->b≠T:=fun b o hb hnf q=>by
    rw[q,hT] at hb;injection hb with hb;subst hb;exact hnf ts hdT
  unfold setFlight;refine wpAny_bind (wpAny_field he hd h1 ?_);rw[if_pos (show (Value.ref T != Value.none)=true from by rfl)];refine wpAny_setField hT hdT hsz3 (hQ _ ⟨fun b o hbo=>(other b fun q=>by rw[q,hnT] at hbo;cases hbo).trans (hkb b o hbo),f2,
    hl.of_keeps fun b o hb hnf=>⟨o,(other b (noRecord b o hb hnf)).trans hb,rfl⟩,?_⟩ fun b o hb hnf=>⟨o.slots,(other b (noRecord b o hb hnf)).trans hb⟩)
  exact ⟨oe,vs,T,_,_,(other e (Ne.symm hTe)).trans he,hcls,hd,h1,hnT,hTe,Heap.get?_update_self _ hT (Obj.isFreed_of_fields (Obj.data_mapFields hdT _)),Obj.data_mapFields hdT _,by simp[hsz3]⟩
theorem Hold.back {E':Value->Shared->Prop}(y:Hold W env fr g σ h0a e X vs s)(hE:∀s',Hold W env fr g σ h0a e X vs s'->E' (.ref e) s'):cameBackBy M A env E' (.ref e) s:=by
  refine qbx (y) ?_;intro FR s0 B h1 h2 h3 h4 h5 h6 h7 t L h8 h9 h10 h11;refine qgs (id h11) ?_;intro hkb f2 hl oe vs' T oT ts he hcls hd hv1 r;unfold cameBackBy;refine wpAny_bind (wpAny_field he hd hv1 ?_);rw[if_neg (show ¬((Value.ref T==Value.none)=true) from by simp),h10];exact qfr h11 fun h' k1 k2=>hE _ ⟨FR,s0,B,h1,h2,h3,h4,h5,h6,h7.trans k2,t,L,h8,h9.of_slots k2,h10,k1⟩
theorem Hold.land (y:Hold W env fr g σ h0a e X vs s)(hQ:∀s',Fly W (env::fr) g σ h0a false e X vs s'->Q () s'):wpAny M A (setFlight (.ref e) none) Q E s:=by
  refine qbx (y) ?_;intro FR s0 B h1 h2 h3 h4 h5 h6 h7 t L h8 h9 h10 h11;exact wpAny_landsW h11 fun h' k1 k2=>hQ _ ⟨FR,s0,B,h1,h2,h3,h4,h5,h6,h7.trans k2,k1.1,.inr ⟨rfl,t,h8,h9.of_slots k2,.inl k1⟩⟩
theorem Fly.again (y:Fly W fr g σ h0a false e X vs s)(hQ:∀s',Fly W fr g σ h0a false e X vs s'->Q () s'):wpAny M A (setFlight (.ref e) none) Q E s:=by
  refine qbt (y.it) ?_;intro FR s0 B eq_18_3 hg ho hsub R hc hu hB hk;subst eq_18_3;rcases hk with ⟨q,_⟩ | ⟨_,t,ht,htup,hf | ⟨L,env',rest,he,hfr,hh⟩⟩
  . cases q
  . exact lands_againW hf fun h' k1 k2=>hQ _ ⟨FR,s0,B,rfl,hg,ho,hsub,R,hc,hu.trans k2,k1.1,.inr ⟨rfl,t,ht,htup.of_slots k2,.inl k1⟩⟩
  . exact wpAny_landsW hh fun h' k1 k2=>hQ _ ⟨FR,s0,B,rfl,hg,ho,hsub,R,hc,hu.trans k2,k1.1,.inr ⟨rfl,t,ht,htup.of_slots k2,.inl k1⟩⟩
end
end
section
def CallsR (W:Wd) (Y:Nat->Prop) (k:Nat) (fr:List Env) (σ:List AObj) (f:AV) (args:List AV) (kn:List Str) (kv:List AV) (mk:Bool) (X:String) (P:List Value->Prop) (z':List AObj):Prop:=
  ∀(A:Around) (g:Addr->Own) (s:Shared) (vf:Value) (vs ks:List Value),Room k fr A->Rep W fr g σ s->RV W g s.heap f vf->RVs W g s.heap args vs->RVs W g s.heap kv ks->∀(Q:Value->Shared->Prop) (E:Value->Shared->Prop),
    (∀e g' h0a us s',P us->Evo W noX Y g s.heap g' h0a->Fly W fr g' z' h0a mk e X us s'->E (.ref e) s')->wpAny (model W.prog W.w) A (call vf vs (kn.zip ks)) Q E s
def EvR (C:Cx) (k:Nat) (fr:List Env) (m:List (Option AV)) (σ:List AObj) (e:Expr) (mk:Bool) (X:String) (P:List Value->Prop) (z':List AObj):Prop:=
  ∀(A:Around) (env:Env) (g:Addr->Own) (s:Shared),Room k fr A->Rep C.W fr g σ s->Fra C env m g s.heap->∀(Q:Value->Shared->Prop) (E:Value->Shared->Prop),
    (∀e g' h0a us s',P us->Evo C.W noX C.Y g s.heap g' h0a->Fly C.W fr g' z' h0a mk e X us s'->E (.ref e) s')->wpAny (model C.W.prog C.W.w) A (eval e env) Q E s
def ExR (C:Cx) (k:Nat) (fr:List Env) (m:List (Option AV)) (σ:List AObj) (st:Stmt) (mk:Bool) (X:String) (P:List Value->Prop) (m':List (Option AV)) (z':List AObj):Prop:=
  ∀(A:Around) (env:Env) (outer:List Env) (g:Addr->Own) (s:Shared),fr=env::outer->Room k fr A->Rep C.W fr g σ s->Fra C env m g s.heap->∀(Q:Flow->Shared->Prop) (E:Value->Shared->Prop),
    (∀e g' h0a us s',P us->Evo C.W (FX C.nm env) C.Y g s.heap g' h0a->Fra C env m' g' h0a->Fly C.W fr g' z' h0a mk e X us s'->E (.ref e) s')->wpAny (model C.W.prog C.W.w) A (exec st env) Q E s
def ExsR (C:Cx) (k:Nat) (fr:List Env) (m:List (Option AV)) (σ:List AObj) (sts:List Stmt) (mk:Bool) (X:String) (P:List Value->Prop) (m':List (Option AV)) (z':List AObj):Prop:=
  ∀(A:Around) (env:Env) (outer:List Env) (g:Addr->Own) (s:Shared),fr=env::outer->Room k fr A->Rep C.W fr g σ s->Fra C env m g s.heap->∀(Q:Flow->Shared->Prop) (E:Value->Shared->Prop),
    (∀e g' h0a us s',P us->Evo C.W (FX C.nm env) C.Y g s.heap g' h0a->Fra C env m' g' h0a->Fly C.W fr g' z' h0a mk e X us s'->E (.ref e) s')->wpAny (model C.W.prog C.W.w) A (execs sts env) Q E s
section
variable {X:String} {P:List Value->Prop}
theorem ExsR.head {r:List Stmt}(h:ExR C k fr m σ st mk X P m' z'):ExsR C k fr m σ (st::r) mk X P m' z':=fun A env outer g s hfr rm R F Q E hE=>
  wpAny_execs_cons (h A env outer g s hfr rm R F _ _ hE)
theorem Icl {a b:List Stmt}{c:Bool}(ht:Tr C k fr m σ t c z1)(ha:c=true->ExsR C k fr m z1 a mk X P m' z')(hb:c=false->ExsR C k fr m z1 b mk X P m' z'):ExR C k fr m σ (.If t a b p) mk X P m' z':=fun A env outer g s hfr rm R F Q E hE=>by
  refine wpAny_If (ht A env g s rm R F _ _ fun g1 s1a R1 e1a=>?_);cases c with
  | true=>exact ha rfl A env outer g1 s1a hfr rm R1 (F.up e1a) Q E fun e g' h0a us s' hp e2a F2 y=>hE e g' h0a us s' hp (e1a.toX.trans e2a) F2 y
  | false=>exact hb rfl A env outer g1 s1a hfr rm R1 (F.up e1a) Q E fun e g' h0a us s' hp e2a F2 y=>hE e g' h0a us s' hp (e1a.toX.trans e2a) F2 y
theorem Ich {np cp sp:Pos}{msg:Str}(hx:C.nm[i]?=some (x,.globalImplicit))(hg:C.W.mg x=none)(hv:C.W.mb x=some (.type "ValueError"))(hd:autoParam ((x==("__debug__":Str))=false) ap1._auto_1):
    ExR C k fr m σ (.Raise (some (.Call (.Name x np) [.Constant (.str msg) n sp] [] cp)) none p) true "ValueError" (fun us=>∃t,us=[.str msg t]) m σ:=fun A env outer g s hfr rm R F Q E hE=>by
  refine wpAny_Raise_call PySem.F.excCall_ValueError PySem.F.excRaise_ValueError rm.handled rfl ?_;refine (Idz (k:=k) (fr:=fr) (m:=m) (σ:=σ) (p:=np) hx hg hv hd) A env g s rm R F _ _ fun v' g1 s1a R1 e1a rv=>⟨rv,?_⟩
  refine PySem.Calls.evalArgs_plain (Calls.spliced_cons ((Ia7 (C:=C) (k:=k) (fr:=fr) (m:=m) (σ:=σ) (n:=n) (p:=sp)) A env g1 s1a rm R1 (F.up e1a) _ _ fun w g2 s2 R2 e2a rw'=>Calls.spliced_nil ?_));obtain ⟨t,rfl⟩:=rw';refine ⟨rfl,(by decide:1<=sizeLine),fun h' e hm=>?_⟩;have e12:=e1a.trans e2a;exact hE e g2 s2.heap _ _ ⟨t,rfl⟩ e12.toX (F.up e12) (Idf R2 ⟨hm.keeps,hm.new,hm.there⟩ rfl rfl)
theorem EvR.call {kws:List Keyword}{f:AV}(hn:Ev C k fr m σ (.Name x q) f z1)(hf:Kept C.W f)(ha:Evs C k fr m z1 es args z2)(hk:EvK C k fr m z2 kws kn kv z3)(hc:CallsR C.W C.Y k fr z3 f args kn kv mk X P z')(hpl:autoParam (∀env p,(backTo p (starEach es env)).any (·.1)=false) ap0._auto_1):EvR C k fr m σ (.Call (.Name x q) es kws p) mk X P z':=fun A env g s rm R F Q E hE=>by
  refine wpAny_Call_Name_kw (hn A env g s rm R F _ _ fun vf g1 s1a R1 e1a rf=>?_);refine qf8 (first:=[]) hf ha hk hpl rm R1 (F.up e1a) rf rfl fun g2 s2 vs ks R2 e2a rf rv rk=>?_
  exact hc A g2 s2 vf vs ks rm R2 rf rv rk Q E fun e g' h0a us s' hp e3a y=>hE e g' h0a us s' hp ((e1a.trans e2a).trans e3a) y
theorem Id7 (he:EvR C k fr m σ e mk X P z')(hsw:autoParam (∀env,swapsWithSole [.Name x px] e p.line env=pure false) ap0._auto_1)(hst:autoParam (∀env,swappedStores [.Name x px] e env=pure none) ap0._auto_1):
    ExR C k fr m σ (.Assign [.Name x px] e p) mk X P m z':=fun A env outer g s hfr rm R F Q E hE=>
  wpAny_Assign_stores (he A env g s rm R F _ _ fun e g' h0a us s' hp e1a y=>hE e g' h0a us s' hp e1a.toX (F.up e1a) y) (hsw env) (hst env)
theorem qe1 (F:Fra C env m g h):interactive env=false:=by
  have:=F.kind;unfold interactive;simp[this]
theorem Ex.expr (he:Ev C k fr m σ e v z')(hs:autoParam (∀env,swapsWith e none p.line env=pure false) ap0._auto_1):Ex C k fr m σ (.Expr e p) .next m z':=fun A env g s rm R F Q E hQ=>
  wpAny_Expr_any (he A env g s rm R F _ _ fun v' g1 s1a R1 e1a rv=>hQ _ g1 s1a R1 e1a.toX (F.up e1a) rfl) (qe1 F) (hs env)
theorem ExR.expr (he:EvR C k fr m σ e mk X P z')(hs:autoParam (∀env,swapsWith e none p.line env=pure false) ap0._auto_1):ExR C k fr m σ (.Expr e p) mk X P m z':=fun A env outer g s hfr rm R F Q E hE=>
  wpAny_Expr_any (he A env g s rm R F _ _ fun e g' h0a us s' hp e1a y=>hE e g' h0a us s' hp e1a.toX (F.up e1a) y) (qe1 F) (hs env)
theorem Id8 {pl:Env->Sem Bool}{o:Expr}{a f:AV}{first:List AV}(he:Ev C k fr m σ o a z1)(hm:MethOk C.W fr z1 a x f first)(hf:Kept C.W f)(ha:EvR C k fr m z1 e1 mk X P z')(hs:autoParam (∀env,starEach [e1] env=[(false,eval e1 env)]) ap0._auto_1)(he':autoParam (∀env,eval (.Call (.Attribute o x q) [e1] [] p) env=(do
      let ov <- eval o env
      standAt q.atName
      let (f,first) <- holding [ov] (getMethod ov x (pl env))
      callWith p f first (backTo p (starEach [e1] env)) [])) ap0._auto_1):EvR C k fr m σ (.Call (.Attribute o x q) [e1] [] p) mk X P z':=fun A env g s rm R F Q E hE=>by
  refine MethodCall_ (pl:=pl env) ?_ (he' env);refine he A env g s rm R F _ _ fun va g1 s1a R1 e1a ra=>?_
  refine hm A g1 s1a va (pl env) _ _ R1 ra (fun vf fs s2 R2 h2a rf rs=>?_);have e2a:Evo C.W noX C.Y g s.heap g1 s2.heap:=by rw[h2a];exact e1a
  rw[hs];refine callWith_of (P:=fun h=>∃kp,(kp=Keeper.frame\/kp=Keeper.machine\/kp=Keeper.boundFrame)/\Looks (model C.W.prog C.W.w) h (keeperOf vf) kp) (by rfl) (fun h q=>q) ?_;refine qe6 (by rfl) (by rfl) ?_;show wpAny _ A (spliced ((false,eval e1 env)::[])) _ E s2;refine Calls.spliced_cons (ha A env g1 s2 rm R2 (F.up e2a) _ _ fun e g' h0a us s' hp e3a y=>?_);exact hE e g' h0a us s' hp (e2a.trans e3a) y
theorem Id9 {fd:FuncData}(Fn:qr4 C a fd body)(hb:qd1 C.W fd args kn kv xs vs)(B:Binds C.nm xs vs (List.replicate C.nm.length none) m1)(hbody:∀env,ExsR C k (env::fr) m1 σ body mk X P m' z')(hY:∀n,n<σ.length->C.Y n->Y n):
    CallsR C.W Y (k+1) fr σ (.glob (.ref a)) args kn kv false X P z':=fun A g s vf us ks rm R rf ru rk Q E hE=>by
  obtain rfl:vf=.ref a:=rf;refine qa4 (Fn.get) ?_;intro o ho hd;refine qaj (Fn.code) ?_;intro c oc cvs tq h1 h2 h3 h4 h5;refine qa4 (hb fr g σ s us ks R ru rk) ?_;intro ws hbt hws;refine wpAny_call (codeAny_call_function rm.dep (R.base a o ho Fn.nt) hd Fn.co Fn.gen Fn.body ⟨c,oc,cvs,tq,h1,R.base c oc h2 h3,h4,h5⟩ (hbt _ _ _ _ ?_));rw[Fn.glob,Fn.clo,Fn.blt];refine qcx (C:=C) (m0:=List.replicate C.nm.length none) Fn.nm Fn.nd Fn.kind Fn.lk (by exact Fn.cd) (fun o h=>by cases h) R (fun i x kd hi=>⟨fun hk=>by subst hk;exact absurd hi (Fn.nofree i x),fun _ av q=>by
    rw[List.getElem?_replicate] at q;split at q <;> cases q⟩) (.inr fun i av q=>by rw[List.getElem?_replicate] at q;split at q <;> cases q) B hws (by simp) fun env g1 s1a R1 e1a F1 hsc hL hcl hown hfr _ hRc=>?_
  refine ⟨R1.nolim,codeAny_func ?_⟩;refine hbody env _ env fr g1 s1a rfl rm.deeper (hRc rfl) F1 _ _ fun e g2 h2a us s2 hp e2a F2 y=>?_
  refine y.leave (by show (A.deeper env).frames=_;exact rm.deeper.frames) fun s3 y3=>?_
  have hfresh:∀a o,s.heap.get? a=some o->FX C.nm env a->noX a:=fun a o ho ha=>by
    rcases ha with rfl | ⟨i,x,hi,hcx⟩
    . rw[hL] at ho;cases ho
    . rw[hown i x a hi hcx] at ho;cases ho
  have e12:Evo C.W noX C.Y g s.heap g2 h2a:=(e1a.no.toX.trans e2a).weak R.low hfresh fun _ q=>q
  exact hE e g2 h2a us s3 hp (e12.wkB R hY) y3
end
end
section
def ExF (C:Cx) (k:Nat) (env:Env) (outer:List Env) (m:List (Option AV)) (σ:List AObj) (st:Stmt) (fl:AFl) (m':List (Option AV)) (z':List AObj):Prop:=
  ∀(A:Around) (g:Addr->Own) (s:Shared),Room k (env::outer) A->Rep C.W (env::outer) g σ s->Fra C env m g s.heap->∀(Q:Flow->Shared->Prop) (E:Value->Shared->Prop),
    (∀f' g' s',Rep C.W (env::outer) g' z' s'->Evo C.W (FX C.nm env) C.Y g s.heap g' s'.heap->Fra C env m' g' s'.heap->RFl C.W g' s'.heap fl f'->Q f' s')->wpAny (model C.W.prog C.W.w) A (exec st env) Q E s
def ExsF (C:Cx) (k:Nat) (env:Env) (outer:List Env) (m:List (Option AV)) (σ:List AObj) (sts:List Stmt) (fl:AFl) (m':List (Option AV)) (z':List AObj):Prop:=
  ∀(A:Around) (g:Addr->Own) (s:Shared),Room k (env::outer) A->Rep C.W (env::outer) g σ s->Fra C env m g s.heap->∀(Q:Flow->Shared->Prop) (E:Value->Shared->Prop),
    (∀f' g' s',Rep C.W (env::outer) g' z' s'->Evo C.W (FX C.nm env) C.Y g s.heap g' s'.heap->Fra C env m' g' s'.heap->RFl C.W g' s'.heap fl f'->Q f' s')->wpAny (model C.W.prog C.W.w) A (execs sts env) Q E s
def ForF (C:Cx) (k:Nat) (env:Env) (outer:List Env) (t:Expr) (body orelse:List Stmt) (ai:AIt) (i:Nat) (m:List (Option AV)) (σ:List AObj) (fl:AFl) (m':List (Option AV)) (z':List AObj):Prop:=
  ∀(A:Around) (g:Addr->Own) (s:Shared) (it:Value) (ws:List Addr),Room k (env::outer) A->Rep C.W (env::outer) g σ s->Fra C env m g s.heap->ai.St C.W g s.heap ws it i->(∀a∈ws,Priv C.W g s.heap a)->∀(R:Result->Shared->Prop),
    (∀f' g' s',Rep C.W (env::outer) g' z' s'->Evo C.W (fun a=>FX C.nm env a\/a∈ws) C.Y g s.heap g' s'.heap->Fra C env m' g' s'.heap->RFl C.W g' s'.heap fl f'->R (.ok f') s')->codeAny (model C.W.prog C.W.w) A (.forLoop t it body orelse env) R s
def ForR (C:Cx) (k:Nat) (fr:List Env) (t:Expr) (body orelse:List Stmt) (ai:AIt) (i:Nat) (m:List (Option AV)) (σ:List AObj) (X:String) (P:List Value->Prop) (m':List (Option AV)) (z':List AObj):Prop:=
  ∀(A:Around) (env:Env) (outer:List Env) (g:Addr->Own) (s:Shared) (it:Value) (ws:List Addr),fr=env::outer->Room k fr A->Rep C.W fr g σ s->Fra C env m g s.heap->ai.St C.W g s.heap ws it i->(∀a∈ws,Priv C.W g s.heap a)->∀(R:Result->Shared->Prop),
    (∀e g' h0a us s',P us->Evo C.W (fun a=>FX C.nm env a\/a∈ws) C.Y g s.heap g' h0a->Fra C env m' g' h0a->Hold C.W env outer g' z' h0a e X us s'->R (.error (.ref e)) s')->codeAny (model C.W.prog C.W.w) A (.forLoop t it body orelse env) R s
section
variable {outer:List Env} {X:String} {P:List Value->Prop}
theorem Ex.f (h:Ex C k (env::outer) m σ st fl m' z'):ExF C k env outer m σ st fl m' z':=fun A g s rm R F Q E hQ=>h A env g s rm R F Q E hQ
theorem Exs.f (h:Exs C k (env::outer) m σ sts fl m' z'):ExsF C k env outer m σ sts fl m' z':=fun A g s rm R F Q E hQ=>h A env g s rm R F Q E hQ
theorem ExsF.nil:ExsF C k env outer m σ [] .next m σ:=fun A g s rm R F Q E hQ=>wpAny_execs_nil (hQ _ g s R Evo.refl F rfl)
theorem ExsF.cons {r:List Stmt}(h1:ExF C k env outer m σ st .next m1 z1)(h2:ExsF C k env outer m1 z1 r fl m' z'):ExsF C k env outer m σ (st::r) fl m' z':=fun A g s rm R F Q E hQ=>by
  refine wpAny_execs_cons (h1 A g s rm R F _ _ fun f' g1 s1a R1 e1a F1 hf=>?_);obtain rfl:f'=.next:=hf;exact h2 A g1 s1a rm R1 F1 Q E fun f' g2 s2 R2 e2a F2 hf=>hQ f' g2 s2 R2 (e1a.trans e2a) F2 hf
theorem ExsF.ret {r:List Stmt}(h1:ExF C k env outer m σ st (.ret v) m' z'):ExsF C k env outer m σ (st::r) (.ret v) m' z':=fun A g s rm R F Q E hQ=>by
  refine wpAny_execs_cons (h1 A g s rm R F _ _ fun f' g1 s1a R1 e1a F1 hf=>?_);refine qa4 (hf) ?_;intro v' eq_0_1 hv;subst eq_0_1;exact hQ _ g1 s1a R1 e1a F1 ⟨v',rfl,hv⟩
theorem ForF.done (hO:ai.Ok σ)(hi:ai.items.length=i)(ho:ExsF C k env outer m σ orelse fl m' z'):ForF C k env outer t body orelse ai i m σ fl m' z':=fun A g s it ws rm R F S hP Rr hR=>by
  refine qbl (Icu hO rm R S hP hi fun g1 s1a R1 e1a=>?_);exact ho A g1 s1a rm R1 (F.turn hP e1a) _ _ fun f' g2 s2 R2 e2a F2 hf=>hR f' g2 s2 R2 ((e1a.inX fun _ q=>.inr q).toY.trans (e2a.inX fun _ q=>.inl q)) F2 hf
theorem qht (hO:ai.Ok σ)(hp:ai.plain=true)(hv:ai.items[i]?=some v)(ht:ai.pairs=true->∃elts n p,t=.Tuple elts n p)(ha:As C k fr m σ t v m1 z1)(rm:Room k fr A)(R:Rep C.W fr g σ s)(F:Fra C env m g s.heap)(S:ai.St C.W g s.heap ws it i)(hP:∀a∈ws,Priv C.W g s.heap a){Rr:Result->Shared->Prop}(hR:∀g2 s2,Rep C.W fr g2 z1 s2->Evo C.W (fun a=>FX C.nm env a\/a∈ws) C.Y g s.heap g2 s2.heap->Fra C env m1 g2 s2.heap->ai.St C.W g2 s2.heap ws it (i+1)->(∀a∈ws,Priv C.W g2 s2.heap a) ->
      wpAny (model C.W.prog C.W.w) A (execs body env) (fun f s3=>match f with
            | .next | .cont=>codeAny (model C.W.prog C.W.w) A (.forLoop t it body orelse env) Rr s3
            | .brk=>Rr (.ok .next) s3
            | .ret v=>Rr (.ok (.ret v)) s3) (notedBy (model C.W.prog C.W.w) A env fun e s'=>Rr (.error e) s') s2):
    codeAny (model C.W.prog C.W.w) A (.forLoop t it body orelse env) Rr s:=by
  refine qbl (wpAny_mono (AIt.step (t:=t) hO rm R S hP hv ht (Q:=fun v' s1a=>∃g1,Rep C.W fr g1 σ s1a/\Evo C.W (·∈ws) noY g s.heap g1 s1a.heap/\ai.St C.W g1 s1a.heap ws it (i+1)/\(∀a∈ws,Priv C.W g1 s1a.heap a)/\RV C.W g1 s1a.heap v v')
    fun v' g1 s1a R1 e1a S1 hP1 rv=>⟨g1,R1,e1a,S1,hP1,rv⟩) (fun r s1a h1a=>?_) fun _ _ e=>e)
  refine qa4 (h1a) ?_;(try clear h1a);intro v' eq_1_1 h1a;subst eq_1_1;refine wpAny_mono h1a (fun _ s1' h1'=>?_) fun _ _ e=>e
  refine qeu (h1') ?_;intro g1 R1 e1a S1 hP1 rv;have F1:=F.turn hP e1a;refine ha A env g1 s1' v' rm R1 F1 rv _ _ fun g2 s2 R2 e2a F2=>?_
  have k2:∀a∈ws,∀o,s1'.heap.get? a=some o->s2.heap.get? a=some o:=fun a ha o ho=>(Priv.keep F1 e2a (hP1 a ha) ho).1
  have hP2:∀a∈ws,Priv C.W g2 s2.heap a:=fun a ha=>by refine qa4 ((hP1 a ha).obj) ?_;intro o ho _;exact (Priv.keep F1 e2a (hP1 a ha) ho).2
  exact hR g2 s2 R2 ((e1a.inX fun _ q=>.inr q).toY.trans (e2a.inX fun _ q=>.inl q)) F2 (AIt.St.mono e2a F1.xok k2 ai (.inr hp) S1) hP2
theorem qj1 {g2 g3:Addr->Own}{h2a h3:Heap}(hp:ai.plain=true)(F2:Fra C env m g2 h2a)(e3a:Evo C.W (FX C.nm env) C.Y g2 h2a g3 h3)(S2:ai.St C.W g2 h2a ws it i)(hP2:∀a∈ws,Priv C.W g2 h2a a):
    ai.St C.W g3 h3 ws it i/\∀a∈ws,Priv C.W g3 h3 a:=
  ⟨AIt.St.mono e3a F2.xok (fun a ha o ho=>(Priv.keep F2 e3a (hP2 a ha) ho).1) ai (.inr hp) S2,fun a ha=>by refine qa4 ((hP2 a ha).obj) ?_;intro o ho _;exact (Priv.keep F2 e3a (hP2 a ha) ho).2⟩
theorem ForF.next (hO:ai.Ok σ)(hp:ai.plain=true)(hv:ai.items[i]?=some v)(ht:ai.pairs=true->∃elts n p,t=.Tuple elts n p)(ha:As C k (env::outer) m σ t v m1 z1)(hb:ExsF C k env outer m1 z1 body .next m2 z2)(hn:ForF C k env outer t body orelse ai (i+1) m2 z2 fl m' z'):ForF C k env outer t body orelse ai i m σ fl m' z':=fun A g s it ws rm R F S hP Rr hR=>by
  refine qht hO hp hv ht ha rm R F S hP fun g2 s2 R2 e2a F2 S2 hP2=>?_
  refine hb A g2 s2 rm R2 F2 _ _ fun f' g3 s3 R3 e3a F3 hf=>?_
  obtain rfl:f'=.next:=hf;obtain ⟨S3,hP3⟩:=qj1 hp F2 e3a S2 hP2;exact hn A g3 s3 it ws rm R3 F3 S3 hP3 Rr fun f' g4 s4 R4 e4 F4 hf=>hR f' g4 s4 R4 ((e2a.trans (e3a.inX fun _ q=>.inl q)).trans e4) F4 hf
theorem ForR.next (hO:ai.Ok σ)(hp:ai.plain=true)(hv:ai.items[i]?=some v)(ht:ai.pairs=true->∃elts n p,t=.Tuple elts n p)(ha:As C k fr m σ t v m1 z1)(hb:Exs C k fr m1 z1 body .next m2 z2)(hn:ForR C k fr t body orelse ai (i+1) m2 z2 X P m' z'):ForR C k fr t body orelse ai i m σ X P m' z':=fun A env outer g s it ws hfr rm R F S hP Rr hR=>by
  refine qht hO hp hv ht ha rm R F S hP fun g2 s2 R2 e2a F2 S2 hP2=>?_
  refine hb A env g2 s2 rm R2 F2 _ _ fun f' g3 s3 R3 e3a F3 hf=>?_
  obtain rfl:f'=.next:=hf;obtain ⟨S3,hP3⟩:=qj1 hp F2 e3a S2 hP2;exact hn A env outer g3 s3 it ws hfr rm R3 F3 S3 hP3 Rr fun e g' h0a us s' hp' e4 F4 y=>hR e g' h0a us s' hp' ((e2a.trans (e3a.inX fun _ q=>.inl q)).trans e4) F4 y
theorem ForR.here (hO:ai.Ok σ)(hp:ai.plain=true)(hv:ai.items[i]?=some v)(ht:ai.pairs=true->∃elts n p,t=.Tuple elts n p)(ha:As C k fr m σ t v m1 z1)(hb:ExsR C k fr m1 z1 body false X P m' z'):
    ForR C k fr t body orelse ai i m σ X P m' z':=fun A env outer g s it ws hfr rm R F S hP Rr hR=>by
  refine qht hO hp hv ht ha rm R F S hP fun g2 s2 R2 e2a F2 S2 hP2=>?_
  refine hb A env outer g2 s2 hfr rm R2 F2 _ _ fun e g' h0a us s' hp' e3a F3 y=>?_
  subst hfr;exact y.note rm.frames fun s4 y4=>hR e g' h0a us s4 hp' (e2a.trans (e3a.inX fun _ q=>.inl q)) F3 y4
theorem ForR.pre (h:ForR C k fr t body orelse ai i m σ X P m' z')(w:∀(i:Nat) (av:AV),m[i]?=some (some av)->m2[i]?=some (some av)):ForR C k fr t body orelse ai i m2 σ X P m' z':=fun A env outer g s it ws hfr rm R F S hP Rr hR=>h A env outer g s it ws hfr rm R (F.weak w) S hP Rr hR
theorem Ie6 (hi:ItE C k (env::outer) m σ iter ai z1)(hf:ForF C k env outer t body orelse ai 0 m z1 fl m' z')(hs:autoParam (∀x env,foldedSetIterable iter env x=pure x) ap0._auto_1):
    ExF C k env outer m σ (.For t iter body orelse p) fl m' z':=fun A g s rm R F Q E hQ=>by
  refine wpAny_For (hi A env g s rm R F _ _ fun it g1 s1a ws R1 e1a S hP hfr=>?_) (fun x=>hs x env);refine hf A g1 s1a it ws rm R1 (F.up e1a) S hP _ fun f' g2 s2 R2 e2a F2 hf=>?_
  refine hQ f' g2 s2 R2 ?_ F2 hf;exact ((e1a.toX (X:=fun a=>FX C.nm env a\/a∈ws)).trans e2a).weak R.low (fun a o ho q=>q.resolve_right fun q=>by rw[hfr a q] at ho;cases ho) fun _ q=>q
theorem Ie5 (hi:ItE C k fr m σ iter ai z1)(hf:ForR C k fr t body orelse ai 0 m z1 X P m' z')(hs:autoParam (∀x env,foldedSetIterable iter env x=pure x) ap0._auto_1):
    ExR C k fr m σ (.For t iter body orelse p) false X P m' z':=fun A env outer g s hfr rm R F Q E hE=>by
  refine wpAny_For (hi A env g s rm R F _ _ fun it g1 s1a ws R1 e1a S hP hfr'=>?_) (fun x=>hs x env);refine hf A env outer g1 s1a it ws hfr rm R1 (F.up e1a) S hP _ fun e g' h0a us s' hp e2a F2 y=>?_
  refine y.back fun s3 y3=>hE e g' h0a us s3 hp ?_ F2 (hfr ▸ y3.fly)
  exact ((e1a.toX (X:=fun a=>FX C.nm env a\/a∈ws)).trans e2a).weak R.low (fun a o ho q=>q.resolve_right fun q=>by rw[hfr' a q] at ho;cases ho) fun _ q=>q
end
end
section
theorem qt7 {m:Str->Option Value}{name:Str}{Q:Bool->Shared->Prop}(hn:s.heap.Ns a m)(hs:(m name).isSome=true)(hQ:∀h' v,h'.Ns a (fun x=>if x=name then v else m x)->Heap.SameBut a s.heap h'->(∀o,s.heap.get? a=some o->∃o',h'.get? a=some o'/\o'.cls=o.cls)->Q true { s with heap:=h' }):wpAny M A (nsDel a name) Q E s:=by
  refine qa2 (id hn) ?_;intro ne_0_0 es ep ho hd hk hm;obtain ⟨cl,d,dt,sl⟩:=ne_0_0;have hd':dt=.dict es ep:=hd;subst hd';have hany:es.any (·.refKey)=false:=by
    rw[Array.any_eq_false'];intro e he;refine qgr (hk e he) ?_;intro n t h;simp[DictEntry.refKey,h]
  have hsome:es.any (·.key.isStr name)=true:=by
    rw[<- hm name] at hs;simp only[nsFind,findBy,Option.isSome_map,Array.find?_isSome] at hs;refine qa4 (hs) ?_;intro x hx hp;obtain ⟨i,hi,rfl⟩:=Array.mem_iff_getElem.mp hx;exact Array.any_eq_true.mpr ⟨i,hi,hp⟩
  have hhas:nsHas name (⟨cl,d,.dict es ep,sl⟩:Obj)=pure true:=by
    rw[nsHas_eq];unfold nsHasByArray;show (if (es.any fun x=>x.key.isStr name)=true then _ else _)=_;rw[if_pos hsome]
  have hg:=Heap.get?_update_self (Obj.dropName name) ho (by simp only[Obj.dropName_eq,Obj.dropNameByArray];cases es.findIdx? (·.key.isStr name) <;> rfl);unfold nsDel;refine wpAny_bind (wpAny_loadPart ho ?_);rw[hhas];refine wpAny_bind (wpAny_pure ?_);refine wpAny_bind (wpAny_updatePart ho (wpAny_pure ?_));have key:∃v,(s.heap.update a (Obj.dropName name)).Ns a (fun x=>if x=name then v else m x):=by
    cases hi:es.findIdx? (·.key.isStr name) with
    | some i=>
      exact ⟨nsFind (es.eraseIdxIfInBounds i) name,_,_,ep+1,hg,(by simp only[Obj.dropName_eq,Obj.dropNameByArray,hi] <;> rfl),hk.erase i,
        fun x=>by
          show nsFind (es.eraseIdxIfInBounds i) x=if x=name then nsFind (es.eraseIdxIfInBounds i) name else m x;by_cases hx:x=name
          . rw[if_pos hx,hx]
          . rw[if_neg hx,nsFind_erase_other hi hx,hm]⟩
    | none=>exact ⟨m name,_,_,ep,hg,(by simp only[Obj.dropName_eq,Obj.dropNameByArray,hi] <;> rfl),hk,fun x=>by by_cases hx:x=name <;> simp[hx,hm]⟩
  obtain ⟨v,hv⟩:=key;refine hQ _ v hv (Heap.SameBut.update ..) fun o q=>⟨_,hg,?_⟩
  rw[ho] at q;obtain rfl:=Sj q;simp only[Obj.dropName_eq,Obj.dropNameByArray];cases es.findIdx? (·.key.isStr name) <;> rfl
section
variable {outer:List Env} {X:String} {P:List Value->Prop}
theorem qib (hi:C.nm[i]?=some (x,.local))(ha:m[i]?=some (some av))(R:Rep C.W fr g σ s)(F:Fra C env m g s.heap){Q:Unit->Shared->Prop}(hQ:∀g' s',Rep C.W fr g' σ s'->Evo C.W (FX C.nm env) noY g s.heap g' s'.heap->Fra C env (m.set i none) g' s'.heap->Q () s'):wpAny (model C.W.prog C.W.w) A (unbindBehindTheSuite env x pos) Q E s:=by
  refine qa4 (F.names i x _ hi) ?_;intro k' h3 h4;have:k'=.local:=by cases k' <;> first | rfl | (exact absurd h4 (by decide))
  subst this;refine qa4 (F.ns) ?_;intro mh hn hm;refine qa4 (hm i x av hi ha) ?_;intro v0 hv0 _;have hp:(env.scope.kind==.class||(env.scope.kind==.module&&env.locals != env.globals))=false:=by simp[F.kind]
  unfold unbindBehindTheSuite;refine wpAny_onRaise ?_;unfold unbindName;refine wpAny_bind (wpAny_point (wpAny_bind ?_));unfold deleteName;simp only[h3,hp];rw[if_neg (by decide)];refine wpAny_bind (qt7 hn (by rw[hv0];rfl) fun h' v hn' hs hcc=>?_);simp only[if_true,Option.isSome_some,Bool.not_true,Bool.false_eq_true,if_false];refine wpAny_pure (wpAny_point ?_);refine qav (id hn) ?_;intro oL es ep hL hLd hr;refine qav (id hn') ?_;intro oL' es' ep' hL' hLd' hr';have hxo:XOk (fun a=>a=env.locals) g s.heap:=fun a ha=>by
    subst ha;exact ⟨.inl F.Lo,fun o vs ho hd=>by rw[hL] at ho;obtain rfl:=Sj ho;rw[hLd] at hd;cases hd⟩
  obtain ⟨R',e⟩:=R.turn (g':=g) (h':=h') s.toks (fun a=>a=env.locals) hxo (fun a ha=>by subst ha;exact F.Lz) (fun _ _=>rfl) (fun a ha=>by subst ha;exact F.Lo)
    (fun a o ho ha=>(hs.2 a ha).trans ho) (fun a o es n ha ho hd=>by subst ha;refine qa4 (hcc o ho) ?_;intro o' h5 h6;rw[hL'] at h5;obtain rfl:=Sj h5;exact ⟨oL',es',ep',hL',hLd',h6⟩)
  have up:∀av v,RV C.W g s.heap av v->RV C.W g h' av v:=fun av v r=>r.mono e hxo av (.inl fun a ha=>by subst ha;exact F.Lo) v
  refine hQ g _ R' ?_ ?_
  . exact e.weak (X':=FX C.nm env) (Y':=noY) R.low (fun a o _ ha=>.inl ha) (fun n q=>q.elim)
  . refine ⟨F.kind,F.names,F.nd,F.glob,F.blt,F.code,F.Lo,F.Lz,⟨_,hn',fun j y av' h1 h2=>?_⟩,fun j y kd h1 h2=>?_,?_,F.inj⟩
    . by_cases hj:j=i
      . subst hj;by_cases hl:j<m.length
        . rw[List.getElem?_set_self hl] at h2;cases h2
        . rw[List.getElem?_eq_none (by rw[List.length_set];simp_all)] at h2;cases h2
      . rw[List.getElem?_set_ne (Ne.symm hj)] at h2;refine qa4 (hm j y av' h1 h2) ?_;intro w h5 h6;refine ⟨w,?_,up _ _ h6⟩;have hne:y≠x:=fun q=>hj (by subst q;exact F.nd j i y _ _ h1 hi)
        show (if y=x then v else mh y)=some w;rw[if_neg hne];exact h5
    . refine qat (F.cell j y kd h1 h2) ?_;intro c ov h5 h6 h7 h8 h9;have hc:c≠env.locals:=fun q=>by subst q;rw[hL] at h7;obtain rfl:=Sj h7;cases hLd
      refine ⟨c,ov,h5,h6,(hs.2 c hc).trans h7,h8,fun av' q=>?_⟩;have hj:j≠i:=fun q=>by subst q;rw[hi] at h1;cases h1;cases h2
      rw[List.getElem?_set_ne (Ne.symm hj)] at q;refine qa4 (h9 av' q) ?_;intro w h10 h11;exact ⟨w,h10,up _ _ h11⟩
    . refine F.pl.imp id fun q j av' h=>?_
      by_cases hj:j=i
      . subst hj;by_cases hl:j<m.length
        . rw[List.getElem?_set_self hl] at h;cases h
        . rw[List.getElem?_eq_none (by rw[List.length_set];simp_all)] at h;cases h
      . rw[List.getElem?_set_ne (Ne.symm hj)] at h;exact q j av' h
theorem Fly.priv {h0a:Heap}{e:Addr}{us:List Value}(y:Fly W fr g σ h0a false e X us s)(hX:X ≠ "code")(hX2:X ≠ "frame"):
    ∃t oe vs ot nt,s.heap.get? e=some oe/\oe.cls=.type X/\oe.data=.fields vs/\vs[0]?=some (.ref t)/\s.heap.get? t=some ot/\ot.cls=.type "tuple"/\ot.data=.seq us.toArray nt/\Priv W g s.heap e/\Priv W g s.heap t:=by
  refine qbt (y.it) ?_;intro FR s0 B eq_14_3 hg ho hsub R hc hu hB hk;subst eq_14_3;have fresh:∀{a o},B.get? a=none->s.heap.get? a=some o->(∀es n,o.data≠.dict es n)->s0.heap.get? a=none:=fun {a o} hb hs hd=>by
    cases q:s0.heap.get? a with
    | none=>rfl
    | some o'=>
      exfalso
      by_cases hf:∃en∈FR,en.frame=some a
      . refine qa4 (hf) ?_;intro en hen hfa;refine qcv (R.frs en hen) ?_;intro f o2 es ep h1 h2 h3 _;rw[hfa] at h1;obtain rfl:=Sj h1;obtain ⟨sl,h4⟩:=hu a o2 h2 fun vs hv=>by rw[h3] at hv;cases hv
        rw[hs] at h4;obtain rfl:=Sj h4;exact hd _ _ h3
      . have:=hc a o' q fun en hen hfa=>hf ⟨en,hen,hfa⟩
        rw[hb] at this;cases this
  have pv:∀{a o},s0.heap.get? a=none->s.heap.get? a=some o->(∀es n,o.data≠.dict es n)->(∀v,o.data≠.cell v)->(∀vs,o.data=.fields vs->o.cls≠.type "code")->o.cls≠.type "frame"->Priv W g s.heap a:=fun {a o} h0 hs h1 h2 h3 h4=>
    ⟨R.newO h0,R.new1 h0,o,hs,h1,h2,h3,h4⟩
  rcases hk with ⟨q,_⟩ | ⟨_,t,ht,⟨ot,nt,t1,t2,t3⟩,hh⟩
  . cases q
  have he0:B.get? e=none:=by
    rcases hh with hf | ⟨L,env',rest,_,_,hh⟩
    . exact hf.2.1
    . exact hh.2.1
  obtain ⟨oe,ws,h1,h2,h3,h4⟩:∃oe vs,s.heap.get? e=some oe/\oe.cls=.type X/\oe.data=.fields vs/\vs[0]?=some (.ref t):=by
    rcases hh with hf | ⟨L,env',rest,he,hfr,hh⟩
    . exact hf.first
    . refine qhn (hh) ?_;intro _ _ _ oe ws T oT ts h1 ne_17_9 h3 _;obtain ⟨h2,h4⟩:=ne_17_9;exact ⟨oe,ws,h1,h2,h3,h4⟩
  have e0:=fresh he0 h1 (fun es n q=>by rw[h3] at q;cases q);have t0:=fresh ht t1 (fun es n q=>by rw[t3] at q;cases q);exact ⟨t,oe,ws,ot,nt,h1,h2,h3,h4,t1,t2,t3,pv e0 h1 (fun es n q=>by rw[h3] at q;cases q) (fun v q=>by rw[h3] at q;cases q) (fun _ _ q=>hX (by rw[h2] at q;simpa using q)) (fun q=>hX2 (by rw[h2] at q;simpa using q)),
    pv t0 t1 (fun es n q=>by rw[t3] at q;cases q) (fun v q=>by rw[t3] at q;cases q) (fun _ q=>by rw[t3] at q;cases q) (fun q=>by rw[t2] at q;simp at q)⟩
theorem qhw {v:Value}(hi:C.nm[i]?=some (x,.globalImplicit))(hg:C.W.mg x=none)(hv:C.W.mb x=some v)(R:Rep C.W fr g σ s)(F:Fra C env m g s.heap)(hQ:Q v s)(hd:autoParam ((x==("__debug__":Str))=false) ap1._auto_1):wpAny (model C.W.prog C.W.w) A (eval (.Name x p) env) Q E s:=by
  refine qa4 (F.names i x _ hi) ?_;intro k' h9 h10;exact wpAny_Name (qbm F.kind h9 h10 (Calls.loadGlobal_builtin (mg:=C.W.mg) (mb:=C.W.mb) (by rw[F.glob];exact R.gNs) hg (by rw[F.blt];exact R.bNs) hv hQ)) hd
theorem qfj (hi:C.nm[i]?=some (x,.local))(ha:m[i]?=some (some av))(F:Fra C env m g s.heap)(hQ:∀v,RV C.W g s.heap av v->Q v s)(hd:autoParam ((x==("__debug__":Str))=false) ap1._auto_1):wpAny (model C.W.prog C.W.w) A (eval (.Name x p) env) Q E s:=by
  refine qa4 (F.ns) ?_;intro mh hn hm;refine qa4 (hm i x av hi ha) ?_;intro w h1 h2;refine qa4 (F.names i x _ hi) ?_;intro k' h3 h4;have:k'=.local:=by cases k' <;> first | rfl | (exact absurd h4 (by decide))
  subst this;exact wpAny_Name (wpAny_loadName_local F.kind h3 hn h1 (hQ w h2)) hd
theorem Idp {c:Str}{cp xp rp hp:Pos}{T:String}(hb:ExsR C k (env::outer) m σ body false X P m1 z1)(hX:X ≠ "code")(hX2:X ≠ "frame")(hexc:isSubtype (.type T) (.type "BaseException")=pure true)(hnt:isSubtype (.type ((Manifest.find? T).elim "type" fun x=>x.metatype)) (.type "tuple")=pure false)(hsub:isSubtype (.type X) (.type T)=pure true)(hc:C.nm[i]?=some (c,.globalImplicit))(hg:C.W.mg c=none)(hv:C.W.mb c=some (.type T))(hx:C.nm[j]?=some (x,.local))(ha:m1[j]?=some (some v))(hd:autoParam ((c==("__debug__":Str))=false) ap1._auto_1)(hd':autoParam ((x==("__debug__":Str))=false) ap1._auto_1):
    ExF C k env outer m σ (.Try body [.ExceptHandler (some (.Name c cp)) none [.Return (some (.Name x xp)) rp] hp] [] [] p) (.ret v) m1 z1:=fun A g s rm R F Q E hQ=>by
  refine wpAny_Try_except (hb A env outer g s rfl rm R F _ _ fun e g' h0a us s' hp e1a F1 y=>?_);refine y.note rm.frames fun s2 y2=>y2.land fun s3 y3=>?_
  refine wpAny_handleBy_builtin (X:=X) (T:=T) (b:=true) hexc hnt hsub ?_;have F3:=F1.up y3.rep.2;refine qgz (y3.priv hX hX2) ?_;intro t oe vs ot nt h1 h2 h3 _;refine qhw hc hg hv y3.rep.1 F3 ⟨rfl,⟨oe,h1,h2⟩,?_⟩ hd;refine y3.again fun s4 y4=>?_
  refine And.elim ?_ y4.rep;intro R4 e4;have F4:=F1.up e4;refine wpAny_execs_cons (wpAny_Return_some (qfj hx ha F4 (fun v' rv=>?_) hd'));exact hQ _ g' s4 R4 (e1a.trans e4.no.toX) F4 ⟨v',rfl,rv⟩
theorem Ido {c sn:Str}{cp np np2 xp sp tp ip hp cp2 cmp:Pos}{rest:List Stmt}{l:Nat}{msg:Str}(hb:ExsR C k (env::outer) m σ body false "ValueError" (fun us=>∃t,us=[.str msg t]) m1 z1)(hc:C.nm[i]?=some (c,.globalImplicit))(hg:C.W.mg c=none)(hv:C.W.mb c=some (.type "ValueError"))(hx:C.nm[j]?=some (x,.local))(hl:j<m1.length)(hs:C.nm[l]?=some (sn,.globalImplicit))(hsg:C.W.mg sn=none)(hsv:C.W.mb sn=some (.type "str"))(hd:autoParam ((c==("__debug__":Str))=false) ap1._auto_1)(hd':autoParam ((x==("__debug__":Str))=false) ap1._auto_1)(hd2:autoParam ((sn==("__debug__":Str))=false) ap1._auto_1):
    ExF C k env outer m σ (.Try body [.ExceptHandler (some (.Name c cp)) (some x) [.If (.Compare (.Call (.Name sn np) [.Name x np2] [] cp2) [.NotEq] [.Constant (.str msg) n sp] cmp) rest [] ip] hp] [] [] p) .next (m1.set j none) z1:=fun A g s rm R F Q E hQ=>by
  refine wpAny_Try_except (hb A env outer g s rfl rm R F _ _ fun e g' h0a us s' hp e1a F1 y=>?_);refine Exists.elim hp ?_;intro t0 eq_0_1;subst eq_0_1;refine y.note rm.frames fun s2 y2=>y2.land fun s3 y3=>?_
  refine wpAny_handleBy_builtin_as (X := "ValueError") (T := "ValueError") (b:=true) PySem.F.isExc_ValueError PySem.F.notTuple_ValueError (by rw[isSubtype_type];kernel_rfl) ?_;have F3:=F1.up y3.rep.2;refine qgz (y3.priv (by decide) (by decide)) ?_;intro t oe vs ot nt h1 h2 h3 _;refine qhw hc hg hv y3.rep.1 F3 ⟨rfl,⟨oe,h1,h2⟩,?_⟩ hd;refine y3.again fun s4 y4=>?_
  refine And.elim ?_ y4.rep;intro R4 e4;have F4:=F1.up e4;refine qg1 (y4.priv (by decide) (by decide)) ?_;intro t oe vs ot nt h1 h2 h3 h4 h5 h6 h7 pe pt;refine qbw (av:=.glob (.ref e)) hx (.inl rfl) R4 F4 rfl fun g5 s5 R5 e5 F5=>?_
  have k1:=(Priv.keep F4 (e5.toY) pe h1).1;have k2:=(Priv.keep F4 (e5.toY) pt h5).1;refine wpAny_execs_cons (wpAny_If (wpAny_isTrue_Compare1 (wpAny_Call_Name_kw (qhw hs hsg hsv R5 F5 ?_ hd2)) (by with_unfolding_all rfl)));refine PyProof.Rows.callWith_type (by rfl) (PySem.Calls.evalArgs_plain (Calls.spliced_cons (qfj hx (by rw[List.getElem?_set_self hl]) F5 (fun v' rv=>Calls.spliced_nil ?_) hd')));obtain rfl:v'=.ref e:=rv;refine PySem.P.str_of_exc_one PySem.F.excStr_ValueError (m:=msg) (tk:=t0) (t0:=t) ?_ ⟨oe,vs,k1,h2,h3,h4⟩ ⟨ot,nt,k2,h6,h7⟩ ?_
  . have:=rm.units;show A.units+2<cLine;have:cLine=9900:=rfl;lia
  refine Calls.Constant_str (PyProof.Rows.ne_str (wpAny_truthy_bool ?_));rw[show (msg != msg)=false by simp];refine wpAny_execs_nil (wpAny_execs_nil (wpAny_bind (wpAny_bindName ?_)));have R5':=R5.tok (s5.toks+1);refine qbw (av:=.none) (s:={ s5 with toks:=s5.toks+1 }) hx (.inl rfl) R5' F5 rfl fun g6 s6 R6 e6 F6=>?_
  refine qib hx (by rw[List.getElem?_set_self (by rw[List.length_set];exact hl)]) R6 F6 fun g7 s7 R7 e7 F7=>?_
  rw[List.set_set,List.set_set] at F7;exact hQ _ g7 s7 R7 (((((e1a.trans e4.no.toX).trans e5.toY).trans e6.toY).trans e7.toY)) F7 rfl
end
end
section
open PySem.Builtin PySem.Builtin.ObjectAttr
theorem md_slot:Slot "method_descriptor" "__get__" "method_descriptor.__get__":=
  .of (owner := "method_descriptor") (n := "__get__") (by rw[typeLookup_type,builtinLookup_eq_fast];kernel_rfl) (by decide +kernel) (by decide +kernel) (by decide +kernel)
    (by first | exact .inl (by decide +kernel) | exact .inr (by decide +kernel)) (by rw[isSubtype_type];kernel_rfl)
theorem qpv:entryFor table "method_descriptor.__get__"=some Builtin.«method_descriptor.__get__»:=entryFor_of_tree (by kernel_rfl)
theorem qrk (a b c:Value):argsOk "method_descriptor.__get__" ⟨[a,b,c],[]⟩:=by unfold argsOk;kernel_rfl
theorem qrj (x:Addr):∃t:Sem Unit,Builtin.«method_descriptor.__get__» ⟨[.builtin "list.append",.ref x,.type "list"],[]⟩=((isInstance (.ref x) (.type "list") >>= fun b=>if (!b)=true then t else pure ()) >>= fun _=>(newFields "builtin_function_or_method" [.builtin "list.append",.ref x] >>= fun v=>ret v)):=⟨_,rfl⟩
theorem qri (s:Shared):s.TypeIs (.builtin "list.append") "method_descriptor":=by
  show typeOf (.builtin "list.append")=pure (.type "method_descriptor");first | rfl | decide +kernel | kernel_rfl
theorem qtg:typeLookup (.type "method_descriptor") "__set__"=pure none:=by rw[typeLookup_type,builtinLookup_eq_fast];kernel_rfl
theorem qth:typeLookup (.type "method_descriptor") "__delete__"=pure none:=by rw[typeLookup_type,builtinLookup_eq_fast];kernel_rfl
theorem qo8:builtinKind "list.append"=some .method:=by decide +kernel
theorem qfd:typeLookup (.type "list") "append"=pure (some (.builtin "list.append")):=PySem.F.slot_list_append.lookup
section
set_option maxHeartbeats 1000000 in
theorem qme {g:Array GenState}{d:Drawn}{t:Nat}{x:Addr}{vs:Array Value}{expr:Bool}(hx:h.get? x=some (qab vs n))(hq:∀tk,Q (.ref h.objs.size) ⟨h.push (qpc "list.append" (.ref x)),g,d,tk,os⟩):wpAny (model prog w) A (getAttr (.ref x) "append" expr) Q E ⟨h,g,d,t,os⟩:=by
  have hT:∀tk',(⟨h,g,d,tk',os⟩:Shared).TypeIs (.ref x) "list":=fun _=>⟨_,hx,rfl⟩
  have f3:=PySem.F.slot_list_getattribute.lookup;have f4:=PySem.F.slot_list_getattribute.bind (.ref x);have f5:=am_list_getattr_none;have f6:=qfd;unfold getAttr;refine wpAny_bind ?_;repeat (any_goals (first | assumption | exact hT _ | wp_step))
  rw[if_neg (by cases expr <;> simp[onTheHeap])];repeat (any_goals (first | assumption | exact hT _ | wp_step))
  refine qey (S:=fun A' R s'=>s'.heap.get? x=some (qab vs n)/\∀tk,R (.ok (.ret (.ref s'.heap.objs.size))) { s' with heap:=s'.heap.push (qpc "list.append" (.ref x)),toks:=tk }) PySem.F.slot_list_getattribute (hT _) am_entry_list_getattribute (PySem.F.args_list_getattribute_2 _ _) (Meets.of_wp fun prog w A R s hs=>?_) ?_
  . obtain ⟨hp,g,d,tk,os⟩:=s;refine And.elim ?_ hs;intro hx hs;have hT:(⟨hp,g,d,tk,os⟩:Shared).TypeIs (.ref x) "list":=⟨_,hx,rfl⟩
    unfold Builtin.«object.__getattribute__»;have k1:=qo8;have k2:=md_slot.lookup;have k3:=qtg;have k4:=qth;have k5:=md_slot.bind (.builtin "list.append");repeat (any_goals (first | assumption | (rw[k1];show wpAny _ _ (typeLookup (.type "method_descriptor") _) _ _ _) | wp_step))
    refine codeAny_call_builtin md_slot.plain qpv (md_slot.check _ _ _ _ _ _ _ _ (qri _) (qrk _ _ _) ?_);refine Exists.elim (qrj x) ?_;intro t ht;show wpAny _ _ (Builtin.«method_descriptor.__get__» _) _ _ _;rw[ht];refine wpAny_bind (wpAny_bind (wpAny_isInstance (T := "list") (b:=true) hT (by rw[isSubtype_type];kernel_rfl) (wpAny_pure ?_)));unfold newFields;repeat (any_goals (first | assumption | wp_step))
    exact ⟨_,rfl,hs tk⟩
  . exact ⟨hx,fun tk=>wpAny_pure (hq tk)⟩
end
end
section
theorem quf:∃sig,Manifest.signature? "list.append"=some sig/\∀(a x:Value),Bind.checkArgs "list.append" { sig with full:=s!"{Bind.lastOf "list"}.{Bind.lastOf "list.append"}" } ⟨[a,x],[]⟩=pure ():=by
  cases h:Manifest.signature? "list.append" with
  | none=>exact absurd (show (Manifest.signature? "list.append").isSome=true by decide +kernel) (by rw[h];simp)
  | some sig=>
    refine ⟨sig,rfl,fun a x=>?_⟩;have hs:sig=(match Manifest.signature? "list.append" with | some s=>s | none=>sig):=by rw[h]
    rw[hs]
    kernel_rfl
theorem que:Manifest.varargsMethods.contains "list.append"=false:=by decide +kernel
section
theorem qkr {l:Addr}{x:Value}{vs:Array Value}{Q:Unit->Shared->Prop}(hl:s.heap.get? l=some (qab vs n))(hQ:Q () s):wpAny (model prog w) A (checkBoundCall "list.append" ⟨[.ref l,x],[]⟩) Q E s:=by
  refine qa4 (quf) ?_;intro sig h1 h2;have hT:s.TypeIs (.ref l) "list":=⟨_,hl,rfl⟩
  unfold checkBoundCall;rw[h1,qo8];simp only[bne_self_eq_false,Bool.false_and,Bool.false_eq_true,if_false,que,Bool.false_or];refine wpAny_bind (wpAny_isInstance (T := "list") (b:=false) hT qdm ?_);rw[if_neg (by simp)];obtain ⟨h,g,d,t,os⟩:=s;repeat (any_goals ((fail_if_success (with_reducible show wpAny _ _ (Bind.checkArgs _ _ _) _ _ _));first | assumption | wp_step))
  show wpAny _ _ (Bind.checkArgs "list.append" { sig with full:=s!"{Bind.lastOf "list"}.{Bind.lastOf "list.append"}" } ⟨[.ref l,x],[]⟩) _ _ _;rw[h2];exact wpAny_pure hQ
theorem qmq {b l:Addr}{x:Value}{vs:Array Value}{S:PySem.Spec}(hb:s.heap.get? b=some (qpc "list.append" (.ref l)))(hl:s.heap.get? l=some (qab vs n))(hm:Meets (Builtin.«list.append» ⟨[.ref l,x],[]⟩) S)(hQ:S A (fun r s'=>match r with | .ok (.ret v)=>Q v s' | .ok _=>False | .error e=>E e s') s):
    wpAny (model prog w) A (call (.ref b) [x]) Q E s:=by
  refine wpAny_call (codeAny_of_tree ?_);show wpAny _ A.in1 (callAny (.ref b) ⟨[x],[]⟩) _ _ s;simp only[callAny];refine wpAny_bind (wpAny_load hb ?_);simp only[];rw[if_pos (by decide)];have hv0:(#[Value.builtin "list.append",Value.ref l])[0]?=some (.builtin "list.append"):=rfl;have hv1:(#[Value.builtin "list.append",Value.ref l])[1]?=some (.ref l):=rfl;rw[hv0,hv1];simp only[];rw[if_pos (by decide)];refine wpAny_bind (qkr hl (wpAny_pure ⟨plainId_quiet PySem.F.slot_list_append.plain _,codeAny_builtin PySem.F.entry_list_append (hm prog w _ _ s hQ)⟩))
end
section
theorem Ev.bound (he:Ev C k fr m σ e (.loc n) z')(hn:z'[n]?=some (.lst l))(hb:autoParam (∀env w,attributeBase e "append" env w=w) ap0._auto_1):
    Ev C k fr m σ (.Attribute e "append" p) (.bound "list.append" (.loc n)) z':=fun A env g s rm R F Q E hQ=>by
  rw[arm_eval_Attribute,hb];refine wpAny_bind (he A env g s rm R F _ _ fun va g1 s1a R1 e1a ra=>?_);refine qa2 (qg5 R1 hn ra) ?_;intro a vs nn eq_2_3 hg ho hr;subst eq_2_3;obtain ⟨h,gs,d,t,os⟩:=s1a;refine wpAny_bind (wpAny_standAt (wpAny_bind (wpAny_holding (qme ho fun tk=>?_))));refine wpAny_bind (wpAny_letTemporaryGo (wpAny_pure ?_));refine And.elim ?_ ((R1.tok tk).newFz (qpc "list.append" (.ref a)));intro R2 e2a;exact hQ _ _ _ R2 (e1a.trans e2a.no) ⟨_,.ref a,rfl,qa5,Heap.get?_push_size _ rfl,a,rfl,e2a.loc a n hg⟩
theorem Calls.bound (hn:σ[n]?=some (.lst l))(hY:Y n)(hp:plain v=true)(hz:l.length<=sizeLine):Calls W Y k fr σ (.bound "list.append" (.loc n)) [v] [] [] .none (σ.set n (.lst (l++[v]))):=fun A g s vf us ks rm R rf ru rk Q E hQ=>by
  refine qnx (rf) ?_;intro b sv eq_5_2 hgb hob a eq_5_6 hga;subst eq_5_2;subst eq_5_6;refine qa3 (ru) ?_;(try clear ru);intro u q eq_6_2 ru rq;subst eq_6_2;obtain rfl:q=[]:=rq;obtain rfl:ks=[]:=rk;refine qa2 (qg5 R hn ⟨a,rfl,hga⟩) ?_;intro a' vs nn e hg ho hr;cases e
  have e1:vs.size=l.length:=by rw[<- Array.length_toList,hr.length]
  have hpl:plains l=true:=R.pl n _ hn;refine And.elim ?_ (R.updList (f:=fun xs=>xs.push u) (l':=l++[v]) s.toks hn hg ho (by rw[Array.toList_push];exact hr.append (show RVs W g s.heap [v] [u] from ⟨u,[],rfl,ru,rfl⟩)) (by rw[qao,hpl];show (true&&(plain v&&true))=true;rw[hp];rfl));intro R' e';exact qmq hob ho (list_append a vs nn u (by rw[e1];exact hz)) ⟨ho,hQ _ _ _ R' (e'.toN hY) rfl⟩
end
end
section
theorem qkk:entryFor table "iter"=some Builtin.«iter»:=entryFor_of_fast (by kernel_rfl)
theorem qgg:entryFor table "next"=some Builtin.«next»:=entryFor_of_fast (by kernel_rfl)
theorem qmv (a:Value):argsOk "iter" ⟨[a],[]⟩:=by unfold argsOk;kernel_rfl
theorem qhe (a:Value):argsOk "next" ⟨[a],[]⟩:=by unfold argsOk;kernel_rfl
section
theorem qoh {l:Addr}{vs:Array Value}(hl:s.heap.get? l=some (qab vs n))(hQ:Q (.ref s.heap.objs.size) { s with heap:=s.heap.push { cls:=.type "list_iterator",data:=.fields #[.ref l,.int 0 0] } }):
    wpAny (model prog w) A (call (.builtin "iter") [.ref l]) Q E s:=by
  refine PySem.Calls.call_function_entry (by decide +kernel) (by decide +kernel) qkk (qmv _) ?_;unfold Builtin.«iter»;refine wpAny_bind (m:=someArgs "iter" 1 2 _) (wpAny_of_eq (a:=[Value.ref l]) (by first | rfl | kernel_rfl!) ?_);show wpAny _ _ (pyIter (.ref l) >>= _) _ _ _;exact wpAny_bind (wpAny_pyIter_list (qam hl) (wpAny_pure ⟨_,rfl,hQ⟩))
theorem qo6 {it l:Addr}{vs:Array Value}{x:Value}(hit:s.heap.IsListIter it l i)(hl:s.heap.get? l=some (qab vs n))(hx:vs[i]?=some x)(hQ:∀h',h'.IsListIter it l (i+1)->Heap.SameBut it s.heap h'->Q x { s with heap:=h' }):wpAny (model prog w) A (call (.builtin "next") [.ref it]) Q E s:=by
  refine PySem.Calls.call_function_entry (by decide +kernel) (by decide +kernel) qgg (qhe _) ?_;unfold Builtin.«next»;refine wpAny_bind (m:=someArgs "next" 1 2 _) (wpAny_of_eq (a:=[Value.ref it]) (by first | rfl | kernel_rfl!) ?_);dsimp only;refine wpAny_bind (wpAny_specialOf (name:=Str.ofString "__next__") hit.typeIs slot_listiter_next.lookup ?_);refine wpAny_ite_split (fun hab=>absurd hab (by decide)) (fun _=>?_);refine qal (id hit) ?_;intro o ho hc hd;refine wpAny_bind (wpAny_callSpecial?_slot (name:=Str.ofString "__next__") hit.typeIs slot_listiter_next
    (wpAny_call_entry slot_listiter_next hit.typeIs entry_listiter_next ?_ (args_listiter_next _)))
  show wpAny _ _ (field (.ref it) 0 >>= _) _ _ s;refine wpAny_bind (wpAny_field ho hd (x:=.ref l) rfl ?_);show wpAny _ _ (if (Value.ref l==Value.none)=true then _ else _) _ _ s;rw[if_neg (show ¬((Value.ref l==Value.none)=true) from Bool.false_ne_true)];show wpAny _ _ (field (.ref it) 1 >>= _) _ _ s;refine wpAny_bind (wpAny_field ho hd (x:=.int i 0) rfl ?_);show wpAny _ _ (seqItems? (.ref l) >>= _) _ _ s;refine wpAny_bind (wpAny_seqItems hl rfl ?_);simp only[Int.toNat_natCast,hx];refine wpAny_bind (wpAny_setField ho hd (by simp) (wpAny_pure ⟨x,rfl,wpAny_pure ⟨x,rfl,hQ _ ?_ (Heap.SameBut.update ..)⟩⟩));exact ⟨_,Heap.get?_update_self _ ho (Obj.isFreed_of_fields (Obj.data_mapFields hd _)),(Obj.cls_mapFields ..).trans hc,by
    rw[Obj.data_mapFields hd];simp[rawInt]⟩
theorem qo5 {it l:Addr}{vs:Array Value}(hh:A.handled=none)(hit:s.heap.IsListIter it l i)(hl:s.heap.get? l=some (qab vs n))(hx:vs[i]?=none)(hE:∀h' h'' e,Heap.SameBut it s.heap h'->(∃o,h'.get? it=some o)->Heap.MadeExcOf h' h'' e (.type "StopIteration") []->E (.ref e) { s with heap:=h'' }):wpAny (model prog w) A (call (.builtin "next") [.ref it]) Q E s:=by
  refine PySem.Calls.call_function_entry (by decide +kernel) (by decide +kernel) qgg (qhe _) ?_;unfold Builtin.«next»;refine wpAny_bind (m:=someArgs "next" 1 2 _) (wpAny_of_eq (a:=[Value.ref it]) (by first | rfl | kernel_rfl!) ?_);dsimp only;refine wpAny_bind (wpAny_specialOf (name:=Str.ofString "__next__") hit.typeIs slot_listiter_next.lookup ?_);refine wpAny_ite_split (fun hab=>absurd hab (by decide)) (fun _=>?_);refine qal (id hit) ?_;intro o ho hc hd;refine wpAny_bind (wpAny_callSpecial?_slot (name:=Str.ofString "__next__") hit.typeIs slot_listiter_next
    (wpAny_call_entry slot_listiter_next hit.typeIs entry_listiter_next ?_ (args_listiter_next _)))
  show wpAny _ _ (field (.ref it) 0 >>= _) _ _ s;refine wpAny_bind (wpAny_field ho hd (x:=.ref l) rfl ?_);show wpAny _ _ (if (Value.ref l==Value.none)=true then _ else _) _ _ s;rw[if_neg (show ¬((Value.ref l==Value.none)=true) from Bool.false_ne_true)];show wpAny _ _ (field (.ref it) 1 >>= _) _ _ s;refine wpAny_bind (wpAny_field ho hd (x:=.int i 0) rfl ?_);show wpAny _ _ (seqItems? (.ref l) >>= _) _ _ s;refine wpAny_bind (wpAny_seqItems hl rfl ?_);simp only[Int.toNat_natCast,hx];refine wpAny_bind (wpAny_rule (wpAny_bind (wpAny_setField ho hd (by simp) ?_)));show wpAny _ _ (newExc (.type "StopIteration") [] >>= _) _ _ _;refine wpAny_bind ?_;simp only[newExc,newTuple];refine wpAny_bind (wpAny_newObj_type ?_ (by size_fits));refine wpAny_bind (m:=firstArgMember _ _) (wpAny_of_eq (a:=Value.none) (by first | rfl | (simp only[firstArgMember];rfl)) ?_);refine wpAny_newObj_type ?_ (by size_fits);simp only[raiseNew];refine wpAny_bind (wpAny_handled ?_);first | rw[show A.in1.in1.handled=none from hh] | rw[show A.in1.handled=none from hh] | rw[hh]
  refine wpAny_bind (wpAny_pure (wpAny_throw ?_));refine hE _ _ _ (Heap.SameBut.update ..) ⟨_,Heap.get?_update_self _ ho (Obj.isFreed_of_fields (Obj.data_mapFields hd _))⟩ ⟨fun b o q=>Heap.get?_push_of_some _ (Heap.get?_push_of_some _ q),?_,⟨_,Heap.get?_push_size _ rfl,?_,Heap.get?_push_of_some _ (Heap.get?_push_size _ rfl)⟩⟩
  . exact Heap.get?_none_of_le (by rw[Heap.size_push];exact Nat.le_succ _)
  . exact qak _
end
section
theorem Idb (hp:plains l=true):Calls W Y k fr σ (.glob (.builtin "iter")) [.lst l] [] [] (.loc σ.length) (σ++[.iter l]):=fun A g s vf us ks rm R rf ru rk Q E hQ=>by
  obtain rfl:vf=.builtin "iter":=rf;refine qa3 (ru) ?_;intro u q eq_2_2 ne_2_3 rq;subst eq_2_2;refine qa2 ne_2_3 ?_;intro a vs n eq_0_3 hg ho hr;subst eq_0_3;obtain rfl:q=[]:=rq;obtain rfl:ks=[]:=rk;have e2a:Evo W noX noY g s.heap (qc9 g s.heap.objs.size (.loc σ.length)) (s.heap.push { cls:=.type "list_iterator",data:=.fields #[.ref a,.int 0 0] }):=R.pushEvo _ _;refine qoh ho ?_;refine And.elim ?_ (R.pushLoc { cls:=.type "list_iterator",data:=.fields #[.ref a,.int 0 0] } (ao:=.iter l) hp ⟨a,0,vs,n,⟨_,Heap.get?_push_size _ rfl,rfl,rfl⟩,e2a.fz a hg (fun q=>q),Heap.get?_push_of_some _ ho,hr.up e2a⟩);intro R2 e3a;exact hQ _ _ _ R2 e3a.no ⟨_,rfl,qa5⟩
theorem qoi (R:Rep W fr g σ s)(hn:σ[n]?=some (.iter l))(ra:RV W g s.heap (.loc n) va):
    ∃(a la:Addr) (i:Nat) (vs:Array Value) (k:Nat),va=.ref a/\g a=.loc n/\s.heap.IsListIter a la i/\g la=.fz/\s.heap.get? la=some (qab vs k)/\RVs W g s.heap l (vs.toList.drop i):=by
  refine qa4 (ra) ?_;intro a eq_4_1 hg;subst eq_4_1;refine qk2 (R.locs n _ hn) ?_;intro a' hg' la i vs k h1 h2 h3 h4;have:a'=a:=R.uniq _ _ _ hg' hg;subst this;exact ⟨a',la,i,vs,k,rfl,hg,h1,h2,h3,h4⟩
theorem Icc (hn:σ[n]?=some (.iter (v::l)))(hY:Y n):Calls W Y k fr σ (.glob (.builtin "next")) [.loc n] [] [] v (σ.set n (.iter l)):=fun A g s vf us ks rm R rf ru rk Q E hQ=>by
  obtain rfl:vf=.builtin "next":=rf;refine qa3 (ru) ?_;(try clear ru);intro u q eq_6_2 ru rq;subst eq_6_2;obtain rfl:q=[]:=rq;obtain rfl:ks=[]:=rk;refine qfb (qoi R hn ru) ?_;intro a la i vs kk eq_7_5 hg hit hgl hl u r hd rv hr;subst eq_7_5;have hx:vs[i]?=some u:=by
    have:(vs.toList.drop i)[0]?=some u:=by rw[hd];rfl
    rw[List.getElem?_drop,Nat.add_zero,Array.getElem?_toList] at this;exact this
  have hd':vs.toList.drop (i+1)=r:=by rw[<- List.drop_drop,hd];rfl
  refine qo6 hit hl hx fun h' hit' hs=>?_
  have hk:∀b o,s.heap.get? b=some o->g b≠.loc n->g b≠.aux n->h'.get? b=some o:=fun b o ho q _=>(hs.2 b (fun q'=>q (by rw[q'];exact hg))).trans ho
  have e:=Evo.setLoc (g':=g) R (n:=n) (fun b o ho=>rfl) hk;have hp:=R.pl n _ hn;have hp2:plains l=true:=by have:(plain v&&plains l)=true:=hp;rw[Bool.and_eq_true] at this;exact this.2
  have hne:la≠a:=fun q=>by rw[q,hg] at hgl;cases hgl
  refine hQ u g _ (R.setLoc (ao':=.iter l) s.toks hn (fun b o ho=>rfl) (fun b hb=>.inl (R.newO hb)) hk (fun b o ho hq=>?_) hp2 (fun b hb=>?_)) (e.toN hY) (rv.up e)
  . by_cases q:b=a
    . subst q;refine qa4 (hit') ?_;intro o' ho' _;exact ⟨o',ho'⟩
    . exact ⟨o,(hs.2 b q).trans ho⟩
  . have:b=a:=R.uniq _ _ _ hb hg;subst this;exact ⟨la,i+1,vs,kk,hit',hgl,(hs.2 la hne).trans hl,by rw[hd'];exact hr.up e⟩
theorem Id0 (hn:σ[n]?=some (.iter []))(hY:Y n):CallsR W Y k fr σ (.glob (.builtin "next")) [.loc n] [] [] true "StopIteration" (fun us=>us=[]) (σ.set n .iterDone):=fun A g s vf us ks rm R rf ru rk Q E hE=>by
  obtain rfl:vf=.builtin "next":=rf;refine qa3 (ru) ?_;(try clear ru);intro u q eq_9_2 ru rq;subst eq_9_2;obtain rfl:q=[]:=rq;obtain rfl:ks=[]:=rk;refine qio (qoi R hn ru) ?_;intro a la i vs kk eq_10_5 hg hit hgl hl hr;subst eq_10_5;have hx:vs[i]?=none:=by
    have:(vs.toList.drop i)[0]?=none:=by rw[(hr:vs.toList.drop i=[])];rfl
    rw[List.getElem?_drop,Nat.add_zero,Array.getElem?_toList] at this;exact this
  refine qo5 rm.handled hit hl hx fun h' h'' e hs hex hm=>?_
  have hk:∀b o,s.heap.get? b=some o->g b≠.loc n->g b≠.aux n->h'.get? b=some o:=fun b o ho q _=>(hs.2 b (fun q'=>q (by rw[q'];exact hg))).trans ho
  have ev:=Evo.setLoc (g':=g) R (n:=n) (fun b o ho=>rfl) hk;have R':=R.setLoc (g':=g) (h':=h') (ao':=.iterDone) s.toks hn (fun b o ho=>rfl) (fun b hb=>.inl (R.newO hb)) hk (fun b o ho hq=>by
    by_cases q:b=a
    . subst q;exact hex
    . exact ⟨o,(hs.2 b q).trans ho⟩) rfl (fun b hb=>trivial)
  exact hE e g h' [] _ rfl (ev.toN hY) (Idf R' hm rfl rfl)
end
end
section
section
variable [DecidableEq K] {knd:KeyKind prog w K}
theorem qi0 {d:Addr}{kvs:List (K×Value)}{k:K}{key v:Value}{Q:Unit->Shared->Prop}(hkey:knd.is k key=true)(hm:s.heap.DictOf knd d kvs)(hQ:∀h',h'.DictOf knd d (stored kvs k v)->Heap.SameBut d s.heap h'->Q () { s with heap:=h' })(hsz:kvs.length<=sizeLine):wpAny (model prog w) A (dictPut d (knd.hash k) key v) Q E s:=by
  refine qbb (hm) ?_;intro o es ep ho hc hd hk hp hn;have hes:es.size<=sizeLine:=by
    have e1:=hp.length;have e2:es.toList.length=es.size:=by rfl
    simp_all
  unfold dictPut;refine wpAny_bind (wpAny_dictFind_of hkey ho hd hk ?_);have hidx:(es.findIdx? fun e=>knd.is k e.key)=kvs.findIdx? fun kv=>decide (kv.1=k):=by
    rw[<- hp.findIdx k];obtain ⟨l⟩:=es;simp
  cases hi:es.findIdx? fun e=>knd.is k e.key with
  | some i=>
    refine wpAny_updateDict ho hd (hQ _ ⟨_,_,ep,Heap.get?_update_self _ ho (Obj.isFreed_of_dict (Obj.data_mapDict hd _)),
      hc.mapDict _,Obj.data_mapDict hd _,hk.modify _ _,?_,?_⟩ (Heap.SameBut.update ..))
    . rw[stored,if_pos (any_of_findIdx_some (hidx ▸ hi))];have hl:(es.toList.findIdx? fun e=>knd.is k e.key)=some i:=by rw[<- hi];obtain ⟨l⟩:=es;simp
      have:=hp.modify hn hl v;obtain ⟨l⟩:=es;simpa using this
    . rw[stored,if_pos (any_of_findIdx_some (hidx ▸ hi)),keys_map_store];exact hn
  | none=>
    have hnot:k∉kvs.map (·.1):=not_mem_of_findIdx_none (hidx ▸ hi);have hany:¬(kvs.any fun kv=>decide (kv.1=k))=true:=by
      rw[List.any_eq_true];rintro ⟨kv,hkv,he⟩;exact hnot (List.mem_map.mpr ⟨kv,hkv,of_decide_eq_true he⟩)
    refine wpAny_updateDictKeys (hz:=hes) ho hd (hQ _ ⟨_,_,ep+1,Heap.get?_update_self _ ho (Obj.isFreed_of_dict (Obj.data_mapDictKeys hd _)),
      hc.mapDictKeys _,Obj.data_mapDictKeys hd _,hk.push hkey _,?_,?_⟩ (Heap.SameBut.update ..))
    . rw[stored,if_neg hany];have:=hp.append hkey (knd.hash k) v;obtain ⟨l⟩:=es;simpa using this
    . rw[stored,if_neg hany,List.map_append,List.nodup_append];refine ⟨hn,by simp,?_⟩;intro a ha b hb;simp only[List.map_cons,List.map_nil,List.mem_singleton] at hb;subst hb;exact fun e=>hnot (e ▸ ha)
end
section
theorem qh1 {d o:Addr}{kvs more:List (Str×Value)}{oo:Obj}{eso:Array DictEntry}{epo:Nat}{Q:PUnit->Shared->Prop}(hdo:d≠o)(hdo':oo.data=.dict eso epo)(hko:KeysOf (PySem.strKind prog w) eso)(hpo:Pairs (PySem.strKind prog w) eso.toList more)(hlen:more.length=eso.size)(hsz:kvs.length+more.length<=sizeLine)(f:Nat->PUnit->Sem (ForInStep PUnit))(hf:∀i u,f i u=(do
      let some e:=(<- dictEntries o)[i]? | unsupported "dict.changed-during-merge";pure (ForInStep.yield ⟨⟩)
      holding [e.key,e.val] (dictPut d e.hash e.key e.val)
      if (<- dictEpoch o) != epo then unsupported "dict.changed-during-merge";pure (ForInStep.yield ⟨⟩) else pure (ForInStep.yield ⟨⟩))):∀(n i:Nat) (s:Shared),i+n=eso.size->s.heap.DictOf (PySem.strKind prog w) d (merged kvs (more.take i))->s.heap.get? o=some oo ->
    (∀h',h'.DictOf (PySem.strKind prog w) d (merged kvs more)->Heap.SameBut d s.heap h'->Q ⟨⟩ { s with heap:=h' })->wpAny (model prog w) A (forIn (List.range' i n) PUnit.unit f) Q E s
  | 0,i,s,hi,hd,hoo,hQ=>by
    rw[List.range'_zero,List.forIn_nil];have:i=more.length:=by simp_all
    subst this;rw[List.take_length] at hd;exact wpAny_pure (hQ s.heap hd (Heap.SameBut.refl _ _))
  | n+1,i,s,hi,hd,hoo,hQ=>by
    have hlt:i<eso.size:=by lia
    rw[List.range'_succ,List.forIn_cons,hf];obtain ⟨kv,hkv⟩:∃kv,more[i]?=some kv:=⟨more[i]'(by rw[hlen];exact hlt),List.getElem?_eq_getElem _⟩
    obtain ⟨k,v⟩:=kv;refine And.elim ?_ (hpo.get? (e:=eso[i]) (by simp[hlt]) hkv);intro hkey hval;refine qa4 (hko eso[i] (Array.getElem_mem hlt)) ?_;intro k' hkey' hhash;obtain rfl:k'=k:=(PySem.strKind prog w).inj _ _ _ hkey' hkey;have hmx:(merged kvs (more.take i)).length<=sizeLine:=by
      have e1:=merged_length_le kvs (more.take i);have e2:(more.take i).length<=more.length:=by rw[List.length_take];grind
      lia
    refine wpAny_bind (wpAny_bind (wpAny_dictEntries hoo hdo' ?_));rw[Array.getElem?_eq_getElem hlt];show wpAny _ _ (holding [eso[i].key,eso[i].val] (dictPut d eso[i].hash eso[i].key eso[i].val) >>= _) _ _ _;rw[hhash,hval];refine wpAny_bind (wpAny_holding (qi0 (hsz:=hmx) hkey hd fun h'' hd'' hs''=>?_));have hoo'':h''.get? o=some oo:=(hs''.2 o (Ne.symm hdo)).trans hoo;refine wpAny_bind (wpAny_dictEpoch hoo'' hdo' ?_);rw[if_neg (by simp)];refine wpAny_pure ?_;refine qh1 hdo hdo' hko hpo hlen hsz f hf n (i+1) _ (by lia) (by rw[merged_take_succ kvs more i (k',v) hkv];exact hd'') hoo'' fun h' h1 h2=>hQ h' h1 (hs''.trans h2)
theorem qis {d o:Addr}{kvs more:List (Str×Value)}{Q:Unit->Shared->Prop}(hdo:d≠o)(hoS:(o==sysModules)=false)(hd:s.heap.DictOf (PySem.strKind prog w) d kvs)(ho:s.heap.DictOf (PySem.strKind prog w) o more)(hQ:∀h',h'.DictOf (PySem.strKind prog w) d (merged kvs more)->Heap.SameBut d s.heap h'->Q () { s with heap:=h' })(hsz:kvs.length+more.length<=sizeLine):wpAny (model prog w) A (mergeMapping d (.ref o) false) Q E s:=by
  refine qbb (id hd) ?_;intro od esd epd hod hcd hdd hkd hpd hnd;refine qbb (id ho) ?_;intro oo eso epo hoo hco hdo' hko hpo hno;have hT:s.TypeIs (.ref o) "dict":=⟨oo,hoo,hco.1⟩
  have hlen:more.length=eso.size:=by rw[<- hpo.length];simp
  unfold mergeMapping;refine wpAny_bind (wpAny_isInstance (T := "dict") (b:=true) hT (by rw[isSubtype_type];kernel_rfl) ?_);rw[if_pos rfl];refine wpAny_bind (wpAny_specialOf (name:=Str.ofString "__iter__") hT PySem.F.slot_dict_iter.lookup (wpAny_bind (wpAny_pure ?_)));simp only[beq_self_eq_true];rw[if_neg (by rw[hoS];exact Bool.false_ne_true)];refine wpAny_bind (wpAny_dictEntries hod hdd ?_);have main:wpAny (model prog w) A (do
      let size:=(<- dictEntries o).size
      let epoch <- dictEpoch o
      forIn (List.range size) PUnit.unit fun i _=>(do
        let some e:=(<- dictEntries o)[i]? | unsupported "dict.changed-during-merge";pure (ForInStep.yield ⟨⟩)
        holding [e.key,e.val] (dictPut d e.hash e.key e.val)
        if (<- dictEpoch o) != epoch then unsupported "dict.changed-during-merge";pure (ForInStep.yield ⟨⟩) else pure (ForInStep.yield ⟨⟩):Sem (ForInStep PUnit))
      pure ()) Q E s:=by
    refine wpAny_bind (wpAny_dictEntries hoo hdo' ?_);refine wpAny_bind (wpAny_dictEpoch hoo hdo' ?_);refine wpAny_bind ?_;rw[List.range_eq_range'];exact qh1 hdo hdo' hko hpo hlen hsz _ (fun _ _=>rfl) eso.size 0 s (by simp +arith) (by simpa [merged] using hd) hoo fun h' h1 h2=>wpAny_pure (hQ h' h1 h2)
  split
  . refine wpAny_bind (wpAny_dictEntries hoo hdo' ?_);rw[<- Array.forIn_toList];rw[forIn_yield_id PUnit.unit (fun e he c=>by
      refine qa4 (hko e (by simpa using he)) ?_;intro k hk _;refine Exists.elim (Value.isStrOf_shape hk) ?_;intro t ht;simp only[ht])]
    exact wpAny_bind (wpAny_pure main)
  . exact main
end
end
section
section
theorem qqi {v1 v2:Sem Value}(h:wpAny (model prog w) A v1 (fun m1 s1=>wpAny (model prog w) A (mergeMapping s.heap.objs.size m1 false) (fun _ s2=>wpAny (model prog w) A v2 (fun m2 s3=>
      wpAny (model prog w) A (mergeMapping s.heap.objs.size m2 false) (fun _ s4=>Q (.ref s.heap.objs.size) s4) (fun _ _=>False) s3) E s2) (fun _ _=>False) s1) E { s with heap:=s.heap.push { cls:=.type "dict",data:=.dict #[] } }):
    wpAny (model prog w) A (dictDisplay [(none,v1),(none,v2)]) Q E s:=by
  unfold dictDisplay;refine wpAny_bind ?_;rw[List.forIn_cons];refine wpAny_bind ?_;refine wpAny_bind (wpAny_pure ?_);refine wpAny_bind (wpAny_alloc ?_);refine wpAny_bind (wpAny_holding (wpAny_mono h (fun m1 s1 h1=>?_) fun _ _ x=>x));refine wpAny_bind (wpAny_onRaise (wpAny_tryCatch (wpAny_onRaise (wpAny_holding (wpAny_mono h1 (fun _ s2 h2=>?_) fun _ _ x=>x.elim)))));refine wpAny_pure ?_;dsimp only;rw[List.forIn_cons];refine wpAny_bind ?_;refine wpAny_bind (wpAny_pure ?_);refine wpAny_bind (wpAny_pure ?_);refine wpAny_bind (wpAny_holding (wpAny_mono h2 (fun m2 s3 h3=>?_) fun _ _ x=>x));refine wpAny_bind (wpAny_onRaise (wpAny_tryCatch (wpAny_onRaise (wpAny_holding (wpAny_mono h3 (fun _ s4 h4=>?_) fun _ _ x=>x.elim)))));refine wpAny_pure ?_;dsimp only;rw[List.forIn_nil];refine wpAny_pure ?_;refine wpAny_bind (wpAny_pure (wpAny_pure h4))
end
def Dsrc (W:Wd) (σ:List AObj) (v:AV) (ks:List Str) (vs:List AV):Prop:=
  (∃n:Nat,v=.loc n/\σ[n]?=some (.dstr ks vs))\/(∃a,v=.glob (.ref a)/\ks=[]/\vs=[]/\W.s1.heap.DictOf (PySem.strKind W.prog W.w) a []/\¬W.tab a/\(a==sysModules)=false)
theorem Dsrc.at {ks:List Str}{u:Value}(D:Dsrc W σ v ks vs)(R:Rep W fr g σ s)(r:RV W g s.heap v u):
    ∃a us,u=.ref a/\s.heap.DictOf (PySem.strKind W.prog W.w) a (ks.zip us)/\ks.length=us.length/\RVs W g s.heap vs us/\(a==sysModules)=false/\(g a=.other->∃o,W.s1.heap.get? a=some o):=by
  rcases D with ⟨n,rfl,hn⟩ | ⟨a,rfl,rfl,rfl,hd,ht,hs⟩
  . refine qa4 (r) ?_;intro a eq_0_1 hg;subst eq_0_1;refine qd5 (R.locs n _ hn) ?_;intro a' hg' us h1 h2 h3;have:a'=a:=R.uniq _ _ _ hg' hg;subst this;exact ⟨a',us,rfl,h1,h2,h3,qdu R hg,fun q=>by rw[hg] at q;cases q⟩
  . obtain rfl:u=.ref a:=r;rw[Heap.dictOf_iff] at hd;refine qa4 (hd) ?_;intro o ho q;exact ⟨a,[],rfl,Heap.dictOf_iff.mpr ⟨o,R.base a o ho ht,q⟩,rfl,rfl,hs,fun _=>⟨o,ho⟩⟩
noncomputable def qah:List Str->List AV->List Str->List AV->List Str×List AV
  | ks,vs,k::ks',v::vs'=>qah (qf1 ks vs k v).1 (qf1 ks vs k v).2 ks' vs'
  | ks,vs,_,_=>(ks,vs)
theorem qev:∀{ks':List Str} {vs':List AV} {us':List Value} {ks:List Str} {vs:List AV} {us:List Value},ks.length=us.length->RVs W g h vs us->ks'.length=us'.length->RVs W g h vs' us' ->
    ∃ws,merged (ks.zip us) (ks'.zip us')=(qah ks vs ks' vs').1.zip ws/\(qah ks vs ks' vs').1.length=ws.length/\RVs W g h (qah ks vs ks' vs').2 ws
  | [],vs',us',ks,vs,us,h1,h2,h3,h4=>by
    have e:qah ks vs [] vs'=(ks,vs):=by cases vs' <;> rfl
    rw[e];exact ⟨us,rfl,h1,h2⟩
  | k::ks',[],us',ks,vs,us,h1,h2,h3,h4=>by obtain rfl:us'=[]:=h4;cases h3
  | k::ks',v::vs',us',ks,vs,us,h1,h2,h3,h4=>by
    refine qa3 (h4) ?_;intro u r eq_3_2 h5 h6;subst eq_3_2;refine qal (qeq (x:=k) h1 h2 h5) ?_;intro ws e1 e2 e3;refine qal (qev (ks':=ks') e2 e3 (by simpa using h3) h6) ?_;intro ws' f1 f2 f3;refine ⟨ws',?_,f2,f3⟩;show merged (stored (ks.zip us) k u) (ks'.zip r)=_;rw[e1];exact f1
theorem qdk:∀{ks':List Str} {vs':List AV} {ks:List Str} {vs:List AV},plains vs=true->plains vs'=true->plains (qah ks vs ks' vs').2=true
  | [],vs',ks,vs,h1,h2=>by
    have e:qah ks vs [] vs'=(ks,vs):=by cases vs' <;> rfl
    rw[e];exact h1
  | k::ks',[],ks,vs,h1,h2=>h1
  | k::ks',v::vs',ks,vs,h1,h2=>by
    have h':(plain v&&plains vs')=true:=h2;rw[Bool.and_eq_true] at h';show plains (qah (qf1 ks vs k v).1 (qf1 ks vs k v).2 ks' vs').2=true;exact qdk (qet h'.1 h1) h'.2
section
theorem Ie7 {y:Str}{a b:AV}{ks ks':List Str}{vs':List AV}(hx:C.nm[i]?=some (x,.local))(hy:C.nm[j]?=some (y,.local))(ha:m[i]?=some (some a))(hb:m[j]?=some (some b))(da:Dsrc C.W σ a ks vs)(db:Dsrc C.W σ b ks' vs')(hp:plains vs=true)(hp':plains vs'=true)(hz:ks.length+ks'.length<=sizeLine)(hd:autoParam ((x==("__debug__":Str))=false) ap1._auto_1)(hd':autoParam ((y==("__debug__":Str))=false) ap1._auto_1):
    Ev C k fr m σ (.Dict [none,none] [.Name x px,.Name y py] p) (.loc σ.length) (σ++[.dstr (qah (qah [] [] ks vs).1 (qah [] [] ks vs).2 ks' vs').1 (qah (qah [] [] ks vs).1 (qah [] [] ks vs).2 ks' vs').2]):=fun A env g s rm R F Q E hQ=>by
  rw[arm_eval_Dict];refine wpAny_bind (wpAny_standAt ?_);show wpAny _ A (dictDisplay [(none,do let v <- eval (.Name x px) env;standAt p;pure v),(none,do let v <- eval (.Name y py) env;standAt p;pure v)]) Q E s;refine qqi ?_;have htop:=R.top;have hn0:s.heap.get? s.heap.objs.size=none:=qak _;refine And.elim ?_ (R.push { cls:=.type "dict",data:=.dict #[] } .other rfl (.inr rfl));intro R1 e1a;have hgo:qc9 g s.heap.objs.size .other=g:=by
    funext c
    by_cases hc:c=s.heap.objs.size
    . subst hc;rw[qa5,htop]
    . exact qa9 hc
  rw[hgo] at R1 e1a;have hn1:=R.new1 hn0;have hD:(s.heap.push { cls:=.type "dict",data:=.dict #[] }).DictOf (PySem.strKind C.W.prog C.W.w) s.heap.objs.size []:=⟨_,#[],0,Heap.get?_push_size _ rfl,⟨rfl,rfl,rfl⟩,rfl,fun e he=>absurd he (by simp),.nil,by simp⟩
  have F1:=F.up e1a;have hDobj:(s.heap.push { cls:=.type "dict",data:=.dict #[] }).get? s.heap.objs.size=some { cls:=.type "dict",data:=.dict #[] }:=Heap.get?_push_size _ rfl;have hX:XOk (·=s.heap.objs.size) g (s.heap.push { cls:=.type "dict",data:=.dict #[] }):=fun c hc=>by
    subst hc;exact ⟨.inl htop,fun o ws ho hd=>by rw[hDobj] at ho;obtain rfl:=Sj ho;cases hd⟩
  have hfrD:∀en∈fr,∀f,en.frame=some f->f≠s.heap.objs.size:=fun en hen f hf q=>by
    refine qdt (R.frs en hen) ?_;intro f' o es ep h3 h4 _;rw[hf] at h3;obtain rfl:=Sj h3;rw[q,hn0] at h4;cases h4
  have hLD:¬env.locals=s.heap.objs.size:=fun q=>by
    refine qa4 (F.ns) ?_;intro mh ne_8_1 _;refine qbu ne_8_1 ?_;intro oL es ep hL _;rw[q,hn0] at hL;cases hL
  refine wpAny_bind (qfj hx ha F1 (fun v1 rv1=>?_) hd);refine wpAny_bind (wpAny_standAt (wpAny_pure ?_));refine qdj (da.at R1 rv1) ?_;intro a1 us1 eq_9_2 d1 l1 r1 q1 q1';subst eq_9_2;have hne1:s.heap.objs.size≠a1:=fun q=>by
    refine Exists.elim (q1' (q ▸ htop)) ?_;intro o ho;rw[<- q,hn1] at ho;cases ho
  refine qis hne1 q1 hD d1 (fun h' hm hs=>?_) (by rw[List.length_nil,List.length_zip];lia);refine And.elim ?_ (R1.turn3 (g':=g) (h':=h') s.toks (·=s.heap.objs.size) (fun c hc=>by subst hc;exact ⟨htop,hn1⟩) hX (fun en hen f hf q=>hfrD en hen f hf q) (fun _ _=>rfl) (fun c hc=>by subst hc;exact .inl htop) (fun c o ho hc=>(hs.2 c hc).trans ho));intro R2 e2a;have F2:Fra C env m g h':=F1.turn3 hX (fun c hc=>by subst hc;exact htop) hLD (fun c v hc q=>by subst hc;rw[hDobj] at q;injection q with q;injection q with q1 q2 q3;cases q3) e2a;refine qal (qev (ks:=[]) (vs:=[]) (us:=[]) rfl (rfl:RVs C.W g h' [] []) l1 (r1.mono e2a hX vs (.inl fun c hc=>by subst hc;exact htop) _)) ?_;intro ws1 w1 w2 w3;refine wpAny_bind (qfj hy hb F2 (fun v2 rv2=>?_) hd');refine wpAny_bind (wpAny_standAt (wpAny_pure ?_));refine qdj (db.at R2 rv2) ?_;intro a2 us2 eq_13_2 d2 l2 r2 q2 q2';subst eq_13_2;have hne2:s.heap.objs.size≠a2:=fun q=>by
    refine Exists.elim (q2' (q ▸ htop)) ?_;intro o ho;rw[<- q,hn1] at ho;cases ho
  have hm':h'.DictOf (PySem.strKind C.W.prog C.W.w) s.heap.objs.size ((qah [] [] ks vs).1.zip ws1):=by rw[<- w1];exact hm
  have hlm:(qah [] [] ks vs).1.length<=ks.length:=by
    have e1:=merged_length_le ([]:List (Str×Value)) (ks.zip us1);rw[show merged [] (ks.zip us1)=_ from w1,List.length_zip,List.length_zip] at e1;simp only[List.length_nil] at e1
    simp_all
  refine qis hne2 q2 hm' d2 (fun h'' hm2 hs2=>?_) (by rw[List.length_zip,List.length_zip];grind);refine qal (qev w2 w3 l2 r2) ?_;intro ws2 x1 x2 x3;rw[x1] at hm2;refine qa4 (Heap.dictOf_iff.mp hm') ?_;intro oD hoD _;have hX2:XOk (·=s.heap.objs.size) g h':=fun c hc=>by
    subst hc;refine ⟨.inl htop,fun o ws ho hd=>?_⟩;refine qa2 (hm') ?_;intro o' es ep ho' _ hd' _;rw[ho'] at ho;obtain rfl:=Sj ho;rw[hd'] at hd;cases hd
  have hk2:∀b o,h'.get? b=some o->b≠s.heap.objs.size->h''.get? b=some o:=fun b o ho hb=>(hs2.2 b hb).trans ho
  have e3a:=Evo.adopt R2 (h':=h'') htop hn1 hk2;refine qa4 (Heap.dictOf_iff.mp hm2) ?_;intro oD' hoD' _;have hpl:plains (qah (qah [] [] ks vs).1 (qah [] [] ks vs).2 ks' vs').2=true:=qdk (qdk rfl hp) hp';refine And.elim ?_ (R2.adopt (h':=h'') s.toks htop hn1 hX2 hfrD hk2 ⟨oD',hoD'⟩ (ao:=.dstr (qah (qah [] [] ks vs).1 (qah [] [] ks vs).2 ks' vs').1 (qah (qah [] [] ks vs).1 (qah [] [] ks vs).2 ks' vs').2) hpl ⟨ws2,hm2,x2,x3.mono e3a hX2 _ (.inl fun c hc=>by subst hc;exact htop) _⟩);intro R4 e4;refine hQ _ _ _ R4 ?_ ⟨_,rfl,qa5⟩;exact (((e1a.toX (X:=(·=s.heap.objs.size))).trans e2a).trans e4).toY.weak R.low (fun b o ho q=>by subst q;rw[hn0] at ho;cases ho) fun _ q=>q
end
end
section
section
theorem qm9 {kvs:List (Str×Value)}{v:Value}{Q:Unit->Shared->Prop}(hm:s.heap.DictOf (PySem.strKind prog w) a kvs)(hx:x∉kvs.map (·.1))(hQ:∀h',h'.DictOf (PySem.strKind prog w) a (kvs++[(x,v)])->Heap.SameBut a s.heap h'->Q () { s with heap:=h',toks:=s.toks+1 }):wpAny (model prog w) A (nsSet a x v) Q E s:=fun Γ p hΓ=>by
  refine qbb (hm) ?_;intro ne_0_0 es ep ho ne_0_4 hd hk hp hn;obtain ⟨c,dd,dt,sl⟩:=ne_0_0;obtain ⟨hc1,hc2,hc3⟩:=ne_0_4;have hd':dt=.dict es ep:=hd;obtain rfl:c=.type "dict":=hc1;obtain rfl:dd=none:=hc2;obtain rfl:sl=#[]:=hc3;subst hd';have hstr:∀e∈es,∃n t,e.key=.str n t:=fun e he=>by
    refine qa4 (hk e he) ?_;intro k hk1 _;obtain ⟨t,ht⟩:=Value.isStrOf_shape hk1;exact ⟨k,t,ht⟩
  have hany:es.any (·.refKey)=false:=by
    rw[Array.any_eq_false'];intro e he;refine qgr (hstr e he) ?_;intro n t h;simp[DictEntry.refKey,h]
  have hnone:es.findIdx? (·.key.isStr x)=none:=by
    rw[Array.findIdx?_eq_none_iff];intro e he;refine qa4 (hk e he) ?_;intro k hk1 _;obtain ⟨t,ht⟩:=Value.isStrOf_shape hk1;have hmem:k∈kvs.map (·.1):=by
      obtain ⟨i,hi,rfl⟩:=Array.mem_iff_getElem.mp he;have hlen:es.size=kvs.length:=by rw[<- hp.length];simp
      obtain ⟨kv,hkv⟩:∃kv,kvs[i]?=some kv:=⟨kvs[i]'(by lia),List.getElem?_eq_getElem _⟩
      obtain ⟨h1,_⟩:=hp.get? (e:=es[i]) (by simp[hi]) (k:=kv.1) (v:=kv.2) hkv;have:k=kv.1:=(PySem.strKind prog w).inj _ _ _ hk1 h1;subst this;exact List.mem_map.mpr ⟨kv,List.mem_iff_getElem?.mpr ⟨i,hkv⟩,rfl⟩
    rw[ht];show (k==x)=false;exact beq_eq_false_iff_ne.mpr fun q=>hx (q ▸ hmem)
  simp only[nsSet,strHash,Sem.wp_bind',Sem.wp_cmd_ask,Sem.wp_pure',Sem.wp_cmd_mkText];rw[Sem.wp_loadPart_of (model prog w) Γ _ p { s with toks:=s.toks+1 } _ ho];simp only[aRefKeyMayBeTheName_eq,aRefKeyMayBeTheNameByArray,hany,Bool.and_false,Bool.false_eq_true,if_false,Sem.wp_cmd_updatePart];refine ⟨by rw[ho];rfl,hQ _ ?_ (Heap.SameBut.update ..)⟩;refine ⟨_,_,ep+1,Heap.get?_update_self _ ho (by simp only[Obj.putName_eq,Obj.putNameByArray,hnone];rfl),by simp only[Obj.putName_eq,Obj.putNameByArray,hnone];exact ⟨rfl,rfl,rfl⟩,by simp only[Obj.putName_eq,Obj.putNameByArray,hnone];rfl,?_,?_,?_⟩
  . exact hk.push (k:=x) (key:=.str x s.toks) (by show (x==x)=true;simp) _
  . have:=hp.append (knd:=PySem.strKind prog w) (k:=x) (key:=.str x s.toks) (by show (x==x)=true;simp) (hashStr w x) v;rw[Array.toList_push];exact this
  . rw[List.map_append,List.nodup_append];refine ⟨hn,by simp,?_⟩;intro a' ha b hb;simp only[List.map_cons,List.map_nil,List.mem_singleton] at hb;subst hb;exact fun e=>hx (e ▸ ha)
theorem qqp {d:Addr}(f:Str×Value->PUnit->Sem (ForInStep PUnit))(hf:∀kv u,f kv u=(do nsSet d kv.1 kv.2;pure (.yield PUnit.unit))):∀(l:List (Str×Value)) {kvs:List (Str×Value)} {s:Shared} {Q:PUnit->Shared->Prop},s.heap.DictOf (PySem.strKind prog w) d kvs->((kvs++l).map (·.1)).Nodup ->
    (∀h' tk,h'.DictOf (PySem.strKind prog w) d (kvs++l)->Heap.SameBut d s.heap h'->Q ⟨⟩ { s with heap:=h',toks:=tk })->wpAny (model prog w) A (forIn l PUnit.unit f) Q E s
  | [],kvs,s,Q,hm,hn,hQ=>by
    rw[List.forIn_nil];exact wpAny_pure (hQ s.heap s.toks (by rw[List.append_nil];exact hm) (Heap.SameBut.refl _ _))
  | (x,v)::l,kvs,s,Q,hm,hn,hQ=>by
    rw[List.forIn_cons,hf];have hx:x∉kvs.map (·.1):=fun q=>by
      rw[List.map_append,List.map_cons,List.nodup_append] at hn;exact hn.2.2 x q x List.mem_cons_self rfl
    refine wpAny_bind (wpAny_bind (qm9 hm hx fun h' hm' hs'=>wpAny_pure ?_));refine qqp f hf l hm' (by simpa using hn) fun h'' tk hm'' hs''=>hQ h'' tk (by simpa using hm'') (hs'.trans hs'')
end
def BindX (W:Wd) (fd:FuncData) (args:List AV) (kn:List Str) (kv:List AV) (xs:List Str) (vs:List AV):Prop:=
  ∀(A:Around) (fr:List Env) (g:Addr->Own) (σ:List AObj) (s:Shared) (us ks:List Value),Rep W fr g σ s->RVs W g s.heap args us->RVs W g s.heap kv ks->∀(Q:List (Str×Value)->Shared->Prop) (E:Value->Shared->Prop),
    (∀ws g' s',Rep W fr g' (σ++[.dstr kn kv]) s'->Evo W noX noY g s.heap g' s'.heap->RVs W g' s'.heap (vs++[.loc σ.length]) ws->Q (xs.zip ws) s')->wpAny (model W.prog W.w) A (bindArgs fd ⟨us,kn.zip ks⟩) Q E s
theorem BindX.of {fd:FuncData}{T:Addr}{items:Array Value}(hd:fd.defaults=.ref T)(ho:W.s1.heap.get? T=some o)(ht:¬W.tab T)(hs:o.data=.seq items n)(hnd:kn.Nodup)(hl:kn.length=kv.length)(hp:plains kv=true)(h:∀us ks:List Value,us.length=args.length->ks.length=kn.length->∃(k:Option (Array Value)->Sem (List (Str×Value))) (ws:List Value),bindArgs fd ⟨us,kn.zip ks⟩=seqItems? fd.defaults >>= k /\
      k (some items)=(do let d <- alloc { cls:=.type "dict",data:=.dict #[] };forIn (kn.zip ks) PUnit.unit (fun kv _=>do nsSet d kv.1 kv.2;pure (.yield PUnit.unit));pure (xs.zip (ws++[.ref d])))/\∀(g:Addr->Own) (h:Heap),RVs W g h args us->RVs W g h vs ws):
    BindX W fd args kn kv xs vs:=fun A fr g σ s us ks R ru rk Q E hQ=>by
  have hlk:ks.length=kn.length:=by rw[rk.length,hl]
  refine qa3 (h us ks ru.length hlk) ?_;intro k ws h1 h2 h3;rw[h1,hd];refine wpAny_bind (wpAny_seqItems (R.base T o ho ht) hs ?_);rw[h2];refine wpAny_bind (wpAny_alloc ?_);have htop:=R.top;have hn0:s.heap.get? s.heap.objs.size=none:=qak _;refine And.elim ?_ (R.push { cls:=.type "dict",data:=.dict #[] } .other rfl (.inr rfl));intro R1 e1a;have hgo:qc9 g s.heap.objs.size .other=g:=by
    funext c
    by_cases hc:c=s.heap.objs.size
    . subst hc;rw[qa5,htop]
    . exact qa9 hc
  rw[hgo] at R1 e1a;have hn1:=R.new1 hn0;have hDobj:(s.heap.push { cls:=.type "dict",data:=.dict #[] }).get? s.heap.objs.size=some { cls:=.type "dict",data:=.dict #[] }:=Heap.get?_push_size _ rfl;have hD:(s.heap.push { cls:=.type "dict",data:=.dict #[] }).DictOf (PySem.strKind W.prog W.w) s.heap.objs.size []:=⟨_,#[],0,hDobj,⟨rfl,rfl,rfl⟩,rfl,fun e he=>absurd he (by simp),.nil,by simp⟩
  have hX:XOk (·=s.heap.objs.size) g (s.heap.push { cls:=.type "dict",data:=.dict #[] }):=fun c hc=>by
    subst hc;exact ⟨.inl htop,fun o ws ho hd=>by rw[hDobj] at ho;obtain rfl:=Sj ho;cases hd⟩
  have hfrD:∀en∈fr,∀f,en.frame=some f->f≠s.heap.objs.size:=fun en hen f hf q=>by
    refine qdt (R.frs en hen) ?_;intro f' o es ep h3 h4 _;rw[hf] at h3;obtain rfl:=Sj h3;rw[q,hn0] at h4;cases h4
  refine wpAny_bind (qqp _ (fun _ _=>rfl) (kn.zip ks) hD ?_ fun h' tk hm hs'=>?_)
  . rw[List.nil_append,<- List.unzip_fst,List.unzip_zip_left (by simp_all)];exact hnd
  rw[List.nil_append] at hm;have hk2:∀b o,(s.heap.push { cls:=.type "dict",data:=.dict #[] }).get? b=some o->b≠s.heap.objs.size->h'.get? b=some o:=fun b o ho hb=>(hs'.2 b hb).trans ho
  have e3a:=Evo.adopt R1 (h':=h') htop hn1 hk2;refine qa4 (Heap.dictOf_iff.mp hm) ?_;intro oD' hoD' _;refine And.elim ?_ (R1.adopt (h':=h') tk htop hn1 hX hfrD hk2 ⟨oD',hoD'⟩ (ao:=.dstr kn kv) hp ⟨ks,hm,hlk.symm,(rk.up e1a).mono e3a hX _ (.inl fun c hc=>by subst hc;exact htop) _⟩);intro R4 e4;have e5:Evo W noX noY g s.heap (qc9 g s.heap.objs.size (.loc σ.length)) h':=((e1a.toX (X:=(·=s.heap.objs.size))).trans e4).weak R.low (fun b o ho q=>by subst q;rw[hn0] at ho;cases ho) fun _ q=>q
  exact wpAny_pure (hQ _ _ _ R4 e5 (((h3 _ _ ru).up e5).append ⟨_,[],rfl,⟨_,rfl,qa5⟩,rfl⟩))
section
end
end
section
noncomputable def qeo {α:Type} (lt:Nat->Nat->Bool):KasT α->α
  | .ret a=>a
  | .ask i j k=>qeo lt (k (lt i j))
theorem qcu {lt:Nat->Nat->Bool}{f:α->KasT β}:∀(t:KasT α),qeo lt (t.bind f)=qeo lt (f (qeo lt t))
  | .ret _=>rfl
  | .ask i j k=>qcu (k (lt i j))
structure SWO (lt:Nat->Nat->Bool):Prop where
  asymm:∀{a b},lt a b=true->lt b a=false
  tr:∀{a b c},lt a b=true->lt b c=true->lt a c=true
  ntr:∀{a b c},lt a b=false->lt b c=false->lt a c=false
section
variable {lt:Nat->Nat->Bool}
theorem SWO.lt_of_lt_of_le (S:SWO lt){a c:Nat}(h1:lt a b=true)(h2:lt c b=false):lt a c=true:=by
  cases h:lt a c with
  | true=>rfl
  | false=>rw[S.ntr h h2] at h1;cases h1
theorem SWO.lt_of_le_of_lt (S:SWO lt){a c:Nat}(h1:lt b a=false)(h2:lt b c=true):lt a c=true:=by
  cases h:lt a c with
  | true=>rfl
  | false=>rw[S.ntr h1 h] at h2;cases h2
theorem SWO.irr (S:SWO lt)(a:Nat):lt a a=false:=by
  cases h:lt a a with
  | false=>rfl
  | true=>exact (S.asymm h).symm.trans h |>.symm ▸ rfl
def Prec (lt:Nat->Nat->Bool) (a b:Nat):Prop:=lt a b=true\/(lt b a=false/\a<b)
theorem Prec.trans (S:SWO lt){a c:Nat}(h1:Prec lt a b)(h2:Prec lt b c):Prec lt a c:=by
  rcases h1 with h1 | ⟨h1,h1'⟩ <;> rcases h2 with h2 | ⟨h2,h2'⟩
  . exact .inl (S.tr h1 h2)
  . exact .inl (S.lt_of_lt_of_le h1 h2)
  . exact .inl (S.lt_of_le_of_lt h1 h2)
  . exact .inr ⟨S.ntr h2 h1,by lia⟩
noncomputable def At (p:Array Nat) (k:Nat):Nat:=p.getD k 0
theorem qgu (p:Array Nat)(k:Nat):At p k=p[k]?.getD 0:=by unfold At;rw[Array.getD_eq_getD_getElem?]
theorem qpj {p:Array Nat}(hj:j<=p.size)(k:Nat):At (kas_rev p i j) k=if i<=k/\k<j then At p (i+j - 1 - k) else At p k:=by
  rw[qgu,kas_rev,getElem?_mirror_all hj];split <;> rw[qgu]
structure Pre (p:Array Nat) (n N:Nat):Prop where
  size:p.size=N
  perm:p.Perm (List.range N).toArray
  fix:∀k,n<=k->k<N->At p k=k
  low:∀k,k<n->At p k<n
theorem Pre.more {p:Array Nat}(P:Pre p n N)(h:n<=n')(h':n'<=N):Pre p n' N:=
  ⟨P.size,P.perm,fun k h1 h2=>P.fix k (by lia) h2,fun k hk=>by
    by_cases q:k<n
    . have:=P.low k q;lia
    . rw[P.fix k (by simp_all) (by lia)];exact hk⟩
theorem qem {p:Array Nat}{k':Nat}(hj:j<=p.size)(h1:i<=k)(h2:k<j)(h:k+k'+1=i+j):At (kas_rev p i j) k=At p k':=by
  rw[qpj hj,if_pos ⟨h1,h2⟩,<- h];exact congrArg (At p) (Nat.add_sub_cancel_left (n:=k) (m:=k'))
theorem qf0 {p:Array Nat}(hj:j<=p.size)(h:¬(i<=k/\k<j)):At (kas_rev p i j) k=At p k:=by
  rw[qpj hj,if_neg h]
theorem Pre.rev {p:Array Nat}(P:Pre p n N)(hj:j<=n)(hn:n<=N):Pre (kas_rev p i j) n N:=by
  have hs:j<=p.size:=P.size ▸ Nat.le_trans hj hn;refine ⟨(kas_rev_size i j).trans P.size,(mirror_perm _ _ _ _).trans P.perm,fun k h1 h2=>(qf0 hs fun h=>absurd (Nat.lt_of_lt_of_le h.2 hj) (Nat.not_lt.mpr h1)).trans (P.fix k h1 h2),fun k hk=>?_⟩;by_cases h:i<=k/\k<j
  . rw[qpj hs,if_pos h];exact P.low _ (Nat.lt_of_lt_of_le (show i+j - 1 - k<j by have:=h.1;omega) hj)
  . rw[qf0 hs h];exact P.low k hk
def Asc (lt:Nat->Nat->Bool) (p:Array Nat) (n:Nat):Prop:=∀i j,i<j->j<n->Prec lt (At p i) (At p j)
def Dsc (lt:Nat->Nat->Bool) (p:Array Nat) (n:Nat):Prop:=∀i j,i<j->j<n->Prec lt (At p j) (At p i)
theorem qqn {p:Array Nat}(hs:n<=p.size)(hij:i<j)(hj:j<n):∃i' j',j'<i'/\i'<n/\At (kas_rev p 0 n) i=At p i'/\At (kas_rev p 0 n) j=At p j':=by
  refine Exists.elim (Nat.exists_eq_add_of_lt hij) ?_;intro a eq_0_1;subst eq_0_1;refine Exists.elim (Nat.exists_eq_add_of_lt hj) ?_;intro b eq_1_1;subst eq_1_1;exact ⟨a+1+b,b,by simp,by lia,qem hs (Nat.zero_le _) (Nat.lt_trans hij hj) (by lia),qem hs (Nat.zero_le _) hj (by simp)⟩
theorem Dsc.rev {p:Array Nat}(P:Pre p n N)(hn:n<=N)(hd:Dsc lt p n):Asc lt (kas_rev p 0 n) n:=fun i j hij hj=>by
  refine qb0 (qqn (P.size ▸ hn) hij hj) ?_;intro i' j' h1 h2 e1 e2;rw[e1,e2];exact hd j' i' h1 h2
theorem Asc.rev {p:Array Nat}(P:Pre p n N)(hn:n<=N)(hd:Asc lt p n):Dsc lt (kas_rev p 0 n) n:=fun i j hij hj=>by
  refine qb0 (qqn (P.size ▸ hn) hij hj) ?_;intro i' j' h1 h2 e1 e2;rw[e1,e2];exact hd j' i' h1 h2
theorem Ieb (S:SWO lt){p:Array Nat}(P:Pre p n N)(h:Asc lt p n)(hn:n<N)(h1:1<=n)(hl:lt (At p n) (At p (n - 1))=false):Asc lt p (n+1):=by
  have hnn:At p n=n:=P.fix n (Nat.le_refl _) hn;match n,h1 with
  | m+1,_=>
    have last:Prec lt (At p m) (At p (m+1)):=.inr ⟨hl,by rw[hnn];exact P.low _ (Nat.lt_succ_self m)⟩;intro i j hij hj;rcases Nat.lt_or_ge j (m+1) with q | q
    . exact h i j hij q
    . obtain rfl:=Nat.le_antisymm (Nat.le_of_lt_succ hj) q;rcases Nat.lt_or_ge i m with q' | q'
      . exact (h i m q' (Nat.lt_succ_self m)).trans S last
      . obtain rfl:=Nat.le_antisymm (Nat.le_of_lt_succ hij) q';exact last
theorem qkv (S:SWO lt){p:Array Nat}:∀(f n:Nat),Pre p n N->n+f=N->1<=n->Asc lt p n->∃n',qeo lt (kas_asc p f n)=n'/\n<=n'/\n'<=N/\Asc lt p n'/\(n'=N\/lt (At p n') (At p (n' - 1))=true)
  | 0,n,P,hf,h1,h=>⟨n,rfl,Nat.le_refl _,Nat.le_of_eq hf,h,.inl hf⟩
  | f+1,n,P,hf,h1,h=>by
    have hn:n+1+f=N:=(Nat.succ_add_eq_add_succ n f).trans hf;have hN:n<N:=hn ▸ Nat.le_add_right (n+1) f;show ∃n',qeo lt (if lt (At p n) (At p (n - 1))=true then KasT.ret n else kas_asc p f (n+1))=n'/\_;cases hl:lt (At p n) (At p (n - 1)) with
    | true=>exact ⟨n,rfl,Nat.le_refl _,Nat.le_of_lt hN,h,.inr hl⟩
    | false=>
      refine qal (qkv S f (n+1) (P.more (Nat.le_succ n) hN) hn (Nat.le_add_left 1 n) (Ieb S P h hN h1 hl)) ?_;intro n' e1 e2 r;exact ⟨n',e1,Nat.le_of_lt e2,r⟩
structure DInv (lt:Nat->Nat->Bool) (p:Array Nat) (b q:Nat):Prop where
  big:∀i,i<b->lt (At p (b+q)) (At p i)=true
  dsc:Dsc lt p b
  eqv:∀i,b<=i->i<=b+q->lt (At p i) (At p (b+q))=false/\lt (At p (b+q)) (At p i)=false
  asc:∀i j,b<=i->i<j->j<=b+q->At p i<At p j
theorem DInv.turn (S:SWO lt){p:Array Nat}{q:Nat}(D:DInv lt p b q)(P:Pre p (b+(q+1)) N)(hn:b+(q+1)<=N):∃p',(if q > 0 then kas_rev p b (b+(q+1)) else p)=p'/\Pre p' (b+(q+1)) N/\Dsc lt p' (b+(q+1))/\(∀i,i<b+(q+1)->lt (At p' i) (At p (b+q))=false):=by
  have hs:b+(q+1)<=p.size:=P.size ▸ hn;have hb:∀i,i<b+(q+1)->lt (At p i) (At p (b+q))=false:=fun i hi=>(Nat.lt_or_ge i b).elim (fun h=>S.asymm (D.big i h)) fun h=>(D.eqv i h (Nat.le_of_lt_succ hi)).1
  by_cases hq:q > 0
  . rw[if_pos hq];have mir:∀k,b<=k->k<b+(q+1)->∃k',b<=k'/\k'<=b+q/\k+k'=b+(b+q)/\At (kas_rev p b (b+(q+1))) k=At p k':=fun k h1 h2=>by
      have h3:k<=b+q:=Nat.le_of_lt_succ h2;have h4:k+(b+(b+q) - k)=b+(b+q):=Nat.add_sub_cancel' (Nat.le_trans h3 (Nat.le_add_left _ _));generalize b+(b+q) - k=k' at h4;exact ⟨k',by lia,by lia,h4,qem hs h1 h2 (by rw[h4];rfl)⟩
    have low:∀k,k<b->At (kas_rev p b (b+(q+1))) k=At p k:=fun k h=>qf0 hs fun h'=>absurd h (Nat.not_lt.mpr h'.1)
    refine ⟨_,rfl,P.rev (Nat.le_refl _) hn,fun i j hij hj=>?_,fun i hi=>?_⟩
    . rcases Nat.lt_or_ge j b with q1 | q1
      . rw[low j q1,low i (Nat.lt_trans hij q1)];exact D.dsc i j hij q1
      . refine qba (mir j q1 hj) ?_;intro j' c1 c2 c3 c4;rw[c4];rcases Nat.lt_or_ge i b with q2 | q2
        . rw[low i q2];exact .inl (S.lt_of_le_of_lt (D.eqv j' c1 c2).2 (D.big i q2))
        . refine qba (mir i q2 (Nat.lt_trans hij hj)) ?_;intro i' a1 a2 a3 a4;rw[a4];exact .inr ⟨S.ntr (D.eqv i' a1 a2).1 (D.eqv j' c1 c2).2,D.asc j' i' c1 (by lia) a2⟩
    . rcases Nat.lt_or_ge i b with q1 | q1
      . rw[low i q1];exact hb i hi
      . refine qba (mir i q1 hi) ?_;intro i' a1 a2 a3 a4;rw[a4];exact hb i' (Nat.lt_succ_of_le a2)
  . rw[if_neg hq];refine ⟨p,rfl,P,fun i j hij hj=>?_,hb⟩;obtain rfl:q=0:=Nat.eq_zero_of_not_pos hq;rcases Nat.lt_or_ge j b with q1 | q1
    . exact D.dsc i j hij q1
    . obtain rfl:=Nat.le_antisymm (Nat.le_of_lt_succ hj) q1;exact .inl (D.big i hij)
theorem DInv.new (S:SWO lt){p:Array Nat}(hd:Dsc lt p n)(hb:∀i,i<n->lt (At p n) (At p i)=true):DInv lt p n 0:=
  ⟨hb,hd,fun i h1 h2=>Nat.le_antisymm h2 h1 ▸ ⟨S.irr _,S.irr _⟩,fun i j h1 h2 h3=>absurd (Nat.lt_of_lt_of_le h2 h3) (Nat.not_lt.mpr h1)⟩
theorem qi1 (S:SWO lt):∀(f b q:Nat) (p:Array Nat),Pre p (b+(q+1)) N->b+(q+1)+f=N->DInv lt p b q->∃p' b' q',qeo lt (kas_desc f p (b+(q+1)) q)=(p',b'+(q'+1),q')/\b'+(q'+1)<=N/\Pre p' (b'+(q'+1)) N/\DInv lt p' b' q'
  | 0,b,q,p,P,hf,D=>⟨p,b,q,rfl,Nat.le_of_eq hf,P,D⟩
  | f+1,b,q,p,P,hf,D=>by
    have hn:b+(q+1)+1+f=N:=(Nat.succ_add_eq_add_succ _ f).trans hf;have hN:b+(q+1)<N:=hn ▸ Nat.le_add_right _ f;have hnn:At p (b+(q+1))=b+(q+1):=P.fix _ (Nat.le_refl _) hN;show ∃p' b' q',qeo lt (if lt (At p (b+(q+1))) (At p (b+q))=true then (if q > 0 then kas_desc f (kas_rev p (b+(q+1) - (q+1)) (b+(q+1))) (b+(q+1)+1) 0 else kas_desc f p (b+(q+1)+1) 0)
      else .ask (At p (b+q)) (At p (b+(q+1))) fun d=>if d=true then .ret (p,b+(q+1),q) else kas_desc f p (b+(q+1)+1) (q+1))=(p',b'+(q'+1),q')/\_
    cases hl:lt (At p (b+(q+1))) (At p (b+q)) with
    | true=>
      refine qba (D.turn S P (Nat.le_of_lt hN)) ?_;intro p' hp' P' hd hb;have e:(if q > 0 then kas_desc f (kas_rev p (b+(q+1) - (q+1)) (b+(q+1))) (b+(q+1)+1) 0 else kas_desc f p (b+(q+1)+1) 0)=kas_desc f p' (b+(q+1)+1) 0:=by
        rw[<- hp',Nat.add_sub_cancel];split <;> rfl
      rw[if_pos rfl,e];have hn':At p' (b+(q+1))=b+(q+1):=P'.fix _ (Nat.le_refl _) hN;exact qi1 S f (b+(q+1)) 0 p' (P'.more (Nat.le_succ _) hN) hn (DInv.new S hd fun i hi=>by
        rw[hn',<- hnn];exact S.lt_of_lt_of_le hl (hb i hi))
    | false=>
      show ∃p' b' q',qeo lt (if lt (At p (b+q)) (At p (b+(q+1)))=true then KasT.ret (p,b+(q+1),q) else kas_desc f p (b+(q+1)+1) (q+1))=(p',b'+(q'+1),q')/\_;cases hd:lt (At p (b+q)) (At p (b+(q+1))) with
      | true=>exact ⟨p,b,q,rfl,Nat.le_of_lt hN,P,D⟩
      | false=>
        refine qi1 S f b (q+1) p (P.more (Nat.le_succ _) hN) hn ⟨fun i hi=>S.lt_of_le_of_lt hd (D.big i hi),D.dsc,fun i h1 h2=>?_,fun i j h1 h2 h3=>?_⟩
        . rcases Nat.lt_or_ge i (b+(q+1)) with q' | q'
          . have:=D.eqv i h1 (Nat.le_of_lt_succ q');exact ⟨S.ntr this.1 hd,S.ntr hl this.2⟩
          . obtain rfl:=Nat.le_antisymm h2 q';exact ⟨S.irr _,S.irr _⟩
        . rcases Nat.lt_or_ge j (b+(q+1)) with q' | q'
          . exact D.asc i j h1 h2 (Nat.le_of_lt_succ q')
          . obtain rfl:=Nat.le_antisymm h3 q';rw[hnn];exact P.low i h2
theorem qn6 (S:SWO lt){p:Array Nat}(P:Pre p n N)(h1:1<=n)(hn:n<=N)(hd:Dsc lt p n):∃m p',qeo lt (kas_tail3 n N p)=(m,p')/\1<=m/\m<=N/\Pre p' m N/\Asc lt p' m:=by
  have ha:Asc lt (kas_rev p 0 n) n:=Dsc.rev P hn hd;refine qeu (qkv S (N - n) n (P.rev (i:=0) (Nat.le_refl n) hn) (Nat.add_sub_cancel' hn) h1 ha) ?_;intro n' e1 e2 e3 e4 _;refine ⟨n',kas_rev p 0 n,?_,Nat.le_trans h1 e2,e3,(P.rev (i:=0) (Nat.le_refl n) hn).more e2 e3,e4⟩;unfold kas_tail3;rw[qcu,e1];rfl
theorem qf7 (S:SWO lt){p:Array Nat}(P:Pre p n N)(hn:n+1<=N)(D:DInv lt p n 0):∃m p',qeo lt (kas_descPart n N p)=(m,p')/\1<=m/\m<=N/\Pre p' m N/\Asc lt p' m:=by
  refine qa2 (qi1 S (N - (n+1)) n 0 p (P.more (Nat.le_succ n) hn) (Nat.add_sub_cancel' hn) D) ?_;intro p' b' q' h1 h3 h4 h5;refine qba (h5.turn S h4 h3) ?_;intro p'' hp'' P'' hd _;unfold kas_descPart;rw[qcu,h1];have e:(if q' > 0 then kas_tail3 (b'+(q'+1)) N (kas_rev p' (b'+(q'+1) - (q'+1)) (b'+(q'+1))) else kas_tail3 (b'+(q'+1)) N p')=kas_tail3 (b'+(q'+1)) N p'':=by
    rw[<- hp'',Nat.add_sub_cancel];split <;> rfl
  show ∃m p,qeo lt (if q' > 0 then kas_tail3 (b'+(q'+1)) N (kas_rev p' (b'+(q'+1) - (q'+1)) (b'+(q'+1))) else kas_tail3 (b'+(q'+1)) N p')=(m,p)/\_;rw[e];exact qn6 S P'' (Nat.le_trans (Nat.le_add_left 1 q') (Nat.le_add_left _ _)) h3 hd
theorem qp6 (S:SWO lt){p:Array Nat}(P:Pre p 1 N)(hN:1<=N):∃m p',qeo lt (kas_count N p)=(m,p')/\1<=m/\m<=N/\Pre p' m N/\Asc lt p' m:=by
  refine qeu (qkv S (N - 1) 1 P (Nat.add_sub_cancel' hN) (Nat.le_refl _) (fun i j h1 h2=>absurd (Nat.lt_of_lt_of_le h1 (Nat.le_of_lt_succ h2)) (Nat.not_lt_zero _))) ?_;intro n e1 e2 e3 e4 e5;have Pn:=P.more e2 e3;unfold kas_count;rw[qcu,e1];by_cases hn:n=N
  . rw[if_pos (by simpa using hn)];exact ⟨n,p,rfl,e2,e3,Pn,e4⟩
  . rw[if_neg (by simpa using hn)];have hl:=e5.resolve_left hn;have hN':n<N:=Nat.lt_of_le_of_ne e3 hn;have hnn:At p n=n:=Pn.fix n (Nat.le_refl _) hN';have hs:n<=p.size:=by rw[P.size];exact e3
    match n,e2 with
    | 1,_=>exact qf7 S Pn hN' (DInv.new S (fun i j h1 h2=>absurd (Nat.lt_of_lt_of_le h1 (Nat.le_of_lt_succ h2)) (Nat.not_lt_zero _)) fun i hi=>by
        obtain rfl:=Nat.eq_zero_of_le_zero (Nat.le_of_lt_succ hi);exact hl)
    | m+2,e2=>
      show ∃x p',qeo lt (if lt (At p 0) (At p (m+1))=true then KasT.ret (m+2,p) else kas_descPart (m+2) N (kas_rev p 0 (m+2)))=(x,p')/\_;cases h0:lt (At p 0) (At p (m+1)) with
      | true=>exact ⟨m+2,p,rfl,e2,e3,Pn,e4⟩
      | false=>
        have hge:∀i,i<m+2->lt (At p i) (At p (m+1))=false:=fun i hi=>by
          rcases Nat.eq_zero_or_pos i with q | q
          . rw[q];exact h0
          . exact S.ntr ((e4 0 i q hi).elim S.asymm (·.1)) h0
        have P':=Pn.rev (i:=0) (Nat.le_refl _) e3;have hn':At (kas_rev p 0 (m+2)) (m+2)=m+2:=P'.fix _ (Nat.le_refl _) hN';refine qf7 S P' hN' (DInv.new S (Asc.rev Pn e3 e4) fun i hi=>?_);rw[hn',qem hs (Nat.zero_le i) hi (k':=m+1 - i) (by grind)];rw[hnn] at hl;exact S.lt_of_lt_of_le hl (hge _ (Nat.lt_of_le_of_lt (Nat.sub_le _ _) (Nat.lt_succ_self _)))
theorem qfx (S:SWO lt){p:Array Nat}(ha:Asc lt p k):∀(f l r:Nat),l<=r->r<=k->r<=l+f->(∀i,i<l->lt (At p k) (At p i)=false)->(∀i,r<=i->i<k->lt (At p k) (At p i)=true) ->
    ∃l',qeo lt (kas_place p k f l r)=l'/\l'<=k/\(∀i,i<l'->lt (At p k) (At p i)=false)/\(∀i,l'<=i->i<k->lt (At p k) (At p i)=true)
  | 0,l,r,h1,h2,h3,h4,h5=>⟨l,rfl,Nat.le_trans h1 h2,h4,fun i h6 h7=>h5 i (Nat.le_trans h3 h6) h7⟩
  | f+1,l,r,h1,h2,h3,h4,h5=>by
    show ∃l',qeo lt (if l>=r then KasT.ret l else .ask (At p k) (At p ((l+r) / 2)) fun c=>if c=true then kas_place p k f l ((l+r) / 2) else kas_place p k f ((l+r) / 2+1) r)=l'/\_;by_cases hlr:l>=r
    . rw[if_pos hlr];exact ⟨l,rfl,Nat.le_trans h1 h2,h4,fun i h6 h7=>h5 i (Nat.le_trans hlr h6) h7⟩
    . rw[if_neg hlr];have m1:l<=(l+r) / 2:=by lia
      have m2:(l+r) / 2<r:=by lia
      generalize (l+r) / 2=m at m1 m2;have hmk:=Nat.lt_of_lt_of_le m2 h2;show ∃l',qeo lt (if lt (At p k) (At p m)=true then kas_place p k f l m else kas_place p k f (m+1) r)=l'/\_;cases hc:lt (At p k) (At p m) with
      | true=>
        refine qfx S ha f l m m1 (Nat.le_of_lt hmk) (Nat.le_of_lt_succ (Nat.lt_of_lt_of_le m2 h3)) h4 fun i h6 h7=>?_
        rcases Nat.eq_or_lt_of_le h6 with q | q
        . exact q ▸ hc
        . exact (ha m i q h7).elim (S.tr hc) fun z=>S.lt_of_lt_of_le hc z.1
      | false=>
        refine qfx S ha f (m+1) r m2 h2 (by lia) (fun i h6=>?_) h5;rcases Nat.eq_or_lt_of_le (Nat.le_of_lt_succ h6) with q | q
        . exact q ▸ hc
        . exact (ha i m q hmk).elim (fun z=>S.ntr hc (S.asymm z)) fun z=>S.ntr hc z.1
theorem qen {p:Array Nat}{l:Nat}(hk:k<p.size)(hl:l<=k)(i:Nat):At (bubble p k (k - l)) i=if i=l then At p k else if l<i/\i<=k then At p (i - 1) else At p i:=by
  rw[qgu,getElem?_bubble hk (k - l) (Nat.sub_le _ _),Nat.sub_sub_self hl];split
  . rw[qgu]
  . split <;> rw[qgu]
theorem qji {p:Array Nat}{l:Nat}(hk:k<p.size)(hl:l<=k)(h:i<l):At (bubble p k (k - l)) i=At p i:=by
  rw[qen hk hl,if_neg (Nat.ne_of_lt h),if_neg fun q=>absurd q.1 (Nat.lt_asymm h)]
theorem qub {p:Array Nat}{l:Nat}(hk:k<p.size)(hl:l<=k)(h:k<i):At (bubble p k (k - l)) i=At p i:=by
  rw[qen hk hl,if_neg (Nat.ne_of_gt (Nat.lt_of_le_of_lt hl h)),if_neg fun q=>absurd q.2 (Nat.not_le.mpr h)]
theorem qpb {p:Array Nat}{l:Nat}(hk:k<p.size)(hl:l<=k):At (bubble p k (k - l)) l=At p k:=by
  rw[qen hk hl,if_pos rfl]
theorem qpa {p:Array Nat}{l:Nat}(hk:k<p.size)(h:l<=i)(hi:i<k):At (bubble p k (k - l)) (i+1)=At p i:=by
  rw[qen hk (Nat.le_of_lt (Nat.lt_of_le_of_lt h hi)),if_neg (Nat.ne_of_gt (Nat.lt_succ_of_le h)),if_pos ⟨Nat.lt_succ_of_le h,hi⟩];rfl
theorem qpf (S:SWO lt):∀(f:Nat) (p:Array Nat) (k:Nat),Pre p k N->k+f=N->Asc lt p k->∃p',qeo lt (kas_bin f p k)=p'/\Pre p' N N/\Asc lt p' N
  | 0,p,k,P,hf,ha=>by obtain rfl:k=N:=hf;exact ⟨p,rfl,P,ha⟩
  | f+1,p,k,P,hf,ha=>by
    have hn:k+1+f=N:=(Nat.succ_add_eq_add_succ _ f).trans hf;have hN:k<N:=hn ▸ Nat.le_add_right _ f;have hkn:At p k=k:=P.fix k (Nat.le_refl _) hN;have hks:k<p.size:=P.size ▸ hN;refine qba (qfx S ha k 0 k (Nat.zero_le _) (Nat.le_refl _) (Nat.le_of_eq (Nat.zero_add k).symm) (fun i h=>absurd h (Nat.not_lt_zero _)) (fun i h1 h2=>absurd h2 (Nat.not_lt.mpr h1))) ?_;intro l e1 e2 e3 e4;show ∃p',qeo lt ((kas_place p k k 0 k).bind fun l=>kas_bin f (bubble p k (k - l)) (k+1))=p'/\_;rw[qcu,e1];refine qpf S f (bubble p k (k - l)) (k+1) ⟨(bubble_size ..).trans P.size,(bubble_perm _ _ _).trans P.perm,fun i h1 h2=>(qub hks e2 h1).trans (P.fix i (Nat.le_of_lt h1) h2),fun i hi=>?_⟩ hn fun i j hij hj=>?_
    . rcases Nat.lt_or_ge i l with q | q
      . rw[qji hks e2 q];exact Nat.lt_succ_of_lt (P.low i (Nat.lt_of_lt_of_le q e2))
      . rcases Nat.eq_or_lt_of_le q with q | q
        . rw[<- q,qpb hks e2,hkn];exact Nat.lt_succ_self k
        . match i,q with
          | i+1,q=>rw[qpa hks (Nat.le_of_lt_succ q) (Nat.lt_of_succ_lt_succ hi)];exact Nat.lt_succ_of_lt (P.low i (Nat.lt_of_succ_lt_succ hi))
    . have lo:∀i,i<l->Prec lt (At p i) (At p k):=fun i hi=>.inr ⟨e3 i hi,by rw[hkn];exact P.low i (Nat.lt_of_lt_of_le hi e2)⟩
      rcases Nat.lt_or_ge j l with q | q
      . rw[qji hks e2 q,qji hks e2 (Nat.lt_trans hij q)];exact ha i j hij (Nat.lt_of_lt_of_le q e2)
      . rcases Nat.eq_or_lt_of_le q with q | q
        . subst q;rw[qpb hks e2,qji hks e2 hij];exact lo i hij
        . match j,q,hj,hij with
          | j+1,q,hj,hij=>
            have q1:=Nat.le_of_lt_succ q;have hj:=Nat.lt_of_succ_lt_succ hj;rw[qpa hks q1 hj];rcases Nat.lt_or_ge i l with w | w
            . rw[qji hks e2 w];exact ha i j (Nat.lt_of_lt_of_le w q1) hj
            . rcases Nat.eq_or_lt_of_le w with w | w
              . rw[<- w,qpb hks e2];exact .inl (e4 j q1 hj)
              . match i,w,hij with
                | i+1,w,hij=>rw[qpa hks (Nat.le_of_lt_succ w) (Nat.lt_trans (Nat.lt_of_succ_lt_succ hij) hj)];exact ha i j (Nat.lt_of_succ_lt_succ hij) hj
theorem ql5 (S:SWO lt)(hN:1<=N):(qeo lt (kas_sort N)).size=N/\(qeo lt (kas_sort N)).toList.Perm (List.range N)/\(qeo lt (kas_sort N)).toList.Pairwise (Prec lt):=by
  have P0:Pre (List.toArray (List.range N)) 1 N:=by
    have hat:∀k,k<N->At (List.toArray (List.range N)) k=k:=fun k hk=>by rw[qgu];simp[hk]
    refine ⟨by simp,Array.Perm.refl _,fun k h1 h2=>hat k h2,fun k hk=>?_⟩;have:k=0:=by simp_all
    subst this;rw[hat 0 (by assumption)];assumption
  refine qat (qp6 S P0 hN) ?_;intro m p e1 e2 e3 P ha;obtain ⟨p',e,P',ha'⟩:∃p',qeo lt (kas_sort N)=p'/\Pre p' N N/\Asc lt p' N:=by
    unfold kas_sort;rw[qcu,e1];show ∃p',qeo lt (if m<N then kas_bin (N - max m 1) p (max m 1) else KasT.ret p)=p'/\_;by_cases h:m<N
    . rw[if_pos h,show max m 1=m by simp_all];exact qpf S (N - m) p m P (by simp_all) ha
    . rw[if_neg h];have:m=N:=by lia
      subst this;exact ⟨p,rfl,P,ha⟩
  rw[e];refine ⟨P'.size,?_,?_⟩
  . have:=Array.perm_iff_toList_perm.mp P'.perm;simpa using this
  . rw[List.pairwise_iff_getElem];intro i j hi hj hij;have hi':i<p'.size:=by simpa using hi
    have hj':j<p'.size:=by simpa using hj
    have h:=ha' i j hij (by rw[<- P'.size];exact hj');rw[qgu,qgu,Array.getElem?_eq_getElem hi',Array.getElem?_eq_getElem hj'] at h;simpa using h
end
end
section
noncomputable def InB (N:Nat) {α:Type}:KasT α->Prop
  | .ret _=>True
  | .ask i j k=>i<N/\j<N/\∀b,InB N (k b)
noncomputable def AllT {α:Type} (P:α->Prop):KasT α->Prop
  | .ret a=>P a
  | .ask _ _ k=>∀b,AllT P (k b)
theorem Ib3 {f:α->KasT β}{P:α->Prop}:∀{t:KasT α},InB N t->AllT P t->(∀a,P a->InB N (f a))->InB N (t.bind f)
  | .ret a,_,hp,h=>h a hp
  | .ask i j k,⟨h1,h2,h3⟩,hp,h=>⟨h1,h2,fun b=>Ib3 (h3 b) (hp b) h⟩
theorem AllT.bind {f:α->KasT β}{P:α->Prop}{Q:β->Prop}:∀{t:KasT α},AllT P t->(∀a,P a->AllT Q (f a))->AllT Q (t.bind f)
  | .ret a,hp,h=>h a hp
  | .ask i j k,hp,h=>fun b=>AllT.bind (hp b) h
theorem Ib5:∀{t:KasT α},AllT (fun _=>True) t
  | .ret _=>trivial
  | .ask _ _ k=>fun b=>Ib5
def Bd (p:Array Nat) (N:Nat):Prop:=∀k,At p k<N
theorem Bd.of_mem {p:Array Nat}(hN:0<N)(h:∀x∈p,x<N):Bd p N:=fun k=>by
  rw[qgu];cases e:p[k]? with
  | none=>exact hN
  | some x=>exact h x (Array.mem_of_getElem? e)
theorem Bd.mem {p:Array Nat}(h:Bd p N):∀x∈p,x<N:=fun x hx=>by
  obtain ⟨i,hi,rfl⟩:=Array.mem_iff_getElem.mp hx;have:=h i;rw[qgu,Array.getElem?_eq_getElem hi] at this;exact this
theorem Bd.perm {p q:Array Nat}(hN:0<N)(h:Bd p N)(hp:q.Perm p):Bd q N:=.of_mem hN fun x hx=>h.mem x (hp.mem_iff.mp hx)
section
theorem qke {p:Array Nat}(h:Bd p N):∀(f n:Nat),InB N (kas_asc p f n)
  | 0,n=>trivial
  | f+1,n=>⟨h n,h (n - 1),fun b=>by
    show InB N (if b=true then KasT.ret n else kas_asc p f (n+1));split
    . trivial
    . exact qke h f (n+1)⟩
theorem qlp (hN:0<N):∀(f:Nat) (p:Array Nat) (n q:Nat),Bd p N->InB N (kas_desc f p n q)/\AllT (fun r=>Bd r.1 N) (kas_desc f p n q)
  | 0,p,n,q,h=>⟨trivial,h⟩
  | f+1,p,n,q,h=>by
    have ih0:∀(p:Array Nat) (n q:Nat),Bd p N->InB N (kas_desc f p n q)/\AllT (fun r=>Bd r.1 N) (kas_desc f p n q):=fun p n q h=>qlp hN f p n q h
    have r1:=ih0 p (n+1) 0 h;have r2:=ih0 (kas_rev p (n - (q+1)) n) (n+1) 0 (h.perm hN (mirror_perm _ _ _ _));have r3:=ih0 p (n+1) (q+1) h;refine ⟨⟨h n,h (n - 1),fun b=>?_⟩,fun b=>?_⟩
    . show InB N (if b=true then (if q > 0 then kas_desc f (kas_rev p (n - (q+1)) n) (n+1) 0 else kas_desc f p (n+1) 0)
        else .ask (At p (n - 1)) (At p n) fun d=>if d=true then .ret (p,n,q) else kas_desc f p (n+1) (q+1))
      split
      . split
        . exact r2.1
        . exact r1.1
      . refine ⟨h (n - 1),h n,fun d=>?_⟩;show InB N (if d=true then KasT.ret (p,n,q) else kas_desc f p (n+1) (q+1));split
        . trivial
        . exact r3.1
    . show AllT (fun r:Array Nat×Nat×Nat=>Bd r.1 N) (if b=true then (if q > 0 then kas_desc f (kas_rev p (n - (q+1)) n) (n+1) 0 else kas_desc f p (n+1) 0)
        else .ask (At p (n - 1)) (At p n) fun d=>if d=true then .ret (p,n,q) else kas_desc f p (n+1) (q+1))
      split
      . split
        . exact r2.2
        . exact r1.2
      . intro d;show AllT (fun r:Array Nat×Nat×Nat=>Bd r.1 N) (if d=true then KasT.ret (p,n,q) else kas_desc f p (n+1) (q+1));split
        . exact h
        . exact r3.2
theorem qef (hN:0<N){nrem:Nat}{p:Array Nat}(h:Bd p N):InB N (kas_tail3 n nrem p)/\AllT (fun r=>Bd r.2 N) (kas_tail3 n nrem p):=by
  have h':Bd (kas_rev p 0 n) N:=h.perm hN (mirror_perm _ _ _ _);exact ⟨Ib3 (qke h' _ _) Ib5 fun a _=>trivial,AllT.bind Ib5 fun a _=>h'⟩
theorem qcg (hN:0<N){nrem:Nat}{p:Array Nat}(h:Bd p N):InB N (kas_descPart n nrem p)/\AllT (fun r=>Bd r.2 N) (kas_descPart n nrem p):=by
  refine And.elim ?_ (qlp hN (nrem - (n+1)) p (n+1) 0 h);intro h1 h2;refine ⟨Ib3 h1 h2 fun r hr=>?_,AllT.bind h2 fun r hr=>?_⟩
  . show InB N (if r.2.2 > 0 then kas_tail3 r.2.1 nrem (kas_rev r.1 (r.2.1 - (r.2.2+1)) r.2.1) else kas_tail3 r.2.1 nrem r.1);split
    . exact (qef hN (hr.perm hN (mirror_perm _ _ _ _))).1
    . exact (qef hN hr).1
  . show AllT (fun r:Nat×Array Nat=>Bd r.2 N) (if r.2.2 > 0 then kas_tail3 r.2.1 nrem (kas_rev r.1 (r.2.1 - (r.2.2+1)) r.2.1) else kas_tail3 r.2.1 nrem r.1);split
    . exact (qef hN (hr.perm hN (mirror_perm _ _ _ _))).2
    . exact (qef hN hr).2
theorem qon (hN:0<N){nrem:Nat}{p:Array Nat}(h:Bd p N):InB N (kas_count nrem p)/\AllT (fun r=>Bd r.2 N) (kas_count nrem p):=by
  have hr:∀n,Bd (kas_rev p 0 n) N:=fun n=>h.perm hN (mirror_perm _ _ _ _)
  refine ⟨Ib3 (qke h _ _) Ib5 fun n _=>?_,AllT.bind (Ib5 (t:=kas_asc p (nrem - 1) 1)) fun n _=>?_⟩
  . show InB N (if (n==nrem)=true then KasT.ret (n,p) else if n > 1 then .ask (At p 0) (At p (n - 1)) fun c=>if c=true then .ret (n,p) else kas_descPart n nrem (kas_rev p 0 n) else kas_descPart n nrem p);split
    . trivial
    . split
      . refine ⟨h 0,h (n - 1),fun c=>?_⟩;show InB N (if c=true then KasT.ret (n,p) else kas_descPart n nrem (kas_rev p 0 n));split
        . trivial
        . exact (qcg hN (hr n)).1
      . exact (qcg hN h).1
  . show AllT (fun r:Nat×Array Nat=>Bd r.2 N) (if (n==nrem)=true then KasT.ret (n,p) else if n > 1 then .ask (At p 0) (At p (n - 1)) fun c=>if c=true then .ret (n,p) else kas_descPart n nrem (kas_rev p 0 n) else kas_descPart n nrem p);split
    . exact h
    . split
      . intro c;show AllT (fun r:Nat×Array Nat=>Bd r.2 N) (if c=true then KasT.ret (n,p) else kas_descPart n nrem (kas_rev p 0 n));split
        . exact h
        . exact (qcg hN (hr n)).2
      . exact (qcg hN h).2
theorem qga {p:Array Nat}(h:Bd p N)(k:Nat):∀(f l r:Nat),InB N (kas_place p k f l r)
  | 0,l,r=>trivial
  | f+1,l,r=>by
    show InB N (if l>=r then KasT.ret l else .ask (At p k) (At p ((l+r) / 2)) fun c=>if c=true then kas_place p k f l ((l+r) / 2) else kas_place p k f ((l+r) / 2+1) r);split
    . trivial
    . refine ⟨h k,h _,fun c=>?_⟩;show InB N (if c=true then kas_place p k f l ((l+r) / 2) else kas_place p k f ((l+r) / 2+1) r);split
      . exact qga h k f _ _
      . exact qga h k f _ _
theorem qoo (hN:0<N):∀(f:Nat) (p:Array Nat) (k:Nat),Bd p N->InB N (kas_bin f p k)
  | 0,p,k,h=>trivial
  | f+1,p,k,h=>Ib3 (qga h k k 0 k) Ib5 fun l _=>qoo hN f _ _ (h.perm hN (bubble_perm _ _ _))
theorem qq7 (hN:0<N):InB N (kas_sort N):=by
  have h0:Bd (List.toArray (List.range N)) N:=.of_mem hN fun x hx=>by simpa using hx
  refine And.elim ?_ (qon (nrem:=N) hN h0);intro h1 h2;refine Ib3 h1 h2 fun r hr=>?_
  show InB N (if r.1<N then kas_bin (N - max r.1 1) r.2 (max r.1 1) else KasT.ret r.2);split
  . exact qoo hN _ _ _ hr
  . trivial
end
theorem qiw {cmp:Nat->Nat->(Bool->Shared->Prop)->Shared->Prop}{lt:Nat->Nat->Bool}{Q:α->Shared->Prop}(hc:∀i j C,i<N->j<N->C (lt i j) s->cmp i j C s):∀(t:KasT α),InB N t->Q (qeo lt t) s->t.kasWp cmp Q s
  | .ret a,_,h=>h
  | .ask i j k,⟨h1,h2,h3⟩,h=>hc i j _ h1 h2 (qiw hc (k (lt i j)) (h3 _) h)
def KeyOk (W:Wd) (keys:List AV) (lt:Nat->Nat->Bool):Prop:=
  ∀(g:Addr->Own) (h:Heap) (ks:List Value),RVs W g h keys ks->2<=keys.length->∃κ:SortKind,(∀(A:Around) (s:Shared) (Q:SortKind->Shared->Prop) (E:Value->Shared->Prop),s.heap=h->Q κ s->wpAny (model W.prog W.w) A (keyKind' ks.toArray) Q E s) /\
    ∀(A:Around) (s:Shared) (i j:Nat) (C:Bool->Shared->Prop),s.heap=h->i<keys.length->j<keys.length->C (lt i j) s->kas_ask W.prog W.w A κ ks i j C s
noncomputable abbrev qa1 (ps:List (Int×Int)):List AV:=ps.map fun p=>.tup [.int p.1,.int p.2]
theorem KeyOk.pairs {ps:List (Int×Int)}:KeyOk W (qa1 ps) (fun i j=>decide ((ps.getD i (0,0)).1<(ps.getD j (0,0)).1\/((ps.getD i (0,0)).1=(ps.getD j (0,0)).1/\(ps.getD i (0,0)).2<(ps.getD j (0,0)).2))):=fun g h ks r h2=>by
  have hlen:ks.length=ps.length:=by rw[r.length];simp
  have hat:∀i,i<ps.length->∃a vs n t u,ks.getD i Value.none=.ref a/\h.get? a=some (ql1 vs n)/\vs.toList=[.int (ps.getD i (0,0)).1 t,.int (ps.getD i (0,0)).2 u]:=fun i hi=>by
    refine qm8 (r.getA (i:=i) (a:=.tup [.int ps[i].1,.int ps[i].2]) (by simp[hi])) ?_;intro v hv a vs n eq_6_5 _ ho hr;subst eq_6_5;refine qa3 (hr) ?_;(try clear hr);intro v1 q1 e1 ne_7_3 hr;refine Exists.elim ne_7_3 ?_;intro t eq_0_1;subst eq_0_1;refine qa3 (hr) ?_;(try clear hr);intro v2 q2 eq_8_2 ne_8_3 hr;subst eq_8_2;refine Exists.elim ne_8_3 ?_;intro u eq_1_1;subst eq_1_1;obtain rfl:q2=[]:=hr;have e0:ps.getD i (0,0)=ps[i]:=by rw[List.getD_eq_getElem?_getD,List.getElem?_eq_getElem hi];rfl
    exact ⟨a,vs,n,t,u,by rw[List.getD_eq_getElem?_getD,hv];rfl,ho,by rw[e1,e0]⟩
  have tups:∀{ps:List (Int×Int)} {ks:List Value},RVs W g h (qa1 ps) ks->∃fs,KatTups h ks fs/\IntsAre fs (ps.map (·.1)):=by
    intro ps;induction ps with
    | nil=>intro ks r;obtain rfl:ks=[]:=r;exact ⟨[],KatTups.nil,.nil⟩
    | cons p ps ih=>
      intro ks r;refine qa3 (r) ?_;intro v q eq_9_2 ne_9_3 r2;subst eq_9_2;refine qa2 ne_9_3 ?_;intro a vs n eq_2_3 _ ho hr;subst eq_2_3;refine qa3 (hr) ?_;(try clear hr);intro v1 q1 e1 ne_10_3 hr;refine Exists.elim ne_10_3 ?_;intro t eq_3_1;subst eq_3_1;refine qa4 (ih r2) ?_;intro fs k1 k2;have hv:vs[0]?=some (.int p.1 t):=by rw[<- Array.getElem?_toList,e1];rfl
      exact ⟨_::fs,KatTups.cons ho rfl rfl hv k1,.cons _ _ k2⟩
  refine ⟨tuples' (Value.type "int" != Value.type "tuple"),fun A s Q E hs hq=>?_,fun A s i j C hs hi hj hq=>?_⟩
  . refine qa4 (tups r) ?_;intro fs k1 k2;have hfl:fs.length=ps.length:=by rw[k2.length];simp
    refine kat_kind (hs ▸ k1) (by rw[hfl];have:2<=(qa1 ps).length:=h2;simp at this;lia) (fun v hv=>?_) (by rfl) hq;refine qgr (k2.all v hv) ?_;intro n t eq_13_2;subst eq_13_2;exact Looks.of_pure rfl
  . have hi':i<ps.length:=by simpa using hi
    have hj':j<ps.length:=by simpa using hj
    refine qg2 (hat i hi') ?_;intro a vs n t u e1 e2 e3;refine qg2 (hat j hj') ?_;intro a' vs' n' t' u' f1 f2 f3;unfold kas_ask;rw[e1,f1];refine kat_lt (by rw[hs];exact e2) rfl (by rw[hs];exact f2) rfl ?_;dsimp only at hq;have hsz:vs.size=vs'.size:=by rw[<- Array.length_toList,<- Array.length_toList,e3,f3];rfl
    rw[e3,f3,hsz,show decide (vs'.size<vs'.size)=false by simp];show KatLex W.prog W.w A _ false C [(.int _ t,.int _ t'),(.int _ u,.int _ u')] 0 s;refine kat_cons (wpAny_eqBool_int (kat_go (fun h1=>kat_yes (kat_cons (wpAny_eqBool_int (kat_go (fun h2=>kat_yes (kat_nil ?_)) fun h2=>kat_no ?_)))) fun h1=>kat_no ?_))
    . have h1':=eq_of_beq h1;have h2':=eq_of_beq h2;have:decide ((ps.getD i (0,0)).1<(ps.getD j (0,0)).1\/((ps.getD i (0,0)).1=(ps.getD j (0,0)).1/\(ps.getD i (0,0)).2<(ps.getD j (0,0)).2))=false:=by
        rw[h1',h2'];simp
      rw[this] at hq;exact hq
    . have h1':=eq_of_beq h1;refine kat_one _ _ (PyProof.Rows.lt_int ?_);show C _ s;have:decide ((ps.getD i (0,0)).1<(ps.getD j (0,0)).1\/((ps.getD i (0,0)).1=(ps.getD j (0,0)).1/\(ps.getD i (0,0)).2<(ps.getD j (0,0)).2))=decide ((ps.getD i (0,0)).2<(ps.getD j (0,0)).2):=by
        rw[h1'];simp
      rw[this] at hq;exact hq
    . have h1':(ps.getD i (0,0)).1≠(ps.getD j (0,0)).1:=fun e=>by rw[e] at h1;simp at h1
      refine oneLt_int ?_;have:decide ((ps.getD i (0,0)).1<(ps.getD j (0,0)).1\/((ps.getD i (0,0)).1=(ps.getD j (0,0)).1/\(ps.getD i (0,0)).2<(ps.getD j (0,0)).2))=decide ((ps.getD i (0,0)).1<(ps.getD j (0,0)).1):=by
        exact decide_eq_decide.mpr ⟨fun q=>q.elim id fun q=>absurd q.1 h1',.inl⟩
      rw[this] at hq;exact hq
end
section
noncomputable def qgo (lt:Nat->Nat->Bool) (l:List AV):List AV:=if l.length<2 then l else (qeo lt (kas_sort l.length)).toList.map fun i=>l.getD i .none
theorem RVs.pickN {vs:List Value}(r:RVs W g h l vs):∀(is:List Nat),(∀i∈is,i<l.length)->RVs W g h (is.map fun i=>l.getD i .none) (is.map fun i=>vs.getD i Value.none)
  | [],_=>rfl
  | i::is,hi=>by
    have h1:i<l.length:=hi i (.head _);refine qa4 (r.getA (List.getElem?_eq_getElem h1)) ?_;intro v hv rv;refine ⟨_,_,rfl,?_,RVs.pickN r is fun j hj=>hi j (.tail _ hj)⟩;show RV W g h (l.getD i .none) (vs.getD i Value.none);rw[List.getD_eq_getElem?_getD,List.getElem?_eq_getElem h1,List.getD_eq_getElem?_getD,hv];exact rv
theorem Priv.list {vs:Array Value}(R:Rep W fr g σ s)(ha:s.heap.get? a=none)(ho:h'.get? a=some (qab vs n)):Priv W g h' a:=
  ⟨R.newO ha,R.new1 ha,_,ho,by nofun,by nofun,by nofun,by simp⟩
theorem Priv.list2 {vs:Array Value}(p:Priv W g h a)(ho:h'.get? a=some (qab vs n)):Priv W g h' a:=
  ⟨p.own,p.new,_,ho,by nofun,by nofun,by nofun,by simp⟩
section
theorem qln {f:AV}{vf:Value}{kS:Addr}{body:Value->PUnit->Sem (ForInStep PUnit)}(rm:Room k fr A)(hne:a≠kS)(hb:∀(u:Value) (s:Shared) (Q:Shared->Prop),wpAny (model W.prog W.w) A (call vf [u]) (fun v s'=>∃vs' n',s'.heap.get? kS=some (qab vs' n')/\vs'.size<64/\Q { s' with heap:=s'.heap.update kS (Obj.mapSeq (·.push v)) }) (fun _ _=>False) s ->
        wpAny (model W.prog W.w) A (body u ⟨⟩) (fun r s'=>r=.yield ⟨⟩/\Q s') E s):
    ∀(xs keys:List AV) (us:List Value) (acc:List AV) (g:Addr->Own) (s:Shared) (Q:PUnit->Shared->Prop),Rep W fr g σ s->RVs W g s.heap xs us->RV W g s.heap f vf->Acc W g s.heap kS acc->Priv W g s.heap a->∀oa,s.heap.get? a=some oa->keys.length=xs.length ->
      (∀(i:Nat) (x y:AV),xs[i]?=some x->keys[i]?=some y->Calls W noY k fr σ f [x] [] [] y σ)->plains keys=true->acc.length+xs.length<64 ->
      (∀g' s',Rep W fr g' σ s'->Evo W (·=kS) noY g s.heap g' s'.heap->Acc W g' s'.heap kS (acc++keys)->Priv W g' s'.heap a->s'.heap.get? a=some oa->Q ⟨⟩ s') ->
      wpAny (model W.prog W.w) A (forIn us PUnit.unit body) Q E s
  | [],keys,us,acc,g,s,Q,R,ru,rf,ac,pa,oa,ho,hl,hc,hp,hz,hQ=>by
    obtain rfl:us=[]:=ru;have:keys=[]:=List.length_eq_zero_iff.mp hl;subst this;rw[List.append_nil] at hQ;rw[List.forIn_nil];exact wpAny_pure (hQ g s R Evo.refl ac pa ho)
  | x::xs,[],us,acc,g,s,Q,R,ru,rf,ac,pa,oa,ho,hl,hc,hp,hz,hQ=>by simp at hl
  | x::xs,y::keys,us,acc,g,s,Q,R,ru,rf,ac,pa,oa,ho,hl,hc,hp,hz,hQ=>by
    refine qa3 (ru) ?_;intro u us' eq_1_2 ru1 ru2;subst eq_1_2;rw[List.forIn_cons];have hp':(plain y&&plains keys)=true:=hp;rw[Bool.and_eq_true] at hp';refine qcw (ac.obj) ?_;intro vs n hk hkr;have hvs:vs.size=acc.length:=by rw[<- Array.length_toList,hkr.length]
    simp only[List.length_cons] at hz hl;refine wpAny_bind (wpAny_mono (hb u s (fun s'=>wpAny (model W.prog W.w) A (forIn us' PUnit.unit body) Q E s') (hc 0 x y rfl rfl A g s vf [u] [] rm R rf ⟨u,[],rfl,ru1,rfl⟩ rfl _ _ fun v g1 s1a R1 e1a rv=>?_)) (fun r s' hr=>by obtain ⟨rfl,hr⟩:=hr;exact hr) fun _ _ e=>e);have ac1:=ac.up e1a;refine qcw (ac1.obj) ?_;intro vs1 n1 hk1 hkr1;have hvs1:vs1.size=acc.length:=by rw[<- Array.length_toList,hkr1.length]
    refine ⟨vs1,n1,hk1,by lia,?_⟩;obtain ⟨ho1,pa1⟩:=Iaq e1a pa ho;have s1:=Heap.SameBut.update s1a.heap kS (Obj.mapSeq (·.push v));have hX:∀b,b=kS->Priv W g1 s1a.heap b:=fun b q=>q ▸ ac1.priv
    obtain ⟨R2,e2a⟩:=R1.turn2 (g':=g1) (h':=s1a.heap.update kS (Obj.mapSeq (·.push v))) s1a.toks (·=kS) hX (fun _ _ _ _=>rfl) (fun b q=>.inl (q ▸ ac1.priv.own)) (fun b q=>.inl (R1.newO q)) (fun b o q hb=>(s1.2 b hb).trans q);have hnew:=get?_update_seq (c := "list") hk1 (·.push v);have ac2:Acc W g1 (s1a.heap.update kS (Obj.mapSeq (·.push v))) kS (acc++[y]):=⟨ac1.priv.list2 hnew,⟨_,_,hnew,by
      rw[Array.toList_push];exact (hkr1.mono e2a (Priv.xok hX) acc (.inr ac.pl) _).append ⟨v,[],rfl,rv.mono e2a (Priv.xok hX) y (.inr hp'.1) _,rfl⟩⟩,by rw[qao,ac.pl];show (true&&(plain y&&true))=true;rw[hp'.1];rfl⟩
    have ho2:(s1a.heap.update kS (Obj.mapSeq (·.push v))).get? a=some oa:=(s1.2 a hne).trans ho1;have pa2:Priv W g1 (s1a.heap.update kS (Obj.mapSeq (·.push v))) a:=by
      refine qa4 (pa1.obj) ?_;intro o' ho' q;rw[ho1] at ho';obtain rfl:=Sj ho';exact ⟨pa1.own,pa1.new,oa,ho2,q⟩
    have hXo:∀b,b=kS->g1 b=.other:=fun b q=>q ▸ ac1.priv.own
    refine qln rm hne hb xs keys us' (acc++[y]) g1 _ Q R2 ((ru2.up e1a).mono e2a (Priv.xok hX) xs (.inl hXo) _) ((rf.up e1a).mono e2a (Priv.xok hX) f (.inl hXo) _) ac2 pa2 oa ho2 (by simp_all)
      (fun i x' y' h1 h2=>hc (i+1) x' y' (by simpa using h1) (by simpa using h2)) hp'.2 (by rw[List.length_append,List.length_singleton];lia) fun g' s' R' e' ac' pa' ho'=>hQ g' s' R' ((e1a.toX.trans e2a).trans e') (by simpa using ac') pa' ho'
theorem qnb {kS:Addr}{st:SortSt}{e e1:Nat}{ks:Array Value}{out:List Value}{P:PySem.Fin->Shared->Prop}(hne:a≠kS)(hk:s.heap.get? kS=some (qab ks e))(ha:s.heap.get? a=some (qab #[] e1))(hout:(arrOf st).map (·.2)=List.toArray out)(hz:out.length<64)(hkz:ks.size<64)(hf:failedOf st=none)(h:P (.done (.ret .none)) { s with heap:=(s.heap.update kS (Obj.mapSeq fun _=>(#[]:Array Value))).update a (Obj.mapSeq fun _=>List.toArray out) }):wpAny (model prog w) A (ksk_tail a false e1 (.ref kS) st) P E s:=by
  have s1:=Heap.SameBut.update s.heap kS (Obj.mapSeq fun _=>(#[]:Array Value));have ha':(s.heap.update kS (Obj.mapSeq fun _=>(#[]:Array Value))).get? a=some (qab #[] e1):=(s1.2 a hne).trans ha;unfold ksk_tail;try dsimp only
  rw[hout];refine wpAny_bind (listUpdate_at hk rfl ?_ (by rw[sizeLine_eq];lia) (Nat.zero_le _));refine wpAny_bind (wpAny_letGo ?_);refine wpAny_bind (seqEpoch_at ha' rfl ?_);refine wpAny_bind (listUpdate_at ha' rfl ?_ (Nat.zero_le _) (Nat.le_trans (Nat.le_of_eq (by show (List.toArray out).size=out.length;exact List.size_toArray ..)) (by rw[sizeLine_eq];lia)));rw[hf];simp only[bne_self_eq_false,Bool.false_eq_true,if_false];exact wpAny_pure h
theorem qif {f:AV}{keys:List AV}{lt:Nat->Nat->Bool}{q:Addr}(rm:Room (k+2) fr A)(hL:Lv σ v l)(R:Rep W fr g σ s)(rl:RV W g s.heap v (.ref la))(rf:RV W g s.heap f (.ref q))(h64:l.length<64)(hl:keys.length=l.length)(hc:∀(i:Nat) (x y:AV),l[i]?=some x->keys[i]?=some y->Calls W noY k fr σ f [x] [] [] y σ)(hp:plains keys=true)(hpl:plains l=true)(hK:KeyOk W keys lt)(S:SWO lt)(hQ:∀v' g' s',Rep W fr g' σ s'->Evo W noX noY g s.heap g' s'.heap->RV W g' s'.heap (.lst (qgo lt l)) v'->Q v' s'):wpAny (model W.prog W.w) A (call (.builtin "sorted") [.ref la] [(Str.ofString "key",.ref q)]) Q E s:=by
  refine qa2 (hL.at R rl) ?_;intro la' vsA nl e0 hlo hlr _;cases e0
  obtain ⟨vs,rfl⟩:∃vs:List Value,vsA=vs.toArray:=⟨vsA.toList,by rfl⟩
  have hlr:RVs W g s.heap l vs:=by simpa using hlr
  have hvl:vs.length=l.length:=hlr.length;have rm2:Room k fr A.in1.in1:=rm.in1.in1;refine call_function_entry_kw kind_sorted plain_sorted entry_sorted (ksk_s1 _ _) ?_;unfold Builtin.«sorted»;refine wpAny_bind (m:=checkCount "sorted" 1 1 _) (wpAny_pure ?_);refine wpAny_bind (collect_list (qam hlo) ?_ (by rw[sizeLine_eq];lia));refine wpAny_bind (wpAny_newList ?_ (by rw[sizeLine_eq];lia));have hsz:((s.heap.push (seqObj "list" #[] 0)).update s.heap.objs.size (Obj.mapSeq (·++vs.toArray))).objs.size=s.heap.objs.size+1:=by
    rw[Heap.size_update,size_push']
  have hoL:(((s.heap.push (seqObj "list" #[] 0)).update s.heap.objs.size (Obj.mapSeq (·++vs.toArray))).push (seqObj "list" vs.toArray 0)).get? (s.heap.objs.size+1)=some (seqObj "list" vs.toArray 0):=by
    rw[<- hsz];exact Heap.get?_push_size _ rfl
  have keep:∀b o,s.heap.get? b=some o->(((s.heap.push (seqObj "list" #[] 0)).update s.heap.objs.size (Obj.mapSeq (·++vs.toArray))).push (seqObj "list" vs.toArray 0)).get? b=some o:=fun b o q=>by
    have hlt:b<s.heap.objs.size:=Heap.lt_size q;rw[Heap.get?_push_ne _ _ _ (by rw[hsz];exact Nat.ne_of_lt (Nat.lt_succ_of_lt hlt)),Heap.get?_update_ne _ _ _ _ (Nat.ne_of_lt hlt),Heap.get?_push_ne _ _ _ (Nat.ne_of_lt hlt)];exact q
  have hsz0:(((s.heap.push (seqObj "list" #[] 0)).update s.heap.objs.size (Obj.mapSeq (·++vs.toArray))).push (seqObj "list" vs.toArray 0)).objs.size=s.heap.objs.size+2:=by rw[size_push',hsz]
  show wpAny _ _ _ _ _ { s with heap:=((s.heap.push (seqObj "list" #[] 0)).update s.heap.objs.size (Obj.mapSeq (·++vs.toArray))).push (seqObj "list" vs.toArray 0) };rw[hsz];generalize ((s.heap.push (seqObj "list" #[] 0)).update s.heap.objs.size (Obj.mapSeq (·++vs.toArray))).push (seqObj "list" vs.toArray 0)=H0 at hoL keep hsz0 ⊢;refine wpAny_bind (wpAny_holding (wpAny_call_entry_kw slot_list_sort ⟨_,hoL,rfl⟩ entry_list_sort ?body (ksk_l1 _ _)));case body=>
    show wpAny (model W.prog W.w) A.in1.in1 (Builtin.«list.sort» ⟨[.ref (s.heap.objs.size+1)],[(Str.ofString "key",.ref q)]⟩) _ _ _;rw[ksk_t1];have hna:s.heap.get? (s.heap.objs.size+1)=none:=Heap.get?_none_of_le (Nat.le_succ _);have s1:=Heap.SameBut.update H0 (s.heap.objs.size+1) (Obj.mapSeq fun _=>(#[]:Array Value));obtain ⟨e1,ho1⟩:∃e1,(H0.update (s.heap.objs.size+1) (Obj.mapSeq fun _=>(#[]:Array Value))).get? (s.heap.objs.size+1)=some (seqObj "list" #[] e1):=⟨_,get?_update_seq hoL fun _=>#[]⟩
    have keep1:∀b o,s.heap.get? b=some o->(H0.update (s.heap.objs.size+1) (Obj.mapSeq fun _=>(#[]:Array Value))).get? b=some o:=fun b o hb=>(s1.2 b (fun q=>by rw[q,hna] at hb;cases hb)).trans (keep b o hb)
    have hsz1:(H0.update (s.heap.objs.size+1) (Obj.mapSeq fun _=>(#[]:Array Value))).objs.size=s.heap.objs.size+2:=by rw[Heap.size_update,hsz0]
    unfold ksk_tree;refine wpAny_bind (listItems_at hoL rfl ?_);refine wpAny_bind (listUpdate_at hoL rfl ?_ (by rw[List.size_toArray,sizeLine_eq];lia) (Nat.zero_le _));refine wpAny_bind (seqEpoch_at ho1 rfl ?_);refine wpAny_bind (wpAny_newTuple ?_ (by show vs.length<=_;rw[sizeLine_eq];lia));refine wpAny_bind (wpAny_newList ?_ (Nat.zero_le _));refine wpAny_holding ?_;have hsz2:((H0.update (s.heap.objs.size+1) (Obj.mapSeq fun _=>(#[]:Array Value))).push { cls:=.type "tuple",data:=.seq vs.toArray.toList.toArray }).objs.size=s.heap.objs.size+3:=by rw[size_push',hsz1]
    have hkS:(((H0.update (s.heap.objs.size+1) (Obj.mapSeq fun _=>(#[]:Array Value))).push { cls:=.type "tuple",data:=.seq vs.toArray.toList.toArray }).push { cls:=.type "list",data:=.seq (List.toArray []) }).get? (s.heap.objs.size+3)=some (qab #[] 0):=by
      rw[<- hsz2];exact Heap.get?_push_size _ rfl
    have keep3:∀b o,s.heap.get? b=some o->(((H0.update (s.heap.objs.size+1) (Obj.mapSeq fun _=>(#[]:Array Value))).push { cls:=.type "tuple",data:=.seq vs.toArray.toList.toArray }).push { cls:=.type "list",data:=.seq (List.toArray []) }).get? b=some o:=fun b o hb=>Heap.get?_push_of_some _ (Heap.get?_push_of_some _ (keep1 b o hb))
    have ho3:(((H0.update (s.heap.objs.size+1) (Obj.mapSeq fun _=>(#[]:Array Value))).push { cls:=.type "tuple",data:=.seq vs.toArray.toList.toArray }).push { cls:=.type "list",data:=.seq (List.toArray []) }).get? (s.heap.objs.size+1)=some (qab #[] e1):=Heap.get?_push_of_some _ (Heap.get?_push_of_some _ ho1);show wpAny (model W.prog W.w) A.in1.in1 (ksk_rest (s.heap.objs.size+1) (.ref q) false vs.toArray e1 (.ref ((H0.update (s.heap.objs.size+1) (Obj.mapSeq fun _=>(#[]:Array Value))).push { cls:=.type "tuple",data:=.seq vs.toArray.toList.toArray }).objs.size)) _ _ { s with heap:=((H0.update (s.heap.objs.size+1) (Obj.mapSeq fun _=>(#[]:Array Value))).push { cls:=.type "tuple",data:=.seq vs.toArray.toList.toArray }).push { cls:=.type "list",data:=.seq (List.toArray []) } };rw[hsz2];generalize ((H0.update (s.heap.objs.size+1) (Obj.mapSeq fun _=>(#[]:Array Value))).push { cls:=.type "tuple",data:=.seq vs.toArray.toList.toArray }).push { cls:=.type "list",data:=.seq (List.toArray []) }=H3 at hkS keep3 ho3 ⊢;have hnk:s.heap.get? (s.heap.objs.size+3)=none:=Heap.get?_none_of_le (by simp +arith);obtain ⟨R3,e3a⟩:=R.keepsAll keep3;have ac:Acc W g H3 (s.heap.objs.size+3) []:=⟨Priv.list R hnk hkS,⟨_,_,hkS,rfl⟩,rfl⟩
    have pa:Priv W g H3 (s.heap.objs.size+1):=Priv.list R hna ho3;have hne:s.heap.objs.size+1≠s.heap.objs.size+3:=by exact qb2 rfl
    unfold ksk_rest;refine wpAny_bind (wpAny_rule ?_);first
      | rw[List.forIn_toArray]
      | (rw[<- Array.forIn_toList];simp only[List.toList_toArray])
    refine wpAny_bind (qln rm2 hne (fun u s' Q' hcall=>?_) l keys vs [] g { s with heap:=H3 } _ R3 (hlr.up e3a) (rf.up e3a) ac pa _ ho3 hl hc hp (by simpa using h64) fun g4 s4 R4 e4 ac4 pa4 ho4=>?_)
    . refine wpAny_bind (wpAny_attempt (wpAny_mono hcall (fun v s'' hv=>?_) fun _ _ x=>x.elim));refine qa3 (hv) ?_;intro vs' n' hk' hz' hq';refine wpAny_bind (listUpdate_at hk' rfl ?_ (by rw[sizeLine_eq];lia) (Nat.le_trans (Nat.le_of_eq (Array.size_push ..)) (by rw[sizeLine_eq];lia)));exact wpAny_pure ⟨rfl,hq'⟩
    . refine qcw (ac4.obj) ?_;intro ksA nk hk4 hkr4;obtain ⟨ks,rfl⟩:∃ks:List Value,ksA=ks.toArray:=⟨ksA.toList,by rfl⟩
      have hkr:RVs W g4 s4.heap keys ks:=by simpa using hkr4
      have hkl:ks.length=vs.length:=by rw[hkr.length,hl,hvl]
      have hlr4:RVs W g4 s4.heap l vs:=(hlr.up e3a).mono e4 (Priv.xok fun b q=>by subst q;exact ac.priv) l (.inl fun b q=>by subst q;exact ac.priv.own) vs;refine wpAny_bind (listItems_at hk4 rfl ?_);have fin:∀(out:List Value) (st:SortSt),(arrOf st).map (·.2)=List.toArray out->failedOf st=none->RVs W g4 s4.heap (qgo lt l) out->out.length=l.length ->
          wpAny (model W.prog W.w) A.in1.in1 (ksk_tail (s.heap.objs.size+1) false e1 (.ref (s.heap.objs.size+3)) st) (fun fin s'=>∃v,fin=PySem.Fin.done (.ret v)/\wpAny (model W.prog W.w) A.in1 (ret (.ref (s.heap.objs.size+1))) (fun fin s'=>∃v,fin=PySem.Fin.done (.ret v)/\Q v s') E s') E s4:=fun out st h1 h2 h3 h4=>by
        refine qnb hne hk4 ho4 h1 (by simp_all) (by rw[List.size_toArray];simp_all) h2 ⟨_,rfl,wpAny_pure ⟨_,rfl,?_⟩⟩;have t1:=Heap.SameBut.update s4.heap (s.heap.objs.size+3) (Obj.mapSeq fun _=>(#[]:Array Value));have t2:=Heap.SameBut.update (s4.heap.update (s.heap.objs.size+3) (Obj.mapSeq fun _=>(#[]:Array Value))) (s.heap.objs.size+1) (Obj.mapSeq fun _=>List.toArray out);have hna':=get?_update_seq (c := "list") ((t1.2 _ hne).trans ho4) fun _=>List.toArray out
        have hX:∀b,(b=s.heap.objs.size+3\/b=s.heap.objs.size+1)->Priv W g4 s4.heap b:=fun b q=>by
          rcases q with rfl | rfl
          . exact ac4.priv
          . exact pa4
        obtain ⟨R5,e5⟩:=R4.turn2 (g':=qc9 g4 (s.heap.objs.size+1) .fz) (h':=(s4.heap.update (s.heap.objs.size+3) (Obj.mapSeq fun _=>(#[]:Array Value))).update (s.heap.objs.size+1) (Obj.mapSeq fun _=>List.toArray out)) s4.toks (fun b=>b=s.heap.objs.size+3\/b=s.heap.objs.size+1) hX
          (fun b o _ q=>qa9 fun z=>q (.inr z)) (fun b q=>by
            rcases q with rfl | rfl
            . rw[qa9 hne.symm];exact .inl ac4.priv.own
            . exact .inr ⟨qa5,_,hna'⟩) (fun b q=>by
            by_cases z:b=s.heap.objs.size+1
            . subst z;rw[ho4] at q;cases q
            . rw[qa9 z];exact .inl (R4.newO q)) (fun b o q z=>by
            rw[not_or] at z;exact (t2.2 b z.2).trans ((t1.2 b z.1).trans q))
        refine hQ _ _ _ R5 ?_ ⟨_,_,_,rfl,qa5,hna',?_⟩
        . have e45:=(e4.inX (X':=fun b=>b=s.heap.objs.size+3\/b=s.heap.objs.size+1) fun b q=>.inl q).trans e5;exact (e3a.toX.trans e45).weak R.low (fun b o ho q=>by rcases q with rfl | rfl <;> (first | rw[hnk] at ho | rw[hna] at ho) <;> cases ho) fun _ q=>q
        . simpa using h3.mono e5 (Priv.xok hX) _ (.inl fun b q=>(hX b q).own) out
      unfold ksk_end;try dsimp only
      by_cases hn:l.length<2
      . have hn':vs.toArray.size<2:=by rw[List.size_toArray];simp_all
        rw[if_pos hn',if_pos hn'];refine wpAny_bind (wpAny_pure (wpAny_bind (wpAny_pure ?_)));refine fin vs _ ?_ rfl (by unfold qgo;rw[if_pos hn];exact hlr4) hvl;show ((ks.toArray.zip vs.toArray).map (·.2))=vs.toArray;apply Array.toList_inj.mp;simp[List.map_snd_zip,hkl]
      . have hn':¬vs.toArray.size<2:=by rw[List.size_toArray];simp_all
        rw[if_neg hn',if_neg hn'];refine qa4 (hK g4 s4.heap ks hkr (by simp_all)) ?_;intro κ hkind hask;refine wpAny_bind (hkind _ s4 _ _ rfl ?_);refine qee (ql5 (N:=vs.length) S (by lia)) ?_;intro z1 z2 z3;refine wpAny_bind (wpAny_mono (kat_run (Q:=fun st' s'=>s'=s4/\arrOf st'=(qeo lt (kas_sort vs.length)).map (kas_item (ks.toArray.zip vs.toArray))/\failedOf st'=none) (G:=fun p s'=>p=qeo lt (kas_sort vs.length)/\s'=s4) hkl (by simp_all) (by simp_all) (fun p st' s' a1 a2 a3 a4=>by
          obtain ⟨rfl,rfl⟩:=a4;exact ⟨rfl,a2,a3⟩) (qiw (N:=vs.length) (lt:=lt) (fun i j C hi hj hC=>hask _ s4 i j C rfl (by simp_all) (by simp_all) hC) _ (qq7 (by lia)) ⟨rfl,rfl⟩)) ?_ fun _ _ x=>x)
        rintro ⟨⟨⟩,st'⟩ s' ⟨rfl,har,hf⟩
        refine fin _ st' (kat_snds hkl har) hf ?_ ?_
        . unfold qgo;rw[if_neg hn,<- hvl];exact hlr4.pickN _ fun i hi=>by
            have:=z2.mem_iff.mp hi;rw[List.mem_range] at this;simp_all
        . rw[List.length_map,Array.length_toList,z1,hvl]
end
end
section
section
theorem Icr {f:AV}{keys:List AV}{lt:Nat->Nat->Bool}{kx:Str}(hkx:kx=Str.ofString "key")(hf:∀(g:Addr->Own) (h:Heap) (u:Value),RV W g h f u->∃q,u=.ref q)(hL:Lv σ v l)(h64:l.length<64)(hl:keys.length=l.length)(hc:∀(i:Nat) (x y:AV),l[i]?=some x->keys[i]?=some y->Calls W noY k fr σ f [x] [] [] y σ)(hp:plains keys=true)(hpl:plains l=true)(hK:KeyOk W keys lt)(S:SWO lt):
    Calls W Y (k+2) fr σ (.glob (.builtin "sorted")) [v] [kx] [f] (.lst (qgo lt l)) σ:=fun A g s vf us ks rm R rf ru rk Q E hQ=>by
  subst hkx;obtain rfl:vf=.builtin "sorted":=rf;refine qa3 (ru) ?_;(try clear ru);intro u q eq_0_2 ru rq;subst eq_0_2;obtain rfl:q=[]:=rq;refine qa3 (rk) ?_;(try clear rk);intro u' q eq_1_2 rk rq;subst eq_1_2;obtain rfl:q=[]:=rq;obtain ⟨q,rfl⟩:=hf _ _ _ rk;refine qbu (hL.at R ru) ?_;intro la vs n eq_3_3 _;subst eq_3_3;exact qif rm hL R ru rk h64 hl hc hp hpl hK S fun v' g' s' R' e' rv=>hQ v' g' s' R' e'.no rv
theorem qqv:∀{vs:List Value} {ns:List Int},IntsAre vs ns->RVs W g h (qa0 ns) vs
  | _,_,.nil=>rfl
  | _,_,.cons n t q=>⟨_,_,rfl,⟨t,rfl⟩,qqv q⟩
theorem Ics {ns':List Int}(hL:Lv σ v (qa0 ns))(h64:ns.length<64)(hp:ns'.Perm ns)(hs:ns'.Pairwise (·<=·)):Calls W Y k fr σ (.glob (.builtin "sorted")) [v] [] [] (.lst (qa0 ns')) σ:=fun A g s vf us ks rm R rf ru rk Q E hQ=>by
  obtain rfl:vf=.builtin "sorted":=rf;refine qa3 (ru) ?_;(try clear ru);intro u q eq_4_2 ru rq;subst eq_4_2;obtain rfl:q=[]:=rq;obtain rfl:ks=[]:=rk;refine qa2 (hL.at R ru) ?_;intro la vs n eq_5_3 ho hr _;subst eq_5_3;have hI:=hr.ints;refine sorted_ints (vs:=vs.toList) (by simpa using qam ho) hI (by rw[hr.length];simpa using h64) fun out ns'' h1 h2 h3=>?_
  have e:ns''=ns':=List.Perm.eq_of_pairwise (fun a b _ _ h h'=>Int.le_antisymm h h') h3 hs (h2.trans hp.symm);subst e;obtain ⟨e1,hat⟩:=sortedAll_at s.heap vs.toList out;have hnone:s.heap.get? (s.heap.objs.size+1)=none:=Heap.get?_none_of_le (Nat.le_succ _);obtain ⟨R',e'⟩:=R.turn2 (g':=qc9 g (s.heap.objs.size+1) .fz) (h':=sortedAll s.heap vs.toList out) s.toks noX (fun _ h=>h.elim) (fun b o hb _=>qa9 fun q=>by subst q;rw[hnone] at hb;cases hb) (fun _ h=>h.elim) (fun b hb=>by
    by_cases q:b=s.heap.objs.size+1
    . subst q;exact .inr ⟨qa5,_,hat⟩
    . rw[qa9 q];exact .inl (R.newO hb)) (fun b o hb _=>sortedAll_old hb)
  refine hQ _ _ _ R' e'.no ⟨_,out,e1,rfl,qa5,hat,?_⟩;exact qqv h1
end
theorem SWO.pairs {f g:Nat->Int}:SWO (fun i j=>decide (f i<f j\/(f i=f j/\g i<g j))):=
  ⟨fun h=>decide_eq_false (qtk (of_decide_eq_true h)),fun h k=>decide_eq_true (qqs (of_decide_eq_true h) (of_decide_eq_true k)),fun h k=>decide_eq_false fun q=>(qtj q).elim (of_decide_eq_false h) (of_decide_eq_false k)⟩
theorem qm4 {lt:Nat->Nat->Bool}(S:SWO lt)(l:List AV):∃p:List Nat,p.Perm (List.range l.length)/\p.Pairwise (Prec lt)/\qgo lt l=p.map fun i=>l.getD i .none:=by
  by_cases h:l.length<2
  . refine ⟨List.range l.length,.refl _,?_,?_⟩
    . match l,h with
      | [],_=>simp
      | [_],_=>simp
    . unfold qgo;rw[if_pos h];match l,h with
      | [],_=>rfl
      | [_],_=>rfl
  . refine qee (ql5 S (N:=l.length) (by lia)) ?_;intro h1 h2 h3;exact ⟨_,h2,h3,by unfold qgo;rw[if_neg h]⟩
end
section
def Weak (m2 m:List (Option AV)):Prop:=∀(i:Nat) (av:AV),m[i]?=some (some av)->m2[i]?=some (some av)
theorem Weak.refl:Weak m m:=fun _ _ h=>h
noncomputable def qay:List (Option AV)->List (Option AV)->Prop
  | [],[]=>True
  | _::l2,none::l=>qay l2 l
  | a2::l2,a::l=>a2=a/\qay l2 l
  | _,_=>False
theorem Weak.of:∀{m2 m:List (Option AV)},qay m2 m->Weak m2 m
  | [],[],_,i,av,h=>by simp at h
  | _::l2,none::l,h,i,av,q=>by
    cases i with
    | zero=>simp at q
    | succ i=>simp at q ⊢;exact Weak.of (m2:=l2) (m:=l) h i av q
  | a2::l2,some a::l,h,i,av,q=>by
    cases i with
    | zero=>simp at q ⊢;rw[h.1,q]
    | succ i=>simp at q ⊢;exact Weak.of (m2:=l2) (m:=l) h.2 i av q
  | [],_::_,h,_,_,_=>by cases h
  | _::_,[],h,i,av,q=>by simp at q
theorem Weak.set (h:m[i]?=some none):Weak (m.set i (some v)) m:=fun j av q=>by
  by_cases e:j=i
  . subst e;rw[h] at q;cases q
  . rw[List.getElem?_set_ne (Ne.symm e)];exact q
theorem Ib0 (h:Weak m m')(hi:m'[i]?=some none):Weak (m.set i (some v)) m':=fun j av q=>by
  by_cases e:j=i
  . subst e;rw[hi] at q;cases q
  . rw[List.getElem?_set_ne (Ne.symm e)];exact h j av q
section
variable {outer:List Env} {m0:List (Option AV)}
theorem Exs.post (h:Exs C k fr m σ sts fl m2 z')(w:Weak m2 m'):Exs C k fr m σ sts fl m' z':=fun A env g s rm R F Q E hQ=>h A env g s rm R F Q E fun f' g' s' R' e' F' hf=>hQ f' g' s' R' e' (F'.weak w) hf
theorem Ex.post (h:Ex C k fr m σ st fl m2 z')(w:Weak m2 m'):Ex C k fr m σ st fl m' z':=fun A env g s rm R F Q E hQ=>h A env g s rm R F Q E fun f' g' s' R' e' F' hf=>hQ f' g' s' R' e' (F'.weak w) hf
theorem ForC.pre (h:ForC C k fr t body orelse ai i m σ fl m' z')(w:Weak m2 m):ForC C k fr t body orelse ai i m2 σ fl m' z':=fun A env g s it ws rm R F S hP Rr hR=>h A env g s it ws rm R (F.weak w) S hP Rr hR
theorem CompC.pre {acc':List AV}(h:CompC C k fr elt gens scope pos d ai i m σ acc m' z' acc')(w:Weak m2 m):CompC C k fr elt gens scope pos d ai i m2 σ acc m' z' acc':=
  fun A env g s it ws D rm R F S hP a hD Rr hR=>h A env g s it ws D rm R (F.weak w) S hP a hD Rr hR
theorem Iay {X:Type}(hg:gens[d]?=some ⟨t,iter,ifs,0⟩)(hO:ai.Ok σ)(hp:ai.plain=true)(ht:ai.pairs=true->∃elts n p,t=.Tuple elts n p)(xs:List X)(enc:X->AV)(qlb:X->List AV)(hx:ai.items=xs.map enc)(H:∀(x:X) (acc:List AV),x∈xs->acc.length+(qlb x).length<=sizeLine->∃m1 m2 b,As C k fr m σ t (enc x) m1 σ/\Tests C k fr m1 σ ifs b σ/\((b=true/\Inner C k fr elt gens scope pos d m1 σ acc m2 σ (acc++qlb x))\/(b=false/\m2=m1/\qlb x=[]))/\Weak m2 m)(hns:∀g',gens[d+1]?=some g'->g'.is_async=0)(hz:acc.length+(xs.flatMap qlb).length<=sizeLine):CompC C k fr elt gens scope pos d ai 0 m σ acc m σ (acc++xs.flatMap qlb):=by
  have key:∀(r p:List X) (acc:List AV),xs=p++r->acc.length+(r.flatMap qlb).length<=sizeLine->CompC C k fr elt gens scope pos d ai p.length m σ acc m σ (acc++r.flatMap qlb):=by
    intro r;induction r with
    | nil=>
      intro p acc hr hz;rw[List.flatMap_nil,List.append_nil];exact CompC.done hg hO (by rw[hx,hr];simp) hns
    | cons x r ih=>
      intro p acc hr hz;rw[List.flatMap_cons,List.length_append] at hz;have hv:ai.items[p.length]?=some (enc x):=by rw[hx,hr];simp
      refine qa2 (H x acc (by rw[hr];simp) (by lia)) ?_;intro m1 m2 b ha hb hn w;have next:=ih (p++[x]) (acc++qlb x) (by rw[hr];simp) (by rw[List.length_append];lia);rw[List.length_append,List.length_singleton,List.append_assoc,<- List.flatMap_cons] at next;refine CompC.turn hg hO hp hv ht ha hb ?_ (next.pre w) hns;rcases hn with ⟨h1,h2⟩ | ⟨h1,h2,h3⟩
      . exact .inl ⟨h1,h2⟩
      . exact .inr ⟨h1,h2,rfl,by rw[h3,List.append_nil]⟩
  exact key xs [] acc rfl hz
end
noncomputable def qcz (m:List (Option AV)) (js:List (Option Nat)):List (Option AV):=js.map fun j=>j.bind fun j=>(m[j]?).join
noncomputable def qp7 (outer:List (Str×NameKind)):List (Str×NameKind)->List (Option Nat)->Bool
  | [],[]=>true
  | (x,kd)::names,j::js=>(match kd,j with
      | .free,some j=>(match outer[j]? with | some (y,kd')=>y==x&&kcl kd'==1 | none=>false)
      | .free,none=>false
      | .cell,_=>false
      | _,none=>true
      | _,some _=>false)&&qp7 outer names js
  | _,_=>false
noncomputable def ndB (names:List (Str×NameKind)):Bool:=decide (names.map (·.1)).Nodup
theorem qrf (h:ndB names=true):∀(i j:Nat) (x:Str) (k k':NameKind),names[i]?=some (x,k)->names[j]?=some (x,k')->i=j:=fun i j x k k' h1 h2=>by
  have hn:(names.map (·.1)).Nodup:=of_decide_eq_true h;have e1:(names.map (·.1))[i]?=some x:=by rw[List.getElem?_map,h1];rfl
  have e2:(names.map (·.1))[j]?=some x:=by rw[List.getElem?_map,h2];rfl
  refine Exists.elim (List.getElem?_eq_some_iff.mp e1) ?_;intro hi e1;refine Exists.elim (List.getElem?_eq_some_iff.mp e2) ?_;intro hj e2;rcases Nat.lt_trichotomy i j with q | q | q
  . exact absurd (e1.trans e2.symm) (List.pairwise_iff_getElem.mp hn i j hi hj q)
  . exact q
  . exact absurd (e2.trans e1.symm) (List.pairwise_iff_getElem.mp hn j i hj hi q)
theorem qi2 {outer:List (Str×NameKind)}:∀{names:List (Str×NameKind)} {js:List (Option Nat)},qp7 outer names js=true->js.length=names.length/\∀(i:Nat) (x:Str) (kd:NameKind),names[i]?=some (x,kd)->kd≠.cell/\(kd=.free->∃j kd',js[i]?=some (some j)/\outer[j]?=some (x,kd')/\kcl kd'=1)/\(kd≠.free->js[i]?=some none)
  | [],[],_=>⟨rfl,fun i x kd h=>by simp at h⟩
  | [],_::_,h=>by cases h
  | _::_,[],h=>by cases h
  | (y,ky)::names,j::js,h=>by
    have h':(_&&qp7 outer names js)=true:=h;rw[Bool.and_eq_true] at h';obtain ⟨h1,h2⟩:=qi2 h'.2;refine ⟨by simp[h1],fun i x kd hi=>?_⟩;cases i with
    | succ i=>simp only[List.getElem?_cons_succ] at hi ⊢;exact h2 i x kd hi
    | zero=>
      simp at hi;obtain ⟨rfl,rfl⟩:=hi;have h3:=h'.1;cases ky with
      | «local»=>cases j with | none=>exact ⟨by nofun,(fun q=>by cases q),fun _=>rfl⟩ | some j=>cases h3
      | globalExplicit=>cases j with | none=>exact ⟨by nofun,(fun q=>by cases q),fun _=>rfl⟩ | some j=>cases h3
      | globalImplicit=>cases j with | none=>exact ⟨by nofun,(fun q=>by cases q),fun _=>rfl⟩ | some j=>cases h3
      | cell=>cases j <;> cases h3
      | free=>
        cases j with
        | none=>cases h3
        | some j=>
          refine ⟨by nofun,fun _=>?_,fun q=>absurd rfl q⟩;simp only at h3;cases e:outer[j]? with
          | none=>rw[e] at h3;cases h3
          | some p=>
            obtain ⟨z,kz⟩:=p;rw[e] at h3;simp at h3;exact ⟨j,kz,rfl,by rw[e,h3.1],h3.2⟩
theorem CompIn.of (js:List (Option Nat))(h:qp7 C.nm names js=true)(hn:ndB names=true):CompIn C m names (qcz m js):=by
  refine And.elim ?_ (qi2 h);intro h1 h2;refine ⟨qrf hn,by simp[qcz,h1],fun i x hi=>?_,fun i x kd hi hk av q=>?_,.inl fun i x hi=>(h2 i x _ hi).1 rfl⟩
  . refine qa3 ((h2 i x _ hi).2.1 rfl) ?_;intro j kd e1 e2 e3;refine ⟨j,kd,e2,e3,fun av q=>?_⟩;simp only[qcz,List.getElem?_map,e1] at q;simp at q;cases e:m[j]? with
    | none=>rw[e] at q;simp at q
    | some o=>rw[e] at q;simp at q;rw[q]
  . have:=(h2 i x kd hi).2.2 hk;simp[qcz,List.getElem?_map,this] at q
end
section
noncomputable def qbr (p:Program) (i:Nat):List Stmt:=match p.main.body[i]? with | some (.FunctionDef _ _ b _ _ _ _ _ _ _)=>b | _=>[]
noncomputable def qas (p:Program) (i:Nat):Scope:=match p.main.body[i]? with | some (.FunctionDef _ _ _ _ _ _ s _ _ _)=>s | _=>p.main.scope
noncomputable def qug (p:Program) (i:Nat):Arguments:=match p.main.body[i]? with | some (.FunctionDef _ a _ _ _ _ _ _ _ _)=>a | _=>{ posonlyargs:=[],args:=[],vararg:=none,kwonlyargs:=[],kw_defaults:=[],kwarg:=none,defaults:=[] }
structure Blt (W:Wd) (x:Str) (v:Value):Prop where
  g:W.mg x=none
  b:W.mb x=some v
section
theorem Iej {v:Value}(hi:C.nm[i]?=some (x,.globalImplicit))(h:Blt C.W x v)(hd:autoParam ((x==("__debug__":Str))=false) ap1._auto_1):Ev C k fr m σ (.Name x p) (.glob v) σ:=Idz hi h.g h.b hd
end
section
theorem Ias {a b:Int}(hb:b≠0)(hz:b.natAbs<2 ^ 64):Op2 W Y k fr σ (binaryOp .FloorDiv) (.int a) (.int b) (.int (a.fdiv b)) σ:=Op2.fdiv hb (by
  refine PyProof.noPylong_of_log2 ?_;have h0:b.natAbs≠0:=by simp_all
  have:=(Nat.log2_lt h0 (k:=64)).mpr hz;lia)
theorem Ibh {t:Value->Value->Sem Value}{a b:AV}(h:Op2 W Y k fr σ t a b v z')(e:v=v'):Op2 W Y k fr σ t a b v' z':=e ▸ h
theorem Ibg {f:AV}(h:Calls W Y k fr σ f args kn kv v z')(e:v=v')(e2:z'=z''):Calls W Y k fr σ f args kn kv v' z'':=e ▸ e2 ▸ h
end
theorem Ian (h:Ev C k fr m σ e v z')(q:v=v'):Ev C k fr m σ e v' z':=q ▸ h
theorem Iac {v v':Bool}(h:Tr C k fr m σ e v z')(q:v=v'):Tr C k fr m σ e v' z':=q ▸ h
end
section
noncomputable def qlr (b:Nat) (σ:List AObj):AObj->AObj
  | .lst l=>.lst (qf4 b σ l)
  | .dstr ks l=>.dstr ks (qf4 b σ l)
  | .dint ks l=>.dint ks (qf4 b σ l)
  | .fn0=>.fn0
  | .elem as l=>.elem as (qf4 b σ l)
  | .iter l=>.iter (qf4 b σ l)
  | .iterDone=>.iterDone
mutual
theorem qce:(v:AV)->qbf b v=true->plain v=true
  | .loc n,_=>rfl
  | .tup l,h=>qbk l h
  | .lst l,h=>qbk l h
  | .bound f s,h=>qce s h
  | .clo ..,h=>by cases (h:false=true)
  | .none,_=>rfl
  | .bool _,_=>rfl
  | .int _,_=>rfl
  | .str _,_=>rfl
  | .glob _,_=>rfl
  | .any,_=>rfl
termination_by structural x=>x
theorem qbk:(l:List AV)->qae b l=true->plains l=true
  | [],_=>rfl
  | a::l,h=>by
    have h':(qbf b a&&qae b l)=true:=h;rw[Bool.and_eq_true] at h';show (plain a&&plains l)=true;rw[qce a h'.1,qbk l h'.2];rfl
termination_by structural x=>x
end
mutual
theorem qnp:(v:AV)->plain (frz b σ v)=true
  | .loc n=>by
    show plain (if n<b then .loc n else match σ[n]? with | some (.lst l)=>if qae b l then .lst l else .any | _=>.any)=true;split
    . rfl
    . split
      . split
        . rename_i h;exact qbk _ h
        . rfl
      . rfl
  | .tup l=>qbq l
  | .lst l=>qbq l
  | .bound f s=>by
    show plain (if qbf b s=true then AV.bound f s else .any)=true;split
    . rename_i h;exact qce s h
    . rfl
  | .clo ..=>rfl
  | .none=>rfl
  | .bool _=>rfl
  | .int _=>rfl
  | .str _=>rfl
  | .glob _=>rfl
  | .any=>rfl
termination_by structural x=>x
theorem qbq:(l:List AV)->plains (qf4 b σ l)=true
  | []=>rfl
  | a::l=>by
    show (plain (frz b σ a)&&plains (qf4 b σ l))=true;rw[qnp a,qbq l];rfl
termination_by structural x=>x
end
theorem qm6:(ao:AObj)->qdg (qlr b σ ao)=true
  | .lst l=>qbq l
  | .dstr ks l=>qbq l
  | .dint ks l=>qbq l
  | .fn0=>rfl
  | .elem as l=>qbq l
  | .iter l=>qbq l
  | .iterDone=>rfl
theorem qgc:(ao:AObj)->qdq b ao=true->qlr b σ ao=ao
  | .lst l,h=>by show AObj.lst (qf4 b σ l)=_;rw[qb1 l h]
  | .dstr ks l,h=>by show AObj.dstr ks (qf4 b σ l)=_;rw[qb1 l h]
  | .dint ks l,h=>by show AObj.dint ks (qf4 b σ l)=_;rw[qb1 l h]
  | .fn0,_=>rfl
  | .elem as l,h=>by show AObj.elem as (qf4 b σ l)=_;rw[qb1 l h]
  | .iter l,h=>by show AObj.iter (qf4 b σ l)=_;rw[qb1 l h]
  | .iterDone,_=>rfl
section
theorem RO.exitF (R:Rep W fr g σ s)(hn:n<k):(ao:AObj)->RO W g s.heap a n ao->RO W (gx k g s.heap) s.heap a n (qlr k σ ao)
  | .lst l,r=>by refine qcw (r) ?_;intro vs m ho hr;exact ⟨vs,m,ho,RVs.exit R l _ hr⟩
  | .dstr keys l,r=>by refine qal (r) ?_;intro vs hd hl hr;exact ⟨vs,hd,hl,RVs.exit R l _ hr⟩
  | .dint keys l,r=>by refine qal (r) ?_;intro vs hd hl hr;exact ⟨vs,hd,hl,RVs.exit R l _ hr⟩
  | .fn0,r=>r
  | .elem attrs l,r=>by
    refine qaj (r) ?_;intro fd d mh vs ho hd hm hr q;exact ⟨fd,d,mh,vs,ho,qlq hd hn,hm,RVs.exit R l _ hr,q⟩
  | .iter l,r=>by
    refine qcv (r) ?_;intro la i vs m ho hg hl hr;exact ⟨la,i,vs,m,ho,qfe hg,hl,RVs.exit R l _ hr⟩
  | .iterDone,_=>(True.intro:True)
theorem Rep.exitF (R:Rep W fr g σ s)(k:Nat)(hk:k<=σ.length):Rep W fr (gx k g s.heap) ((σ.take k).map (qlr k σ)) s:=by
  have ht:∀{n:Nat} {ao:AObj},((σ.take k).map (qlr k σ))[n]?=some ao->n<k/\∃ao',σ[n]?=some ao'/\ao=qlr k σ ao':=fun {n ao} q=>by
    rw[List.getElem?_map,List.getElem?_take] at q;split at q
    . rename_i hn;cases e:σ[n]? with
      | none=>rw[e] at q;cases q
      | some ao'=>rw[e] at q;obtain rfl:=Sj q;exact ⟨hn,ao',rfl,rfl⟩
    . cases q
  refine ⟨R.base,fun a o ha=>(R.baseO a o ha).imp qci qfe,fun a q=>qci (R.tabO a q),fun a q=>?_,fun a ha=>R.low a fun q=>ha (qci q),fun n ao q=>?_,
    fun a b n qa qb=>R.uniq a b n (qex qa).1 (qex qb).1,fun n ao q=>?_,fun a n q=>?_,fun e he=>?_,R.gens,R.os⟩
  . refine qal (R.tabs a q) ?_;intro more h2 h3 h4;exact ⟨more,h2,h3,fun pos v e=>(h4 pos v e).exit⟩
  . refine qt6 (ht q) ?_;intro hn ao' q' eq_6_3;subst eq_6_3;refine qa4 (R.locs n ao' q') ?_;intro a ha ro;exact ⟨a,qh5 ha hn,ro.exitF R hn ao'⟩
  . refine qt6 (ht q) ?_;intro hn ao' q eq_8_3;subst eq_8_3;exact qm6 ao'
  . rw[List.length_map,List.length_take,Nat.min_eq_left hk];rcases q with q | q
    . exact (qex q).2
    . exact (qmj q).2
  . refine qaj (R.frs e he) ?_;intro f o es ep h1 h2 h3 h4 h5;exact ⟨f,o,es,ep,h1,h2,h3,qci h4,h5⟩
end
def Cl (σ:List AObj):Prop:=∀ao∈σ,qdq σ.length ao=true
theorem qs2 {ext:List AObj}(h:Cl σ):σ=((σ++ext).take σ.length).map (qlr σ.length (σ++ext)):=by
  rw[List.take_left' rfl];have:σ.map (qlr σ.length (σ++ext))=σ.map id:=List.map_congr_left fun ao hao=>qgc ao (h ao hao)
  rw[this,List.map_id]
section
theorem Idu {fd:FuncData}(kp:Nat)(Fn:qr4 C a fd body)(hb:qd1 C.W fd args kn kv xs vs)(B:Binds C.nm xs vs (List.replicate C.nm.length none) m1)(hbody:∀env,ExsF C k env fr m1 σ body fl m' z'')(hY:∀n,n<σ.length->C.Y n->Y n)(hkp:σ.length<=kp)(hkp2:kp<=z''.length)(hv:v=frz kp z'' (qes fl))(hs:z'=(z''.take kp).map (qlr kp z'')):Calls C.W Y (k+1) fr σ (.glob (.ref a)) args kn kv v z':=fun A g s vf us ks rm R rf ru rk Q E hQ=>by
  subst hv hs;obtain rfl:vf=.ref a:=rf;refine qa4 (Fn.get) ?_;intro o ho hd;refine qaj (Fn.code) ?_;intro c oc cvs tq h1 h2 h3 h4 h5;refine qa4 (hb fr g σ s us ks R ru rk) ?_;intro ws hbt hws;refine wpAny_call (codeAny_call_function rm.dep (R.base a o ho Fn.nt) hd Fn.co Fn.gen Fn.body ⟨c,oc,cvs,tq,h1,R.base c oc h2 h3,h4,h5⟩ (hbt _ _ _ _ ?_));rw[Fn.glob,Fn.clo,Fn.blt];refine qcx (C:=C) (m0:=List.replicate C.nm.length none) Fn.nm Fn.nd Fn.kind Fn.lk (by exact Fn.cd) (fun o h=>by cases h) R (fun i x kd hi=>⟨fun hk=>by subst hk;exact absurd hi (Fn.nofree i x),fun _ av q=>by
    rw[List.getElem?_replicate] at q;split at q <;> cases q⟩) (.inr fun i av q=>by rw[List.getElem?_replicate] at q;split at q <;> cases q) B hws (by simp) fun env g1 s1a R1 e1a F1 hsc hL hcl hown hfr _ hRc=>?_
  refine ⟨R1.nolim,codeAny_func ?_⟩;refine hbody env _ g1 s1a rm.deeper (hRc rfl) F1 _ _ fun f' g2 s2 R2 e2a F2 hf=>?_
  have hfresh:∀a o,s.heap.get? a=some o->FX C.nm env a->noX a:=fun a o ho ha=>by
    rcases ha with rfl | ⟨i,x,hi,hcx⟩
    . rw[hL] at ho;cases ho
    . rw[hown i x a hi hcx] at ho;cases ho
  have e12:Evo C.W noX C.Y g s.heap g2 s2.heap:=(e1a.no.toX.trans e2a).weak R.low hfresh fun _ q=>q
  have R3:=(R2.fewer (fr':=fr) fun e he=>List.mem_cons_of_mem _ he).exitF kp hkp2;have e13:Evo C.W noX Y g s.heap (gx kp g2 s2.heap) s2.heap:=(e12.exit (b:=σ.length) (fun a n q=>R.bnd a n q) hkp).wkB R hY;exact hQ (quj f') _ s2 R3 e13 (RV.exit R2 _ _ (qih hf))
end
end
section
theorem np {p:Prop}(h:false=true):p:=nomatch h
theorem qai {f:α->AV}(h:∀x,plain (f x)=true):∀(l:List α),plains (l.map f)=true
  | []=>by with_unfolding_all rfl
  | a::l=>by
    have q:=qai h l;show (plain (f a)&&plains (l.map f))=true;rw[h a,q];rfl
theorem qa7 {f:α->AV}(h:∀x,plain (f x)=true)(l:List α):plain (.lst (l.map f))=true:=qai h l
theorem qft (l:List Int):plains (qa0 l)=true:=qai (fun _=>rfl) l
theorem qap (l:List Int):plain (.lst (qa0 l))=true:=qft l
section
variable {X:Type}
theorem qcy {X Y:Type}{p:X->Bool}{f:X->Y}:∀(xs:List X),xs.flatMap (fun x=>if p x=true then [f x] else [])=(xs.filter p).map f
  | []=>rfl
  | x::xs=>by
    rw[List.flatMap_cons,qcy xs,List.filter_cons];split <;> simp
theorem Iao {c:Expr}(hg:gens[d]?=some ⟨t,iter,[c],0⟩)(xs:List X)(enc:X->AV)(p:X->Bool)(f:X->AV)(M1:X->List (Option AV))(hA:∀x∈xs,As C k fr m σ t (enc x) (M1 x) σ)(hT:∀x∈xs,Tr C k fr (M1 x) σ c (p x) σ)(hE:∀x∈xs,p x=true->Ev C k fr (M1 x) σ elt (f x) σ)(hw:∀x,Weak (M1 x) m)(hf:autoParam (∀x,plain (f x)=true) ap0._auto_1)(hx:autoParam (ai.items=xs.map enc) ap0._auto_1)(hl:autoParam (gens[d+1]?=none) ap0._auto_1)(hO:autoParam (ai.Ok σ) ap3._auto_1)(hp:autoParam (ai.plain=true) ap0._auto_1)(ht:autoParam (ai.pairs=true->∃elts n p,t=.Tuple elts n p) ap4._auto_1)(hz:autoParam (xs.length<=2 ^ 20) ap2._auto_1):
    CompC C k fr elt gens scope pos d ai 0 m σ [] m σ ((xs.filter p).map f):=by
  have h:=Iay (C:=C) (k:=k) (fr:=fr) (elt:=elt) (scope:=scope) (pos:=pos) (acc:=[]) (m:=m) hg hO hp ht xs enc (fun x=>if p x=true then [f x] else []) hx (fun x acc hx' ha=>⟨M1 x,M1 x,p x,hA x hx',Tests.one (hT x hx'),?_,hw x⟩) (by rw[hl];exact nofun) (by
    rw[qcy,List.length_map];have:=List.length_filter_le p xs;rw[List.length_nil,sizeLine_eq];lia)
  . rw[qcy] at h;exact h
  . cases hpx:p x with
    | true=>
      refine .inl ⟨rfl,?_⟩;rw[if_pos rfl];refine Iaw hl (hE x hx' hpx) (hf x) ?_;lia
    | false=>exact .inr ⟨rfl,rfl,by rfl⟩
theorem CompC.map (hg:gens[d]?=some ⟨t,iter,[],0⟩)(xs:List X)(enc:X->AV)(f:X->AV)(M1:X->List (Option AV))(hA:∀x∈xs,As C k fr m σ t (enc x) (M1 x) σ)(hE:∀x∈xs,Ev C k fr (M1 x) σ elt (f x) σ)(hw:∀x,Weak (M1 x) m)(hf:autoParam (∀x,plain (f x)=true) ap0._auto_1)(hx:autoParam (ai.items=xs.map enc) ap0._auto_1)(hl:autoParam (gens[d+1]?=none) ap0._auto_1)(hO:autoParam (ai.Ok σ) ap3._auto_1)(hp:autoParam (ai.plain=true) ap0._auto_1)(ht:autoParam (ai.pairs=true->∃elts n p,t=.Tuple elts n p) ap4._auto_1)(hz:autoParam (xs.length<=2 ^ 20) ap2._auto_1):
    CompC C k fr elt gens scope pos d ai 0 m σ [] m σ (xs.map f):=by
  have e:∀(xs:List X),xs.flatMap (fun x=>[f x])=xs.map f:=fun xs=>by induction xs with
    | nil=>rfl
    | cons x xs ih=>rw[List.flatMap_cons,ih];rfl
  have h:=Iay (C:=C) (k:=k) (fr:=fr) (elt:=elt) (scope:=scope) (pos:=pos) (acc:=[]) (m:=m) hg hO hp ht xs enc (fun x=>[f x]) hx (fun x acc hx' ha=>⟨M1 x,M1 x,true,hA x hx',Tests.nil,.inl ⟨rfl,Iaw hl (hE x hx') (hf x) (by lia)⟩,hw x⟩) (by rw[hl];exact nofun) (by
    rw[e,List.length_map,List.length_nil,sizeLine_eq];lia)
  . rw[e] at h;exact h
end
theorem Ic3 {op:BoolOp}{b:Bool}(h:Tr C k fr m σ e b z'):Trs C k fr m σ op [e] b z':=by
  cases op with
  | And=>have q:=Icj h (fun _=>Trs.nil) (fun _=>rfl);rwa[show (b&&(BoolOp.And==BoolOp.And))=b from by cases b <;> rfl] at q
  | Or=>have q:=Id4 h (fun _=>Trs.nil) (fun _=>rfl);rwa[show (b||(BoolOp.Or==BoolOp.And))=b from by cases b <;> rfl] at q
theorem Ic8 (hx:C.nm[i]?=some (x,.cell))(he:Ev C k fr m σ (.ListComp elt gens scope pos) v z')(hp:plain v=true):
    Ex C k fr m σ (.Assign [.Name x px] (.ListComp elt gens scope pos) p) .next (m.set i (some v)) z':=fun A env g s rm R F Q E hQ=>by
  refine qa4 (F.names i x _ hx) ?_;intro k' h3 h4;have hkk:(k'==NameKind.local)=false:=by cases k' <;> first | rfl | (exact absurd h4 (by decide))
  have hb:swapsWithSole [.Name x px] (.ListComp elt gens scope pos) p.line env=pure false:=by
    show swapsWith (.ListComp elt gens scope pos) (some (.Name x px)) p.line env=pure false;show (pure (env.blockKind==.function&&env.kindOf x==some .local&&px.line==pos.line && !(scope.names.any fun (n,k)=>n==x&&(k==.local||k==.cell))):Sem Bool)=pure false;have:(env.kindOf x==some NameKind.local)=false:=by rw[h3];exact hkk
    rw[this,Bool.and_false,Bool.false_and,Bool.false_and]
  refine wpAny_Assign_stores (he A env g s rm R F _ _ fun v' g1 s1a R1 e1a rv=>?_) hb (by rfl);show wpAny _ A (assignAll v' ((assignEach [.Name x px] env).map (·.2))) _ _ _;rw[show (assignEach [.Name x px] env).map (·.2)=[PySem.assign (.Name x px) env] from rfl];exact Idi (p:=px) hx (av:=v) hp A env g1 s1a v' rm R1 (F.up e1a) rv _ _ fun g2 s2 R2 e2a F2=>hQ _ g2 s2 R2 (e1a.toX.trans e2a) F2 rfl
noncomputable def pickL {α:Type} (l:List α) (lo hi st:Option Int):List α:=
  (sliceRange (sliceBounds lo hi st l.length).1 (sliceBounds lo hi st l.length).2.1 (sliceBounds lo hi st l.length).2.2).filterMap fun i=>l[i]?
theorem qim {f:α->AV}(l:List α)(lo hi st:Option Int):qdw (l.map f) lo hi st=(pickL l lo hi st).map f:=by
  unfold qdw pickL;rw[List.length_map,List.map_filterMap];congr 1
  funext i
  rw[List.getElem?_map]
theorem qhk (l:List α)(a:Nat):∀n:Nat,((List.range n).map fun k=>a+k).filterMap (fun i=>l[i]?)=(l.drop a).take n
  | 0=>by rfl
  | n+1=>by
    rw[List.range_succ,List.map_append,List.filterMap_append,qhk l a n,List.take_add_one,List.getElem?_drop];cases e:l[a+n]? <;> simp[e]
theorem qdy (a b:Nat):sliceRange (a:Int) (b:Int) 1=(List.range (b - a)).map fun k=>a+k:=by
  unfold sliceRange;have:(if (1:Int) > 0 then if (a:Int)<(b:Int) then ((b:Int) - a+1 - 1) / 1 else 0 else if (a:Int) > b then ((a:Int) - b - 1 - 1) / (-1) else 0).toNat=b - a:=by
    rw[if_pos (by decide)];split <;> simp_all
  rw[show (List.map (fun (k:Nat)=>((a:Int)+1*(k:Int)).toNat) (List.range _))=_ from rfl];show List.map _ (List.range (Int.toNat (if (1:Int) > 0 then _ else _)))=_;rw[this];refine List.map_congr_left fun k _=>?_
  lia
theorem qe9 (l:List α)(j:Nat):pickL l (some (j:Int)) none none=l.drop j:=by
  unfold pickL;have e:sliceBounds (some (j:Int)) none none l.length=(((min j l.length:Nat):Int),(l.length:Int),1):=by
    simp[sliceBounds];grind
  rw[e];show (sliceRange ((min j l.length:Nat):Int) ((l.length:Nat):Int) 1).filterMap _=_;rw[qdy,qhk];by_cases h:j<=l.length
  . rw[Nat.min_eq_left h,List.take_of_length_le (by simp)]
  . rw[Nat.min_eq_right (by lia),Nat.sub_self,List.take_zero,List.drop_eq_nil_of_le (by lia)]
theorem qfy (l:List α)(j:Nat):pickL l none (some (j:Int)) none=l.take j:=by
  unfold pickL;have e:sliceBounds none (some (j:Int)) none l.length=(((0:Nat):Int),((min j l.length:Nat):Int),1):=by
    simp[sliceBounds];grind
  rw[e];show (sliceRange ((0:Nat):Int) ((min j l.length:Nat):Int) 1).filterMap _=_;rw[qdy,qhk];rw[List.drop_zero,Nat.sub_zero];by_cases h:j<=l.length
  . rw[Nat.min_eq_left h]
  . rw[Nat.min_eq_right (by lia),List.take_length,List.take_of_length_le (by lia)]
theorem qtz {x:Int}(hx:x=(j:Nat))(hj:j<n):seqIndex? x n=some j:=by
  subst hx;unfold seqIndex?;rw[if_neg (Int.not_lt.mpr (Int.natCast_nonneg j))];exact if_pos (Bool.and_eq_true_iff.mpr ⟨decide_eq_true (Int.natCast_nonneg j),decide_eq_true (Int.ofNat_lt.mpr hj)⟩)
theorem qty {x:Int}(hx:x=(j:Int) - (n:Int))(hj:j<n):seqIndex? x n=some j:=by
  subst hx;unfold seqIndex?;simp;rw[if_pos (by lia)];simp;assumption
theorem qb4 {x:Int}{l:List α}{v:α}(hx:x=(j:Nat))(hv:l[j]?=some v):∃j,seqIndex? x l.length=some j/\l[j]?=some v:=⟨j,qtz hx (List.getElem?_eq_some_iff.mp hv).1,hv⟩
theorem qu0 {x:Int}{l:List α}{v:α}(hv:l[j]?=some v)(hx:x=(j:Int) - (l.length:Int)):∃j,seqIndex? x l.length=some j/\l[j]?=some v:=⟨j,qty hx (List.getElem?_eq_some_iff.mp hv).1,hv⟩
end
section
section
mutual
theorem qdp (hb:∀a n,g a=.loc n->n<b):(v:AV)->∀{u:Value},plain v=true->RV W g h v u->qbf b v=true
  | .loc n,u,_,r=>by
    refine qa4 (r) ?_;intro a _ ha;show decide (n<b)=true;exact decide_eq_true (hb a n ha)
  | .tup l,u,hp,r=>by
    refine qa2 (r) ?_;(try clear r);intro a vs n _ _ _ r;exact qbd hb l hp r
  | .lst l,u,hp,r=>by
    refine qa2 (r) ?_;(try clear r);intro a vs n _ _ _ r;exact qbd hb l hp r
  | .bound f s,u,hp,r=>by
    refine qb0 (r) ?_;(try clear r);intro a sv _ _ _ r;exact qdp hb s hp r
  | .clo ..,_,hp,_=>by cases (hp:false=true)
  | .none,_,_,_=>rfl
  | .bool _,_,_,_=>rfl
  | .int _,_,_,_=>rfl
  | .str _,_,_,_=>rfl
  | .glob _,_,_,_=>rfl
  | .any,_,_,_=>rfl
termination_by structural x=>x
theorem qbd (hb:∀a n,g a=.loc n->n<b):(l:List AV)->∀{us:List Value},plains l=true->RVs W g h l us->qae b l=true
  | [],_,_,_=>rfl
  | a::l,us,hp,r=>by
    refine qa3 (r) ?_;intro v r' _ h1 h2;have hp':(plain a&&plains l)=true:=hp;rw[Bool.and_eq_true] at hp';show (qbf b a&&qae b l)=true;rw[qdp hb a hp'.1 h1,qbd hb l hp'.2 h2];rfl
termination_by structural x=>x
end
theorem Rep.cl (R:Rep W fr g σ s):Cl σ:=fun ao hao=>by
  obtain ⟨n,hn⟩:=List.mem_iff_getElem?.mp hao;refine qa4 (R.locs n ao hn) ?_;intro a ha ro;have hp:=R.pl n ao hn;have hb:=R.bnd;cases ao with
  | lst l=>refine qcw (ro) ?_;intro vs k _ r;exact qbd (fun a n q=>hb a n (.inl q)) l hp r
  | dstr ks l=>refine qal (ro) ?_;intro vs _ _ r;exact qbd (fun a n q=>hb a n (.inl q)) l hp r
  | dint ks l=>refine qal (ro) ?_;intro vs _ _ r;exact qbd (fun a n q=>hb a n (.inl q)) l hp r
  | fn0=>rfl
  | elem as l=>refine qaj (ro) ?_;intro fd d mh vs _ _ _ r _;exact qbd (fun a n q=>hb a n (.inl q)) l hp r
  | iter l=>refine qcv (ro) ?_;intro la i vs k _ _ _ r;exact qbd (fun a n q=>hb a n (.inl q)) l hp r
  | iterDone=>rfl
end
noncomputable def NoK:Value->Prop:=fun _=>True
def qgm (W:Wd) (cd:Value):Prop:=∃c P,∀Y nm,LamIn ⟨W,Y,nm,cd⟩ c P
def FnB (W:Wd) (K:Value->Prop) (nm:List (Str×NameKind)) (body:List Stmt) (a:Addr) (args:List AV) (kn:List Str) (kv:List AV) (m1:List (Option AV)):Prop:=
  ∃fd xs vs,(∀Y,qr4 ⟨W,Y,nm,fd.code⟩ a fd body)/\K fd.code/\qd1 W fd args kn kv xs vs/\Binds nm xs vs (List.replicate nm.length none) m1
def FnX (W:Wd) (nm:List (Str×NameKind)) (body:List Stmt) (a:Addr) (args:List AV) (kn:List Str) (kv:List AV) (m1:Nat->List (Option AV)):Prop:=
  ∃fd xs vs,(∀Y,qr4 ⟨W,Y,nm,fd.code⟩ a fd body)/\BindX W fd args kn kv xs vs/\∀n,Binds nm xs (vs++[.loc n]) (List.replicate nm.length none) (m1 n)
section
variable {K:Value->Prop}
theorem FnB.calls (B:FnB W K nm body a args kn kv m1)(kp:Nat)(hbody:∀cd env,K cd->ExsF ⟨W,fun n=>Y n\/σ.length<=n,nm,cd⟩ k env fr m1 σ body fl m' z'')(hkp:σ.length<=kp)(hkp2:kp<=z''.length)(hvs:Cl σ->(plains args=true->qae σ.length args=true)->Cl z''->(plain (qes fl)=true->qbf z''.length (qes fl)=true)->v=frz kp z'' (qes fl)/\z'=(z''.take kp).map (qlr kp z'')):Calls W Y (k+1) fr σ (.glob (.ref a)) args kn kv v z':=fun A g s vf us ks rm R rf ru rk Q E hQ=>by
  refine qa2 (B) ?_;(try clear B);intro fd xs vs Fn hK hb B;have Fn:=Fn (fun n=>Y n\/σ.length<=n);have hbd:=fun env=>hbody fd.code env hK
  clear hbody;have clz:Cl σ:=R.cl;have cla:plains args=true->qae σ.length args=true:=fun hp=>qbd (fun a n q=>R.bnd a n (.inl q)) args hp ru
  obtain rfl:vf=.ref a:=rf;refine qa4 (Fn.get) ?_;intro o ho hd;refine qaj (Fn.code) ?_;intro c oc cvs tq h1 h2 h3 h4 h5;refine qa4 (hb fr g σ s us ks R ru rk) ?_;intro ws hbt hws;refine wpAny_call (codeAny_call_function rm.dep (R.base a o ho Fn.nt) hd Fn.co Fn.gen Fn.body ⟨c,oc,cvs,tq,h1,R.base c oc h2 h3,h4,h5⟩ (hbt _ _ _ _ ?_));rw[Fn.glob,Fn.clo,Fn.blt];refine qcx (C:=⟨W,fun n=>Y n\/σ.length<=n,nm,fd.code⟩) (m0:=List.replicate nm.length none) Fn.nm Fn.nd Fn.kind Fn.lk (by exact Fn.cd) (fun o h=>by cases h) R (fun i x kd hi=>⟨fun hk=>by subst hk;exact absurd hi (Fn.nofree i x),fun _ av q=>by
    rw[List.getElem?_replicate] at q;split at q <;> cases q⟩) (.inr fun i av q=>by rw[List.getElem?_replicate] at q;split at q <;> cases q) B hws (by simp) fun env g1 s1a R1 e1a F1 hsc hL hcl hown hfr _ hRc=>?_
  refine ⟨R1.nolim,codeAny_func ?_⟩;refine hbd env _ g1 s1a rm.deeper (hRc rfl) F1 _ _ fun f' g2 s2 R2 e2a F2 hf=>?_
  have hfresh:∀a o,s.heap.get? a=some o->FX nm env a->noX a:=fun a o ho ha=>by
    rcases ha with rfl | ⟨i,x,hi,hcx⟩
    . rw[hL] at ho;cases ho
    . rw[hown i x a hi hcx] at ho;cases ho
  have e12:Evo W noX (fun n=>Y n\/σ.length<=n) g s.heap g2 s2.heap:=(e1a.no.toX.trans e2a).weak R.low hfresh fun _ q=>q
  have R3:=(R2.fewer (fr':=fr) fun e he=>List.mem_cons_of_mem _ he).exitF kp hkp2;have e13:Evo W noX Y g s.heap (gx kp g2 s2.heap) s2.heap:=(e12.exit (b:=σ.length) (fun a n q=>R.bnd a n q) hkp).wkB R fun n hn q=>q.resolve_right (by simp_all)
  refine And.elim ?_ (hvs clz cla R2.cl (fun hp=>qdp (fun a n q=>R2.bnd a n (.inl q)) _ hp (qih hf)));intro hv hs;subst hv hs;exact hQ (quj f') _ s2 R3 e13 (RV.exit R2 _ _ (qih hf))
theorem Cl.app (h:Cl σ):((σ++τ).take σ.length).map (qlr σ.length (σ++τ))=σ:=(qs2 h).symm
theorem Cl.all (h:Cl σ):(σ.take σ.length).map (qlr σ.length σ)=σ:=by
  have:=h.app (τ:=[]);rwa[List.append_nil] at this
theorem Iax (B:FnB W K nm body a args kn kv m1)(hbody:∀cd env,K cd->ExsF ⟨W,fun n=>Y n\/σ.length<=n,nm,cd⟩ k env fr m1 σ body fl m' σ)(hv:v=qes fl)(hp:plain (qes fl)=true):Calls W Y (k+1) fr σ (.glob (.ref a)) args kn kv v σ:=
  B.calls σ.length hbody (Nat.le_refl _) (Nat.le_refl _) fun c1 _ _ c2=>⟨by rw[qby _ (c2 hp)];exact hv,c1.all.symm⟩
theorem Ibu (B:FnB W K nm body a args kn kv m1)(hbody:∀cd env,K cd->ExsF ⟨W,fun n=>Y n\/σ.length<=n,nm,cd⟩ k env fr m1 σ body fl m' (σ++τ))(hv:Cl σ->(plains args=true->qae σ.length args=true)->v=frz σ.length (σ++τ) (qes fl)):Calls W Y (k+1) fr σ (.glob (.ref a)) args kn kv v σ:=
  B.calls σ.length hbody (Nat.le_refl _) (by simp) fun c1 c2 _ _=>⟨hv c1 c2,c1.app.symm⟩
theorem Ibd (B:FnB W K nm body a args kn kv m1)(hbody:∀cd env,K cd->ExsF ⟨W,fun n=>Y n\/σ.length<=n,nm,cd⟩ k env fr m1 σ body fl m' z'')(hl:σ.length<=z''.length)(hv:v=qes fl)(hp:plain (qes fl)=true):Calls W Y (k+1) fr σ (.glob (.ref a)) args kn kv v z'':=
  B.calls z''.length hbody hl (Nat.le_refl _) fun _ _ c1 c2=>⟨by rw[qby _ (c2 hp)];exact hv,c1.all.symm⟩
theorem qkq (hl:σ.length=b)(h:∀ao∈σ,qdq b ao=true):((σ++τ).take b).map (qlr b (σ++τ))=σ:=by
  subst hl;exact Cl.app (σ:=σ) h
theorem Ibc (B:FnB W K nm body a args kn kv m1)(hbody:∀cd env,K cd->ExsF ⟨W,fun n=>Y n\/σ.length<=n,nm,cd⟩ k env fr m1 σ body fl m' (z2++τ))(hl:z2.length=σ.length)(hc:Cl σ->(plains args=true->qae σ.length args=true)->v=frz σ.length (z2++τ) (qes fl)/\∀ao∈z2,qdq σ.length ao=true):Calls W Y (k+1) fr σ (.glob (.ref a)) args kn kv v z2:=
  B.calls σ.length hbody (Nat.le_refl _) (by simp[hl]) fun c1 c2 _ _=>⟨(hc c1 c2).1,(qkq hl (hc c1 c2).2).symm⟩
theorem FnB.callsR {X:String}{P:List Value->Prop}(B:FnB W K nm body a args kn kv m1)(hbody:∀cd env,K cd->ExsR ⟨W,fun n=>Y n\/σ.length<=n,nm,cd⟩ k (env::fr) m1 σ body mk X P m' z'):CallsR W Y (k+1) fr σ (.glob (.ref a)) args kn kv false X P z':=by
  refine qa2 (B) ?_;(try clear B);intro fd xs vs Fn hK hb B;exact Id9 (Fn (fun n=>Y n\/σ.length<=n)) hb B (fun env=>hbody fd.code env hK) fun n hn q=>q.resolve_right (by simp_all)
theorem FnX.calls {m1':Nat->List (Option AV)}(B:FnX W nm body a args kn kv m1')(hbody:∀cd env,Exs ⟨W,fun n=>Y n\/σ.length<=n,nm,cd⟩ k (env::fr) (m1' σ.length) (σ++[.dstr kn kv]) body fl m' z'')(hl:σ.length<=z''.length)(hv:v=qes fl)(hp:plain (qes fl)=true):Calls W Y (k+1) fr σ (.glob (.ref a)) args kn kv v z'':=fun A g s vf us ks rm R rf ru rk Q E hQ=>by
  refine qav (B) ?_;(try clear B);intro fd xs vs Fn hb B;have Fn:=Fn (fun n=>Y n\/σ.length<=n);have B:=B σ.length;have hbd:=hbody fd.code;clear hbody;obtain rfl:vf=.ref a:=rf;refine qa4 (Fn.get) ?_;intro o ho hd;refine qaj (Fn.code) ?_;intro c oc cvs tq h1 h2 h3 h4 h5;refine wpAny_call (codeAny_call_function rm.dep (R.base a o ho Fn.nt) hd Fn.co Fn.gen Fn.body ⟨c,oc,cvs,tq,h1,R.base c oc h2 h3,h4,h5⟩ (hb _ fr g σ s us ks R ru rk _ _ fun ws g0 s0 R0 e0 hws=>?_));rw[Fn.glob,Fn.clo,Fn.blt];refine qcx (C:=⟨W,fun n=>Y n\/σ.length<=n,nm,fd.code⟩) (m0:=List.replicate nm.length none) Fn.nm Fn.nd Fn.kind Fn.lk (by exact Fn.cd) (fun o h=>by cases h) R0 (fun i x kd hi=>⟨fun hk=>by subst hk;exact absurd hi (Fn.nofree i x),fun _ av q=>by
    rw[List.getElem?_replicate] at q;split at q <;> cases q⟩) (.inr fun i av q=>by rw[List.getElem?_replicate] at q;split at q <;> cases q) B hws (by simp) fun env g1 s1a R1 e1a F1 hsc hL hcl hown hfr _ hRc=>?_
  refine ⟨R1.nolim,codeAny_func ?_⟩;refine hbd env _ env g1 s1a rm.deeper (hRc rfl) F1 _ _ fun f' g2 s2 R2 e2a F2 hf=>?_
  have hfresh:∀a o,s0.heap.get? a=some o->FX nm env a->noX a:=fun a o ho ha=>by
    rcases ha with rfl | ⟨i,x,hi,hcx⟩
    . rw[hL] at ho;cases ho
    . rw[hown i x a hi hcx] at ho;cases ho
  have e12:Evo W noX (fun n=>Y n\/σ.length<=n) g s.heap g2 s2.heap:=e0.no.trans ((e1a.no.toX.trans e2a).weak R0.low hfresh fun _ q=>q);have R3:=(R2.fewer (fr':=fr) fun e he=>List.mem_cons_of_mem _ he).exitF z''.length (Nat.le_refl _);have e13:Evo W noX Y g s.heap (gx z''.length g2 s2.heap) s2.heap:=(e12.exit (b:=σ.length) (fun a n q=>R.bnd a n q) hl).wkB R fun n hn q=>q.resolve_right (by simp_all)
  have cv:=qdp (fun a n q=>R2.bnd a n (.inl q)) _ hp (qih hf);rw[R2.cl.all] at R3;refine hQ (quj f') _ s2 R3 e13 ?_;have r3:=RV.exit (k:=z''.length) R2 _ _ (qih hf);rw[qby _ cv] at r3;rw[hv];exact r3
theorem Iaz {l:Lam}{ns:List Str}{caps:List AV}{m0:List (Option AV)}(I:CloIn l ns caps m0)(hb:∀(fd:FuncData),fd.params=l.params->fd.defaults=.none->fd.kwdefaults=.none->∀us,us.length=args.length->bindArgs fd ⟨us,[]⟩=pure (xs.zip us))(B:Binds l.scope.names xs args m0 m1)(hbody:∀cd env,Ev ⟨W,fun n=>Y n\/σ.length<=n,l.scope.names,cd⟩ k (env::fr) m1 σ l.body v z'')(hl:σ.length<=z''.length)(hp:plain v=true):
    Calls W Y (k+1) fr σ (.clo l ns caps) args [] [] v z'':=fun A g s vf us ks rm R rf ru rk Q E hQ=>by
  refine qec (rf) ?_;intro a fd cvs eq_21_3 hg hcl hcr hcc;subst eq_21_3;obtain rfl:ks=[]:=rk;refine qeb (hcl.code) ?_;intro cc oc vs' q t hcd hco1 hco2 hco3 hco4 hco5 hco6;have hlen:us.length=args.length:=ru.length;refine wpAny_call (qqj rm.dep hcl.get rfl (by rw[hcl.scope];exact I.co) (by rw[hcl.scope];exact I.gen) hcl.body ⟨cc,oc,vs',t,hcd,hco3,hco5,hco6⟩ ?_);show wpAny _ _ (bindArgs fd ⟨us,[]⟩) _ _ _;rw[hb fd hcl.params hcl.dflt hcl.kwd us hlen];refine wpAny_pure ?_;rw[hcl.scope,hcl.glob,hcl.blt];refine qcx (C:=⟨W,fun n=>Y n\/σ.length<=n,l.scope.names,fd.code⟩) (m0:=m0) rfl I.nd I.kind (qcf I.nd) rfl (fun o h=>by cases h) R (fun i x kd hi=>⟨fun hk=>?_,fun hk=>I.rest i x kd hi hk⟩) I.pl B ru I.len fun env g1 s1a R1 e1a F1 hsc hL hcells hown hfr _ hRc=>?_
  . subst hk;refine qa4 (I.free i x hi) ?_;intro j h1 h2;refine qat (hcc j x h1) ?_;intro c u h3 h4 h5 h6 h7;refine ⟨c,some u,h3,h7,h6,.inr h4,fun av q=>⟨u,rfl,?_⟩⟩;refine qa4 (hcr.getA (h2 av q)) ?_;intro u' hu' ru';rw[h5] at hu';obtain rfl:=Sj hu';exact ru'
  . refine ⟨R1.nolim,kla_codeExpr ?_⟩;have R1':=hRc rfl;refine hbody fd.code env _ env g1 s1a rm.deeper R1' F1 _ _ fun v' g2 s2 R2 e2a rv=>?_
    have hfresh:∀a o,s.heap.get? a=some o->FX l.scope.names env a->noX a:=fun a o ho ha=>by
      rcases ha with rfl | ⟨i,x,hi,hcx⟩
      . rw[hL] at ho;cases ho
      . rw[hown i x a hi hcx] at ho;cases ho
    have e12:Evo W noX (fun n=>Y n\/σ.length<=n) g s.heap g2 s2.heap:=e1a.no.trans e2a;have R3:=(R2.fewer (fr':=fr) fun e he=>List.mem_cons_of_mem _ he).exitF z''.length (Nat.le_refl _);have e13:Evo W noX Y g s.heap (gx z''.length g2 s2.heap) s2.heap:=(e12.exit (b:=σ.length) (fun a n q=>R.bnd a n q) hl).wkB R fun n hn q=>q.resolve_right (by simp_all)
    have cv:=qdp (fun a n q=>R2.bnd a n (.inl q)) _ hp rv;rw[R2.cl.all] at R3;refine hQ v' _ s2 R3 e13 ?_;have r3:=RV.exit (k:=z''.length) R2 _ _ rv;rw[qby _ cv] at r3;exact r3
end
end
section
noncomputable def nth (l:List Stmt) (i:Nat):Stmt:=l.getD i (.Break ⟨0,0,0,0⟩)
noncomputable def qiq (l:List Expr) (i:Nat):Expr:=l.getD i (.Constant .none 0 ⟨0,0,0,0⟩)
noncomputable def stS:Stmt->(List Stmt×List Stmt)×Expr×Expr×Expr
  | .If t b e _=>((b,e),t,qiq [] 0,qiq [] 0)
  | .While t b e _=>((b,e),t,qiq [] 0,qiq [] 0)
  | .For t e b l _=>((b,l),qiq [] 0,t,e)
  | .Try b _ _ _ _=>((b,[]),qiq [] 0,qiq [] 0,qiq [] 0)
  | .Assign ts e _=>(([],[]),qiq [] 0,qiq ts 0,e)
  | .Return (some e) _=>(([],[]),qiq [] 0,qiq [] 0,e)
  | .Expr e _=>(([],[]),qiq [] 0,qiq [] 0,e)
  | _=>(([],[]),qiq [] 0,qiq [] 0,qiq [] 0)
noncomputable def qbo (s:Stmt):List Stmt:=(stS s).1.1
noncomputable def qp2 (s:Stmt):List Stmt:=(stS s).1.2
noncomputable def qn5 (s:Stmt):Expr:=(stS s).2.1
noncomputable def qcc (s:Stmt):Expr:=(stS s).2.2.1
noncomputable def qdd (s:Stmt):Expr:=(stS s).2.2.2
theorem WhileC.pre (h:WhileC C k fr test body orelse m σ fl m' z')(w:Weak m2 m):WhileC C k fr test body orelse m2 σ fl m' z':=fun A env g s rm R F Rr hR=>h A env g s rm R (F.weak w) Rr hR
theorem WhileC.post (h:WhileC C k fr test body orelse m σ fl m2 z')(w:Weak m2 m'):WhileC C k fr test body orelse m σ fl m' z':=fun A env g s rm R F Rr hR=>h A env g s rm R F Rr fun f' g' s' R' e' F' hf=>hR f' g' s' R' e' (F'.weak w) hf
theorem Iad (h:Exs C k fr m σ sts fl m2 z'):Exs C k fr m σ sts fl [] z':=h.post fun i av q=>by simp at q
theorem Idw (h:ExsF C k env fr m σ sts fl m2 z'):ExsF C k env fr m σ sts fl [] z':=fun A g s rm R F Q E hQ=>h A g s rm R F Q E fun f' g' s' R' e' F' hf=>hQ f' g' s' R' e' (F'.weak fun i av q=>by simp at q) hf
theorem ExsR.post {X:String}{P:List Value->Prop}(h:ExsR C k fr m σ sts mk X P m2 z')(w:Weak m2 m'):ExsR C k fr m σ sts mk X P m' z':=fun A env outer g s hfr rm R F Q E hE=>h A env outer g s hfr rm R F Q E fun e g' h0a us s' hp e1a F1 y=>hE e g' h0a us s' hp e1a (F1.weak w) y
def KeyFn {S:Type} (W:Wd) (d:Nat) (Yk:Nat->Prop) (sg:S->List AObj) (P:S->Prop) (key v:AV) (n:Int):Prop:=
  ∀s,P s->∃s',P s'/\∀(k:Nat) (fr:List Env) (Y:Nat->Prop),(∀n,Yk n->Y n)->Calls W Y (k+d) fr (sg s) key [v] [] [] (.int n) (sg s')
structure qmw {S:Type} (W:Wd) (d:Nat) (Yk:Nat->Prop) (sg:S->List AObj) (P:S->Prop) (key a:AV) (l:List AV) (κ:Nat->Int):Prop where
  kept:Kept W key
  nn:isNone key=some false
  lv:∀s,P s->Lv (sg s) a l
  at_:∀j v,l[j]?=some v->KeyFn W d Yk sg P key v (κ j)
theorem Ibk {n:Int}(h:∀k fr Y,Calls W Y (k+d) fr σ key [v] [] [] (.int n) σ):KeyFn W d (fun _=>False) (fun _:Unit=>σ) (fun _=>True) key v n:=fun s hs=>⟨s,hs,fun k fr Y _=>h k fr Y⟩
theorem FnB.kept {K:Value->Prop}(B:FnB W K nm body a args kn kv m1):Kept W (.glob (.ref a)):=by
  refine qbu (B) ?_;intro fd xs vs Fn _;exact Icy (Fn noY)
theorem FnX.kept {m1:Nat->List (Option AV)}(B:FnX W nm body a args kn kv m1):Kept W (.glob (.ref a)):=by
  refine qbu (B) ?_;intro fd xs vs Fn _;exact Icy (Fn noY)
section
variable {a:AV}
theorem Ic7 (hL:Lv σ a l):MethOk W fr σ a "insert" (.glob (.builtin "list.insert")) [a]:=MethOk.list hL PySem.F.slot_list_insert
theorem Meth.append (hL:Lv σ a l):MethOk W fr σ a "append" (.glob (.builtin "list.append")) [a]:=MethOk.list hL PySem.F.slot_list_append
theorem Idn (hL:Lv σ a l):MethOk W fr σ a "index" (.glob (.builtin "list.index")) [a]:=MethOk.list hL PySem.F.slot_list_index
theorem Meth.count (hL:Lv σ a l):MethOk W fr σ a "count" (.glob (.builtin "list.count")) [a]:=MethOk.list hL PySem.F.slot_list_count
theorem Meth.join:MethOk W fr σ (.str x) "join" (.glob (.builtin "str.join")) [.str x]:=MethOk.str PySem.F.slot_str_join (by first | rfl | decide +kernel | kernel_rfl)
theorem Idm:MethOk W fr σ (.str x) "split" (.glob (.builtin "str.split")) [.str x]:=MethOk.str PySem.F.slot_str_split (by first | rfl | decide +kernel | kernel_rfl)
end
theorem qe7 (h:∀v∈l,qbf b v=true):qae b l=true:=by
  induction l with
  | nil=>rfl
  | cons a l ih=>
    show (qbf b a&&qae b l)=true;rw[h a List.mem_cons_self,ih fun v hv=>h v (List.mem_cons_of_mem _ hv)];rfl
theorem qd6 (h:qae b l=true):∀v∈l,qbf b v=true:=by
  induction l with
  | nil=>intro v hv;cases hv
  | cons a l ih=>
    have h':(qbf b a&&qae b l)=true:=h;rw[Bool.and_eq_true] at h';intro v hv;rcases List.mem_cons.mp hv with rfl | hv
    . exact h'.1
    . exact ih h'.2 v hv
theorem qtf {lo:Nat}:AV.int (((lo:Int)+(hi:Int)).fdiv 2)=.int (((lo+hi) / 2:Nat):Int):=by
  rw[Int.fdiv_eq_ediv_of_nonneg _ (by simp +arith)];congr 1
end
section
section
theorem Tv.int {i:Int}:Tv W Y k fr σ (.int i) (i != 0):=fun A g s va rm R ra Q E hQ=>by
  obtain ⟨t,rfl⟩:=ra;exact truthy_int (hQ g s R Evo.refl)
end
theorem qpe {v c:Int}(hv:0<=v)(h0:0<=c)(h1:c<64):Builtin.bitOr (v*64) c=v*64+c:=by
  rw[bitOr_and];have:Builtin.bitAnd (v*64) c=0:=by
    refine Exists.elim (Int.eq_ofNat_of_zero_le hv) ?_;intro n eq_0_1;subst eq_0_1;refine Exists.elim (Int.eq_ofNat_of_zero_le h0) ?_;intro m eq_1_1;subst eq_1_1;have e:Builtin.bitAnd ((n:Int)*64) (m:Int)=(((n*2 ^ 6) &&& m:Nat):Int):=by
      rw[bitAnd_pp (by simp +arith) (by assumption)];have:((n:Int)*64).toNat=n*2 ^ 6:=by lia
      rw[this];rfl
    rw[e];have:(n*2 ^ 6) &&& m=0:=by
      apply Nat.eq_of_testBit_eq;intro i;rw[Nat.testBit_and,Nat.testBit_mul_two_pow,Nat.zero_testBit];by_cases hi:6<=i
      . have:m.testBit i=false:=Nat.testBit_lt_two_pow (Nat.lt_of_lt_of_le (by lia:m<2 ^ 6) (Nat.pow_le_pow_right (by decide) hi));rw[this,Bool.and_false]
      . simp[hi]
    rw[this];rfl
  simp_all
noncomputable def ql9:Int->Int->List Int->Option (Int×List Int)
  | val,b,rest=>if b / 64 % 2=0 then some (val,rest) else match rest with
    | []=>none
    | b'::r=>if 0<=val/\val<2 ^ 50 then ql9 (val*64+b' % 64) b' r else none
noncomputable def pv:List Int->Option (Int×List Int)
  | []=>none
  | b::r=>ql9 (b % 64) b r
noncomputable def qcs (n w:Int):List Int:=(([5,4,3,2,1]:List Int).filter (fun k=>w==1||decide (64 ^ k.toNat<=n))).map (fun k=>(n.fdiv (64 ^ k.toNat)).fmod 64+64)++[n.fmod 64]
noncomputable def qmy (n w:Int):List Int:=match qcs n w with
  | []=>[]
  | h::t=>(h+128)::t
theorem qh7 {n w:Int}:(qcs n w).length<=6/\∃h t,qcs n w=h::t:=by
  constructor
  . unfold qcs;rw[List.length_append,List.length_map];have:=List.length_filter_le (fun k:Int=>w==1||decide (64 ^ k.toNat<=n)) [5,4,3,2,1];simp at this ⊢;omega
  . unfold qcs;cases List.map (fun k=>(n.fdiv (64 ^ k.toNat)).fmod 64+64) (List.filter (fun k:Int=>w==1||decide (64 ^ k.toNat<=n)) [5,4,3,2,1]) with
    | nil=>exact ⟨_,_,rfl⟩
    | cons a l=>exact ⟨_,_,rfl⟩
theorem qhi {val b:Int}{rest:List Int}(h:b / 64 % 2=0):ql9 val b rest=some (val,rest):=by cases rest <;> simp[ql9,h]
theorem qfs {val b b':Int}{rest:List Int}(h:b / 64 % 2≠0)(h2:0<=val/\val<2 ^ 50):ql9 val b (b'::rest)=ql9 (val*64+b' % 64) b' rest:=by
  rw[ql9,if_neg h];simp only[h2,and_self,if_true]
noncomputable def qn0 (n:Int):Nat->List Int
  | 0=>[n % 64]
  | k+1=>(n / 64 ^ (k+1) % 64+64)::qn0 n k
theorem qra (k:Nat):(0:Int)<64 ^ k:=Int.pow_pos (by decide)
theorem quk (y:Int):0<=y % 64/\y % 64<64:=⟨Int.emod_nonneg _ (by decide),Int.emod_lt_of_pos _ (by decide)⟩
theorem quu (y q:Int):(y % 64+q*64) / 64=q:=by rw[Int.add_mul_ediv_right _ _ (by decide),Int.ediv_eq_zero_of_lt (quk y).1 (quk y).2,Int.zero_add]
theorem qut (y q:Int):(y % 64+q*64) % 64=y % 64:=by rw[Int.add_mul_emod_self_right,Int.emod_emod]
theorem qvk (y:Int):(y % 64+64) / 64 % 2≠0:=by rw[show y % 64+64=y % 64+1*64 from rfl,quu];decide
theorem qvj (y:Int):y % 64 / 64 % 2=0:=by rw[Int.ediv_eq_zero_of_lt (quk y).1 (quk y).2];rfl
theorem qvi (y:Int):y / 64*64+y % 64 % 64=y:=by rw[Int.emod_emod,Int.ediv_mul_add_emod]
theorem qvh (y:Int):y / 64*64+(y % 64+64) % 64=y:=by rw[show y % 64+64=y % 64+1*64 from rfl,qut,Int.ediv_mul_add_emod]
theorem qij {n:Int}(h0:0<=n)(rest:List Int):∀(k:Nat) (val b:Int),b / 64 % 2≠0->val=n / 64 ^ (k+1)->n / 64<2 ^ 50->ql9 val b (qn0 n k++rest)=some (n,rest)
  | 0,val,b,hb,hv,h1=>by
    obtain rfl:val=n / 64:=hv;rw[qn0,List.cons_append,List.nil_append,qfs hb ⟨Int.ediv_nonneg h0 (by decide),h1⟩,qhi (qvj n),qvi]
  | k+1,val,b,hb,hv,h1=>by
    have hp:=qra (k+1);have hy0:0<=n / 64 ^ (k+1):=Int.ediv_nonneg h0 (Int.le_of_lt hp);obtain rfl:val=n / 64 ^ (k+1) / 64:=by rw[hv,Int.pow_succ,<- Int.ediv_ediv_of_nonneg (Int.le_of_lt hp)]
    rw[qn0,List.cons_append,qfs hb ⟨Int.ediv_nonneg hy0 (by decide),Int.lt_of_le_of_lt (Int.ediv_le_ediv (by decide) (Int.ediv_le_self _ h0)) h1⟩];exact qij h0 rest k _ _ (qvk _) (qvh _) h1
theorem qmn {n w:Int}(h0:0<=n)(h1:n<64 ^ 6):∃k:Nat,k<=5/\qcs n w=qn0 n k/\n<64 ^ (k+1):=by
  have fd:∀k:Nat,(n.fdiv (64 ^ k)).fmod 64=n / 64 ^ k % 64:=fun k=>by rw[Int.fdiv_eq_ediv_of_nonneg n (Int.le_of_lt (qra k)),Int.fmod_eq_emod_of_nonneg _ (by decide)]
  have f0:n.fmod 64=n % 64:=Int.fmod_eq_emod_of_nonneg _ (by decide);have key:∀(p:Nat->Bool) (k:Nat),(∀j,1<=j->j<=5->p j=decide (j<=k))->k<=5->((([5,4,3,2,1]:List Nat).filter p).map fun k=>(n.fdiv (64 ^ k)).fmod 64+64)++[n.fmod 64]=qn0 n k:=fun p k hp hk=>by
    rw[List.filter_congr (q:=fun j=>decide (j<=k)) fun j hj=>hp j (by revert j;decide) (by revert j;decide),f0];match k,hk with
    | 0,_=>rfl
    | 1,_=>simp only[qn0,<- fd];rfl
    | 2,_=>simp only[qn0,<- fd];rfl
    | 3,_=>simp only[qn0,<- fd];rfl
    | 4,_=>simp only[qn0,<- fd];rfl
    | 5,_=>simp only[qn0,<- fd];rfl
  have key2:∀k:Nat,k<=5->(∀j:Nat,1<=j->j<=5->(w==1||decide ((64:Int) ^ j<=n))=decide (j<=k))->qcs n w=qn0 n k:=fun k hk hp=>by
    unfold qcs;rw[show ([5,4,3,2,1]:List Int)=List.map (fun j:Nat=>(j:Int)) ([5,4,3,2,1]:List Nat) from rfl,List.filter_map,List.map_map];exact key (fun j=>w==1||decide ((64:Int) ^ j<=n)) k hp hk
  by_cases hw:(w==1)=true
  . exact ⟨5,Nat.le_refl _,key2 5 (Nat.le_refl _) fun j h1 h2=>by rw[hw,decide_eq_true h2];rfl,h1⟩
  . rw[Bool.not_eq_true] at hw;have mono:∀{i j:Nat},i<=j->(64:Int) ^ i<=64 ^ j:=fun h=>by exact_mod_cast Nat.pow_le_pow_right (by decide) h
    obtain ⟨k,hk,hb,hl⟩:∃k:Nat,k<=5/\n<64 ^ (k+1)/\∀j,1<=j->j<=k->(64:Int) ^ j<=n:=by
      have up:∀m:Nat,n<64 ^ (m+1)->∃k:Nat,k<=m/\n<64 ^ (k+1)/\∀j,1<=j->j<=k->(64:Int) ^ j<=n:=fun m=>by
        induction m with
        | zero=>exact fun h=>⟨0,Nat.le_refl _,h,fun j h1 h2=>absurd (Nat.le_trans h1 h2) (by decide)⟩
        | succ m ih=>
          intro h;by_cases g:(64:Int) ^ (m+1)<=n
          . exact ⟨m+1,Nat.le_refl _,h,fun j _ h2=>Int.le_trans (mono h2) g⟩
          . exact (ih (Int.not_le.mp g)).imp fun k q=>⟨Nat.le_succ_of_le q.1,q.2⟩
      exact up 5 h1
    refine ⟨k,hk,key2 k hk fun j h1 h2=>?_,hb⟩;rw[hw,Bool.false_or];by_cases g:j<=k
    . rw[decide_eq_true (hl j h1 g),decide_eq_true g]
    . rw[decide_eq_false g,decide_eq_false (Int.not_le.mpr (Int.lt_of_lt_of_le hb (mono (Nat.lt_of_not_le g))))]
theorem qvg (n:Int):(n % 64+128) / 64 % 2=0:=by rw[show n % 64+128=n % 64+2*64 from rfl,quu];rfl
theorem qvf (y:Int):(y % 64+64+128) / 64 % 2≠0:=by rw[Int.add_assoc,show y % 64+(64+128)=y % 64+3*64 from rfl,quu];decide
theorem qve (y:Int)(h0:0<=y)(h:y<64):(y % 64+64+128) % 64=y:=by rw[Int.add_assoc,show y % 64+(64+128)=y % 64+3*64 from rfl,qut,Int.emod_eq_of_lt h0 h]
theorem qvd (y:Int)(h0:0<=y)(h:y<64):(y % 64+128) % 64=y:=by rw[show y % 64+128=y % 64+2*64 from rfl,qut,Int.emod_eq_of_lt h0 h]
theorem qt2 {n w:Int}(h0:0<=n)(h1:n<64 ^ 6)(rest:List Int):pv (qmy n w++rest)=some (n,rest):=by
  obtain ⟨k,hk,he,hb⟩:=qmn (w:=w) h0 h1;unfold qmy;rw[he];cases k with
  | zero=>
    show ql9 ((n % 64+128) % 64) (n % 64+128) ([]++rest)=_;rw[qhi (qvg n),qvd n h0 hb];rfl
  | succ k=>
    have hp:=qra (k+1);have hy0:0<=n / 64 ^ (k+1):=Int.ediv_nonneg h0 (Int.le_of_lt hp);have hy1:n / 64 ^ (k+1)<64:=by
      apply Int.ediv_lt_of_lt_mul hp;rw[Int.mul_comm,<- Int.pow_succ];exact hb
    exact qij h0 rest k _ _ (qvf _) (qve _ hy0 hy1) (Int.lt_trans (Int.ediv_lt_of_lt_mul (by decide) (show n<64 ^ 5*64 from h1)) (by decide))
end
section
def D1 (d:Nat) (v:AV):Prop:=isD v=true/\(toP v).depth<=d
theorem D1s {f:α->AV}:∀{l:List α},(∀x∈l,D1 d (f x))->qix (l.map f)=true/\PyData.depthAll (qgn (l.map f))<=d
  | [],_=>⟨rfl,Nat.zero_le _⟩
  | a::l,h=>by
    refine And.elim ?_ (D1s (l:=l) fun x hx=>h x (List.mem_cons_of_mem _ hx));intro h1 h2;refine And.elim ?_ (h a List.mem_cons_self);intro h3 h4;constructor
    . show (isD (f a)&&qix (l.map f))=true;rw[h3,h1];rfl
    . show max (toP (f a)).depth (PyData.depthAll (qgn (l.map f)))<=d;lia
theorem D1.lst {f:α->AV}{l:List α}(h:∀x∈l,D1 d (f x)):D1 (d+1) (.lst (l.map f)):=by
  refine And.elim ?_ (D1s h);intro h1 h2;exact ⟨h1,by show PyData.depthAll (qgn (l.map f))+1<=d+1;simp_all⟩
theorem D1.tup {f:α->AV}{l:List α}(h:∀x∈l,D1 d (f x)):D1 (d+1) (.tup (l.map f)):=by
  refine And.elim ?_ (D1s h);intro h1 h2;exact ⟨h1,by show PyData.depthAll (qgn (l.map f))+1<=d+1;simp_all⟩
theorem D1.int {i:Int}:D1 d (.int i):=⟨rfl,Nat.zero_le _⟩
theorem D1.str (h:PyData.strOk x=true):D1 d (.str x):=⟨h,Nat.zero_le _⟩
theorem Ieg {a b:AV}(ha:D1 d a)(hb:D1 d b):D1 (d+1) (.tup [a,b]):=by
  have:=D1.tup (f:=id) (l:=[a,b]) (d:=d) fun x hx=>by
    simp at hx;rcases hx with rfl | rfl
    . exact ha
    . exact hb
  simpa using this
section
theorem Dv.of (h:D1 64 v):Dv σ v v:=⟨.inl rfl,h.1,h.2⟩
theorem Icq (hn:σ[n]?=some (.lst l))(h:D1 64 (.lst l)):Dv σ (.loc n) (.lst l):=⟨.inr ⟨n,l,rfl,hn,rfl⟩,h.1,h.2⟩
theorem D1.ints {l:List Int}:D1 64 (.lst (qa0 l)):=D1.lst (d:=63) fun _ _=>D1.int
theorem D1.nil:D1 64 (.lst []):=⟨rfl,by decide⟩
theorem Dv.ints {l:List Int}:Dv σ (.lst (qa0 l)) (.lst (qa0 l)):=Dv.of D1.ints
theorem Idq {l:List Int}(hn:σ[n]?=some (.lst (qa0 l))):Dv σ (.loc n) (.lst (qa0 l)):=Icq hn D1.ints
end
end
section
theorem qfm:typeLookup (.type "function") "tag"=pure none:=by kernel_rfl
theorem qb9:typeLookup (.type "function") "attrib"=pure none:=by kernel_rfl
theorem qfg:typeLookup (.type "function") "inner"=pure none:=by kernel_rfl
theorem qic:typeLookup (.type "function") "append"=pure none:=by kernel_rfl
theorem qdx:typeLookup (.type "function") "makeelement"=pure none:=by kernel_rfl
theorem qd2:typeLookup (.type "function") "place"=pure none:=by kernel_rfl
theorem ql2:typeLookup (.type "function") "above"=pure none:=by kernel_rfl
section
theorem Ibb (h:As C k fr m σ t v m' z')(e:z'=z''):As C k fr m σ t v m' z'':=e ▸ h
theorem Ibl (h:Ev C k fr m σ t v z')(e:z'=z'')(q:v=v'):Ev C k fr m σ t v' z'':=e ▸ q ▸ h
end
noncomputable def qe0 (l:List (Option Expr)):List Expr:=l.filterMap id
theorem Ibo {vs:List Expr}{va:List AV}(kk:List Str)(he:EvP C k fr m σ (qe0 keys) vs (kk.map .str) va z')(hp:plains va=true)(hnd:kk.Nodup)(hkeys:autoParam (keys=(qe0 keys).map some) ap0._auto_1)(hlen:autoParam ((qe0 keys).length=vs.length) ap0._auto_1)(h0:autoParam ((qe0 keys).isEmpty=false) ap0._auto_1)(h15:autoParam (Nat.ble (qe0 keys).length 15=true) ap0._auto_1):
    Ev C k fr m σ (.Dict keys vs p) (.loc z'.length) (z'++[.dstr kk va]):=Ev.dstr he hp hnd hkeys hlen (fun h=>by rw[h] at h0;cases h0) (Nat.le_of_ble_eq_true h15)
theorem Ie9 {vs:List Expr}{va:List AV}(kk:List Int)(he:EvP C k fr m σ (qe0 keys) vs (kk.map .int) va z')(hp:plains va=true)(hnd:kk.Nodup)(hkeys:autoParam (keys=(qe0 keys).map some) ap0._auto_1)(hlen:autoParam ((qe0 keys).length=vs.length) ap0._auto_1)(h0:autoParam ((qe0 keys).isEmpty=false) ap0._auto_1)(h15:autoParam (Nat.ble (qe0 keys).length 15=true) ap0._auto_1):
    Ev C k fr m σ (.Dict keys vs p) (.loc z'.length) (z'++[.dint kk va]):=Ev.dint he hp hnd hkeys hlen (fun h=>by rw[h] at h0;cases h0) (Nat.le_of_ble_eq_true h15)
theorem Id2 {i:Int}:Calls W Y k fr σ (.glob (.builtin "int.bit_length")) [.int i] [] [] (.int ((Builtin.Int.intBits i:Nat):Int)) σ:=fun A g s vf us ks rm R rf ru rk Q E hQ=>by
  obtain rfl:vf=.builtin "int.bit_length":=rf;refine qa3 (ru) ?_;intro u q eq_0_2 ne_0_3 q';subst eq_0_2;obtain ⟨t,rfl⟩:=ne_0_3;obtain rfl:q=[]:=q';exact call_int_bit_length (hQ _ g _ (R.tok _) Evo.refl ⟨_,rfl⟩)
noncomputable def qo4 (names:List (Str×NameKind)):Bool:=names.all fun p=>p.2 != .free
theorem qle (h:qo4 names=true):∀(i:Nat) (x:Str),names[i]?≠some (x,.free):=fun i x q=>by
  have:=List.all_eq_true.mp h _ (List.mem_of_getElem? q);cases this
theorem qbs {x:AObj}(h:σ[n]?=some x):σ.set n x=σ:=by
  apply List.ext_getElem?;intro i;rw[List.getElem?_set];split
  . rename_i hi;subst hi;refine Exists.elim (List.getElem?_eq_some_iff.mp h) ?_;intro hn _;rw[if_pos hn,h]
  . rfl
theorem qbi {x y:AObj}(h:σ[n]?=some x):(σ.set n y)[n]?=some y:=by
  refine Exists.elim (List.getElem?_eq_some_iff.mp h) ?_;intro hn _;rw[List.getElem?_set,if_pos rfl,if_pos hn]
theorem qan {m:Nat}{y:AObj}(h:n≠m):(σ.set n y)[m]?=σ[m]?:=by rw[List.getElem?_set,if_neg h]
theorem qdl {x:AObj}(h:σ[n]?=some x):n<σ.length:=(List.getElem?_eq_some_iff.mp h).1
theorem qac {x:AObj}(h:σ[n]?=some x):(σ++τ)[n]?=some x:=by
  rw[List.getElem?_append_left (qdl h)];exact h
theorem qbn (h:n=σ.length+j):(σ++τ)[n]?=τ[j]?:=by
  subst h;rw[List.getElem?_append_right (by simp +arith)];congr 1;simp
theorem set_app {x:AObj}(h:n<σ.length):(σ++τ).set n x=σ.set n x++τ:=List.set_append_left _ _ h
theorem qfq {x:AObj}(h:n=σ.length+j):(σ++τ).set n x=σ++τ.set j x:=by
  subst h;rw[List.set_append_right _ _ (by simp +arith)];congr 2;simp
end
section
noncomputable def qtx:Lam:=⟨{ posonlyargs:=[],args:=[],vararg:=none,kwonlyargs:=[],kw_defaults:=[],kwarg:=none,defaults:=[] },.Constant .none 0 ⟨0,0,0,0⟩,{ kind:=.function,names:=[],isGenerator:=false,isCoroutine:=false }⟩
noncomputable def exS (e:Expr):Lam×Expr×List Expr×List Expr×List Expr×List Expr:=match e with
  | .Lambda p b s _=>(⟨p,b,s⟩,e,[],[],[],[])
  | .ListComp x gs _ _=>(qtx,x,[],[],[],gs.map (·.iter))
  | .Call _ as kws _=>(qtx,e,kws.map (·.value),as,[],[])
  | .List es _=>(qtx,e,[],[],es,[])
  | .Tuple es _ _=>(qtx,e,[],[],es,[])
  | _=>(qtx,e,[],[],[],[])
noncomputable def qmi (e:Expr):Lam:=(exS e).1
theorem Iar (h:qo4 names=true):LamCap C m names [] []:=⟨fun i x hx=>absurd hx (qle h i x),fun i x hx=>by simp at hx,rfl⟩
noncomputable def qvl (e:Expr):Expr:=(exS e).2.1
noncomputable def kwE (e:Expr) (i:Nat):Expr:=(exS e).2.2.1.getD i e
theorem CloIn.of {l:Lam}{ns:List Str}{caps:List AV}(js:List (Option Nat))(hk:l.scope.kind=.function)(hc:l.scope.isCoroutine=false)(hg:l.scope.isGenerator=false)(h:qp7 (ns.map fun x=>(x,.cell)) l.scope.names js=true)(hn:ndB l.scope.names=true)(hpl:plains caps=true):CloIn l ns caps (qcz (caps.map some) js):=by
  refine And.elim ?_ (qi2 h);intro h1 h2;refine ⟨hk,hc,hg,qrf hn,by rw[qcz,List.length_map];exact h1,fun i x hi=>?_,fun i x k hi hkk av hav=>?_,.inr fun i av hav=>?_⟩
  . refine qee (h2 i x _ hi) ?_;intro _ h3 _;refine qa3 (h3 rfl) ?_;intro j kd' h4 h5 _;rw[List.getElem?_map] at h5;cases e:ns[j]? with
    | none=>rw[e] at h5;cases h5
    | some y=>
      rw[e] at h5;injection h5 with h5
      injection h5 with h5 _
      subst h5;refine ⟨j,e,fun av hav=>?_⟩;rw[qcz,List.getElem?_map,h4] at hav;simp only[Option.map_some,Option.bind_some] at hav;rw[List.getElem?_map] at hav;cases e2:caps[j]? with
      | none=>rw[e2] at hav;cases hav
      | some v=>rw[e2] at hav;injection hav
  . refine qee (h2 i x k hi) ?_;intro _ _ h3;rw[qcz,List.getElem?_map,h3 hkk] at hav;cases hav
  . rw[qcz,List.getElem?_map] at hav;cases e:js[i]? with
    | none=>rw[e] at hav;cases hav
    | some j=>
      rw[e] at hav;cases j with
      | none=>cases hav
      | some j=>
        simp only[Option.map_some,Option.bind_some] at hav;rw[List.getElem?_map] at hav;cases e2:caps[j]? with
        | none=>rw[e2] at hav;cases hav
        | some v=>
          rw[e2] at hav;injection hav with hav
          injection hav with hav
          subst hav;have:∀(l:List AV) (j:Nat),plains l=true->∀v,l[j]?=some v->plain v=true:=by
            intro l;induction l with
            | nil=>intro j _ v h;simp at h
            | cons a l ih=>
              intro j hp v h;have hp':(plain a&&plains l)=true:=hp;rw[Bool.and_eq_true] at hp';cases j with
              | zero=>simp at h;subst h;exact hp'.1
              | succ j=>exact ih j hp'.2 v (by simpa using h)
          exact this _ _ hpl _ e2
end
section
section
variable {X Z:Type} {t2 iter2:Expr}
theorem Icz {c:Expr}(hg:gens[0]?=some ⟨t,iter,[],0⟩)(hg2:gens[1]?=some ⟨t2,iter2,[c],0⟩)(xs:List X)(enc:X->AV)(ys:X->List Z)(enc2:X->Z->AV)(p:X->Z->Bool)(f:X->Z->AV)(M1:X->List (Option AV))(hA:∀x∈xs,As C k fr m σ t (enc x) (M1 x) σ)(ai2:X->AIt)(hI:∀x∈xs,ItE C k fr (M1 x) σ iter2 (ai2 x) σ)(M2:X->Z->List (Option AV))(hA2:∀x∈xs,∀y∈ys x,As C k fr (M1 x) σ t2 (enc2 x y) (M2 x y) σ)(hT:∀x∈xs,∀y∈ys x,Tr C k fr (M2 x y) σ c (p x y) σ)(hE:∀x∈xs,∀y∈ys x,p x y=true->Ev C k fr (M2 x y) σ elt (f x y) σ)(hw:∀x,Weak (M1 x) m)(hw2:∀x y,Weak (M2 x y) (M1 x))(hf:∀x y,plain (f x y)=true)(hx:ai.items=xs.map enc)(hy:∀x,x∈xs->(ai2 x).items=(ys x).map (enc2 x))(hl:gens[2]?=none)(hO:ai.Ok σ)(hO2:∀x,(ai2 x).Ok σ)(hp:ai.plain=true)(hp2:∀x,(ai2 x).plain=true)(ht:ai.pairs=true->∃elts n p,t=.Tuple elts n p)(ht2:∀x,(ai2 x).pairs=true->∃elts n p,t2=.Tuple elts n p)(hs:∀x env,foldedSetIterable iter2 env x=pure x)(hz:(xs.flatMap fun x=>ys x).length<=2 ^ 20):
    CompC C k fr elt gens scope pos 0 ai 0 m σ [] m σ (xs.flatMap fun x=>((ys x).filter (p x)).map (f x)):=by
  have hle:∀l:List X,(l.flatMap fun x=>((ys x).filter (p x)).map (f x)).length<=(l.flatMap fun x=>ys x).length:=by
    intro l;induction l with
    | nil=>simp
    | cons a l ih=>
      rw[List.flatMap_cons,List.flatMap_cons,List.length_append,List.length_append,List.length_map];have:=List.length_filter_le (p a) (ys a);lia
  have hin:∀x∈xs,∀acc:List AV,acc.length+(((ys x).filter (p x)).map (f x)).length<=sizeLine->CompC C k fr elt gens scope pos 1 (ai2 x) 0 (M1 x) σ acc (M1 x) σ (acc++((ys x).filter (p x)).map (f x)):=by
    intro x hx' acc ha;have h:=Iay (C:=C) (k:=k) (fr:=fr) (elt:=elt) (scope:=scope) (pos:=pos) (acc:=acc) (m:=M1 x) (d:=1) hg2 (hO2 x) (hp2 x) (ht2 x) (ys x) (enc2 x) (fun y=>if p x y=true then [f x y] else []) (hy x hx')
      (fun y acc hy' ha'=>⟨M2 x y,M2 x y,p x y,hA2 x hx' y hy',Tests.one (hT x hx' y hy'),?_,hw2 x y⟩) (by intro g' h;rw[hl] at h;cases h) (by rw[qcy];exact ha)
    . rw[qcy] at h;exact h
    . cases hpx:p x y with
      | true=>
        refine .inl ⟨rfl,?_⟩;rw[if_pos rfl];refine Iaw hl (hE x hx' y hy' hpx) (hf x y) ?_;lia
      | false=>exact .inr ⟨rfl,rfl,by rfl⟩
  have h:=Iay (C:=C) (k:=k) (fr:=fr) (elt:=elt) (scope:=scope) (pos:=pos) (acc:=[]) (m:=m) (d:=0) hg hO hp ht xs enc (fun x=>((ys x).filter (p x)).map (f x)) hx
    (fun x acc hx' ha=>⟨M1 x,M1 x,true,hA x hx',Tests.nil,.inl ⟨rfl,Icg hg2 (hI x hx') (hin x hx' acc ha) (hs)⟩,hw x⟩) (by intro g' h;rw[hg2] at h;obtain rfl:=Sj h;rfl) (by
      have:=hle xs;rw[List.length_nil,sizeLine_eq];lia)
  exact h
theorem Ids (hg:gens[0]?=some ⟨t,iter,[],0⟩)(hg2:gens[1]?=some ⟨t2,iter2,[],0⟩)(xs:List X)(enc:X->AV)(ys:X->List Z)(enc2:X->Z->AV)(f:X->Z->AV)(M1:X->List (Option AV))(hA:∀x∈xs,As C k fr m σ t (enc x) (M1 x) σ)(ai2:X->AIt)(hI:∀x∈xs,ItE C k fr (M1 x) σ iter2 (ai2 x) σ)(M2:X->Z->List (Option AV))(hA2:∀x∈xs,∀y∈ys x,As C k fr (M1 x) σ t2 (enc2 x y) (M2 x y) σ)(hE:∀x∈xs,∀y∈ys x,Ev C k fr (M2 x y) σ elt (f x y) σ)(hw:∀x,Weak (M1 x) m)(hw2:∀x y,Weak (M2 x y) (M1 x))(hf:∀x y,plain (f x y)=true)(hx:ai.items=xs.map enc)(hy:∀x,x∈xs->(ai2 x).items=(ys x).map (enc2 x))(hl:gens[2]?=none)(hO:ai.Ok σ)(hO2:∀x,(ai2 x).Ok σ)(hp:ai.plain=true)(hp2:∀x,(ai2 x).plain=true)(ht:ai.pairs=true->∃elts n p,t=.Tuple elts n p)(ht2:∀x,(ai2 x).pairs=true->∃elts n p,t2=.Tuple elts n p)(hs:∀x env,foldedSetIterable iter2 env x=pure x)(hz:(xs.flatMap fun x=>ys x).length<=2 ^ 20):
    CompC C k fr elt gens scope pos 0 ai 0 m σ [] m σ (xs.flatMap fun x=>(ys x).map (f x)):=by
  have hle:∀l:List X,(l.flatMap fun x=>(ys x).map (f x)).length<=(l.flatMap fun x=>ys x).length:=by
    intro l;induction l with
    | nil=>simp
    | cons a l ih=>
      rw[List.flatMap_cons,List.flatMap_cons,List.length_append,List.length_append,List.length_map];simp +arith
  have e:∀(x:X) (l:List Z),l.flatMap (fun y=>[f x y])=l.map (f x):=fun x l=>by
    induction l with
    | nil=>rfl
    | cons y l ih=>rw[List.flatMap_cons,ih];rfl
  have hin:∀x∈xs,∀acc:List AV,acc.length+((ys x).map (f x)).length<=sizeLine->CompC C k fr elt gens scope pos 1 (ai2 x) 0 (M1 x) σ acc (M1 x) σ (acc++(ys x).map (f x)):=by
    intro x hx' acc ha;have h:=Iay (C:=C) (k:=k) (fr:=fr) (elt:=elt) (scope:=scope) (pos:=pos) (acc:=acc) (m:=M1 x) (d:=1) hg2 (hO2 x) (hp2 x) (ht2 x) (ys x) (enc2 x) (fun y=>[f x y]) (hy x hx')
      (fun y acc hy' ha'=>⟨M2 x y,M2 x y,true,hA2 x hx' y hy',Tests.nil,.inl ⟨rfl,Iaw hl (hE x hx' y hy') (hf x y) (by simp at ha';lia)⟩,hw2 x y⟩) (by intro g' h;rw[hl] at h;cases h) (by rw[e];exact ha)
    rw[e] at h;exact h
  have h:=Iay (C:=C) (k:=k) (fr:=fr) (elt:=elt) (scope:=scope) (pos:=pos) (acc:=[]) (m:=m) (d:=0) hg hO hp ht xs enc (fun x=>(ys x).map (f x)) hx
    (fun x acc hx' ha=>⟨M1 x,M1 x,true,hA x hx',Tests.nil,.inl ⟨rfl,Icg hg2 (hI x hx') (hin x hx' acc ha) (hs)⟩,hw x⟩) (by intro g' h;rw[hg2] at h;obtain rfl:=Sj h;rfl) (by
      have:=hle xs;rw[List.length_nil,sizeLine_eq];lia)
  exact h
end
end
section
noncomputable def quw (outer names:List (Str×NameKind)):Bool:=names.all fun p=>p.2 != .free||(List.range outer.length).any fun j=>match outer[j]? with | some (y,kd)=>y==p.1&&kcl kd==1 | none=>false
noncomputable def qsh (outer names:List (Str×NameKind)):List Str->List (Nat×Nat)->Bool
  | [],[]=>true
  | x::ns,(l,j)::js=>(match names[l]? with | some (y,.free)=>y==x | _=>false)&&(match outer[j]? with | some (y,kd)=>y==x&&kcl kd==1 | none=>false)&&qsh outer names ns js
  | _,_=>false
theorem qoe {outer:List (Str×NameKind)}:∀{ns:List Str} {js:List (Nat×Nat)},qsh outer names ns js=true->js.length=ns.length/\∀(i:Nat) (x:Str),ns[i]?=some x->∃l j kd,js[i]?=some (l,j)/\names[l]?=some (x,.free)/\outer[j]?=some (x,kd)/\kcl kd=1
  | [],[],_=>⟨rfl,fun i x h=>by simp at h⟩
  | [],_::_,h=>by simp[qsh] at h
  | _::_,[],h=>by simp[qsh] at h
  | x::ns,(l,j)::js,h=>by
    simp only[qsh,Bool.and_eq_true] at h;obtain ⟨⟨h1,h2⟩,h3⟩:=h;obtain ⟨k1,k2⟩:=qoe h3;refine ⟨by simp[k1],fun i y hy=>?_⟩;cases i with
    | zero=>
      simp at hy;subst hy;refine ⟨l,j,?_⟩;cases e1:names[l]? with
      | none=>rw[e1] at h1;cases h1
      | some p=>
        rw[e1] at h1;obtain ⟨y,kd⟩:=p;cases kd <;> simp at h1
        subst h1;cases e2:outer[j]? with
        | none=>rw[e2] at h2;cases h2
        | some p=>
          rw[e2] at h2;obtain ⟨z,kd⟩:=p;simp at h2;obtain ⟨rfl,h2⟩:=h2;exact ⟨kd,rfl,rfl,rfl,h2⟩
    | succ i=>simp at hy;refine qbu (k2 i y hy) ?_;intro l' j' kd a b;exact ⟨l',j',kd,by simpa using a,b⟩
theorem LamCap.of {ns:List Str}{caps:List AV}(js:List (Nat×Nat))(h1:qsh C.nm names ns js=true)(h2:js.map (fun p=>(m[p.2]?).join)=caps.map some)(h3:quw C.nm names=true):LamCap C m names ns caps:=by
  refine And.elim ?_ (qoe h1);intro hl hat;refine ⟨fun i x hx=>?_,fun i x hx=>?_,?_⟩
  . have:=List.all_eq_true.mp h3 (x,.free) (List.mem_of_getElem? hx);simp only[Bool.or_eq_true,bne_self_eq_false,Bool.false_eq_true,false_or,List.any_eq_true] at this;refine qa4 (this) ?_;intro j _ hj;cases e:C.nm[j]? with
    | none=>rw[e] at hj;cases hj
    | some p=>
      rw[e] at hj;obtain ⟨y,kd⟩:=p;simp at hj;exact ⟨j,kd,by rw[e,hj.1],hj.2⟩
  . refine qa2 (hat i x hx) ?_;intro l j kd a b c d;have:(js.map (fun p=>(m[p.2]?).join))[i]?=some ((m[j]?).join):=by rw[List.getElem?_map,a];rfl
    rw[h2,List.getElem?_map] at this;cases e:caps[i]? with
    | none=>rw[e] at this;cases this
    | some av=>
      rw[e] at this;simp at this;refine ⟨l,j,kd,av,b,c,d,?_,rfl⟩;cases e2:m[j]? with
      | none=>rw[e2] at this;cases this
      | some o=>rw[e2] at this;simp at this;rw[this]
  . have:=congrArg List.length h2;rw[List.length_map,List.length_map] at this;lia
theorem qqo {a b:Str}(ha:PyData.strOk a=true)(hb:PyData.strOk b=true):PyData.strOk (a++b)=true:=by
  unfold PyData.strOk at *;rw[PySem.Str.cps_append,Array.all_append,ha,hb];rfl
theorem qin {sep:Str}(hs:PyData.strOk sep=true):∀l:List Str,(∀a∈l,PyData.strOk a=true)->PyData.strOk (PySem.Str.join sep l)=true
  | [],_=>by simp[PySem.Str.join,PyData.strOk,PySem.Str.empty]
  | [x],h=>h x (List.mem_cons_self ..)
  | x::y::r,h=>by
    show PyData.strOk (x++sep++PySem.Str.join sep (y::r))=true;exact qqo (qqo (h x (List.mem_cons_self ..)) hs) (qin hs (y::r) fun a ha=>h a (List.mem_cons_of_mem _ ha))
theorem qrc {sep:Str}(hs:PyData.strOk sep=true)(l:List Str)(h:∀a∈l,PyData.strOk a=true):PyData.strOk (Txt.join sep l)=true:=by
  show PyData.strOk (Builtin.Str.glued sep l)=true;rw[StrLaws.glued_eq_join];exact qin hs l h
noncomputable def quy (e:Expr) (i:Nat):Expr:=(exS e).2.2.2.2.1.getD i e
noncomputable def qmb:List Int->Int
  | []=>0
  | [a]=>a
  | a::b::l=>min a (qmb (b::l))
theorem qo7:∀{l:List Int},l≠[]->qmb l∈l/\∀a∈l,qmb l<=a
  | [],h=>absurd rfl h
  | [a],_=>⟨by simp[qmb],by simp[qmb]⟩
  | a::b::l,_=>by
    obtain ⟨h1,h2⟩:=qo7 (l:=b::l) (by simp);unfold qmb;refine ⟨?_,fun x hx=>?_⟩
    . by_cases h:a<=qmb (b::l)
      . rw[Int.min_eq_left h];simp
      . rw[Int.min_eq_right (by lia)];exact List.mem_cons_of_mem _ h1
    . rcases List.mem_cons.mp hx with rfl | hx
      . lia
      . have:=h2 x hx;grind
noncomputable def qlv (outer:List (Str×NameKind)):List (Str×NameKind)->List (Option Nat)->Bool
  | [],[]=>true
  | (x,kd)::names,j::js=>(match kd,j with
      | .free,some j=>(match outer[j]? with | some (y,kd')=>y==x&&kcl kd'==1 | none=>false)
      | .free,none=>false
      | _,none=>true
      | _,some _=>false)&&qlv outer names js
  | _,_=>false
theorem qjf {outer:List (Str×NameKind)}:∀{names:List (Str×NameKind)} {js:List (Option Nat)},qlv outer names js=true->js.length=names.length/\∀(i:Nat) (x:Str) (kd:NameKind),names[i]?=some (x,kd)->(kd=.free->∃j kd',js[i]?=some (some j)/\outer[j]?=some (x,kd')/\kcl kd'=1)/\(kd≠.free->js[i]?=some none)
  | [],[],_=>⟨rfl,fun i x kd h=>by simp at h⟩
  | [],_::_,h=>by cases h
  | _::_,[],h=>by cases h
  | (y,ky)::names,j::js,h=>by
    have h':(_&&qlv outer names js)=true:=h;rw[Bool.and_eq_true] at h';obtain ⟨h1,h2⟩:=qjf h'.2;refine ⟨by simp[h1],fun i x kd hi=>?_⟩;cases i with
    | succ i=>simp only[List.getElem?_cons_succ] at hi ⊢;exact h2 i x kd hi
    | zero=>
      simp at hi;obtain ⟨rfl,rfl⟩:=hi;have h3:=h'.1;cases ky with
      | «local»=>cases j with | none=>exact ⟨(fun q=>by cases q),fun _=>rfl⟩ | some j=>cases h3
      | globalExplicit=>cases j with | none=>exact ⟨(fun q=>by cases q),fun _=>rfl⟩ | some j=>cases h3
      | globalImplicit=>cases j with | none=>exact ⟨(fun q=>by cases q),fun _=>rfl⟩ | some j=>cases h3
      | cell=>cases j with | none=>exact ⟨(fun q=>by cases q),fun _=>rfl⟩ | some j=>cases h3
      | free=>
        cases j with
        | none=>cases h3
        | some j=>
          refine ⟨fun _=>?_,fun q=>absurd rfl q⟩;simp only at h3;cases e:outer[j]? with
          | none=>rw[e] at h3;cases h3
          | some p=>
            obtain ⟨z,kz⟩:=p;rw[e] at h3;simp at h3;exact ⟨j,kz,rfl,by rw[e,h3.1],h3.2⟩
noncomputable def qfw:List (Option AV)->Bool
  | []=>true
  | none::l=>qfw l
  | some v::l=>plain v&&qfw l
theorem qfv:∀{l:List (Option AV)},qfw l=true->∀(i:Nat) (av:AV),l[i]?=some (some av)->plain av=true
  | [],_,i,av,h=>by simp at h
  | none::l,hp,i,av,h=>by
    cases i with
    | zero=>simp at h
    | succ i=>simp at h;exact qfv (l:=l) hp i av h
  | some v::l,hp,i,av,h=>by
    have hp':(plain v&&qfw l)=true:=hp;rw[Bool.and_eq_true] at hp';cases i with
    | zero=>simp at h;rw[<- h];exact hp'.1
    | succ i=>simp at h;exact qfv hp'.2 i av h
theorem Ici (js:List (Option Nat))(h:qlv C.nm names js=true)(hn:ndB names=true)(hp:qfw (qcz m js)=true):CompIn C m names (qcz m js):=by
  refine And.elim ?_ (qjf h);intro h1 h2;refine ⟨qrf hn,by simp[qcz,h1],fun i x hi=>?_,fun i x kd hi hk av q=>?_,.inr (qfv hp)⟩
  . refine qa3 ((h2 i x _ hi).1 rfl) ?_;intro j kd e1 e2 e3;refine ⟨j,kd,e2,e3,fun av q=>?_⟩;simp only[qcz,List.getElem?_map,e1] at q;simp at q;cases e:m[j]? with
    | none=>rw[e] at q;simp at q
    | some o=>rw[e] at q;simp at q;rw[q]
  . have:=(h2 i x kd hi).2 hk;simp[qcz,List.getElem?_map,this] at q
noncomputable def qv2:Expr->List Expr
  | .Call _ as _ _=>as
  | _=>[]
end
section
theorem qre {m:Str->Option Value}(G:h.Ns a m):¬h.get? a=some (tabObj #[]):=fun e=>by
  refine qav (G) ?_;intro o es ep ho hd _;rw[e] at ho;obtain rfl:=Sj ho;cases hd
noncomputable def qva (prog:Program) (w:World) (s:Shared) (mg mb:Str->Option Value) (G:s.heap.Ns mainGlobals mg) (B:s.heap.Ns builtinsNs mb) (L:s.heap.NoLimit) (Cs:∃mc,s.heap.Ns cStatics mc) (S:∃o,s.heap.get? sysModules=some o):Wd where
  prog:=prog
  w:=w
  s1:=s
  mg:=mg
  mb:=mb
  tab:=fun a=>isCodeTable s.heap a/\s.heap.get? a=some (tabObj #[])
  tabEx:=fun _ h=>h.2
  gNs:=G
  bNs:=B
  nolim:=L
  gNT:=fun q=>qre G q.2
  bNT:=fun q=>qre B q.2
  cNT:=let ⟨_,h⟩:=Cs;fun q=>qre h q.2
  sm:=S
noncomputable def qir:List Str->Bool
  | []=>true
  | x::l=>!l.contains x&&qir l
theorem qg3:∀{l:List Str},qir l=true->l.Nodup
  | [],_=>.nil
  | x::l,h=>by
    unfold qir at h;rw[Bool.and_eq_true] at h;refine List.nodup_cons.mpr ⟨fun q=>?_,qg3 h.2⟩;have:=h.1;rw[List.contains_iff_mem.mpr q] at this;cases this
theorem qit:∀{l:List (Str×NameKind)} {i:Nat} {x:Str} {k:NameKind},(l.map (·.1)).Nodup->l[i]?=some (x,k)->l.lookup x=some k
  | [],i,x,k,_,h=>by simp at h
  | p::l,0,x,k,_,h=>by
    rw[List.getElem?_cons_zero] at h;obtain rfl:=Sj h;rw[List.lookup_cons,beq_self_eq_true]
  | p::l,i+1,x,k,hn,h=>by
    rw[List.getElem?_cons_succ] at h;rw[List.map_cons,List.nodup_cons] at hn;have hm:x∈l.map (·.1):=List.mem_map.mpr ⟨(x,k),List.mem_of_getElem? h,rfl⟩;have hne:(x==p.1)=false:=by
      cases hq:x==p.1 with
      | false=>rfl
      | true=>rw[eq_of_beq hq] at hm;exact absurd hm hn.1
    obtain ⟨p1,p2⟩:=p;rw[List.lookup_cons,hne];exact qit hn.2 h
noncomputable def qo1:NameKind->Bool
  | .free=>false
  | _=>true
theorem qu4 {c:Addr}{oc:Obj}{fd:FuncData}{vs:Array Value}{t:Nat}(ho:W.s1.heap.get? a=some o)(hc:W.s1.heap.get? c=some oc)(hd:o.data=.func fd)(hcd:fd.code=.ref c)(hv:oc.data=.fields vs)(h1:vs[1]?=some (.str fd.qualname t))(hco:fd.scope.isCoroutine=false)(hgen:fd.scope.isGenerator=false)(hcl:fd.closure=[])(hgl:fd.globals=mainGlobals)(hbl:fd.builtins=builtinsNs)(hk:fd.scope.kind=.function)(hb:fd.body=.stmts body)(hn:fd.scope.names=nm)(nd:qir (nm.map (·.1))=true)(nf:(nm.all fun p=>qo1 p.2)=true)(Y:Nat->Prop):qr4 ⟨W,Y,nm,fd.code⟩ a fd body where
  get:=⟨o,ho,hd⟩
  nt:=fun q=>by rw[W.tabEx a q] at ho;obtain rfl:=Sj ho;cases hd
  co:=hco
  gen:=hgen
  kind:=hk
  body:=hb
  code:=⟨c,oc,vs,t,hcd,hc,fun q=>by rw[W.tabEx c q] at hc;obtain rfl:=Sj hc;cases hv;simp at h1,hv,h1⟩
  clo:=hcl
  glob:=hgl
  blt:=hbl
  nm:=hn.symm
  nd:=fun i j x k k' hi hj=>by
    have h:=qg3 nd;have e1:(nm.map (·.1))[i]?=some x:=by rw[List.getElem?_map];show Option.map _ (nm[i]?)=_;rw[show nm[i]?=some (x,k) from hi];rfl
    have e2:(nm.map (·.1))[j]?=some x:=by rw[List.getElem?_map];show Option.map _ (nm[j]?)=_;rw[show nm[j]?=some (x,k') from hj];rfl
    refine Exists.elim (List.getElem?_eq_some_iff.mp e1) ?_;intro l1 q1;refine Exists.elim (List.getElem?_eq_some_iff.mp e2) ?_;intro l2 q2;have hp:=List.pairwise_iff_getElem.mp h;rcases Nat.lt_trichotomy i j with hl | hl | hl
    . exact absurd (q1.trans q2.symm) (hp i j l1 l2 hl)
    . exact hl
    . exact absurd (q2.trans q1.symm) (hp j i l2 l1 hl)
  lk:=fun i x k hi=>by rw[hn];exact qit (qg3 nd) hi
  cd:=rfl
  nofree:=fun i x q=>by
    have:=List.all_eq_true.mp nf _ (List.mem_of_getElem? q);cases this
theorem qtw {c:Addr}{oc:Obj}{vs:Array Value}(hcd:cd=.ref c)(hc:W.s1.heap.get? c=some oc)(hv:oc.data=.fields vs)(h1:(vs[1]?).isSome=true)(C:CodeHd W.s1.heap c P)(hP:W.tab P)(bm:∃bm ob,W.mg "__builtins__"=some (.ref bm)/\bm≠builtinsNs/\W.s1.heap.get? bm=some ob/\ob.cls=.type "module"/\ob.dict=some builtinsNs/\ob.data=.plain):qgm W cd:=by
  refine qdj (bm) ?_;(try clear bm);intro bm ob b1 b2 b3 b4 b5 b6;have hbt:¬W.tab bm:=fun q=>by rw[W.tabEx bm q] at b3;obtain rfl:=Sj b3;cases b6
  refine ⟨c,P,fun Y nm=>⟨hcd,C,fun q=>by rw[W.tabEx c q] at hc;obtain rfl:=Sj hc;cases hv;simp at h1,hP,⟨bm,ob,b1,b2,fun q=>?_,fun q=>hbt (q ▸ hP),b3,b4,b5,b6⟩,fun bm' q=>?_⟩⟩
  . refine qav (W.gNs) ?_;intro o es ep ho hd _;rw[q] at b3;rw[b3] at ho;obtain rfl:=Sj ho;rw[b6] at hd;cases hd
  . rw[b1] at q;cases q;exact hbt
theorem qcn {fd:FuncData}{K:Frag}(X:∀a o,K.lookup a=some o->W.s1.heap.get? a=some o/\o.cls≠.none)(h:∀us ks,us.length=args.length->ks.length=kv.length->∃ws,(∀S,peek K S (bindArgs fd ⟨us,kn.zip ks⟩)=some (xs.zip ws))/\∀g h',RVs W g h' args us->RVs W g h' kv ks->RVs W g h' vs ws):qd1 W fd args kn kv xs vs:=fun fr g σ s us ks R ru rk=>by
  refine qa4 (h us ks ru.length rk.length) ?_;intro ws e q;refine ⟨ws,fun M A E Q hq=>?_,q g s.heap ru rk⟩;have hK:K.In s.heap:=fun a o e=>by
    refine And.elim ?_ (X a o e);intro q1 q2;exact R.base a o q1 fun t=>by rw[W.tabEx a t] at q1;obtain rfl:=Sj q1;exact q2 rfl
  exact (Looks.of_peek (M:=M) hK (e _)).here hq
theorem qq8 {b:Addr}{p:Obj}(ha:h.get? a=some o)(hb:h.get? b=some p)(h1:o.cls≠.none)(h2:p.cls≠.none):∀c q,List.lookup c [(a,o),(b,p)]=some q->h.get? c=some q/\q.cls≠.none:=fun c q e=>by
  rw[List.lookup_cons] at e;cases h3:c==a with
  | true=>rw[h3] at e;obtain rfl:=Sj e;rw[eq_of_beq h3];exact ⟨ha,h1⟩
  | false=>
    rw[h3] at e;rw[List.lookup_cons] at e;cases h4:c==b with
    | true=>rw[h4] at e;obtain rfl:=Sj e;rw[eq_of_beq h4];exact ⟨hb,h2⟩
    | false=>rw[h4] at e;cases e
theorem RVs.one {a:AV}{v:Value}{r:List Value}(q:RVs W g h (a::l) (v::r)):RV W g h a v/\RVs W g h l r:=by
  refine qa3 (q) ?_;intro v' r' e q1 q2;cases e;exact ⟨q1,q2⟩
theorem RVs.two {a:AV}{v:Value}{r:List Value}(q1:RV W g h a v)(q2:RVs W g h l r):RVs W g h (a::l) (v::r):=⟨v,r,rfl,q1,q2⟩
theorem RVs.none:RVs W g h [] []:=rfl
theorem qiy:∀{vs:List Value} {ns:List Int},IntsAre vs ns->RVs W g h (qa0 ns) vs
  | _,_,.nil=>rfl
  | _,_,.cons _ t r=>⟨_,_,rfl,⟨t,rfl⟩,qiy r⟩
noncomputable def qpl (a:Addr):Addr->Own:=by classical exact fun b=>if b=a then .fz else .other
theorem qv9 (W:Wd)(a:Addr)(ho:W.s1.heap.get? a=some o)(hc:o.cls≠.none)(hg:W.s1.gens=#[]):Rep W [] (qpl a) [] W.s1:=by
  have hgc:∀b,qpl a b=.fz\/qpl a b=.other:=fun b=>by unfold qpl;split <;> simp
  have hx:∀b n,¬(qpl a b=.loc n\/qpl a b=.aux n):=fun b n q=>by rcases hgc b with e | e <;> rw[e] at q <;> simp at q
  exact { base:=fun b o h _=>h
          baseO:=fun b o h=>(hgc b).symm
          tabO:=fun b h=>by
            unfold qpl;split
            . rename_i e;rw[e] at h;rw[W.tabEx a h] at ho;obtain rfl:=Sj ho;exact absurd rfl hc
            . rfl
          tabs:=fun b h=>⟨#[],W.tabEx b h,trivial,fun pos v q=>by simp[codeAmong] at q⟩
          low:=fun b h=>by
            unfold qpl at h;split at h
            . rename_i e;rw[e];exact ⟨o,ho⟩
            . exact absurd rfl h
          locs:=fun n ao h=>by simp at h
          uniq:=fun b c n h=>absurd (.inl h) (hx b n)
          pl:=fun n ao h=>by simp at h
          bnd:=fun b n h=>absurd h (hx b n)
          frs:=fun e h=>by cases h
          gens:=hg
          os:=rfl }
theorem qrb {s':Shared}(R':Rep W [] g' z' s')(hcd:∀P,W.tab P->isCodeTable W.s1.heap P):OldK W.s1.heap s'.heap:=by
  have key:∀b o,W.s1.heap.get? b=some o->¬W.tab b->s'.heap.get? b=some o:=fun b o h t=>R'.base b o h t
  refine ⟨fun b o h=>?_,fun b o h=>?_⟩
  . by_cases ht:W.tab b
    . refine qa4 (R'.tabs b ht) ?_;intro more h1 _;have:=W.tabEx b ht;rw[h] at this;obtain rfl:=Sj this;exact .inr (.inl ⟨hcd b ht,rfl,#[],more,rfl,by rw[Array.empty_append];exact h1⟩)
    . exact .inl (key b o h ht)
  . by_cases ht:W.tab b
    . refine qa4 (R'.tabs b ht) ?_;intro more h1 _;exact ⟨_,h1⟩
    . exact ⟨o,key b o h ht⟩
theorem qsx {c:Addr}(C:CodeHd h c P)(hP:h.get? P=some (tabObj #[])):isCodeTable h P/\h.get? P=some (tabObj #[]):=by
  refine qfz (C) ?_;intro o vs file tf flags tg inF text tt h1 h2 h3 h4 _;exact ⟨⟨c,o,vs,h1,h2,h3,h4⟩,hP⟩
end
section
noncomputable def qv7 (e:DictEntry) (p:Int×Str):Bool:=
  match e.key with
  | .int k _=>match e.val with
    | .str s _=>decide (k=p.1)&&decide (e.hash=hashInt k)&&s==p.2
    | _=>false
  | _=>false
noncomputable def qui:List DictEntry->List (Int×Str)->Bool
  | [],[]=>true
  | e::es,p::l=>qv7 e p&&qui es l
  | _,_=>false
theorem qp0 {e:DictEntry}{p:Int×Str}(h:qv7 e p=true):∃t u,e=⟨hashInt p.1,.int p.1 t,.str p.2 u⟩:=by
  obtain ⟨x,k,v⟩:=e;cases k with
  | int k t=>
    cases v with
    | str s u=>
      obtain ⟨h1,h2⟩:=Bool.and_eq_true_iff.mp h;obtain ⟨h3,h4⟩:=Bool.and_eq_true_iff.mp h1;have e1:=of_decide_eq_true h3;have e2:=of_decide_eq_true h4;have e3:=eq_of_beq h2;subst e1 e3;exact ⟨t,u,congrArg (fun y=>DictEntry.mk y _ _) e2⟩
    | _=>exact Bool.noConfusion h
  | _=>exact Bool.noConfusion h
theorem qn7 (prog:Program)(w:World):∀{es:List DictEntry} {l:List (Int×Str)},qui es l=true->∃us,(∀e∈es,∃k,(PySem.intKind prog w).is k e.key=true/\e.hash=(PySem.intKind prog w).hash k)/\Pairs (PySem.intKind prog w) es ((l.map (·.1)).zip us)/\StrsAre us (l.map (·.2))/\us.length=l.length
  | [],[]=>fun _=>⟨[],(fun _ h=>absurd h List.not_mem_nil),.nil,.nil,rfl⟩
  | [],_::_=>fun h=>Bool.noConfusion h
  | _::_,[]=>fun h=>Bool.noConfusion h
  | e::es,p::l=>fun h=>by
    obtain ⟨h1,h2⟩:=Bool.and_eq_true_iff.mp h;refine qgr (qp0 h1) ?_;intro t u eq_4_2;subst eq_4_2;refine qba (qn7 prog w h2) ?_;intro us g1 g2 g3 g4;have hi:(PySem.intKind prog w).is p.1 (.int p.1 t)=true:=by show Value.isInt p.1 (.int p.1 t)=true;simp[Value.isInt]
    refine ⟨.str p.2 u::us,fun e he=>?_,.cons hi rfl g2,.cons p.2 u g3,congrArg (· + 1) g4⟩;rcases List.mem_cons.mp he with rfl | he
    . exact ⟨p.1,hi,rfl⟩
    . exact g1 e he
theorem qq5 {es:Array DictEntry}{ep:Nat}{l:List (Int×Str)}(ho:W.s1.heap.get? a=some o)(hs:(a==sysModules)=false)(hx:o.ExactDict)(hd:o.data=.dict es ep)(h:qui es.toList l=true)(hn:(l.map (·.1)).Nodup):qjl W a l where
  nt:=fun q=>by rw[W.tabEx a q] at ho;obtain rfl:=Sj ho;cases hd
  ns:=hs
  at_:=by
    refine qba (qn7 W.prog W.w h) ?_;intro us h1 h2 h3 h4;refine ⟨us,⟨o,es,ep,ho,hx,hd,fun e he=>h1 e (by simpa using he),h2,?_⟩,h3⟩;rw[List.map_fst_zip (by simp[h4])];exact hn
theorem qua (ho:W.s1.heap.get? a=some o)(hx:o.ExactDict)(hd:o.data=.dict #[] 0)(hs:(a==sysModules)=false)(σ:List AObj):Dsrc W σ (.glob (.ref a)) [] []:=
  .inr ⟨a,rfl,rfl,rfl,⟨o,#[],0,ho,hx,hd,fun e he=>absurd he (by simp),.nil,.nil⟩,(fun q=>by rw[W.tabEx a q] at ho;obtain rfl:=Sj ho;cases hd),hs⟩
theorem qgd {f:α->β->Sem (ForInStep β)}(g:β->α->β)(P:β->Prop):∀(l:List α) (b:β),P b->(∀a∈l,∀b,P b->f a b=pure (.yield (g b a))/\P (g b a))->forIn l b f=pure (l.foldl g b)
  | [],b,_,_=>rfl
  | a::l,b,hb,h=>by
    obtain ⟨h1,h2⟩:=h a List.mem_cons_self b hb;rw[List.forIn_cons,h1];exact qgd g P l _ h2 fun x hx=>h x (List.mem_cons_of_mem _ hx)
theorem qj3 (s:S):∀(l:List (Str×Value)) (e:List (Str×Value)),l.foldl (fun (r:S×List (Str×Value)) a=>(r.1,r.2++[a])) (s,e)=(s,e++l)
  | [],e=>by simp
  | a::l,e=>by rw[List.foldl_cons,qj3 s l];simp
theorem qlx {fd:FuncData}{a1 a2 a3 kw:Arg}{kd:List (Option Expr)}{ds:List Expr}(hp:fd.params={ posonlyargs:=[],args:=[a1,a2,a3],vararg:=none,kwonlyargs:=[],kw_defaults:=kd,kwarg:=some kw,defaults:=ds })(h1:a1.arg="parent")(h2:a2.arg="tag")(h3:a3.arg="attrib")(hx:kw.arg="extra"){l:List (Str×Value)}(hl:∀p∈l,p.1∉(["parent", "tag", "attrib"]:List Str))(hz:l.length<=sizeLine+1)(u:List Value):
    ∃k,bindArgs fd ⟨u,l⟩=(seqItems? fd.defaults) >>= k/\(∀d u1 u2 u3,u=[u1,u2,u3]->k (some #[d])=(do
        let D <- alloc { cls:=.type "dict",data:=.dict #[] }
        forIn l PUnit.unit (fun kv _=>do nsSet D kv.1 kv.2;pure (.yield PUnit.unit))
        pure ([("parent",u1),("tag",u2),("attrib",u3),("extra",.ref D)]:List (Str×Value))))/\(∀d u1 u2,u=[u1,u2]->k (some #[d])=(do
        let D <- alloc { cls:=.type "dict",data:=.dict #[] }
        forIn l PUnit.unit (fun kv _=>do nsSet D kv.1 kv.2;pure (.yield PUnit.unit))
        pure ([("parent",u1),("tag",u2),("attrib",d),("extra",.ref D)]:List (Str×Value)))):=by
  obtain ⟨f1,f2,pr,f4,f5,f6,f7,f8,f9,f10,f11,f12,f13,f14,f15⟩:=fd;obtain rfl:pr=_:=hp;obtain ⟨_,b1,c1⟩:=a1;obtain rfl:_=("parent":Str):=h1;obtain ⟨_,b2,c2⟩:=a2;obtain rfl:_=("tag":Str):=h2;obtain ⟨_,b3,c3⟩:=a3;obtain rfl:_=("attrib":Str):=h3;obtain ⟨_,b4,c4⟩:=kw;obtain rfl:_=("extra":Str):=hx;have hc:∀a∈l,¬(((["parent", "tag", "attrib"]:List Str).contains a.1||([]:List Str).contains a.1)=true):=fun a ha q=>hl a ha (List.contains_iff_mem.mp (((Bool.or_false _).symm.trans q)))
  have hf:=qj3 (S:=List (Str×Value)) ((["parent", "tag", "attrib"]:List Str).zip u) l [];refine ⟨_,Eq.trans (congrArg (· >>= _) ((qgd (β:=List (Str×Value)×List (Str×Value)) (fun r a=>(r.1,r.2++[a])) (fun _=>True) l ((["parent", "tag", "attrib"]:List Str).zip u,[]) trivial fun a ha b _=>⟨if_neg (hc a ha),trivial⟩).trans (congrArg pure hf))) (Eq.refl _),fun d u1 u2 u3 e=>?_,fun d u1 u2 e=>?_⟩
  . subst e;exact (if_neg (Nat.not_lt.mpr hz)).trans rfl
  . subst e;exact (if_neg (Nat.not_lt.mpr hz)).trans rfl
end
section
theorem qrg (prog:Program)(w:World)(s:Shared)(mg mb:Str->Option Value)(G:s.heap.Ns mainGlobals mg)(B:s.heap.Ns builtinsNs mb)(L:s.heap.NoLimit)(Cs:∃mc,s.heap.Ns cStatics mc/\mc "sys.int_max_str_digits"=none)(S:∃o,s.heap.get? sysModules=some o):
    ∃W:Wd,W.w=w/\W.s1=s/\W.mg=mg/\W.mb=mb/\W.prog=prog/\(∀a,W.tab a↔(isCodeTable s.heap a/\s.heap.get? a=some (tabObj #[]))):=
  ⟨qva prog w s mg mb G B L (let ⟨m,h,_⟩:=Cs;⟨m,h⟩) S,rfl,rfl,rfl,rfl,rfl,fun _=>Iff.rfl⟩
noncomputable def qo2:NameKind->Bool
  | .cell=>false
  | _=>true
theorem qt9 (h:(nm.all fun p=>qo2 p.2)=true)(i:Nat)(x:Str):nm[i]?≠some (x,.cell):=fun q=>by
  have:=List.all_eq_true.mp h _ (List.mem_of_getElem? q);cases this
section
variable {fd:FuncData} {K:Frag}
theorem bp1 {x0:Str}(h:∀S u0,peek [] S (bindArgs fd ⟨[u0],[]⟩)=some [(x0,u0)])(v0:AV):qd1 W fd [v0] [] [] [x0] [v0]:=
  qcn (K:=[]) (fun _ _ e=>nomatch e) fun us ks hu hk=>by
    refine Exists.elim (ln1 hu) ?_;intro u0 eq_0_1;subst eq_0_1;obtain rfl:=ln0 hk;exact ⟨[u0],fun S=>h S u0,fun g h ra _=>ra⟩
theorem bp2 {x0 x1:Str}(h:∀S u0 u1,peek [] S (bindArgs fd ⟨[u0,u1],[]⟩)=some [(x0,u0),(x1,u1)])(v0 v1:AV):qd1 W fd [v0,v1] [] [] [x0,x1] [v0,v1]:=
  qcn (K:=[]) (fun _ _ e=>nomatch e) fun us ks hu hk=>by
    refine qgr (ln2 hu) ?_;intro u0 u1 eq_0_2;subst eq_0_2;obtain rfl:=ln0 hk;exact ⟨[u0,u1],fun S=>h S u0 u1,fun g h ra _=>ra⟩
theorem bp4 {x0 x1 x2 x3:Str}(h:∀S u0 u1 u2 u3,peek [] S (bindArgs fd ⟨[u0,u1,u2,u3],[]⟩)=some [(x0,u0),(x1,u1),(x2,u2),(x3,u3)])(v0 v1 v2 v3:AV):qd1 W fd [v0,v1,v2,v3] [] [] [x0,x1,x2,x3] [v0,v1,v2,v3]:=
  qcn (K:=[]) (fun _ _ e=>nomatch e) fun us ks hu hk=>by
    obtain ⟨u0,u1,u2,u3,rfl⟩:=ln4 hu;obtain rfl:=ln0 hk;exact ⟨[u0,u1,u2,u3],fun S=>h S u0 u1 u2 u3,fun g h ra _=>ra⟩
variable {t:Nat} (X : ∀ a o, K.lookup a = some o -> W.s1.heap.get? a = some o /\ o.cls ≠ .none)
include X
theorem bk2 (h:∀S u0 u1 k0,peek K S (bindArgs fd ⟨[u0,u1],[("key",k0)]⟩)=some ([("a",u0),("x",u1),("lo",.int 0 t),("hi",.none),("key",k0)]:List (Str×Value)))(a x key:AV):qd1 W fd [a,x] ["key"] [key] ["a", "x", "lo", "hi", "key"] [a,x,.int 0,.none,key]:=
  qcn X fun us ks hu hk=>by
    refine qgr (ln2 hu) ?_;intro u0 u1 eq_0_2;subst eq_0_2;refine Exists.elim (ln1 hk) ?_;intro k0 eq_1_1;subst eq_1_1;exact ⟨[u0,u1,.int 0 t,.none,k0],fun S=>h S u0 u1 k0,fun g h ra rk=>.two ra.one.1 (.two ra.one.2.one.1 (.two ⟨t,rfl⟩ (.two rfl rk)))⟩
theorem bk3 (h:∀S u0 u1 u2 k0,peek K S (bindArgs fd ⟨[u0,u1,u2],[("key",k0)]⟩)=some ([("a",u0),("x",u1),("lo",u2),("hi",.none),("key",k0)]:List (Str×Value)))(a x lo key:AV):qd1 W fd [a,x,lo] ["key"] [key] ["a", "x", "lo", "hi", "key"] [a,x,lo,.none,key]:=
  qcn X fun us ks hu hk=>by
    refine qnw (ln3 hu) ?_;intro u0 u1 u2 eq_0_3;subst eq_0_3;refine Exists.elim (ln1 hk) ?_;intro k0 eq_1_1;subst eq_1_1;exact ⟨[u0,u1,u2,.none,k0],fun S=>h S u0 u1 u2 k0,fun g h ra rk=>.two ra.one.1 (.two ra.one.2.one.1 (.two ra.one.2.one.2.one.1 (.two rfl rk)))⟩
theorem bk4 (h:∀S u0 u1 u2 u3 k0,peek K S (bindArgs fd ⟨[u0,u1,u2,u3],[("key",k0)]⟩)=some ([("a",u0),("x",u1),("lo",u2),("hi",u3),("key",k0)]:List (Str×Value)))(a x lo hi key:AV):qd1 W fd [a,x,lo,hi] ["key"] [key] ["a", "x", "lo", "hi", "key"] [a,x,lo,hi,key]:=
  qcn X fun us ks hu hk=>by
    obtain ⟨u0,u1,u2,u3,rfl⟩:=ln4 hu;obtain ⟨k0,rfl⟩:=ln1 hk;exact ⟨[u0,u1,u2,u3,k0],fun S=>h S u0 u1 u2 u3 k0,fun g h ra rk=>.two ra.one.1 (.two ra.one.2.one.1 (.two ra.one.2.one.2.one.1 (.two ra.one.2.one.2.one.2.one.1 rk)))⟩
theorem bn4 (h:∀S u0 u1 u2 u3,peek K S (bindArgs fd ⟨[u0,u1,u2,u3],[]⟩)=some ([("a",u0),("x",u1),("lo",u2),("hi",u3),("key",.none)]:List (Str×Value)))(a x lo hi:AV):qd1 W fd [a,x,lo,hi] [] [] ["a", "x", "lo", "hi", "key"] [a,x,lo,hi,.none]:=
  qcn X fun us ks hu hk=>by
    obtain ⟨u0,u1,u2,u3,rfl⟩:=ln4 hu;obtain rfl:=ln0 hk;exact ⟨[u0,u1,u2,u3,.none],fun S=>h S u0 u1 u2 u3,fun g h ra rk=>.two ra.one.1 (.two ra.one.2.one.1 (.two ra.one.2.one.2.one.1 (.two ra.one.2.one.2.one.2.one.1 (.two rfl .none))))⟩
theorem bn2 (h:∀S u0 u1,peek K S (bindArgs fd ⟨[u0,u1],[]⟩)=some ([("a",u0),("x",u1),("lo",.int 0 t),("hi",.none),("key",.none)]:List (Str×Value)))(a x:AV):qd1 W fd [a,x] [] [] ["a", "x", "lo", "hi", "key"] [a,x,.int 0,.none,.none]:=
  qcn X fun us ks hu hk=>by
    refine qgr (ln2 hu) ?_;intro u0 u1 eq_0_2;subst eq_0_2;obtain rfl:=ln0 hk;exact ⟨[u0,u1,.int 0 t,.none,.none],fun S=>h S u0 u1,fun g h ra rk=>.two ra.one.1 (.two ra.one.2.one.1 (.two ⟨t,rfl⟩ (.two rfl (.two rfl .none))))⟩
end
theorem Binds.ok (hc:(nm.all fun p=>qo2 p.2)=true)(hi:nm[i]?=some (x,.local))(r:Binds nm xs vs (m.set i (some v)) m'):Binds nm (x::xs) (v::vs) m m':=
  .cons hi (.inl rfl) (.inr (qt9 hc)) r
theorem Binds.pl (hp:plain v=true)(hi:nm[i]?=some (x,kd))(hk:kd=.local\/kd=.cell)(r:Binds nm xs vs (m.set i (some v)) m'):Binds nm (x::xs) (v::vs) m m':=
  .cons hi hk (.inl hp) r
theorem bxt {fd:FuncData}{a1 a2 a3 kw:Arg}{kd:List (Option Expr)}{ds:List Expr}{T:Addr}{d:Value}(hd:fd.defaults=.ref T)(ho:W.s1.heap.get? T=some o)(hs:o.data=.seq #[d] n)(hp:fd.params={ posonlyargs:=[],args:=[a1,a2,a3],vararg:=none,kwonlyargs:=[],kw_defaults:=kd,kwarg:=some kw,defaults:=ds })(h1:a1.arg="parent")(h2:a2.arg="tag")(h3:a3.arg="attrib")(hx:kw.arg="extra")(p tag t:AV)(kn:List Str)(kv:List AV)(hnd:kn.Nodup)(hl:kn.length=kv.length)(hpl:plains kv=true)(hn:∀x∈kn,x∉(["parent", "tag", "attrib"]:List Str))(hz:kn.length<=sizeLine):BindX W fd [p,tag,t] kn kv ["parent", "tag", "attrib", "extra"] [p,tag,t]:=
  BindX.of hd ho (fun q=>by rw[W.tabEx T q] at ho;obtain rfl:=Sj ho;cases hs) hs hnd hl hpl fun us ks hu hk=>by
    refine qnw (ln3 hu) ?_;intro u1 u2 u3 eq_0_3;subst eq_0_3;refine qal (qlx hp h1 h2 h3 hx (l:=kn.zip ks) (fun q hq=>hn _ (List.of_mem_zip (a:=q.1) (b:=q.2) hq).1) (by simp;lia) [u1,u2,u3]) ?_;intro k e1 e2 _;exact ⟨k,[u1,u2,u3],e1,e2 d u1 u2 u3 rfl,fun g h r=>r⟩
theorem bxd {fd:FuncData}{a1 a2 a3 kw:Arg}{kd:List (Option Expr)}{ds:List Expr}{T:Addr}{d:Value}(hd:fd.defaults=.ref T)(ho:W.s1.heap.get? T=some o)(hs:o.data=.seq #[d] n)(hp:fd.params={ posonlyargs:=[],args:=[a1,a2,a3],vararg:=none,kwonlyargs:=[],kw_defaults:=kd,kwarg:=some kw,defaults:=ds })(h1:a1.arg="parent")(h2:a2.arg="tag")(h3:a3.arg="attrib")(hx:kw.arg="extra")(p tag:AV)(kn:List Str)(kv:List AV)(hnd:kn.Nodup)(hl:kn.length=kv.length)(hpl:plains kv=true)(hn:∀x∈kn,x∉(["parent", "tag", "attrib"]:List Str))(hz:kn.length<=sizeLine):BindX W fd [p,tag] kn kv ["parent", "tag", "attrib", "extra"] [p,tag,.glob d]:=
  BindX.of hd ho (fun q=>by rw[W.tabEx T q] at ho;obtain rfl:=Sj ho;cases hs) hs hnd hl hpl fun us ks hu hk=>by
    refine qgr (ln2 hu) ?_;intro u1 u2 eq_0_2;subst eq_0_2;refine qal (qlx hp h1 h2 h3 hx (l:=kn.zip ks) (fun q hq=>hn _ (List.of_mem_zip (a:=q.1) (b:=q.2) hq).1) (by simp;lia) [u1,u2]) ?_;intro k e1 _ e2;exact ⟨k,[u1,u2,d],e1,e2 d u1 u2 rfl,fun g h r=>.two r.one.1 (.two r.one.2.one.1 (.two rfl .none))⟩
end
section
structure FView where
  params:Arguments
  body:FuncBody
  scope:Scope
  globals:Addr
  closure:List (Str×Addr)
  defaults:Value
  kwdefaults:Value
  code:Value
  qualname:Str
  builtins:Addr
noncomputable def qrv:Option Obj->Option FView
  | some ⟨_,_,.func fd,_⟩=>some ⟨fd.params,fd.body,fd.scope,fd.globals,fd.closure,fd.defaults,fd.kwdefaults,fd.code,fd.qualname,fd.builtins⟩
  | _=>none
noncomputable abbrev FView.fd (v:FView) (n:Str) (doc pm:Value) (an:Option Addr) (ct:Value):FuncData:=⟨n,v.qualname,v.params,v.body,v.scope,v.globals,v.closure,v.defaults,v.kwdefaults,doc,pm,an,v.code,ct,v.builtins⟩
theorem qj0 {o:Option Obj}{v:FView}(h:qrv o=some v):∃ob n doc pm an ct,o=some ob/\ob.data=.func (v.fd n doc pm an ct):=by
  unfold qrv at h;split at h
  . rename_i c d fd sl;obtain rfl:=Sj h;exact ⟨_,fd.name,fd.doc,fd.pyModule,fd.annotations,fd.closureTuple,rfl,rfl⟩
  . cases h
noncomputable def qqt (q:Str):Option Value->Bool
  | some (.str s _)=>s==q
  | _=>false
noncomputable def qqu (a:Addr):Option Value->Bool
  | some (.ref b)=>Nat.beq b a
  | _=>false
noncomputable def qr1:Value->Bool
  | .str _ _=>true
  | _=>false
noncomputable def qm0:Value->Bool
  | .int _ _=>true
  | _=>false
noncomputable def qpi:Value->Bool
  | .bool _=>true
  | _=>false
noncomputable def qjg (c P:Addr) (q:Str):Option Obj->Bool
  | some ⟨.type "code",_,.fields vs,_⟩=>qqt q vs[1]? && (qqu P vs[11]? && (qr1 (vs.getD 18 .none)&&(qm0 (vs.getD 7 .none)&&(qpi (vs.getD 9 .none)&&(qm0 (vs.getD 10 .none) && !(Nat.beq c P))))))
  | _=>false
theorem qha {c:Addr}{q:Str}(e:qjg c P q (h.get? c)=true):(∃o vs t,h.get? c=some o/\o.data=.fields vs/\vs[1]?=some (.str q t))/\CodeHd h c P:=by
  unfold qjg at e;split at e
  . rename_i d vs sl hk;simp only[Bool.and_eq_true] at e;refine qld (e) ?_;intro e1 e2 e3 e4 e5 e6 e7;have hne:c≠P:=fun z=>by subst z;simp at e7
    unfold qqt at e1;split at e1
    . rename_i s t h1;have hs:=eq_of_beq e1;subst hs;unfold qqu at e2;split at e2
      . rename_i b h11;have hb:=Nat.eq_of_beq_eq_true e2;subst hb;unfold qr1 at e3;split at e3
        . rename_i f tf h18;unfold qm0 at e4;split at e4
          . rename_i fl tg h7;unfold qpi at e5;split at e5
            . rename_i b h9;unfold qm0 at e6;split at e6
              . rename_i n tt h10;exact ⟨⟨_,vs,t,hk,rfl,h1⟩,_,vs,f,tf,fl,tg,b,n,tt,hk,rfl,rfl,h11,by rw[Array.getD_eq_getD_getElem?,h11];rfl,h18,h7,h9,h10,hne⟩
              . cases e6
            . cases e5
          . cases e4
        . cases e3
      . cases e2
    . cases e1
  . cases e
noncomputable def qid (l:List (Int×Str)):Option Obj->Bool
  | some ⟨.type "dict",none,.dict es _,sl⟩=>Nat.beq sl.size 0&&qui es.toList l
  | _=>false
theorem qjv {l:List (Int×Str)}(e:qid l (W.s1.heap.get? a)=true)(hs:(a==sysModules)=false)(hn:(l.map (·.1)).Nodup):qjl W a l:=by
  unfold qid at e;split at e
  . rename_i es n sl hk;rw[Bool.and_eq_true] at e;have h0:sl=#[]:=Array.eq_empty_of_size_eq_zero (Nat.eq_of_beq_eq_true e.1);subst h0;exact qq5 hk hs ⟨rfl,rfl,rfl⟩ rfl e.2 hn
  . cases e
structure qum where
  names:List (Option Value)
  fns:List (Option FView)
  objs:List (Option Obj)
  ok:Bool
noncomputable def qnd (ns:List (Str×Option Value)) (fs:List (Addr×FView)) (as:List Addr) (chk:Heap->Bool) (s:Shared):qum:=
  ⟨ns.map fun p=>s.heap.nsMap mainGlobals p.1,fs.map fun p=>qrv (s.heap.get? p.1),as.map s.heap.get?,chk s.heap⟩
noncomputable def qt1 (ns:List (Str×Option Value)) (fs:List (Addr×FView)) (os:Params->List (Addr×Obj)) (w:World):qum:=
  ⟨ns.map (·.2),fs.map fun p=>some p.2,(os w.params).map fun p=>some p.2,true⟩
theorem qnc {ns:List (Str×Option Value)}{fs:List (Addr×FView)}{os:List (Addr×Obj)}{as:List Addr}{chk:Heap->Bool}(ha:as=os.map (·.1))(e:qnd ns fs as chk s=⟨ns.map (·.2),fs.map fun p=>some p.2,os.map fun p=>some p.2,true⟩):
    (∀(i:Nat) (x:Str) (v:Option Value),ns[i]?=some (x,v)->s.heap.nsMap mainGlobals x=v)/\(∀(i:Nat) (a:Addr) (v:FView),fs[i]?=some (a,v)->qrv (s.heap.get? a)=some v)/\(∀(i:Nat) (a:Addr) (o:Obj),os[i]?=some (a,o)->s.heap.get? a=some o)/\chk s.heap=true:=by
  subst ha;unfold qnd at e;rw[List.map_map] at e;injection e with e1 e2 e3 e4
  exact ⟨fun i x v h=>List.map_inj_left.mp e1 _ (List.mem_of_getElem? h),fun i a v h=>List.map_inj_left.mp e2 _ (List.mem_of_getElem? h),fun i a o h=>List.map_inj_left.mp e3 _ (List.mem_of_getElem? h),e4⟩
theorem qma (k:∀b o,h.get? b=some o->h'.get? b=some o)(x:∃o,h.get? a=some o)(n:Str):h'.nsMap a n=h.nsMap a n:=by
  refine Exists.elim x ?_;intro o ho;unfold Heap.nsMap;rw[k a o ho,ho]
theorem qmo (k:∀b o,h.get? b=some o->h'.get? b=some o){c:Addr}{q:Str}(e:qjg c P q (h.get? c)=true):qjg c P q (h'.get? c)=true:=by
  cases ho:h.get? c with
  | none=>rw[ho] at e;cases e
  | some o=>rw[k c o ho,<- ho];exact e
noncomputable abbrev pN (x:Str) (a:Addr):Str×Option Value:=(x,some (.ref a))
noncomputable abbrev pZ (x:Str):Str×Option Value:=(x,none)
noncomputable abbrev pF (a:Addr) (v:FView):Addr×FView:=(a,v)
noncomputable abbrev pO (a:Addr) (o:Obj):Addr×Obj:=(a,o)
noncomputable abbrev pC (c P:Addr) (q:Str):Addr×Addr×Str:=(c,P,q)
noncomputable abbrev mkV (p:Program) (i:Nat) (c:Addr) (q:Str) (dV kV:Value):FView:=⟨qug p i,.stmts (qbr p i),qas p i,mainGlobals,[],dV,kV,.ref c,q,builtinsNs⟩
theorem qdb {p:Program}{c:Addr}{q:Str}{dV kV:Value}(hv:qrv (W.s1.heap.get? a)=some (mkV p i c q dV kV))(hc:qjg c P q (W.s1.heap.get? c)=true)(hb:qbr p i=body)(hn:(qas p i).names=nm)(h1:(qas p i).isCoroutine=false)(h2:(qas p i).isGenerator=false)(h3:(qas p i).kind=.function)(nd:qir (nm.map (·.1))=true)(nf:(nm.all fun p=>qo1 p.2)=true):∃n doc pm an ct,∀Y,qr4 ⟨W,Y,nm,.ref c⟩ a ((mkV p i c q dV kV).fd n doc pm an ct) body:=by
  refine qnv (qj0 hv) ?_;intro o n doc pm an ct ho hd;refine And.elim ?_ (qha hc);intro ne_0_0 _;obtain ⟨oc,vs,t,k1,k2,k3⟩:=ne_0_0;exact ⟨n,doc,pm,an,ct,fun Y=>qu4 (fd:=(mkV p i c q dV kV).fd n doc pm an ct) ho k1 hd rfl k2 k3 h1 h2 rfl rfl rfl h3 (congrArg FuncBody.stmts hb) hn nd nf Y⟩
theorem qhs {c:Addr}{q:Str}(hc:qjg c P q (W.s1.heap.get? c)=true)(hP:W.s1.heap.get? P=some (tabObj #[]))(ht:∀a,W.tab a↔(isCodeTable W.s1.heap a/\W.s1.heap.get? a=some (tabObj #[])))(bm:∃bm ob,W.mg "__builtins__"=some (.ref bm)/\bm≠builtinsNs/\W.s1.heap.get? bm=some ob/\ob.cls=.type "module"/\ob.dict=some builtinsNs/\ob.data=.plain):qgm W (.ref c):=by
  refine And.elim ?_ (qha hc);intro ne_0_0 C;obtain ⟨oc,vs,t,k1,k2,k3⟩:=ne_0_0;exact qtw rfl k1 k2 (by rw[k3];rfl) C ((ht P).mpr (qsx C hP)) bm
theorem qjw (k:∀b o,h.get? b=some o->h'.get? b=some o){l:List (Int×Str)}(e:qid l (h.get? a)=true):qid l (h'.get? a)=true:=by
  cases ho:h.get? a with
  | none=>rw[ho] at e;cases e
  | some o=>rw[k a o ho,<- ho];exact e
end
section
theorem room0:Room 100 [] callerA:=⟨rfl,by show 1+claimMargin+100<=600;decide +kernel,by decide,rfl⟩
theorem qqc {fa:Addr}{vals:List Value}{c:ClaimW}{cl:Str->Option Addr}{mean:ExcName->Option Value}{args:List WData}(hc:Calls W noY k [] [] (.glob (.ref fa)) [.lst (qa0 ns)] [] [] (.bool true) z')(hk:k<=100)(hg:W.s1.gens=#[])(ho:W.s1.heap.get? a=some { cls:=.type "list",data:=.seq vals.toArray })(hI:IntsAre vals ns)(ht:∀a,W.tab a↔(isCodeTable W.s1.heap a/\W.s1.heap.get? a=some (tabObj #[])))(hr:∀cls,c.raises args cls=false)(hp:c.post args (.bool true) args=true)(E:Value->Shared->Prop):
    wpAny (model W.prog W.w) callerA (call (.ref fa) [.ref a]) (fun v s'=>GoodWG c cl mean args W.s1 (.ok (.ret v)) s') E W.s1:=by
  have R:=qv9 W a ho (by simp) hg;refine hc callerA (qpl a) W.s1 (.ref fa) [.ref a] [] (room0.le hk) R rfl ⟨.ref a,[],rfl,⟨a,vals.toArray,0,rfl,by unfold qpl;rw[if_pos rfl],ho,by simpa using qiy hI⟩,rfl⟩ rfl _ _ fun v' g' s' R' e' rv=>?_
  obtain rfl:v'=.bool true:=rv;exact ⟨.inl ⟨_,_,[],rfl,hr,ReadsW.bool true,hp,fun _=>⟨List.nodup_nil,fun _ hm=>(nomatch hm)⟩⟩,qrb R' (fun P q=>((ht P).mp q).1),R'.os,.of_eq R'.gens⟩
end
section
noncomputable abbrev P3:Program:=PySem.Challenge.pw_wb0045_03
noncomputable def nm1:PSigma (fun l=>(qas P3 1).names=l):=⟨_,by conv=>lhs;whnf⟩
noncomputable def bd1:PSigma (fun l=>qbr P3 1=l):=⟨_,by conv=>lhs;whnf⟩
noncomputable def nm2:PSigma (fun l=>(qas P3 2).names=l):=⟨_,by conv=>lhs;whnf⟩
noncomputable def bd2:PSigma (fun l=>qbr P3 2=l):=⟨_,by conv=>lhs;whnf⟩
noncomputable def nm3:PSigma (fun l=>(qas P3 3).names=l):=⟨_,by conv=>lhs;whnf⟩
noncomputable def bd3:PSigma (fun l=>qbr P3 3=l):=⟨_,by conv=>lhs;whnf⟩
noncomputable def nm4:PSigma (fun l=>(qas P3 4).names=l):=⟨_,by conv=>lhs;whnf⟩
noncomputable def bd4:PSigma (fun l=>qbr P3 4=l):=⟨_,by conv=>lhs;whnf⟩
noncomputable def nm7:PSigma (fun l=>(qas P3 7).names=l):=⟨_,by conv=>lhs;whnf⟩
noncomputable def bd7:PSigma (fun l=>qbr P3 7=l):=⟨_,by conv=>lhs;whnf⟩
noncomputable def nm8:PSigma (fun l=>(qas P3 8).names=l):=⟨_,by conv=>lhs;whnf⟩
noncomputable def bd8:PSigma (fun l=>qbr P3 8=l):=⟨_,by conv=>lhs;whnf⟩
noncomputable def nm10:PSigma (fun l=>(qas P3 10).names=l):=⟨_,by conv=>lhs;whnf⟩
noncomputable def bd10:PSigma (fun l=>qbr P3 10=l):=⟨_,by conv=>lhs;whnf⟩
noncomputable def nm11:PSigma (fun l=>(qas P3 11).names=l):=⟨_,by conv=>lhs;whnf⟩
noncomputable def bd11:PSigma (fun l=>qbr P3 11=l):=⟨_,by conv=>lhs;whnf⟩
noncomputable def nm13:PSigma (fun l=>(qas P3 13).names=l):=⟨_,by conv=>lhs;whnf⟩
noncomputable def bd13:PSigma (fun l=>qbr P3 13=l):=⟨_,by conv=>lhs;whnf⟩
noncomputable def nm14:PSigma (fun l=>(qas P3 14).names=l):=⟨_,by conv=>lhs;whnf⟩
noncomputable def bd14:PSigma (fun l=>qbr P3 14=l):=⟨_,by conv=>lhs;whnf⟩
noncomputable def nm15:PSigma (fun l=>(qas P3 15).names=l):=⟨_,by conv=>lhs;whnf⟩
noncomputable def bd15:PSigma (fun l=>qbr P3 15=l):=⟨_,by conv=>lhs;whnf⟩
noncomputable def nm16:PSigma (fun l=>(qas P3 16).names=l):=⟨_,by conv=>lhs;whnf⟩
noncomputable def bd16:PSigma (fun l=>qbr P3 16=l):=⟨_,by conv=>lhs;whnf⟩
noncomputable def nm17:PSigma (fun l=>(qas P3 17).names=l):=⟨_,by conv=>lhs;whnf⟩
noncomputable def bd17:PSigma (fun l=>qbr P3 17=l):=⟨_,by conv=>lhs;whnf⟩
noncomputable def nm18:PSigma (fun l=>(qas P3 18).names=l):=⟨_,by conv=>lhs;whnf⟩
noncomputable def bd18:PSigma (fun l=>qbr P3 18=l):=⟨_,by conv=>lhs;whnf⟩
noncomputable def nm19:PSigma (fun l=>(qas P3 19).names=l):=⟨_,by conv=>lhs;whnf⟩
noncomputable def bd19:PSigma (fun l=>qbr P3 19=l):=⟨_,by conv=>lhs;whnf⟩
noncomputable def nm20:PSigma (fun l=>(qas P3 20).names=l):=⟨_,by conv=>lhs;whnf⟩
noncomputable def bd20:PSigma (fun l=>qbr P3 20=l):=⟨_,by conv=>lhs;whnf⟩
noncomputable def nm21:PSigma (fun l=>(qas P3 21).names=l):=⟨_,by conv=>lhs;whnf⟩
noncomputable def bd21:PSigma (fun l=>qbr P3 21=l):=⟨_,by conv=>lhs;whnf⟩
noncomputable def nm22:PSigma (fun l=>(qas P3 22).names=l):=⟨_,by conv=>lhs;whnf⟩
noncomputable def bd22:PSigma (fun l=>qbr P3 22=l):=⟨_,by conv=>lhs;whnf⟩
noncomputable def flagTab:List (Int×Str):=[(1, "OPTIMIZED"),(2, "NEWLOCALS"),(4, "VARARGS"),(8, "VARKEYWORDS"),(16, "NESTED"),(32, "GENERATOR"),(64, "NOFREE"),(128, "COROUTINE"),(256, "ITERABLE_COROUTINE"),(512, "ASYNC_GENERATOR")]
noncomputable def A1:Addr:=23
noncomputable def A2:Addr:=32
noncomputable def A3:Addr:=41
noncomputable def A4:Addr:=50
noncomputable def A7:Addr:=58
noncomputable def A8:Addr:=65
noncomputable def A10:Addr:=72
noncomputable def A11:Addr:=81
noncomputable def A13:Addr:=86
noncomputable def A14:Addr:=93
noncomputable def A15:Addr:=98
noncomputable def A16:Addr:=103
noncomputable def A17:Addr:=110
noncomputable def A18:Addr:=115
noncomputable def A19:Addr:=120
noncomputable def A20:Addr:=125
noncomputable def A21:Addr:=130
noncomputable def A22:Addr:=135
noncomputable def qsy:Addr:=51
noncomputable def dA3:Value:=.ref 73
structure Fac (W:Wd):Prop where
  g_insort_right:W.mg "insort_right"=some (.ref A1)
  g_bisect_right:W.mg "bisect_right"=some (.ref A2)
  g_insort_left:W.mg "insort_left"=some (.ref A3)
  g_bisect_left:W.mg "bisect_left"=some (.ref A4)
  g_pretty_flags:W.mg "pretty_flags"=some (.ref A7)
  g_parse_varint:W.mg "_parse_varint"=some (.ref A8)
  g_iselement:W.mg "iselement"=some (.ref A10)
  g_SubElement:W.mg "SubElement"=some (.ref A11)
  g_law_digits:W.mg "_law_digits"=some (.ref A13)
  g_law_read:W.mg "_law_read"=some (.ref A14)
  g_law_words:W.mg "_law_words"=some (.ref A15)
  g_law_parts:W.mg "_law_parts"=some (.ref A16)
  g_law_element:W.mg "_law_element"=some (.ref A17)
  g_law_document:W.mg "_law_document"=some (.ref A18)
  g_law_far:W.mg "_law_far"=some (.ref A19)
  g_law_wells:W.mg "_law_wells"=some (.ref A20)
  g_law_least:W.mg "_law_least"=some (.ref A21)
  g_law:W.mg "law"=some (.ref A22)
  g_COMPILER_FLAG_NAMES:W.mg "COMPILER_FLAG_NAMES"=some (.ref qsy)
  tab:qjl W qsy flagTab
  b_StopIteration:Blt W "StopIteration" (.type "StopIteration")
  b_ValueError:Blt W "ValueError" (.type "ValueError")
  b_enumerate:Blt W "enumerate" (.type "enumerate")
  b_hasattr:Blt W "hasattr" (.builtin "hasattr")
  b_hex:Blt W "hex" (.builtin "hex")
  b_iter:Blt W "iter" (.builtin "iter")
  b_len:Blt W "len" (.builtin "len")
  b_max:Blt W "max" (.builtin "max")
  b_min:Blt W "min" (.builtin "min")
  b_next:Blt W "next" (.builtin "next")
  b_range:Blt W "range" (.type "range")
  b_sorted:Blt W "sorted" (.builtin "sorted")
  b_str:Blt W "str" (.type "str")
  b_sum:Blt W "sum" (.builtin "sum")
  b_zip:Blt W "zip" (.type "zip")
  f2k2:∀(a x key:AV),FnB W NoK nm2.1 bd2.1 A2 [a,x] ["key"] [key] [some a,some x,some (.int 0),some .none,some key,none,none,none]
  f2k3:∀(a x lo key:AV),FnB W NoK nm2.1 bd2.1 A2 [a,x,lo] ["key"] [key] [some a,some x,some lo,some .none,some key,none,none,none]
  f2k4:∀(a x lo hi key:AV),FnB W NoK nm2.1 bd2.1 A2 [a,x,lo,hi] ["key"] [key] [some a,some x,some lo,some hi,some key,none,none,none]
  f2n4:∀(a x lo hi:AV),FnB W NoK nm2.1 bd2.1 A2 [a,x,lo,hi] [] [] [some a,some x,some lo,some hi,some .none,none,none,none]
  f2n2:∀(a x:AV),FnB W NoK nm2.1 bd2.1 A2 [a,x] [] [] [some a,some x,some (.int 0),some .none,some .none,none,none,none]
  f4k2:∀(a x key:AV),FnB W NoK nm4.1 bd4.1 A4 [a,x] ["key"] [key] [some a,some x,some (.int 0),some .none,some key,none,none,none]
  f4k3:∀(a x lo key:AV),FnB W NoK nm4.1 bd4.1 A4 [a,x,lo] ["key"] [key] [some a,some x,some lo,some .none,some key,none,none,none]
  f4k4:∀(a x lo hi key:AV),FnB W NoK nm4.1 bd4.1 A4 [a,x,lo,hi] ["key"] [key] [some a,some x,some lo,some hi,some key,none,none,none]
  f4n4:∀(a x lo hi:AV),FnB W NoK nm4.1 bd4.1 A4 [a,x,lo,hi] [] [] [some a,some x,some lo,some hi,some .none,none,none,none]
  f4n2:∀(a x:AV),FnB W NoK nm4.1 bd4.1 A4 [a,x] [] [] [some a,some x,some (.int 0),some .none,some .none,none,none,none]
  f1k2:∀(a x key:AV),FnB W NoK nm1.1 bd1.1 A1 [a,x] ["key"] [key] [some a,some x,some (.int 0),some .none,some key,none]
  f1k3:∀(a x lo key:AV),FnB W NoK nm1.1 bd1.1 A1 [a,x,lo] ["key"] [key] [some a,some x,some lo,some .none,some key,none]
  f1n2:∀(a x:AV),FnB W NoK nm1.1 bd1.1 A1 [a,x] [] [] [some a,some x,some (.int 0),some .none,some .none,none]
  f1n4:∀(a x lo hi:AV),FnB W NoK nm1.1 bd1.1 A1 [a,x,lo,hi] [] [] [some a,some x,some lo,some hi,some .none,none]
  f3k2:∀(a x key:AV),FnB W NoK nm3.1 bd3.1 A3 [a,x] ["key"] [key] [some a,some x,some (.int 0),some .none,some key,none]
  f3k3:∀(a x lo key:AV),FnB W NoK nm3.1 bd3.1 A3 [a,x,lo] ["key"] [key] [some a,some x,some lo,some .none,some key,none]
  f3n2:∀(a x:AV),FnB W NoK nm3.1 bd3.1 A3 [a,x] [] [] [some a,some x,some (.int 0),some .none,some .none,none]
  f3n4:∀(a x lo hi:AV),FnB W NoK nm3.1 bd3.1 A3 [a,x,lo,hi] [] [] [some a,some x,some lo,some hi,some .none,none]
  f11t:∀(p tag t:AV) (kn:List Str) (kv:List AV),kn.Nodup->kn.length=kv.length->plains kv=true->(∀x∈kn,x∉(["parent", "tag", "attrib"]:List Str))->kn.length<=sizeLine->FnX W nm11.1 bd11.1 A11 [p,tag,t] kn kv (fun n=>[some p,some tag,some t,some (.loc n),none])
  dsrc:∀σ:List AObj,Dsrc W σ (.glob dA3) [] []
  f11d:∀(p tag:AV) (kn:List Str) (kv:List AV),kn.Nodup->kn.length=kv.length->plains kv=true->(∀x∈kn,x∉(["parent", "tag", "attrib"]:List Str))->kn.length<=sizeLine->FnX W nm11.1 bd11.1 A11 [p,tag] kn kv (fun n=>[some p,some tag,some (.glob dA3),some (.loc n),none])
  f7:∀(v0:AV),FnB W NoK nm7.1 bd7.1 A7 [v0] [] [] [some v0,none,none,none,none,none,none]
  f8:∀(v0:AV),FnB W NoK nm8.1 bd8.1 A8 [v0] [] [] [some v0,none,none,none]
  f10:∀(v0:AV),FnB W NoK nm10.1 bd10.1 A10 [v0] [] [] [some v0,none]
  f13:∀(v0 v1:AV),plain v0=true->plain v1=true->FnB W NoK nm13.1 bd13.1 A13 [v0,v1] [] [] [some v0,some v1,none]
  f14:∀(v0 v1:AV),FnB W NoK nm14.1 bd14.1 A14 [v0,v1] [] [] [some v0,some v1,none,none,none,none]
  f15:∀(v0:AV),plain v0=true->FnB W NoK nm15.1 bd15.1 A15 [v0] [] [] [some v0,none,none]
  f16:∀(v0:AV),plain v0=true->FnB W NoK nm16.1 bd16.1 A16 [v0] [] [] [some v0,none,none]
  f17:∀(v0 v1:AV),FnB W (qgm W) nm17.1 bd17.1 A17 [v0,v1] [] [] [some v0,some v1,none,none]
  f18:∀(v0 v1:AV),FnB W (qgm W) nm18.1 bd18.1 A18 [v0,v1] [] [] [some v0,some v1,none,none,none,none,none,none,none,none,none,none,none,none,none,none,none,none,none,none]
  f19:∀(v0:AV),plain v0=true->FnB W NoK nm19.1 bd19.1 A19 [v0] [] [] [some v0,none,none,none,none]
  f20:∀(v0 v1 v2 v3:AV),plain v0=true->plain v1=true->plain v2=true->plain v3=true->FnB W (qgm W) nm20.1 bd20.1 A20 [v0,v1,v2,v3] [] [] [some v0,some v1,some v2,some v3,none,none,none,none,none,none,none]
  f21:∀(v0 v1:AV),FnB W NoK nm21.1 bd21.1 A21 [v0,v1] [] [] [some v0,some v1,none,none,none,none,none,none,none,none,none,none]
  f22:∀(v0:AV),plain v0=true->FnB W (qgm W) nm22.1 bd22.1 A22 [v0] [] [] [some v0,none,none,none,none,none,none,none,none,none,none,none,none,none,none,none,none,none,none,none,none,none,none,none,none,none,none,none,none,none,none,none,none,none,none,none,none,none,none,none,none,none,none]
end
section
section
theorem Ia0 (i : Nat)(hi:autoParam (C.nm[i]? = some (x, .local)) ap0._auto_1)(hv:autoParam (m[i]? = some (some v)) ap0._auto_1)(hd:autoParam ((x==("__debug__" : Str)) = false) ap1._auto_1): Ev C k fr m σ (.Name x p) v σ := Ica hi hv hd
theorem Ia6 (i : Nat)(hi:autoParam (C.nm[i]? = some (x, kd)) ap0._auto_1)(hk:autoParam (kcl kd = 1) ap0._auto_1)(hv:autoParam (m[i]? = some (some v)) ap0._auto_1)(hd:autoParam ((x==("__debug__" : Str)) = false) ap1._auto_1)(hn:autoParam ((x==("__classdict__" : Str)) = false) ap1._auto_1): Ev C k fr m σ (.Name x p) v σ := Ic5 hi hk hv hd hn
theorem Ial (i : Nat){v:Value}(hv : C.W.mg x = some v)(hi:autoParam (C.nm[i]? = some (x, .globalImplicit)) ap0._auto_1)(hd:autoParam ((x==("__debug__" : Str)) = false) ap1._auto_1): Ev C k fr m σ (.Name x p) (.glob v) σ := Ie8 hi hv hd
theorem Iaf (i : Nat){v:Value}(h : Blt C.W x v)(hi:autoParam (C.nm[i]? = some (x, .globalImplicit)) ap0._auto_1)(hd:autoParam ((x==("__debug__" : Str)) = false) ap1._auto_1): Ev C k fr m σ (.Name x p) (.glob v) σ := Iej hi h hd
theorem Ia5 (i : Nat)(hi:autoParam (C.nm[i]? = some (x, .local)) ap0._auto_1)(hp:autoParam (plain av = true) ap0._auto_1): As C k fr m σ (.Name x p) av (m.set i (some av)) σ := Ibs hi hp
theorem Ib9 (i : Nat)(hi:autoParam (C.nm[i]? = some (x, .cell)) ap0._auto_1)(hp:autoParam (plain av = true) ap0._auto_1): As C k fr m σ (.Name x p) av (m.set i (some av)) σ := Idi hi hp
end
theorem Uu {p:Prop}(h:autoParam (p) ap0._auto_1):p:=h
local macro_rules | `(.($t:term)) => if t.raw.isOfKind ``Lean.Parser.Term.hole || t.raw.getKind == `MVarWithIdKind then Lean.Macro.throwUnsupported else `((by with_reducible exact $t))
section
theorem qi5 {P:S->Prop}{te:Expr}{bo:List Stmt}{M:Nat->Nat->List (Option AV)}{lo0 hi0:Nat}(ht:∀(Y:Nat->Prop) (cd:Value) (k:Nat) (fr:List Env) (σ:List AObj) (lo hi:Nat),Tr ⟨W,Y,nm,cd⟩ (k+d) fr (M lo hi) σ te (decide ((lo:Int)<(hi:Int))) σ)(step:∀(lo hi mid:Nat) (s:S),P s->lo0<=lo->hi<=hi0->lo<=mid->mid<hi->(lo+hi) / 2=mid->∃s',P s'/\∀(Y:Nat->Prop) (cd:Value) (k:Nat) (fr:List Env),(∀n,Yk n->Y n)->Exs ⟨W,Y,nm,cd⟩ (k+d) fr (M lo hi) (sg s) bo .next (if r<=mid then M lo mid else M (mid+1) hi) (sg s')):
    ∀(n lo hi:Nat) (s:S),hi<=lo+n->lo<=r->r<=hi->lo0<=lo->hi<=hi0->P s->∃s',P s'/\∀(Y:Nat->Prop) (cd:Value) (k:Nat) (fr:List Env),(∀n,Yk n->Y n)->WhileC ⟨W,Y,nm,cd⟩ (k+d) fr te bo [] (M lo hi) (sg s) .next (M r r) (sg s'):=by
  intro n;induction n with
  | zero=>
    intro lo hi s h1 h2 h3 h4 h5 hs;obtain rfl:lo=r:=Nat.le_antisymm h2 (Nat.le_trans h3 h1);obtain rfl:hi=lo:=Nat.le_antisymm h1 h3;exact ⟨s,hs,fun Y cd k fr _=>Ib6 (Iac (ht Y cd k fr (sg s) hi hi) (decide_eq_false (Int.lt_irrefl _))) Exs.nil⟩
  | succ n ih=>
    intro lo hi s h1 h2 h3 h4 h5 hs;rcases Nat.lt_or_ge lo hi with hlt | hge
    . have hm1:lo<=(lo+hi) / 2:=by lia
      have hm2:(lo+hi) / 2<hi:=by lia
      refine qa4 (step lo hi _ s hs h4 h5 hm1 hm2 rfl) ?_;intro s1 hs1 hw;generalize (lo+hi) / 2=mid at hm1 hm2 hw;have T:=fun Y cd k fr=>Iac (ht Y cd k fr (sg s) lo hi) (decide_eq_true (Int.ofNat_lt.mpr hlt))
      by_cases hm:r<=mid
      . rw[if_pos hm] at hw;exact (ih lo mid s1 (Nat.le_of_lt_succ (Nat.lt_of_lt_of_le hm2 h1)) h2 hm h4 (Nat.le_of_lt (Nat.lt_of_lt_of_le hm2 h5)) hs1).imp fun s2 q=>⟨q.1,fun Y cd k fr hY=>WhileC.next (T Y cd k fr) (hw Y cd k fr hY) (q.2 Y cd k fr hY)⟩
      . rw[if_neg hm] at hw;exact (ih (mid+1) hi s1 (by lia) (Nat.not_le.mp hm) h3 (Nat.le_trans h4 (Nat.le_succ_of_le hm1)) h5 hs1).imp fun s2 q=>⟨q.1,fun Y cd k fr hY=>WhileC.next (T Y cd k fr) (hw Y cd k fr hY) (q.2 Y cd k fr hY)⟩
    . obtain rfl:lo=r:=Nat.le_antisymm h2 (Nat.le_trans h3 hge);obtain rfl:hi=lo:=Nat.le_antisymm hge h3;exact ⟨s,hs,fun Y cd k fr _=>Ib6 (Iac (ht Y cd k fr (sg s) hi hi) (decide_eq_false (Int.lt_irrefl _))) Exs.nil⟩
theorem qus {m:Nat}:AV.int ((m:Int)+1)=.int ((m+1:Nat):Int):=rfl
theorem qsd {lo mid:Nat}(h:(lo+hi) / 2=mid):AV.int (((lo:Int)+(hi:Int)).fdiv 2)=.int ((mid:Nat):Int):=by rw[<- h];exact qtf
noncomputable def teRK:PSigma (fun l=>(qn5 (nth (qp2 (nth bd2.1 2)) 0))=l):=⟨_,by conv=>lhs;whnf⟩
noncomputable def boRK:PSigma (fun l=>(qbo (nth (qp2 (nth bd2.1 2)) 0))=l):=⟨_,by conv=>lhs;whnf⟩
theorem qmt {P:S->Prop}{a:AV}{x:Int}{lo0 hi0:Nat}(hL:∀s,P s->Lv (sg s) a l)(hz:l.length<=sizeLine)(hkp:Kept W key)(hkey:∀(j:Nat) (v:AV),l[j]?=some v->KeyFn W d Yk sg P key v (κ j))(hhi:hi0<=l.length)(hr:∀j:Nat,lo0<=j->j<hi0->(x<κ j↔r<=j))(lo hi mid:Nat)(s:S)(hs:P s)(h4:lo0<=lo)(h5:hi<=hi0)(h1:lo<=mid)(h2:mid<hi)(hmid:(lo+hi) / 2=mid):
    ∃s',P s'/\∀(Y:Nat->Prop) (cd:Value) (k:Nat) (fr:List Env),(∀n,Yk n->Y n)->Exs ⟨W,Y,nm2.1,cd⟩ (k+d) fr [some a,some (.int x),some (.int ((lo:Nat):Int)),some (.int ((hi:Nat):Int)),some key,none,none,none] (sg s) boRK.1 .next (if r<=mid then [some a,some (.int x),some (.int ((lo:Nat):Int)),some (.int ((mid:Nat):Int)),some key,none,none,none] else [some a,some (.int x),some (.int ((mid+1:Nat):Int)),some (.int ((hi:Nat):Int)),some key,none,none,none]) (sg s'):=by
  obtain ⟨v,hv⟩:∃v,l[mid]?=some v:=⟨_,List.getElem?_eq_getElem (Nat.lt_of_lt_of_le h2 (Nat.le_trans h5 hhi))⟩
  refine qa4 (hkey mid v hv s hs) ?_;intro s1 hs1 hc;refine ⟨s1,hs1,fun Y cd k fr hY=>?_⟩;by_cases hm:r<=mid
  . have hd:decide (x<κ mid)=true:=decide_eq_true ((hr mid (Nat.le_trans h4 h1) (Nat.lt_of_lt_of_le h2 h5)).mpr hm);rw[if_pos hm];refine Exs.post (m2:=(([some a,some (.int x),some (.int ((lo:Nat):Int)),some (.int ((hi:Nat):Int)),some key,none,none,none].set 5 (some (.int ((mid:Nat):Int)))).set 3 (some (.int ((mid:Nat):Int))))) ?_ (Weak.of (by simp[qay]));show Exs _ _ _ _ _ (_::_) _ _ _;with_reducible exact .(Exs.cons .(Ia4 .(Ian .(Ia2 .(Ia2 .(Ia0 2) .(Ia0 3) .(Op2.add)) .(Ia1) (Ias (by decide) (by decide))) (qsd hmid)) .(Ia5 5)) .(Exs.cons .(Ia9 (c:=true) .(Iac .(Ia3 .(Ia0 1) .(Ev.call .(Ia0 4) (hkp) (Evs.cons .(Ia8 .(Ia0 0) .(Ia0 5) (by exact hL s hs) (by exact qb4 (x:=((mid:Nat):Int)) rfl hv) (by exact hz)) .(Evs.nil)) EvK.nil (hc k fr Y hY)) .(Op2.lt)) hd) (fun _=>.(Exs.cons .(Ia4 .(Ia0 5) .(Ia5 3)) .(Exs.nil))) (fun h=>nomatch h)) .(Exs.nil)))
  . have hd:decide (x<κ mid)=false:=decide_eq_false fun q=>hm ((hr mid (Nat.le_trans h4 h1) (Nat.lt_of_lt_of_le h2 h5)).mp q)
    rw[if_neg hm];refine Exs.post (m2:=(([some a,some (.int x),some (.int ((lo:Nat):Int)),some (.int ((hi:Nat):Int)),some key,none,none,none].set 5 (some (.int ((mid:Nat):Int)))).set 2 (some (.int ((mid+1:Nat):Int))))) ?_ (Weak.of (by simp[qay]));show Exs _ _ _ _ _ (_::_) _ _ _;with_reducible exact .(Exs.cons .(Ia4 .(Ian .(Ia2 .(Ia2 .(Ia0 2) .(Ia0 3) .(Op2.add)) .(Ia1) (Ias (by decide) (by decide))) (qsd hmid)) .(Ia5 5)) .(Exs.cons .(Ia9 (c:=false) .(Iac .(Ia3 .(Ia0 1) .(Ev.call .(Ia0 4) (hkp) (Evs.cons .(Ia8 .(Ia0 0) .(Ia0 5) (by exact hL s hs) (by exact qb4 (x:=((mid:Nat):Int)) rfl hv) (by exact hz)) .(Evs.nil)) EvK.nil (hc k fr Y hY)) .(Op2.lt)) hd) (fun h=>nomatch h) (fun _=>.(Exs.cons .(Ia4 .(Ian .(Ia2 .(Ia0 5) .(Ia1) .(Op2.add)) (qus)) .(Ia5 2)) .(Exs.nil)))) .(Exs.nil)))
theorem qsv {a x y:AV}{lo hi:Int}:Tr ⟨W,Y,nm2.1,cd⟩ k fr [some a,some x,some (.int lo),some (.int hi),some key,none,none,none] σ teRK.1 (decide (lo<hi)) σ:=by
  show Tr _ _ _ _ _ (.Compare _ _ _ _) _ _;with_reducible exact .(Ia3 .(Ia0 2) .(Ia0 3) .(Op2.lt))
noncomputable def teRN:PSigma (fun l=>(qn5 (nth (qbo (nth bd2.1 2)) 0))=l):=⟨_,by conv=>lhs;whnf⟩
noncomputable def boRN:PSigma (fun l=>(qbo (nth (qbo (nth bd2.1 2)) 0))=l):=⟨_,by conv=>lhs;whnf⟩
theorem qms {P:S->Prop}{a:AV}{x:Int}{lo0 hi0:Nat}(hL:∀s,P s->Lv (sg s) a l)(hz:l.length<=sizeLine)(hval:∀(j:Nat),lo0<=j->j<hi0->l[j]?=some (.int (κ j)))(hr:∀j:Nat,lo0<=j->j<hi0->(x<κ j↔r<=j))(lo hi mid:Nat)(s:S)(hs:P s)(h4:lo0<=lo)(h5:hi<=hi0)(h1:lo<=mid)(h2:mid<hi)(hmid:(lo+hi) / 2=mid):
    ∃s',P s'/\∀(Y:Nat->Prop) (cd:Value) (k:Nat) (fr:List Env),(∀n,Yk n->Y n)->Exs ⟨W,Y,nm2.1,cd⟩ (k+d) fr [some a,some (.int x),some (.int ((lo:Nat):Int)),some (.int ((hi:Nat):Int)),some .none,none,none,none] (sg s) boRN.1 .next (if r<=mid then [some a,some (.int x),some (.int ((lo:Nat):Int)),some (.int ((mid:Nat):Int)),some .none,none,none,none] else [some a,some (.int x),some (.int ((mid+1:Nat):Int)),some (.int ((hi:Nat):Int)),some .none,none,none,none]) (sg s'):=by
  have hv:=hval mid (Nat.le_trans h4 h1) (Nat.lt_of_lt_of_le h2 h5);refine ⟨s,hs,fun Y cd k fr hY=>?_⟩;by_cases hm:r<=mid
  . have hd:decide (x<κ mid)=true:=decide_eq_true ((hr mid (Nat.le_trans h4 h1) (Nat.lt_of_lt_of_le h2 h5)).mpr hm);rw[if_pos hm];refine Exs.post (m2:=(([some a,some (.int x),some (.int ((lo:Nat):Int)),some (.int ((hi:Nat):Int)),some .none,none,none,none].set 5 (some (.int ((mid:Nat):Int)))).set 3 (some (.int ((mid:Nat):Int))))) ?_ (Weak.of (by simp[qay]));show Exs _ _ _ _ _ (_::_) _ _ _;with_reducible exact .(Exs.cons .(Ia4 .(Ian .(Ia2 .(Ia2 .(Ia0 2) .(Ia0 3) .(Op2.add)) .(Ia1) (Ias (by decide) (by decide))) (qsd hmid)) .(Ia5 5)) .(Exs.cons .(Ia9 (c:=true) .(Iac .(Ia3 .(Ia0 1) .(Ia8 .(Ia0 0) .(Ia0 5) (by exact hL s hs) (by exact qb4 (x:=((mid:Nat):Int)) rfl hv) (by exact hz)) .(Op2.lt)) hd) (fun _=>.(Exs.cons .(Ia4 .(Ia0 5) .(Ia5 3)) .(Exs.nil))) (fun h=>nomatch h)) .(Exs.nil)))
  . have hd:decide (x<κ mid)=false:=decide_eq_false fun q=>hm ((hr mid (Nat.le_trans h4 h1) (Nat.lt_of_lt_of_le h2 h5)).mp q)
    rw[if_neg hm];refine Exs.post (m2:=(([some a,some (.int x),some (.int ((lo:Nat):Int)),some (.int ((hi:Nat):Int)),some .none,none,none,none].set 5 (some (.int ((mid:Nat):Int)))).set 2 (some (.int ((mid+1:Nat):Int))))) ?_ (Weak.of (by simp[qay]));show Exs _ _ _ _ _ (_::_) _ _ _;with_reducible exact .(Exs.cons .(Ia4 .(Ian .(Ia2 .(Ia2 .(Ia0 2) .(Ia0 3) .(Op2.add)) .(Ia1) (Ias (by decide) (by decide))) (qsd hmid)) .(Ia5 5)) .(Exs.cons .(Ia9 (c:=false) .(Iac .(Ia3 .(Ia0 1) .(Ia8 .(Ia0 0) .(Ia0 5) (by exact hL s hs) (by exact qb4 (x:=((mid:Nat):Int)) rfl hv) (by exact hz)) .(Op2.lt)) hd) (fun h=>nomatch h) (fun _=>.(Exs.cons .(Ia4 .(Ian .(Ia2 .(Ia0 5) .(Ia1) .(Op2.add)) (qus)) .(Ia5 2)) .(Exs.nil)))) .(Exs.nil)))
theorem qsu {a x y:AV}{lo hi:Int}:Tr ⟨W,Y,nm2.1,cd⟩ k fr [some a,some x,some (.int lo),some (.int hi),some key,none,none,none] σ teRN.1 (decide (lo<hi)) σ:=by
  show Tr _ _ _ _ _ (.Compare _ _ _ _) _ _;with_reducible exact .(Ia3 .(Ia0 2) .(Ia0 3) .(Op2.lt))
noncomputable def teLK:PSigma (fun l=>(qn5 (nth (qp2 (nth bd4.1 2)) 0))=l):=⟨_,by conv=>lhs;whnf⟩
noncomputable def boLK:PSigma (fun l=>(qbo (nth (qp2 (nth bd4.1 2)) 0))=l):=⟨_,by conv=>lhs;whnf⟩
theorem qmu {P:S->Prop}{a:AV}{x:Int}{lo0 hi0:Nat}(hL:∀s,P s->Lv (sg s) a l)(hz:l.length<=sizeLine)(hkp:Kept W key)(hkey:∀(j:Nat) (v:AV),l[j]?=some v->KeyFn W d Yk sg P key v (κ j))(hhi:hi0<=l.length)(hr:∀j:Nat,lo0<=j->j<hi0->(κ j<x↔j<r))(lo hi mid:Nat)(s:S)(hs:P s)(h4:lo0<=lo)(h5:hi<=hi0)(h1:lo<=mid)(h2:mid<hi)(hmid:(lo+hi) / 2=mid):
    ∃s',P s'/\∀(Y:Nat->Prop) (cd:Value) (k:Nat) (fr:List Env),(∀n,Yk n->Y n)->Exs ⟨W,Y,nm4.1,cd⟩ (k+d) fr [some a,some (.int x),some (.int ((lo:Nat):Int)),some (.int ((hi:Nat):Int)),some key,none,none,none] (sg s) boLK.1 .next (if r<=mid then [some a,some (.int x),some (.int ((lo:Nat):Int)),some (.int ((mid:Nat):Int)),some key,none,none,none] else [some a,some (.int x),some (.int ((mid+1:Nat):Int)),some (.int ((hi:Nat):Int)),some key,none,none,none]) (sg s'):=by
  obtain ⟨v,hv⟩:∃v,l[mid]?=some v:=⟨_,List.getElem?_eq_getElem (Nat.lt_of_lt_of_le h2 (Nat.le_trans h5 hhi))⟩
  refine qa4 (hkey mid v hv s hs) ?_;intro s1 hs1 hc;refine ⟨s1,hs1,fun Y cd k fr hY=>?_⟩;by_cases hm:r<=mid
  . have hd:decide (κ mid<x)=false:=decide_eq_false fun q=>absurd ((hr mid (Nat.le_trans h4 h1) (Nat.lt_of_lt_of_le h2 h5)).mp q) (Nat.not_lt.mpr hm)
    rw[if_pos hm];refine Exs.post (m2:=(([some a,some (.int x),some (.int ((lo:Nat):Int)),some (.int ((hi:Nat):Int)),some key,none,none,none].set 5 (some (.int ((mid:Nat):Int)))).set 3 (some (.int ((mid:Nat):Int))))) ?_ (Weak.of (by simp[qay]));show Exs _ _ _ _ _ (_::_) _ _ _;with_reducible exact .(Exs.cons .(Ia4 .(Ian .(Ia2 .(Ia2 .(Ia0 2) .(Ia0 3) .(Op2.add)) .(Ia1) (Ias (by decide) (by decide))) (qsd hmid)) .(Ia5 5)) .(Exs.cons .(Ia9 (c:=false) .(Iac .(Ia3 .(Ev.call .(Ia0 4) (hkp) (Evs.cons .(Ia8 .(Ia0 0) .(Ia0 5) (by exact hL s hs) (by exact qb4 (x:=((mid:Nat):Int)) rfl hv) (by exact hz)) .(Evs.nil)) EvK.nil (hc k fr Y hY)) .(Ia0 1) .(Op2.lt)) hd) (fun h=>nomatch h) (fun _=>.(Exs.cons .(Ia4 .(Ia0 5) .(Ia5 3)) .(Exs.nil)))) .(Exs.nil)))
  . have hd:decide (κ mid<x)=true:=decide_eq_true ((hr mid (Nat.le_trans h4 h1) (Nat.lt_of_lt_of_le h2 h5)).mpr (Nat.not_le.mp hm));rw[if_neg hm];refine Exs.post (m2:=(([some a,some (.int x),some (.int ((lo:Nat):Int)),some (.int ((hi:Nat):Int)),some key,none,none,none].set 5 (some (.int ((mid:Nat):Int)))).set 2 (some (.int ((mid+1:Nat):Int))))) ?_ (Weak.of (by simp[qay]));show Exs _ _ _ _ _ (_::_) _ _ _;with_reducible exact .(Exs.cons .(Ia4 .(Ian .(Ia2 .(Ia2 .(Ia0 2) .(Ia0 3) .(Op2.add)) .(Ia1) (Ias (by decide) (by decide))) (qsd hmid)) .(Ia5 5)) .(Exs.cons .(Ia9 (c:=true) .(Iac .(Ia3 .(Ev.call .(Ia0 4) (hkp) (Evs.cons .(Ia8 .(Ia0 0) .(Ia0 5) (by exact hL s hs) (by exact qb4 (x:=((mid:Nat):Int)) rfl hv) (by exact hz)) .(Evs.nil)) EvK.nil (hc k fr Y hY)) .(Ia0 1) .(Op2.lt)) hd) (fun _=>.(Exs.cons .(Ia4 .(Ian .(Ia2 .(Ia0 5) .(Ia1) .(Op2.add)) (qus)) .(Ia5 2)) .(Exs.nil))) (fun h=>nomatch h)) .(Exs.nil)))
theorem qsw {a x y:AV}{lo hi:Int}:Tr ⟨W,Y,nm4.1,cd⟩ k fr [some a,some x,some (.int lo),some (.int hi),some key,none,none,none] σ teLK.1 (decide (lo<hi)) σ:=by
  show Tr _ _ _ _ _ (.Compare _ _ _ _) _ _;with_reducible exact .(Ia3 .(Ia0 2) .(Ia0 3) .(Op2.lt))
end
section
theorem qh4 {x:AV}(hn:σ[n]?=some (.lst l))(c1:Cl σ)(hx:qbf σ.length x=true):∀ao∈σ.set n (.lst (l.take r++[x]++l.drop r)),qdq σ.length ao=true:=fun ao hao=>by
  rcases List.mem_or_eq_of_mem_set hao with hao | rfl
  . exact c1 ao hao
  . have hl:qae σ.length l=true:=c1 (.lst l) (List.mem_of_getElem? hn);refine qe7 fun v hv=>?_
    rcases List.mem_append.mp hv with hv | hv
    . rcases List.mem_append.mp hv with hv | hv
      . exact qd6 hl v (List.mem_of_mem_take hv)
      . rw[List.mem_singleton.mp hv];exact hx
    . exact qd6 hl v (List.mem_of_mem_drop hv)
theorem qud (F:Fac W){P:S->Prop}{s:S}{a:AV}{x:Int}{lo:Nat}(hK:qmw W d Yk sg P key a l κ)(hs:P s)(hlen:∀s s':S,(sg s).length=(sg s').length)(hz:l.length<=sizeLine)(hH:(H=.none/\hi=l.length)\/H=.int (hi:Nat))(hhi:hi<=l.length)(h1:lo<=r)(h2:r<=hi)(hr:∀j:Nat,lo<=j->j<hi->(x<κ j↔r<=j))(B:FnB W NoK nm2.1 bd2.1 A2 args kn kv [some a,some (.int x),some (.int ((lo:Nat):Int)),some H,some key,none,none,none]):∃s',P s'/\∀(k:Nat) (fr:List Env) (Y:Nat->Prop),(∀n,Yk n->Y n)->Calls W Y (k+d+1) fr (sg s) (.glob (.ref A2)) args kn kv (.int (r:Nat)) (sg s'):=by
  refine qa4 (qi5 (nm:=nm2.1) (fun _ _ _ _ _ _ _=>qsv (y:=.none)) (qmt hK.lv hz hK.kept hK.at_ hhi hr) hi lo hi s (Nat.le_add_left _ _) h1 h2 (Nat.le_refl _) (Nat.le_refl _) hs) ?_;intro s' hs' hw;refine ⟨s',hs',fun k fr Y hY=>Ibd B (m':=[]) (fl:=.ret (.int (r:Nat))) (fun cd env _=>Exs.f ?_) (Nat.le_of_eq (hlen _ _)) rfl rfl⟩;have hw:=hw (fun m=>Y m\/(sg s).length<=m) cd k (env::fr) fun n q=>.inl (hY n q)
  have hneg:decide ((lo:Int)<0)=false:=decide_eq_false (Int.not_lt.mpr (Int.natCast_nonneg lo));show Exs _ _ _ _ _ (_::_) _ _ _;rcases hH with ⟨rfl,rfl⟩ | rfl
  . with_reducible exact Iad .(Exs.cons .(Ia9 (c:=false) .(Iac .(Ia3 .(Ia0 2) .(Ia1) .(Op2.lt)) hneg) (fun h=>nomatch h) (fun _=>.(Exs.nil))) .(Exs.cons .(Ia9 (c:=true) .(Iac .(Ia3 .(Ia0 3) .(Iai) .(Iab Uu)) rfl) (fun _=>.(Exs.cons .(Ia4 .(Ev.call .(Iaf 7 F.b_len) .(Kept.builtin) (Evs.cons .(Ia0 0) .(Evs.nil)) EvK.nil (Calls.len (hK.lv s hs) hz)) .(Ia5 3)) .(Exs.nil))) (fun h=>nomatch h)) .(Exs.cons .(Ia9 (c:=false) .(Iac .(Ia3 .(Ia0 4) .(Iai) (Iab hK.nn)) rfl) (fun h=>nomatch h) (fun _=>.(Exs.cons .(Iat (by with_unfolding_all exact WhileC.pre hw (Weak.of (by simp[qay])))) .(Exs.nil)))) .(Exs.ret .(Iaj .(Ia0 2))))))
  . with_reducible exact Iad .(Exs.cons .(Ia9 (c:=false) .(Iac .(Ia3 .(Ia0 2) .(Ia1) .(Op2.lt)) hneg) (fun h=>nomatch h) (fun _=>.(Exs.nil))) .(Exs.cons .(Ia9 (c:=false) .(Iac .(Ia3 .(Ia0 3) .(Iai) .(Iab Uu)) rfl) (fun h=>nomatch h) (fun _=>.(Exs.nil))) .(Exs.cons .(Ia9 (c:=false) .(Iac .(Ia3 .(Ia0 4) .(Iai) (Iab hK.nn)) rfl) (fun h=>nomatch h) (fun _=>.(Exs.cons .(Iat (by with_unfolding_all exact WhileC.pre hw (Weak.of (by simp[qay])))) .(Exs.nil)))) .(Exs.ret .(Iaj .(Ia0 2))))))
theorem qv1 (F:Fac W){a:AV}{x:Int}{lo:Nat}(hL:Lv σ a l)(hval:∀(j:Nat),lo<=j->j<hi->l[j]?=some (.int (κ j)))(hz:l.length<=sizeLine)(hH:(H=.none/\hi=l.length)\/H=.int (hi:Nat))(hhi:hi<=l.length)(h1:lo<=r)(h2:r<=hi)(hr:∀j:Nat,lo<=j->j<hi->(x<κ j↔r<=j))(B:FnB W NoK nm2.1 bd2.1 A2 args [] [] [some a,some (.int x),some (.int ((lo:Nat):Int)),some H,some .none,none,none,none]):Calls W Y (k+1) fr σ (.glob (.ref A2)) args [] [] (.int (r:Nat)) σ:=by
  obtain ⟨_,_,hw⟩:=qi5 (W:=W) (d:=0) (Yk:=fun _=>False) (sg:=fun _:Unit=>σ) (P:=fun _=>True) (nm:=nm2.1) (fun _ _ _ _ _ _ _=>qsu (y:=.none)) (qms (fun _ _=>hL) hz hval hr) hi lo hi () (Nat.le_add_left _ _) h1 h2 (Nat.le_refl _) (Nat.le_refl _) trivial;refine Iax B (m':=[]) (fl:=.ret (.int (r:Nat))) (fun cd env _=>Exs.f ?_) rfl rfl;have hw:=hw (fun m=>Y m\/σ.length<=m) cd k (env::fr) fun n q=>q.elim
  have hneg:decide ((lo:Int)<0)=false:=decide_eq_false (Int.not_lt.mpr (Int.natCast_nonneg lo));show Exs _ _ _ _ _ (_::_) _ _ _;rcases hH with ⟨rfl,rfl⟩ | rfl
  . with_reducible exact Iad .(Exs.cons .(Ia9 (c:=false) .(Iac .(Ia3 .(Ia0 2) .(Ia1) .(Op2.lt)) hneg) (fun h=>nomatch h) (fun _=>.(Exs.nil))) .(Exs.cons .(Ia9 (c:=true) .(Iac .(Ia3 .(Ia0 3) .(Iai) .(Iab Uu)) rfl) (fun _=>.(Exs.cons .(Ia4 .(Ev.call .(Iaf 7 F.b_len) .(Kept.builtin) (Evs.cons .(Ia0 0) .(Evs.nil)) EvK.nil (Calls.len hL hz)) .(Ia5 3)) .(Exs.nil))) (fun h=>nomatch h)) .(Exs.cons .(Ia9 (c:=true) .(Iac .(Ia3 .(Ia0 4) .(Iai) .(Iab Uu)) rfl) (fun _=>.(Exs.cons .(Iat (by with_unfolding_all exact WhileC.pre hw (Weak.of (by simp[qay])))) .(Exs.nil))) (fun h=>nomatch h)) .(Exs.ret .(Iaj .(Ia0 2))))))
  . with_reducible exact Iad .(Exs.cons .(Ia9 (c:=false) .(Iac .(Ia3 .(Ia0 2) .(Ia1) .(Op2.lt)) hneg) (fun h=>nomatch h) (fun _=>.(Exs.nil))) .(Exs.cons .(Ia9 (c:=false) .(Iac .(Ia3 .(Ia0 3) .(Iai) .(Iab Uu)) rfl) (fun h=>nomatch h) (fun _=>.(Exs.nil))) .(Exs.cons .(Ia9 (c:=true) .(Iac .(Ia3 .(Ia0 4) .(Iai) .(Iab Uu)) rfl) (fun _=>.(Exs.cons .(Iat (by with_unfolding_all exact WhileC.pre hw (Weak.of (by simp[qay])))) .(Exs.nil))) (fun h=>nomatch h)) .(Exs.ret .(Iaj .(Ia0 2))))))
theorem qu2 (F:Fac W){kx:Int}(hn:σ[n]?=some (.lst l))(hY:Y n)(hz:l.length<=sizeLine)(h2:r<=l.length)(hr:∀j:Nat,0<=j->j<l.length->(kx<κ j↔r<=j)){x:AV}(hkp:Kept W key)(hnn:isNone key=some false)(hk:∀j v,l[j]?=some v->∀k fr Y,Calls W Y (k+d) fr σ key [v] [] [] (.int (κ j)) σ)(hx:∀k fr Y,Calls W Y (k+d) fr σ key [x] [] [] (.int kx) σ)(hpx:plain x=true)(k:Nat)(fr:List Env):Calls W Y (k+1+d+1) fr σ (.glob (.ref A1)) [.loc n,x] ["key"] [key] .none (σ.set n (.lst (l.take r++[x]++l.drop r))):=by
  refine Ibc (τ:=[]) (F.f1k2 (.loc n) x key) (m':=[]) (fl:=.next) (fun cd env _=>?_) (by simp) (fun c1 c2=>⟨rfl,qh4 hn c1 (qd6 (c2 (by show (true&&(plain x&&true))=true;rw[hpx];rfl)) x (.tail _ (.head _)))⟩);rw[List.append_nil];refine Exs.f (Iad (m2:=[some (.loc n),some (x),some (.int 0),some .none,some key,none].set 2 (some (.int ((r:Nat):Int)))) ?_);show Exs _ _ _ _ _ (_::_) _ _ _;have hY':(fun m=>Y m\/σ.length<=m) n:=.inl hY;have hkx:=hx (k+1) (env::fr) (fun m=>Y m\/σ.length<=m);have hb:Calls W (fun m=>Y m\/σ.length<=m) (k+1+d) (env::fr) σ (.glob (.ref A2)) [.loc n,.int kx,.int 0,.none] ["key"] [key] (.int ((r:Nat):Int)) σ:=by
    refine qa4 (qud F (lo:=0) (s:=()) (⟨hkp,hnn,fun _ _=>.inr ⟨n,rfl,hn⟩,fun j v hv=>Ibk (hk j v hv)⟩:qmw W d (fun _=>False) (fun _:Unit=>σ) (fun _=>True) key (.loc n) l κ) trivial (fun _ _=>rfl) hz (.inl ⟨rfl,rfl⟩) (Nat.le_refl _) (Nat.zero_le r) h2 hr (F.f2k4 (.loc n) (.int kx) (.int 0) .none key)) ?_;intro _ _ h;have h:=h k (env::fr) (fun m=>Y m\/σ.length<=m) nofun;rwa[Nat.add_right_comm] at h
  have hkb:=(F.f2k4 .none .none .none .none .none).kept;with_reducible exact .(Exs.cons .(Ia9 (c:=false) .(Iac .(Ia3 .(Ia0 4) .(Iai) (Iab hnn)) rfl) (fun h=>nomatch h) (fun _=>.(Exs.cons .(Ia4 .(Ev.call .(Ial 5 F.g_bisect_right) (hkb) (Evs.cons .(Ia0 0) .((Evs.cons .(Ev.call .(Ia0 4) (hkp) (Evs.cons .(Ia0 1) .(Evs.nil)) EvK.nil (hkx)) .((Evs.cons .(Ia0 2) .((Evs.cons .(Ia0 3) .(Evs.nil)))))))) (EvK.cons .(Ia0 4) .(EvK.nil)) (hb)) .(Ia5 2)) .(Exs.nil)))) .(Exs.cons .(Ex.expr .(Iam .(Ia0 0) (by exact Ic7 .(Lv.loc (by assumption))) .(Kept.builtin) (Evs.cons .(Ia0 2) .((Evs.cons .(Ia0 1) .(Evs.nil)))) (by with_unfolding_all exact (Ic2 rfl hn hY' h2 hpx hz)))) .(Exs.nil)))
theorem qhc (F:Fac W){a x:AV}(B:FnB W NoK nm2.1 bd2.1 A2 args kn kv [some a,some x,some (.int (-1)),some H,some key,none,none,none]):CallsR W Y (k+1) fr σ (.glob (.ref A2)) args kn kv false "ValueError" (fun us=>∃t,us=[.str "lo must be non-negative" t]) σ:=by
  refine B.callsR (m':=[some a,some x,some (.int (-1)),some H,some key,none,none,none]) (mk:=true) fun cd env _=>?_
  show ExsR _ _ _ _ _ (_::_) _ _ _ _ _;refine ExsR.head ?_;show ExR _ _ _ _ _ (.If _ (_::_) _ _) _ _ _ _ _;refine Icl (c:=true) (z1:=σ) ?_ (fun _=>ExsR.head ?_) (fun h=>nomatch h)
  . with_reducible exact Iac .(Ia3 .(Ia0 2) .(Ia1) .(Op2.lt)) (by decide)
  . exact Ich (i:=6) Uu F.b_ValueError.g F.b_ValueError.b
theorem qks (F:Fac W){a x:AV}:CallsR W Y (k+1) fr σ (.glob (.ref A2)) [a,x,.int (-1)] ["key"] [key] false "ValueError" (fun us=>∃t,us=[.str "lo must be non-negative" t]) σ:=qhc F (F.f2k3 a x (.int (-1)) key)
theorem qk8 (F:Fac W){a x:AV}{kx:Int}(hkp:Kept W key)(hnn:isNone key=some false)(hx:∀k fr Y,Calls W Y (k+d) fr σ key [x] [] [] (.int kx) σ):CallsR W Y (k+1+d+1) fr σ (.glob (.ref A1)) [a,x,.int (-1)] ["key"] [key] false "ValueError" (fun us=>∃t,us=[.str "lo must be non-negative" t]) σ:=by
  refine (F.f1k3 a x (.int (-1)) key).callsR (mk:=false) (m':=[some a,some x,some (.int (-1)),some .none,some key,none]) fun cd env _=>?_
  have hkx:=hx (k+1) (env::fr) (fun m=>Y m\/σ.length<=m);have hb:CallsR W (fun m=>Y m\/σ.length<=m) (k+1+d) (env::fr) σ (.glob (.ref A2)) [a,.int kx,.int (-1),.none] ["key"] [key] false "ValueError" (fun us=>∃t,us=[.str "lo must be non-negative" t]) σ:=by
    have h:=qhc F (Y:=fun m=>Y m\/σ.length<=m) (k:=k+d) (fr:=env::fr) (σ:=σ) (F.f2k4 a (.int kx) (.int (-1)) .none key);rwa[Nat.add_right_comm] at h
  have hkb:=(F.f2k4 .none .none .none .none .none).kept;show ExsR _ _ _ _ _ (_::_) _ _ _ _ _;refine ExsR.head ?_;show ExR _ _ _ _ _ (.If _ _ (_::_) _) _ _ _ _ _;refine Icl (c:=false) (z1:=σ) ?_ (fun h=>nomatch h) (fun _=>ExsR.head ?_)
  . with_reducible exact .(Ia3 .(Ia0 4) .(Iai) (Iab hnn))
  . with_reducible exact Id7 .(EvR.call .(Ial 5 F.g_bisect_right) hkb (Evs.cons .(Ia0 0) .((Evs.cons .(Ev.call .(Ia0 4) (hkp) (Evs.cons .(Ia0 1) .(Evs.nil)) EvK.nil (hkx)) .((Evs.cons .(Ia0 2) .((Evs.cons .(Ia0 3) .(Evs.nil)))))))) (EvK.cons .(Ia0 4) .(EvK.nil)) hb)
theorem qs8 (F:Fac W){P:S->Prop}{s:S}{a:AV}{x:Int}{lo:Nat}(hK:qmw W d Yk sg P key a l κ)(hs:P s)(hlen:∀s s':S,(sg s).length=(sg s').length)(hz:l.length<=sizeLine)(hH:(H=.none/\hi=l.length)\/H=.int (hi:Nat))(hhi:hi<=l.length)(h1:lo<=r)(h2:r<=hi)(hr:∀j:Nat,lo<=j->j<hi->(κ j<x↔j<r))(B:FnB W NoK nm4.1 bd4.1 A4 args kn kv [some a,some (.int x),some (.int ((lo:Nat):Int)),some H,some key,none,none,none]):∃s',P s'/\∀(k:Nat) (fr:List Env) (Y:Nat->Prop),(∀n,Yk n->Y n)->Calls W Y (k+d+1) fr (sg s) (.glob (.ref A4)) args kn kv (.int (r:Nat)) (sg s'):=by
  refine qa4 (qi5 (nm:=nm4.1) (fun _ _ _ _ _ _ _=>qsw (y:=.none)) (qmu hK.lv hz hK.kept hK.at_ hhi hr) hi lo hi s (Nat.le_add_left _ _) h1 h2 (Nat.le_refl _) (Nat.le_refl _) hs) ?_;intro s' hs' hw;refine ⟨s',hs',fun k fr Y hY=>Ibd B (m':=[]) (fl:=.ret (.int (r:Nat))) (fun cd env _=>Exs.f ?_) (Nat.le_of_eq (hlen _ _)) rfl rfl⟩;have hw:=hw (fun m=>Y m\/(sg s).length<=m) cd k (env::fr) fun n q=>.inl (hY n q)
  have hneg:decide ((lo:Int)<0)=false:=decide_eq_false (Int.not_lt.mpr (Int.natCast_nonneg lo));show Exs _ _ _ _ _ (_::_) _ _ _;rcases hH with ⟨rfl,rfl⟩ | rfl
  . with_reducible exact Iad .(Exs.cons .(Ia9 (c:=false) .(Iac .(Ia3 .(Ia0 2) .(Ia1) .(Op2.lt)) hneg) (fun h=>nomatch h) (fun _=>.(Exs.nil))) .(Exs.cons .(Ia9 (c:=true) .(Iac .(Ia3 .(Ia0 3) .(Iai) .(Iab Uu)) rfl) (fun _=>.(Exs.cons .(Ia4 .(Ev.call .(Iaf 7 F.b_len) .(Kept.builtin) (Evs.cons .(Ia0 0) .(Evs.nil)) EvK.nil (Calls.len (hK.lv s hs) hz)) .(Ia5 3)) .(Exs.nil))) (fun h=>nomatch h)) .(Exs.cons .(Ia9 (c:=false) .(Iac .(Ia3 .(Ia0 4) .(Iai) (Iab hK.nn)) rfl) (fun h=>nomatch h) (fun _=>.(Exs.cons .(Iat (by with_unfolding_all exact WhileC.pre hw (Weak.of (by simp[qay])))) .(Exs.nil)))) .(Exs.ret .(Iaj .(Ia0 2))))))
  . with_reducible exact Iad .(Exs.cons .(Ia9 (c:=false) .(Iac .(Ia3 .(Ia0 2) .(Ia1) .(Op2.lt)) hneg) (fun h=>nomatch h) (fun _=>.(Exs.nil))) .(Exs.cons .(Ia9 (c:=false) .(Iac .(Ia3 .(Ia0 3) .(Iai) .(Iab Uu)) rfl) (fun h=>nomatch h) (fun _=>.(Exs.nil))) .(Exs.cons .(Ia9 (c:=false) .(Iac .(Ia3 .(Ia0 4) .(Iai) (Iab hK.nn)) rfl) (fun h=>nomatch h) (fun _=>.(Exs.cons .(Iat (by with_unfolding_all exact WhileC.pre hw (Weak.of (by simp[qay])))) .(Exs.nil)))) .(Exs.ret .(Iaj .(Ia0 2))))))
theorem quv (F:Fac W){kx:Int}(hn:σ[n]?=some (.lst l))(hY:Y n)(hz:l.length<=sizeLine)(h2:r<=l.length)(hr:∀j:Nat,0<=j->j<l.length->(κ j<kx↔j<r)){x:AV}(hkp:Kept W key)(hnn:isNone key=some false)(hk:∀j v,l[j]?=some v->∀k fr Y,Calls W Y (k+d) fr σ key [v] [] [] (.int (κ j)) σ)(hx:∀k fr Y,Calls W Y (k+d) fr σ key [x] [] [] (.int kx) σ)(hpx:plain x=true)(k:Nat)(fr:List Env):Calls W Y (k+1+d+1) fr σ (.glob (.ref A3)) [.loc n,x] ["key"] [key] .none (σ.set n (.lst (l.take r++[x]++l.drop r))):=by
  refine Ibc (τ:=[]) (F.f3k2 (.loc n) x key) (m':=[]) (fl:=.next) (fun cd env _=>?_) (by simp) (fun c1 c2=>⟨rfl,qh4 hn c1 (qd6 (c2 (by show (true&&(plain x&&true))=true;rw[hpx];rfl)) x (.tail _ (.head _)))⟩);rw[List.append_nil];refine Exs.f (Iad (m2:=[some (.loc n),some (x),some (.int 0),some .none,some key,none].set 2 (some (.int ((r:Nat):Int)))) ?_);show Exs _ _ _ _ _ (_::_) _ _ _;have hY':(fun m=>Y m\/σ.length<=m) n:=.inl hY;have hkx:=hx (k+1) (env::fr) (fun m=>Y m\/σ.length<=m);have hb:Calls W (fun m=>Y m\/σ.length<=m) (k+1+d) (env::fr) σ (.glob (.ref A4)) [.loc n,.int kx,.int 0,.none] ["key"] [key] (.int ((r:Nat):Int)) σ:=by
    refine qa4 (qs8 F (lo:=0) (s:=()) (⟨hkp,hnn,fun _ _=>.inr ⟨n,rfl,hn⟩,fun j v hv=>Ibk (hk j v hv)⟩:qmw W d (fun _=>False) (fun _:Unit=>σ) (fun _=>True) key (.loc n) l κ) trivial (fun _ _=>rfl) hz (.inl ⟨rfl,rfl⟩) (Nat.le_refl _) (Nat.zero_le r) h2 hr (F.f4k4 (.loc n) (.int kx) (.int 0) .none key)) ?_;intro _ _ h;have h:=h k (env::fr) (fun m=>Y m\/σ.length<=m) nofun;rwa[Nat.add_right_comm] at h
  have hkb:=(F.f4k4 .none .none .none .none .none).kept;with_reducible exact .(Exs.cons .(Ia9 (c:=false) .(Iac .(Ia3 .(Ia0 4) .(Iai) (Iab hnn)) rfl) (fun h=>nomatch h) (fun _=>.(Exs.cons .(Ia4 .(Ev.call .(Ial 5 F.g_bisect_left) (hkb) (Evs.cons .(Ia0 0) .((Evs.cons .(Ev.call .(Ia0 4) (hkp) (Evs.cons .(Ia0 1) .(Evs.nil)) EvK.nil (hkx)) .((Evs.cons .(Ia0 2) .((Evs.cons .(Ia0 3) .(Evs.nil)))))))) (EvK.cons .(Ia0 4) .(EvK.nil)) (hb)) .(Ia5 2)) .(Exs.nil)))) .(Exs.cons .(Ex.expr .(Iam .(Ia0 0) (by exact Ic7 .(Lv.loc (by assumption))) .(Kept.builtin) (Evs.cons .(Ia0 2) .((Evs.cons .(Ia0 1) .(Evs.nil)))) (by with_unfolding_all exact (Ic2 rfl hn hY' h2 hpx hz)))) .(Exs.nil)))
theorem qhd (F:Fac W){a x:AV}(B:FnB W NoK nm4.1 bd4.1 A4 args kn kv [some a,some x,some (.int (-1)),some H,some key,none,none,none]):CallsR W Y (k+1) fr σ (.glob (.ref A4)) args kn kv false "ValueError" (fun us=>∃t,us=[.str "lo must be non-negative" t]) σ:=by
  refine B.callsR (m':=[some a,some x,some (.int (-1)),some H,some key,none,none,none]) (mk:=true) fun cd env _=>?_
  show ExsR _ _ _ _ _ (_::_) _ _ _ _ _;refine ExsR.head ?_;show ExR _ _ _ _ _ (.If _ (_::_) _ _) _ _ _ _ _;refine Icl (c:=true) (z1:=σ) ?_ (fun _=>ExsR.head ?_) (fun h=>nomatch h)
  . with_reducible exact Iac .(Ia3 .(Ia0 2) .(Ia1) .(Op2.lt)) (by decide)
  . exact Ich (i:=6) Uu F.b_ValueError.g F.b_ValueError.b
theorem qkt (F:Fac W){a x:AV}:CallsR W Y (k+1) fr σ (.glob (.ref A4)) [a,x,.int (-1)] ["key"] [key] false "ValueError" (fun us=>∃t,us=[.str "lo must be non-negative" t]) σ:=qhd F (F.f4k3 a x (.int (-1)) key)
theorem qk9 (F:Fac W){a x:AV}{kx:Int}(hkp:Kept W key)(hnn:isNone key=some false)(hx:∀k fr Y,Calls W Y (k+d) fr σ key [x] [] [] (.int kx) σ):CallsR W Y (k+1+d+1) fr σ (.glob (.ref A3)) [a,x,.int (-1)] ["key"] [key] false "ValueError" (fun us=>∃t,us=[.str "lo must be non-negative" t]) σ:=by
  refine (F.f3k3 a x (.int (-1)) key).callsR (mk:=false) (m':=[some a,some x,some (.int (-1)),some .none,some key,none]) fun cd env _=>?_
  have hkx:=hx (k+1) (env::fr) (fun m=>Y m\/σ.length<=m);have hb:CallsR W (fun m=>Y m\/σ.length<=m) (k+1+d) (env::fr) σ (.glob (.ref A4)) [a,.int kx,.int (-1),.none] ["key"] [key] false "ValueError" (fun us=>∃t,us=[.str "lo must be non-negative" t]) σ:=by
    have h:=qhd F (Y:=fun m=>Y m\/σ.length<=m) (k:=k+d) (fr:=env::fr) (σ:=σ) (F.f4k4 a (.int kx) (.int (-1)) .none key);rwa[Nat.add_right_comm] at h
  have hkb:=(F.f4k4 .none .none .none .none .none).kept;show ExsR _ _ _ _ _ (_::_) _ _ _ _ _;refine ExsR.head ?_;show ExR _ _ _ _ _ (.If _ _ (_::_) _) _ _ _ _ _;refine Icl (c:=false) (z1:=σ) ?_ (fun h=>nomatch h) (fun _=>ExsR.head ?_)
  . with_reducible exact .(Ia3 .(Ia0 4) .(Iai) (Iab hnn))
  . with_reducible exact Id7 .(EvR.call .(Ial 5 F.g_bisect_left) hkb (Evs.cons .(Ia0 0) .((Evs.cons .(Ev.call .(Ia0 4) (hkp) (Evs.cons .(Ia0 1) .(Evs.nil)) EvK.nil (hkx)) .((Evs.cons .(Ia0 2) .((Evs.cons .(Ia0 3) .(Evs.nil)))))))) (EvK.cons .(Ia0 4) .(EvK.nil)) hb)
end
section
theorem qkn {n w h:Int}{t:List Int}(ht:qcs n w=h::t)(hz:(h::t).length<=6):Exs ⟨W,Y,nm13.1,cd⟩ k fr [some (.int n),some (.int w),none] σ bd13.1 (.ret (.lst (qa0 ((h+128)::t)))) ([some (.int n),some (.int w),none].set 2 (some (.lst (qa0 (h::t))))) σ:=by
  show Exs ⟨W,Y,nm13.1,cd⟩ k fr _ σ (_::_) _ _ σ;have pw:∀x:Int,x∈([5,4,3,2,1]:List Int)->((64:Int) ^ x.toNat≠0/\((64:Int) ^ x.toNat).natAbs<2 ^ 64)/\0<=x/\x<=1000000:=by
    intro x hx;simp at hx;rcases hx with rfl | rfl | rfl | rfl | rfl <;> decide
  have e1:AV.lst (List.map (fun k=>AV.int ((n.fdiv (64 ^ k.toNat)).fmod 64+64)) (List.filter (fun k:Int=>w==1||decide (64 ^ k.toNat<=n)) [5,4,3,2,1])++[.int (n.fmod 64)])=.lst (qa0 (h::t)):=by
    rw[<- ht,qcs,qa0,List.map_append,List.map_map];rfl
  have hl:(qa0 (h::t)).length<=6:=by rw[qa0,List.length_map];exact hz
  have hz1:(List.map (fun k=>AV.int ((n.fdiv (64 ^ k.toNat)).fmod 64+64)) (List.filter (fun k:Int=>w==1||decide (64 ^ k.toNat<=n)) [5,4,3,2,1])).length+[AV.int (n.fmod 64)].length<=sizeLine:=by
    rw[List.length_map,sizeLine_eq];have:=List.length_filter_le (fun k:Int=>w==1||decide (64 ^ k.toNat<=n)) [5,4,3,2,1];simp at this ⊢;omega
  have hz2:[AV.int (h+128)].length+(qdw (qa0 (h::t)) (some 1) none none).length<=sizeLine:=by
    rw[show qdw (qa0 (h::t)) (some 1) none none=qa0 t from qe9 _ 1,sizeLine_eq,qa0,List.length_map];simp at hz ⊢;lia
  have e2:AV.lst ([AV.int (h+128)]++qdw (qa0 (h::t)) (some 1) none none)=.lst (qa0 ((h+128)::t)):=by
    rw[show qdw (qa0 (h::t)) (some 1) none none=qa0 t from qe9 _ 1];rfl
  have hs1:(qa0 (h::t)).length<=sizeLine:=by rw[sizeLine_eq];lia
  have hs2:qdw (qa0 (h::t)) (some 1) none none=qa0 t:=qe9 _ 1;with_reducible exact .(Exs.cons .(Ia4 .(Ian .(Ia2 .(Iae .(ItE.tuple .(Ev.tuple (Evs.cons .(Ia1) .((Evs.cons .(Ia1) .((Evs.cons .(Ia1) .((Evs.cons .(Ia1) .((Evs.cons .(Ia1) .(Evs.nil)))))))))))) (CompIn.of [none,none,some 0,some 1] (by kernel_rfl) (by kernel_rfl)) .(Iao Uu ([5,4,3,2,1]) (AV.int) ((fun k=>w==1||decide (64 ^ k.toNat<=n))) ((fun k=>AV.int ((n.fdiv (64 ^ k.toNat)).fmod 64+64))) _ (fun x hx=>.(Ia5 1)) (fun x hx=>.(Ic4 .(Id4 .(Ia3 .(Ia6 3) .(Ia1) .(Ibj)) (fun _=>.(Ic3 .(Ia3 .(Ia6 2) .(Ia2 .(Ia1) .(Ia0 1) (Ick (pw x hx).2.1 (pw x hx).2.2 (by decide))) .(Iec)))) (fun _=>rfl)))) (fun x hx hp=>.(Ia2 .(Ia2 .(Ia2 .(Ia6 2) .(Ia2 .(Ia1) .(Ia0 1) (Ick (pw x hx).2.1 (pw x hx).2.2 (by decide))) (Ias (pw x hx).1.1 (pw x hx).1.2)) .(Ia1) .(Iap (by decide))) .(Ia1) .(Op2.add))) .(fun _=>Weak.set Uu))) .(Ev.list (Evs.cons .(Ia2 .(Ia6 0) .(Ia1) .(Iap (by decide))) .(Evs.nil))) (Ib7 Lv.fz Lv.fz hz1)) (e1)) .(Ia5 2 (hp:=.(qap _)))) .(Exs.ret .(Iaj .(Ian .(Ia2 .(Ev.list (Evs.cons .(Ia2 .(Ia8 .(Ia0 2) .(Ia1) .(Lv.fz) (by exact qb4 (j:=0) rfl rfl) (by exact hs1)) .(Ia1) .(Op2.add)) .(Evs.nil))) .(Ibm .(Ia0 2) (Ibe .(Ia1)) EvO.none EvO.none Lv.fz (by simp) hs1) (Ib7 Lv.fz Lv.fz hz2)) (e2)))))
end
section
theorem qdo (l:List Int):qae b (qa0 l)=true:=qe7 fun v hv=>by
  refine qa4 (List.mem_map.mp hv) ?_;intro i _ eq_0_2;subst eq_0_2;rfl
theorem qe8 {x:AObj}(h:∀ao∈σ,qdq b ao=true)(hx:qdq b x=true):∀ao∈σ.set n x,qdq b ao=true:=fun ao hao=>by
  rcases List.mem_or_eq_of_mem_set hao with q | rfl
  . exact h ao q
  . exact hx
theorem qjb (F:Fac W){n w:Int}:Calls W Y (k+1) fr σ (.glob (.ref A13)) [.int n,.int w] [] [] (.lst (qa0 (qmy n w))) σ:=by
  refine qt5 (qh7 (n:=n) (w:=w)) ?_;intro hz h t ht;refine Iax (F.f13 (.int n) (.int w) rfl rfl) (fun cd env _=>(qkn ht (ht ▸ hz)).f) ?_ (qap _);rw[qmy,ht];rfl
noncomputable def te8:PSigma (fun l=>(qn5 (nth bd8.1 2))=l):=⟨_,by conv=>lhs;whnf⟩
noncomputable def bo8:PSigma (fun l=>(qbo (nth bd8.1 2))=l):=⟨_,by conv=>lhs;whnf⟩
theorem qju (F:Fac W){r:Int}{out:List Int}(hY:Y n):∀(rest:List Int) (val b:Int) (σ:List AObj),σ[n]?=some (.iter (qa0 rest))->ql9 val b rest=some (r,out) ->
    WhileC ⟨W,Y,nm8.1,cd⟩ k fr te8.1 bo8.1 [] [some (.loc n),some (.int b),some (.int val),none] σ .next [some (.loc n),none,some (.int r),none] (σ.set n (.iter (qa0 out))):=by
  have stop:∀(rest:List Int) (val b:Int) (σ:List AObj),σ[n]?=some (.iter (qa0 rest))->ql9 val b rest=some (r,out)->b / 64 % 2=0 ->
      WhileC ⟨W,Y,nm8.1,cd⟩ k fr te8.1 bo8.1 [] [some (.loc n),some (.int b),some (.int val),none] σ .next [some (.loc n),none,some (.int r),none] (σ.set n (.iter (qa0 out))):=by
    intro rest val b σ hn hp hb;rw[qhi hb] at hp;injection hp with hp;injection hp with h1 h2;subst h1 h2
    rw[qbs hn];have ht:(Builtin.bitAnd b 64 != 0)=false:=by
      rw[show (64:Int)=2 ^ 6 from rfl,kbt_bit,show (2:Int) ^ 6=64 from rfl,hb];rfl
    refine WhileC.post (m2:=[some (.loc n),some (.int b),some (.int val),none]) (Ib6 (z1:=σ) ?_ Exs.nil) (Weak.of (by simp[qay]));show Tr _ _ _ _ _ (.BinOp _ _ _ _) _ _;with_reducible exact Iac .(Tr.val .(Ia2 .(Ia0 1) .(Ia1) .(Op2.and)) (Tv.int)) ht
  intro rest;induction rest with
  | nil=>
    intro val b σ hn hp;by_cases hb:b / 64 % 2=0
    . exact stop [] val b σ hn hp hb
    . rw[ql9,if_neg hb] at hp;cases hp
  | cons b' rest ih=>
    intro val b σ hn hp;by_cases hb:b / 64 % 2=0
    . exact stop _ val b σ hn hp hb
    . by_cases hv:0<=val/\val<2 ^ 50
      . rw[qfs hb hv] at hp;have ht:(Builtin.bitAnd b 64 != 0)=true:=by
          rw[show (64:Int)=2 ^ 6 from rfl,kbt_bit,show (2:Int) ^ 6=64 from rfl];have:b / 64 % 2=1:=by lia
          rw[this];rfl
        have hw:=ih (val*64+b' % 64) b' (σ.set n (.iter (qa0 rest))) (qbi hn) hp;rw[List.set_set] at hw;have hnx:σ[n]?=some (.iter (.int b'::qa0 rest)):=hn;have e1:AV.int (Builtin.bitOr (val*2 ^ (6:Int).toNat) (Builtin.bitAnd b' 63))=.int (val*64+b' % 64):=by
          rw[bitAnd_m6,show (2:Int) ^ (6:Int).toNat=64 from rfl,qpe hv.1 (by lia) (by lia)]
        refine WhileC.next (z1:=σ) (z2:=σ.set n (.iter (qa0 rest))) (m1:=[some (.loc n),some (.int b'),some (.int (val*64+b' % 64)),none]) ?_ ?_ hw
        . show Tr _ _ _ _ _ (.BinOp _ _ _ _) _ _;with_reducible exact Iac .(Tr.val .(Ia2 .(Ia0 1) .(Ia1) .(Op2.and)) (Tv.int)) ht
        . refine Exs.post (m2:=((([some (.loc n),some (.int b),some (.int val),none].set 2 (some (.int (val*2 ^ (6:Int).toNat)))).set 1 (some (.int b'))).set 2 (some (.int (val*64+b' % 64))))) ?_ (Weak.of (by simp[qay]));show Exs _ _ _ _ _ (_::_) _ _ _;have hva:val.natAbs<2 ^ 64:=by lia
          with_reducible exact .(Exs.cons .(Idg (i:=2) Uu Uu .(Ia1) (Ie3 (by decide) (by decide) hva) Uu) .(Exs.cons .(Ia4 .(Ev.call .(Iaf 3 F.b_next) .(Kept.builtin) (Evs.cons .(Ia0 0) .(Evs.nil)) EvK.nil (Icc hnx hY)) .(Ia5 1)) .(Exs.cons .(Idg (i:=2) Uu Uu .(Ia2 .(Ia0 1) .(Ia1) .(Op2.and)) (Ibh Ief e1) Uu) .(Exs.nil))))
      . rw[ql9,if_neg hb,if_neg hv] at hp;cases hp
theorem qia (F:Fac W){l out:List Int}{r:Int}(hY:Y n)(hn:σ[n]?=some (.iter (qa0 l)))(hp:pv l=some (r,out)):
    Calls W Y (k+1) fr σ (.glob (.ref A8)) [.loc n] [] [] (.int r) (σ.set n (.iter (qa0 out))):=by
  cases l with
  | nil=>cases hp
  | cons b rest=>
    refine Ibc (τ:=[]) (F.f8 (.loc n)) (m':=[]) (fl:=.ret (.int r)) (fun cd env _=>?_) (by simp) (fun c1 c2=>⟨rfl,qe8 c1 (qdo out)⟩);have hnx:σ[n]?=some (.iter (.int b::qa0 rest)):=hn;have hp':ql9 (b % 64) b rest=some (r,out):=hp;have hY':(fun m=>Y m\/σ.length<=m) n:=.inl hY;have hw:=qju F (Y:=fun m=>Y m\/σ.length<=m) (cd:=cd) (k:=k) (fr:=env::fr) hY' rest (b % 64) b (σ.set n (.iter (qa0 rest))) (qbi hn) hp';rw[List.set_set] at hw;have e1:AV.int (Builtin.bitAnd b 63)=.int (b % 64):=by rw[bitAnd_m6]
    rw[List.append_nil];refine Exs.f (Iad (m2:=[some (.loc n),none,some (.int r),none]) ?_);show Exs _ _ _ _ _ (_::_) _ _ _;with_reducible exact .(Exs.cons .(Ia4 .(Ev.call .(Iaf 3 F.b_next) .(Kept.builtin) (Evs.cons .(Ia0 0) .(Evs.nil)) EvK.nil (Icc hnx hY')) .(Ia5 1)) .(Exs.cons .(Ia4 .(Ian .(Ia2 .(Ia0 1) .(Ia1) .(Op2.and)) (e1)) .(Ia5 2)) .(Exs.cons .(Iat (by with_unfolding_all exact WhileC.pre hw (Weak.of (by simp[qay])))) .(Exs.ret .(Iaj .(Ia0 2))))))
theorem qi9 (F:Fac W)(hY:Y n)(hn:σ[n]?=some (.iter [])):
    CallsR W Y (k+1) fr σ (.glob (.ref A8)) [.loc n] [] [] false "StopIteration" (fun us=>us=[]) (σ.set n .iterDone):=by
  refine (F.f8 (.loc n)).callsR (mk:=true) (m':=[some (.loc n),none,none,none]) fun cd env _=>?_
  have hY':(fun m=>Y m\/σ.length<=m) n:=.inl hY;show ExsR _ _ _ _ _ (_::_) _ _ _ _ _;refine ExsR.head ?_;with_reducible exact Id7 .(EvR.call .(Iaf 3 F.b_next) .(Kept.builtin) (Evs.cons .(Ia0 0) .(Evs.nil)) EvK.nil (Id0 hn hY'))
noncomputable def Reads:List Int->List Int->Prop
  | [],l=>l=[]
  | n::ns,l=>∃out,pv l=some (n,out)/\Reads ns out
noncomputable def qii (t j:Nat):List (Option AV):=[some (.loc t),some (.loc j),none,none,none,none]
theorem qbp {a:Int}{c:Int}(h:i<n):(AIt.range a c n).items[i]?=some (.int (a+(i:Nat)*c)):=by
  simp[AIt.items,h]
noncomputable def ta14:PSigma (fun l=>(qcc (nth (qbo (nth bd14.1 0)) 0))=l):=⟨_,by conv=>lhs;whnf⟩
noncomputable def bo14:PSigma (fun l=>(qbo (nth (qbo (nth bd14.1 0)) 0))=l):=⟨_,by conv=>lhs;whnf⟩
theorem qnh (F:Fac W){t:Nat}(hYt:Y t)(hYj:Y j)(htj:t≠j):∀(ns done l:List Int) (i:Nat) (σ:List AObj),σ[t]?=some (.iter (qa0 l))->σ[j]?=some (.lst (qa0 done))->Reads ns l->i+ns.length<20->done.length+ns.length<=1000 ->
    ForR ⟨W,Y,nm14.1,cd⟩ (k+1) fr ta14.1 bo14.1 [] (.range 0 1 20) i (qii t j) σ "StopIteration" (fun us=>us=[]) (qii t j) ((σ.set j (.lst (qa0 (done++ns)))).set t .iterDone):=by
  intro ns;induction ns with
  | nil=>
    intro done l i σ ht hj hr hi hz;obtain rfl:l=[]:=hr;rw[List.append_nil,qbs hj];have hi:i<20:=by simpa using hi
    refine ForR.here (m1:=(qii t j).set 2 (some (.int (0+(i:Nat)*1)))) (z1:=σ) True.intro rfl (qbp hi) nofun ?_ ?_
    . show As _ _ _ _ _ (.Name _ _) _ _ _;exact .(Ia5 2)
    . have hc:=qi9 F (k:=k) (fr:=fr) hYt ht;have hkp:=(F.f8 .none).kept;refine ExsR.post (m2:=(qii t j).set 2 (some (.int (0+(i:Nat)*1)))) ?_ (Weak.set rfl);show ExsR _ _ _ _ _ (_::_) _ _ _ _ _;refine ExsR.head ?_;with_reducible exact ExR.expr .(Id8 .(Ia0 1) (by exact Meth.append (Lv.loc hj)) Kept.builtin .(EvR.call .(Ial 4 F.g_parse_varint) hkp (Evs.cons .(Ia0 0) .(Evs.nil)) EvK.nil hc))
  | cons n ns ih=>
    intro done l i σ ht hj hr hi hz;refine qa4 (hr) ?_;(try clear hr);intro out hp hr;have hi':i+(ns.length+1)<20:=hi;have hi:i<20:=by lia
    have hc:=qia F (k:=k) (fr:=fr) hYt ht hp;have hkp:=(F.f8 .none).kept;have hj':(σ.set t (.iter (qa0 out)))[j]?=some (.lst (qa0 done)):=by rw[qan htj];exact hj
    have ht':((σ.set t (.iter (qa0 out))).set j (.lst (qa0 done++[.int n])))[t]?=some (.iter (qa0 out)):=by rw[qan (Ne.symm htj)];exact qbi ht
    have hw:=ih (done++[n]) out (i+1) _ ht' (by rw[qbi hj'];simp[qa0]) hr (by lia) (by simp at hz ⊢;lia);have e:(((((σ.set t (.iter (qa0 out))).set j (.lst (qa0 done++[.int n])))).set j (.lst (qa0 (done++[n]++ns)))).set t .iterDone)=(σ.set j (.lst (qa0 (done++n::ns)))).set t .iterDone:=by
      rw[List.set_set,List.set_comm _ _ htj,List.set_set];simp
    rw[e] at hw;have hzz:(qa0 done).length<=sizeLine:=by rw[qa0,List.length_map,sizeLine_eq];lia
    refine ForR.next (m1:=(qii t j).set 2 (some (.int (0+(i:Nat)*1)))) (m2:=(qii t j).set 2 (some (.int (0+(i:Nat)*1)))) (z1:=σ) True.intro rfl (qbp hi) nofun ?_ ?_ (hw.pre (Weak.set rfl))
    . show As _ _ _ _ _ (.Name _ _) _ _ _;exact .(Ia5 2)
    . show Exs _ _ _ _ _ (_::_) _ _ _;with_reducible exact .(Exs.cons .(Ex.expr .(Iam .(Ia0 1) (Meth.append (Lv.loc hj)) .(Kept.builtin) (Evs.cons .(Ev.call .(Ial 4 F.g_parse_varint) (hkp) (Evs.cons .(Ia0 0) .(Evs.nil)) EvK.nil (hc)) .(Evs.nil)) (by with_unfolding_all exact (Calls.append hj' hYj rfl hzz)))) .(Exs.nil))
theorem qm5 (F:Fac W){t:Nat}{l:List Int}(hYt:Y t)(hYj:Y j)(htj:t≠j)(ht:σ[t]?=some (.iter (qa0 l)))(hj:σ[j]?=some (.lst []))(hr:Reads ns l)(hz:ns.length<20):
    Calls W Y (k+2) fr σ (.glob (.ref A14)) [.loc t,.loc j] [] [] (.loc j) ((σ.set j (.lst (qa0 ns))).set t .iterDone):=by
  have hjl:j<σ.length:=(List.getElem?_eq_some_iff.mp hj).1;refine Ibc (τ:=[]) (F.f14 (.loc t) (.loc j)) (m':=qii t j) (fl:=.ret (.loc j)) (fun cd env _=>?_) (by simp) (fun c1 c2=>⟨?_,qe8 (qe8 c1 (qdo ns)) rfl⟩)
  . have hYt':(fun m=>Y m\/σ.length<=m) t:=.inl hYt;have hYj':(fun m=>Y m\/σ.length<=m) j:=.inl hYj;have hl:=qnh F (Y:=fun m=>Y m\/σ.length<=m) (cd:=cd) (k:=k) (fr:=env::fr) hYt' hYj' htj ns [] l 0 σ ht hj hr (by simp_all) (by simp;lia);rw[List.append_nil];rw[List.nil_append] at hl;show ExsF _ _ _ _ _ _ (_::_) _ _ _;refine ExsF.ret ?_;show ExF _ _ _ _ _ _ (.Try (_::_) _ _ _ _) _ _ _;with_reducible refine Idp (i:=5) (j:=1) (X := "StopIteration") (T := "StopIteration") (P:=fun us=>us=[]) (m1:=qii t j) ?_ (by decide) (by decide) (by rw[isSubtype_type];kernel_rfl) (by rw[isSubtype_type];kernel_rfl) (by rw[isSubtype_type];kernel_rfl) Uu F.b_StopIteration.g F.b_StopIteration.b Uu Uu
    with_reducible exact ExsR.head .(Ie5 .(ItE.call .(Iaf 3 F.b_range) .(Kept.type) (Evs.cons .(Ia1) .(Evs.nil)) .(Iag (by decide))) (by with_unfolding_all exact hl))
  . show AV.loc j=frz σ.length _ (.loc j);exact (qby (.loc j) (decide_eq_true hjl)).symm
end
section
noncomputable def flagNames:List Str:=["OPTIMIZED", "NEWLOCALS", "VARARGS", "VARKEYWORDS", "NESTED", "GENERATOR", "NOFREE", "COROUTINE", "ITERABLE_COROUTINE", "ASYNC_GENERATOR"]
noncomputable def qco (p:Nat):Str:=if p<10 then flagNames.getD p "" else baseText "0x" 16 (2 ^ p)
noncomputable def qqa (p:Nat):Str:=(((flagTab.map (·.1)).zip (flagTab.map (·.2))).lookup (2 ^ p)).getD (baseText "0x" 16 (2 ^ p))
theorem qkh:∀p:Fin 32,qqa p=qco p:=by decide +kernel
theorem qdc:∀p:Fin 32,(qco p).length<=30/\(baseText "0x" 16 (2 ^ (p:Nat))).length<=100/\PyData.strOk (qco p)=true:=by decide +kernel
theorem qpt (p:Fin 10):(qbh flagNames)[(p:Nat)]?=some (.str (qco p)):=by
  rw[qco,if_pos p.2,qbh,List.getElem?_map,List.getD_eq_getElem?_getD,List.getElem?_eq_getElem (show (p:Nat)<flagNames.length from p.2)];rfl
noncomputable def qax (ps:List Nat):List Str:=if ps=[] then ["0x0"] else ps.map qco
theorem qgw (hps:∀p∈ps,p<32)(hz:ps.length<=100):((qax ps).map (·.length)).sum+(qax ps).length*(Str.ofString ", ").length<=16777216:=by
  have key:∀(l:List Nat),(∀p∈l,p<32)->((l.map qco).map (·.length)).sum<=30*l.length:=by
    intro l;induction l with
    | nil=>intro _;simp
    | cons a l ih=>
      intro h;have h1:=(qdc ⟨a,h a List.mem_cons_self⟩).1;have h2:=ih fun p hp=>h p (List.mem_cons_of_mem _ hp)
      simp only[List.map_cons,List.sum_cons,List.length_cons] at h1 ⊢;lia
  have hc:(Str.ofString ", ").length=2:=by decide
  rw[hc];unfold qax;split
  . decide
  . have:=key ps hps;rw[List.length_map];lia
theorem qm1 (F:Fac W)(hps:∀p∈ps,p<32)(hz:ps.length<=100):Exs ⟨W,Y,nm15.1,cd⟩ k fr [some (.lst (ps.map fun p=>.int (p:Nat))),none,none] σ bd15.1 (.ret (.str (Txt.join ", " (qax ps)))) [] σ:=by
  refine Iad (m2:=([some (.lst (ps.map fun p=>.int (p:Nat))),none,none].set 1 (some (.lst (qbh flagNames)))).set 2 (some (.lst (ps.map fun p=>.str (qco p))))) ?_;show Exs _ _ _ _ _ (_::_) _ _ _;have hw1:∀p∈ps,decide ((p:Int)<10)=true->(qbh flagNames)[p]?=some (.str (qco p)):=fun p hp h=>by
    have h:p<10:=by simp at h;lia
    exact qpt ⟨p,h⟩
  have hw2:∀p∈ps,decide ((p:Int)<10)=false->AV.str (baseText "0x" 16 (2 ^ (p:Int).toNat))=.str (qco p):=fun p hp h=>by
    have h:¬p<10:=by simp at h;lia
    rw[qco,if_neg h];rfl
  have hw3:∀p∈ps,(baseText "0x" 16 (2 ^ (p:Int).toNat)).length<=sizeLine:=fun p hp=>by
    have:=(qdc ⟨p,hps p hp⟩).2.1;exact Nat.le_trans this (by decide)
  have hp0:∀p:Nat,(0:Int)<=p/\((p<32)->(p:Int)<=1000000):=fun p=>⟨by simp +arith,by lia⟩
  have hsp:Txt.words "OPTIMIZED NEWLOCALS VARARGS VARKEYWORDS NESTED GENERATOR NOFREE COROUTINE ITERABLE_COROUTINE ASYNC_GENERATOR"=flagNames:=by decide +kernel
  have hs1:(Str.ofString "OPTIMIZED NEWLOCALS VARARGS VARKEYWORDS NESTED GENERATOR NOFREE COROUTINE ITERABLE_COROUTINE ASYNC_GENERATOR").length<=sizeLine:=by decide +kernel
  have hs2:(PySem.Builtin.Str.spaceWords "OPTIMIZED NEWLOCALS VARARGS VARKEYWORDS NESTED GENERATOR NOFREE COROUTINE ITERABLE_COROUTINE ASYNC_GENERATOR" ((Str.ofString "OPTIMIZED NEWLOCALS VARARGS VARKEYWORDS NESTED GENERATOR NOFREE COROUTINE ITERABLE_COROUTINE ASYNC_GENERATOR").length+1)).length<=sizeLine:=by decide +kernel
  have hpf:plain (.lst (qbh flagNames))=true:=by decide +kernel
  have hzz:ps.length<=2 ^ 20:=by lia
  have hnz:(qbh flagNames).length<=sizeLine:=by decide +kernel
  have hD:D1 64 (.lst (ps.map fun p=>AV.str (qco p))):=D1.lst (d:=63) fun p hp=>D1.str (qdc ⟨p,hps p hp⟩).2.2
  have hne:(decide (ps≠[]))=true↔AV.lst (ps.map fun p=>AV.str (qco p))≠.lst []:=by
    rw[decide_eq_true_iff];constructor
    . intro h e;injection e with e;exact h (List.map_eq_nil_iff.mp e)
    . intro h e;exact h (by rw[e];rfl)
  have he1:decide (ps≠[])=true->AV.lst (ps.map fun p=>AV.str (qco p))=.lst (qbh (qax ps)):=fun h=>by
    rw[qax,if_neg (of_decide_eq_true h),qbh,List.map_map];rfl
  have he2:decide (ps≠[])=false->AV.lst [.str "0x0"]=.lst (qbh (qax ps)):=fun h=>by
    rw[qax,if_pos (Decidable.not_not.mp (of_decide_eq_false h))];rfl
  with_reducible exact .(Exs.cons .(Ia4 .(Iam .(Ia7) (by exact Idm) .(Kept.builtin) Evs.nil (by with_unfolding_all exact (Ida hsp hs1 hs2))) .(Ib9 1 (hp:=(by assumption)))) .(Exs.cons .(Ib4 (i:=2) Uu .(ItE.list .(Ia0 0) .(Lv.fz)) (CompIn.of [none,none,none,some 1] (by kernel_rfl) (by kernel_rfl)) .(CompC.map (hp:=by with_unfolding_all exact qai (fun _=>rfl) _) (hz:=by assumption) Uu (ps) ((fun p:Nat=>AV.int p)) ((fun p=>AV.str (qco p))) _ (fun x hx=>.(Ia5 1)) (fun x hx=>.(Ibn .(Ia3 .(Ia0 1) .(Ia1) .(Op2.lt)) (fun hc=>.(Ia8 .(Ia6 3) .(Ia0 1) .(Lv.fz) (by exact qb4 rfl (hw1 x hx hc)) (by exact hnz))) (fun hc=>.(Ian .(Ev.call .(Iaf 2 F.b_hex) .(Kept.builtin) (Evs.cons .(Ia2 .(Ia1) .(Ia0 1) (Ick (hp0 x).1 ((hp0 x).2 (hps x hx)) (by decide))) .(Evs.nil)) EvK.nil (Ibp (hw3 x hx))) (hw2 x hx hc))))) .(fun _=>Weak.set Uu)) .(qai (fun _=>Uu) _)) .(Exs.ret .(Iaj .(Iam .(Ia7) (by exact Meth.join) .(Kept.builtin) (Evs.cons .(Ibn .(Ia3 .(Ia0 2) .(Ev.list Evs.nil) (Ibz (Dv.of hD) (Dv.of D1.nil) hne)) (fun hc=>.(Ian .(Ia0 2) (he1 hc))) (fun hc=>.(Ian .(Ev.list (Evs.cons .(Ia7) .(Evs.nil))) (he2 hc)))) .(Evs.nil)) (by with_unfolding_all exact (Calls.join Lv.fz (qgw hps hz))))))))
theorem qjq (F:Fac W)(hps:∀p∈ps,p<32)(hz:ps.length<=100):Calls W Y (k+1) fr σ (.glob (.ref A15)) [.lst (ps.map fun p=>.int (p:Nat))] [] [] (.str (Txt.join ", " (qax ps))) σ:=
  Iax (F.f15 _ (qa7 (fun _=>rfl) _)) (fun cd env _=>(qm1 F hps hz).f) rfl rfl
noncomputable def qaa (ps:List Nat):Int:=(ps.map fun p=>(2:Int) ^ p).sum
theorem qck (p:Nat)(ps:List Nat):qaa (p::ps)=2 ^ p+qaa ps:=by simp[qaa]
theorem qdr (p:Nat):(0:Int)<2 ^ p:=Int.pow_pos (by decide)
theorem qe5:(∀p∈ps,i<=p)->∃q:Int,0<=q/\qaa ps=2 ^ i*q:=by
  induction ps with
  | nil=>exact fun _=>⟨0,by decide,by simp[qaa]⟩
  | cons p ps ih=>
    intro h;refine qa4 (ih fun p hp=>h p (List.mem_cons_of_mem _ hp)) ?_;intro q h1 h2;have hp:=h p List.mem_cons_self;refine ⟨2 ^ (p - i)+q,by have:=qdr (p - i);grind,?_⟩;rw[qck,h2,Int.mul_add,<- Int.pow_add,Nat.add_sub_cancel' hp]
theorem qki (h:ps≠[]):0<qaa ps:=by
  cases ps with
  | nil=>exact absurd rfl h
  | cons p ps=>
    refine qa4 (qe5 (i:=0) (ps:=ps) fun _ _=>Nat.zero_le _) ?_;intro q h1 h2;rw[qck,h2];have:=qdr p;simp at *;grind
theorem quc (h:∀p∈ps,i+1<=p):(Builtin.bitAnd (qaa ps) (2 ^ i) != 0)=false:=by
  refine qa4 (qe5 h) ?_;intro q h1 h2;rw[kbt_bit,h2,Int.pow_succ,Int.mul_assoc,Int.mul_ediv_cancel_left _ (Int.ne_of_gt (qdr i))];have:(2*q) % 2=0:=by simp +arith
  rw[this];simp
theorem qpd (h:∀p∈ps,i+1<=p):Builtin.bitAnd (qaa (i::ps)) (2 ^ i)=2 ^ i/\Builtin.bitXor (qaa (i::ps)) (2 ^ i)=qaa ps:=by
  refine qa4 (qe5 h) ?_;intro q h1 h2;have e:Builtin.bitAnd (qaa (i::ps)) (2 ^ i)=2 ^ i:=by
    have e2:qaa (i::ps)=2 ^ i*(1+2*q):=by
      rw[qck,h2,Int.pow_succ,Int.mul_add,Int.mul_one,Int.mul_assoc]
    rw[kbt_bit,e2,Int.mul_ediv_cancel_left _ (Int.ne_of_gt (qdr i))];have:(1+2*q) % 2=1:=by simp
    rw[this,Int.one_mul]
  refine ⟨e,?_⟩;rw[bitXor_and,e,qck];simp +arith
noncomputable def ta7:PSigma (fun l=>(qcc (nth bd7.1 1))=l):=⟨_,by conv=>lhs;whnf⟩
noncomputable def bo7:PSigma (fun l=>(qbo (nth bd7.1 1))=l):=⟨_,by conv=>lhs;whnf⟩
noncomputable def el7:PSigma (fun l=>(qp2 (nth bd7.1 1))=l):=⟨_,by conv=>lhs;whnf⟩
section
variable (F : Fac W)
noncomputable def flM (f:Int) (j:Nat):List (Option AV):=[some (.int f),some (.loc j),none,none,none,none,none]
theorem qov (hi:i<32):(0:Int)<=0+(i:Nat)*1/\(0:Int)+(i:Nat)*1<=1000000/\AV.int (1*2 ^ ((0:Int)+(i:Nat)*1).toNat)=.int (2 ^ i):=by
  refine ⟨by simp +arith,by lia,?_⟩;have:((0:Int)+(i:Nat)*1).toNat=i:=by simp +arith
  rw[this,Int.one_mul]
theorem qu5 (hi:i<32)(h:∀p∈ps,i+1<=p):Exs ⟨W,Y,nm7.1,cd⟩ k fr ((flM (qaa ps) j).set 2 (some (.int (0+(i:Nat)*1)))) σ bo7.1 .next (flM (qaa ps) j) σ:=by
  refine Exs.post (m2:=((flM (qaa ps) j).set 2 (some (.int (0+(i:Nat)*1)))).set 3 (some (.int (2 ^ i)))) ?_ (Weak.of (by simp[qay,flM]));refine qee (qov hi) ?_;intro h1 h2 h3;have hb:=quc h;show Exs _ _ _ _ _ (_::_) _ _ _;with_reducible exact .(Exs.cons .(Ia4 .(Ian .(Ia2 .(Ia1) .(Ia0 2) (Id6 h1 h2 (by decide))) (h3)) .(Ia5 3)) .(Exs.cons .(Ia9 (c:=false) .(Iac .(Tr.val .(Ia2 .(Ia0 0) .(Ia0 3) .(Op2.and)) (Tv.int)) hb) (fun h=>nomatch h) (fun _=>.(Exs.nil))) .(Exs.nil)))
theorem qou (hi:i<32):AV.str ((((flagTab.map (·.1)).zip (flagTab.map (·.2))).lookup ((2:Int) ^ i)).getD (baseText "0x" 16 (2 ^ i)))=.str (qco i):=congrArg AV.str (qkh ⟨i,hi⟩)
theorem qqz (hi:i<32):(baseText "0x" 16 (2 ^ i)).length<=sizeLine:=Nat.le_trans (qdc ⟨i,hi⟩).2.1 (by decide)
include F in
theorem qs1 (hi:i<32){acc:List Str}(hj:σ[j]?=some (.lst (qbh acc)))(hY:Y j)(hz:acc.length<=100):Exs ⟨W,Y,nm7.1,cd⟩ k fr ((flM (qaa [i]) j).set 2 (some (.int (0+(i:Nat)*1)))) σ bo7.1 .brk [none,some (.loc j),none,none,none,none,none] (σ.set j (.lst (qbh acc++[.str (qco i)]))):=by
  refine Exs.post (m2:=(((flM (qaa [i]) j).set 2 (some (.int (0+(i:Nat)*1)))).set 3 (some (.int (2 ^ i)))).set 0 (some (.int (qaa [])))) ?_ (Weak.of (by simp[qay,flM]));refine qee (qov hi) ?_;intro h1 h2 h3;refine And.elim ?_ (qpd (i:=i) (ps:=[]) (fun _ h=>absurd h List.not_mem_nil));intro hb hx;have ht:(Builtin.bitAnd (qaa [i]) (2 ^ i) != 0)=true:=by rw[hb];simp;exact Int.ne_of_gt (qdr i)
  have hx':AV.int (Builtin.bitXor (qaa [i]) (2 ^ i))=.int (qaa []):=congrArg AV.int hx;have hn:(!(qaa [] != 0))=true:=by decide
  have hzz:(qbh acc).length<=sizeLine:=by rw[qbh,List.length_map,sizeLine_eq];lia
  have hg:=qou hi;have hh:=qqz hi;show Exs _ _ _ _ _ (_::_) _ _ _;with_reducible exact .(Exs.cons .(Ia4 .(Ian .(Ia2 .(Ia1) .(Ia0 2) (Id6 h1 h2 (by decide))) (h3)) .(Ia5 3)) .(Exs.brk .(Ia9 (c:=true) .(Iac .(Tr.val .(Ia2 .(Ia0 0) .(Ia0 3) .(Op2.and)) (Tv.int)) ht) (fun _=>.(Exs.cons .(Ex.expr .(Iam .(Ia0 1) (by exact Meth.append .(Lv.loc (by assumption))) .(Kept.builtin) (Evs.cons .(Iam .(Ial 5 F.g_COMPILER_FLAG_NAMES) (by exact MethOk.tab F.tab) .(Kept.builtin) (Evs.cons .(Ia0 3) .((Evs.cons .(Ev.call .(Iaf 6 F.b_hex) .(Kept.builtin) (Evs.cons .(Ia0 3) .(Evs.nil)) EvK.nil (Ibp hh)) .(Evs.nil)))) (by with_unfolding_all exact (Ibg (Calls.get F.tab) hg rfl))) .(Evs.nil)) (by with_unfolding_all exact (Calls.append hj hY rfl hzz)))) .(Exs.cons .(Idg (i:=0) Uu Uu .(Ia0 3) (Ibh Ide hx') Uu) .(Exs.brk .(Ia9 (c:=true) .(Iac .(Id5 .(Tr.val .(Ia0 0) (Tv.int))) hn) (fun _=>.(Exs.brk .(Idx))) (fun h=>nomatch h)))))) (fun h=>nomatch h))))
include F in
theorem qrz (hi:i<32)(h:∀p∈ps,i+1<=p)(hne:ps≠[]){acc:List Str}(hj:σ[j]?=some (.lst (qbh acc)))(hY:Y j)(hz:acc.length<=100):Exs ⟨W,Y,nm7.1,cd⟩ k fr ((flM (qaa (i::ps)) j).set 2 (some (.int (0+(i:Nat)*1)))) σ bo7.1 .next (flM (qaa ps) j) (σ.set j (.lst (qbh acc++[.str (qco i)]))):=by
  refine Exs.post (m2:=(((flM (qaa (i::ps)) j).set 2 (some (.int (0+(i:Nat)*1)))).set 3 (some (.int (2 ^ i)))).set 0 (some (.int (qaa ps)))) ?_ (Weak.of (by simp[qay,flM]));refine qee (qov hi) ?_;intro h1 h2 h3;refine And.elim ?_ (qpd (i:=i) (ps:=ps) h);intro hb hx;have ht:(Builtin.bitAnd (qaa (i::ps)) (2 ^ i) != 0)=true:=by rw[hb];simp;exact Int.ne_of_gt (qdr i)
  have hx':AV.int (Builtin.bitXor (qaa (i::ps)) (2 ^ i))=.int (qaa ps):=congrArg AV.int hx;have hn:(!(qaa ps != 0))=false:=by have:=qki hne;simp;lia
  have hzz:(qbh acc).length<=sizeLine:=by rw[qbh,List.length_map,sizeLine_eq];lia
  have hg:=qou hi;have hh:=qqz hi;show Exs _ _ _ _ _ (_::_) _ _ _;with_reducible exact .(Exs.cons .(Ia4 .(Ian .(Ia2 .(Ia1) .(Ia0 2) (Id6 h1 h2 (by decide))) (h3)) .(Ia5 3)) .(Exs.cons .(Ia9 (c:=true) .(Iac .(Tr.val .(Ia2 .(Ia0 0) .(Ia0 3) .(Op2.and)) (Tv.int)) ht) (fun _=>.(Exs.cons .(Ex.expr .(Iam .(Ia0 1) (by exact Meth.append .(Lv.loc (by assumption))) .(Kept.builtin) (Evs.cons .(Iam .(Ial 5 F.g_COMPILER_FLAG_NAMES) (by exact MethOk.tab F.tab) .(Kept.builtin) (Evs.cons .(Ia0 3) .((Evs.cons .(Ev.call .(Iaf 6 F.b_hex) .(Kept.builtin) (Evs.cons .(Ia0 3) .(Evs.nil)) EvK.nil (Ibp hh)) .(Evs.nil)))) (by with_unfolding_all exact (Ibg (Calls.get F.tab) hg rfl))) .(Evs.nil)) (by with_unfolding_all exact (Calls.append hj hY rfl hzz)))) .(Exs.cons .(Idg (i:=0) Uu Uu .(Ia0 3) (Ibh Ide hx') Uu) .(Exs.cons .(Ia9 (c:=false) .(Iac .(Id5 .(Tr.val .(Ia0 0) (Tv.int))) hn) (fun h=>nomatch h) (fun _=>.(Exs.nil))) .(Exs.nil))))) (fun h=>nomatch h)) .(Exs.nil)))
theorem qqb {f:Int}:As ⟨W,Y,nm7.1,cd⟩ k fr (flM f j) σ ta7.1 (.int (0+(i:Nat)*1)) ((flM f j).set 2 (some (.int (0+(i:Nat)*1)))) σ:=by
  show As _ _ _ _ _ (.Name _ _) _ _ _;exact .(Ia5 2)
include F in
theorem qs0:∀(n i:Nat) (rem:List Nat) (acc:List Str) (σ:List AObj),i+n=32->rem≠[]->(∀p∈rem,i<=p/\p<32)->rem.Pairwise (· < ·)->σ[j]?=some (.lst (qbh acc))->Y j->acc.length+n<=100 ->
    ForC ⟨W,Y,nm7.1,cd⟩ k fr ta7.1 bo7.1 el7.1 (.range 0 1 32) i (flM (qaa rem) j) σ .next [none,some (.loc j),none,none,none,none,none] (σ.set j (.lst (qbh (acc++rem.map qco)))):=by
  intro n;induction n with
  | zero=>
    intro i rem acc σ hi hne hr hs hj hY hz;cases rem with
    | nil=>exact absurd rfl hne
    | cons p ps=>have:=hr p List.mem_cons_self;lia
  | succ n ih=>
    intro i rem acc σ hi hne hr hs hj hY hz;have hi':i<32:=by lia
    cases rem with
    | nil=>exact absurd rfl hne
    | cons p ps=>
      have hp:=hr p List.mem_cons_self;rw[List.pairwise_cons] at hs;by_cases hpi:p=i
      . subst hpi;by_cases hps:ps=[]
        . subst hps;have:=ForC.brk (orelse:=el7.1) (m:=flM (qaa [p]) j) (k:=k) (fr:=fr) (ai:=.range 0 1 32) True.intro rfl (qbp hi') nofun (qqb (W:=W) (Y:=Y) (cd:=cd) (i:=p) (σ:=σ)) (qs1 F hi' hj hY (by lia));simpa [qbh] using this
        . have h:=ih (p+1) ps (acc++[qco p]) (σ.set j (.lst (qbh acc++[.str (qco p)]))) (by lia) hps (fun q hq=>⟨hs.1 q hq,(hr q (List.mem_cons_of_mem _ hq)).2⟩) hs.2 (by rw[qbi hj];simp[qbh]) hY (by simp;lia);rw[List.set_set,List.append_assoc] at h;exact ForC.next True.intro rfl (qbp hi') nofun qqb (qrz F hi' (fun q hq=>hs.1 q hq) hps hj hY (by lia)) h
      . have h:=ih (i+1) (p::ps) acc σ (by lia) hne (fun q hq=>⟨by
          rcases List.mem_cons.mp hq with rfl | hq
          . lia
          . have:=hs.1 q hq;grind,(hr q hq).2⟩) (List.pairwise_cons.mpr hs) hj hY (by lia)
        exact ForC.next True.intro rfl (qbp hi') nofun qqb (qu5 hi' fun q hq=>by
          rcases List.mem_cons.mp hq with rfl | hq
          . lia
          . have:=hs.1 q hq;grind) h
include F in
theorem qry:∀(n i:Nat) (σ:List AObj),i+n=32->σ[j]?=some (.lst [])->Y j ->
    ForC ⟨W,Y,nm7.1,cd⟩ k fr ta7.1 bo7.1 el7.1 (.range 0 1 32) i (flM (qaa []) j) σ .next [none,some (.loc j),none,none,none,none,none] (σ.set j (.lst [.str "0x0"])):=by
  intro n;induction n with
  | zero=>
    intro i σ hi hj hY;rw[show ([AV.str "0x0"]:List AV)=[]++[AV.str "0x0"] from rfl];refine ForC.done True.intro (by simp[AIt.items];simp_all) (Exs.post (m2:=flM (qaa []) j) ?_ (Weak.of (by simp[qay,flM])));have hz0:(baseText "0x" 16 (qaa [])).length<=sizeLine:=by decide +kernel
    have hv0:AV.str (baseText "0x" 16 (qaa []))=.str "0x0":=congrArg AV.str (by decide +kernel);show Exs _ _ _ _ _ (_::_) _ _ _;with_reducible exact .(Exs.cons .(Ex.expr .(Iam .(Ia0 1) (by exact Meth.append .(Lv.loc (by assumption))) .(Kept.builtin) (Evs.cons .(Ev.call .(Iaf 6 F.b_hex) .(Kept.builtin) (Evs.cons .(Ia0 0) .(Evs.nil)) EvK.nil (Ibg (Ibp hz0) hv0 rfl)) .(Evs.nil)) (by with_unfolding_all exact (Calls.append hj hY rfl (Nat.zero_le _))))) .(Exs.nil))
  | succ n ih=>
    intro i σ hi hj hY;have hi':i<32:=by lia
    exact ForC.next True.intro rfl (qbp hi') nofun qqb (qu5 hi' fun p hp=>by cases hp) (ih (i+1) σ (by lia) hj hY)
include F in
theorem qkg (hr:∀p∈ps,p<32)(hs:ps.Pairwise (· < ·))(hz:ps.length<=60):Calls W Y (k+1) fr σ (.glob (.ref A7)) [.int (qaa ps)] [] [] (.str (Txt.join ", " (qax ps))) σ:=by
  refine Ibu (τ:=[.lst (qbh (qax ps))]) (F.f7 (.int (qaa ps))) (m':=[]) (fl:=.ret (.str (Txt.join ", " (qax ps)))) (fun cd env _=>?_) (fun _ _=>rfl);have hY':(fun m=>Y m\/σ.length<=m) σ.length:=.inr (Nat.le_refl _);have hj:(σ++[AObj.lst []])[σ.length]?=some (.lst (qbh [])):=by simp[qbh]
  have hl:ForC ⟨W,fun m=>Y m\/σ.length<=m,nm7.1,cd⟩ k (env::fr) ta7.1 bo7.1 el7.1 (.range 0 1 32) 0 (flM (qaa ps) σ.length) (σ++[AObj.lst []]) .next [none,some (.loc σ.length),none,none,none,none,none] (σ++[.lst (qbh (qax ps))]):=by
    by_cases hps:ps=[]
    . subst hps;have:=qry F (W:=W) (Y:=fun m=>Y m\/σ.length<=m) (cd:=cd) (k:=k) (fr:=env::fr) (j:=σ.length) 32 0 (σ++[AObj.lst []]) rfl (by simp) hY';simpa [qax,qbh] using this
    . have:=qs0 F (Y:=fun m=>Y m\/σ.length<=m) (cd:=cd) (k:=k) (fr:=env::fr) (j:=σ.length) 32 0 ps [] (σ++[AObj.lst []]) rfl hps (fun p hp=>⟨Nat.zero_le _,hr p hp⟩) hs hj hY' (by simp);simpa [qax,hps] using this
  have hL:Lv (σ++[AObj.lst (qbh (qax ps))]) (.loc σ.length) (qbh (qax ps)):=Lv.loc (by simp);have hwl:=qgw hr (by lia);refine Exs.f (Iad (m2:=[none,some (.loc σ.length),none,none,none,none,none]) ?_);show Exs _ _ _ _ _ (_::_) _ _ _;with_reducible exact .(Exs.cons .(Ia4 .(Iak Evs.nil) .(Ia5 1)) .(Exs.cons .(Ib8 .(ItE.call .(Iaf 4 F.b_range) .(Kept.type) (Evs.cons .(Ia1) .(Evs.nil)) .(Iag (by decide))) (by with_unfolding_all exact ForC.pre hl Weak.refl)) .(Exs.ret .(Iaj .(Iam .(Ia7) (by exact Meth.join) .(Kept.builtin) (Evs.cons .(Ia0 1) .(Evs.nil)) (by with_unfolding_all exact (Calls.join hL hwl)))))))
end
end
section
section
variable (c : Nat -> Int)
noncomputable def qaq:List AV:=[.int (c 0),.int (c 1),.int (c 2),.int (c 3),.int (c 4),.int (c 5)]
noncomputable abbrev tn (t:Nat):Int:=max (t:Int) 1
noncomputable abbrev qfa (t:Nat):Int:=(c t).fdiv (tn t)
noncomputable abbrev qt4 (t:Nat):Int:=(c t).fmod (tn t)
noncomputable abbrev dI (t:Nat):Int:=(qfa c t).fmod 7
noncomputable abbrev eI (t:Nat):Int:=((qfa c t).fdiv 7).fmod 4
noncomputable abbrev qhl (t:Nat):AV:=.tup [.int (qt4 c t),.int (dI c t),.int (eI c t)]
noncomputable abbrev qag:List AV:=(List.range 5).map (qhl c)
end
theorem qr6 {t:Nat}(h:t∈List.range 5):tn t≠0/\(tn t).natAbs<2 ^ 64:=
  (by decide:∀t∈List.range 5,tn t≠0/\(tn t).natAbs<2 ^ 64) t h
theorem qm7 (F:Fac W):Exs ⟨W,Y,nm16.1,cd⟩ k fr [some (.lst (qaq c)),none,none] σ bd16.1 (.ret (.lst (qag c))) [] σ:=by
  refine Iad (m2:=[some (.lst (qaq c)),none,none].set 1 (some (.lst ((List.range 5).map fun t=>.int (qfa c t))))) ?_;show Exs _ _ _ _ _ (_::_) _ _ _;have hs:AV.lst (qdw (qaq c) none (some 5) none)=.lst [.int (c 0),.int (c 1),.int (c 2),.int (c 3),.int (c 4)]:=congrArg AV.lst (qfy (qaq c) 5);have hc:∀t∈List.range 5,(qaq c)[t]?=some (.int (c t)):=fun t ht=>by
    have ht:t<5:=by simpa using ht
    match t,ht with
    | 0,_=>rfl
    | 1,_=>rfl
    | 2,_=>rfl
    | 3,_=>rfl
    | 4,_=>rfl
  have hz6:(qaq c).length<=sizeLine:=by exact (by decide:6<=sizeLine)
  have h5:(List.range 5).length<=2 ^ 20:=by decide
  have hx1:(AIt.enum (.lst [.int (c 0),.int (c 1),.int (c 2),.int (c 3),.int (c 4)]) [.int (c 0),.int (c 1),.int (c 2),.int (c 3),.int (c 4)]).items=(List.range 5).map (fun t:Nat=>AV.tup [.int t,.int (c t)]):=rfl;have hx2:(AIt.enum (.lst ((List.range 5).map fun t=>AV.int (qfa c t))) ((List.range 5).map fun t=>AV.int (qfa c t))).items=(List.range 5).map (fun t:Nat=>AV.tup [.int t,.int (qfa c t)]):=rfl;with_reducible exact .(Exs.cons .(Ib4 (i:=1) Uu .(ItE.call .(Iaf 2 F.b_enumerate) .(Kept.type) (Evs.cons .(Ian .(Ibm .(Ia6 0) EvO.none (Ibe .(Ia1)) EvO.none .(Lv.fz) (by simp) (by assumption)) hs) .(Evs.nil)) .(CallIt.enum (Lv.fz))) (CompIn.of [none,none,none,none] (by kernel_rfl) (by kernel_rfl)) .(CompC.map (ht:=.(fun _=>⟨_,_,_,rfl⟩)) Uu (List.range 5) ((fun t:Nat=>AV.tup [.int t,.int (c t)])) ((fun t=>AV.int (qfa c t))) _ (fun x hx=>.(As.tuple .(AsL.cons .(Ia5 1) .(AsL.cons .(Ia5 2) .(AsL.nil) (hp:=Uu)) (hp:=Uu)))) (fun x hx=>.(Ia2 .(Ia0 2) .(Ev.call .(Iaf 3 F.b_max) .(Kept.builtin) (Evs.cons .(Ia0 1) .((Evs.cons .(Ia1) .(Evs.nil)))) EvK.nil (Ibx)) (Ias (qr6 hx).1 (qr6 hx).2))) .(fun _=>Ib0 (Weak.set Uu) Uu)) .(qai (fun _=>Uu) _)) .(Exs.ret .(Iaj .(Iae .(ItE.call .(Iaf 2 F.b_enumerate) .(Kept.type) (Evs.cons .(Ia0 1) .(Evs.nil)) .(CallIt.enum (Lv.fz))) (CompIn.of [none,none,none,none,some 0] (by kernel_rfl) (by kernel_rfl)) .(CompC.map (ht:=.(fun _=>⟨_,_,_,rfl⟩)) Uu (List.range 5) ((fun t:Nat=>AV.tup [.int t,.int (qfa c t)])) (qhl c) _ (fun x hx=>.(As.tuple .(AsL.cons .(Ia5 1) .(AsL.cons .(Ia5 2) .(AsL.nil) (hp:=Uu)) (hp:=Uu)))) (fun x hx=>.(Ev.tuple (Evs.cons .(Ia2 .(Ia8 .(Ia6 4) .(Ia0 1) .(Lv.fz) (by exact qb4 rfl (hc x hx)) (by assumption)) .(Ev.call .(Iaf 3 F.b_max) .(Kept.builtin) (Evs.cons .(Ia0 1) .((Evs.cons .(Ia1) .(Evs.nil)))) EvK.nil (Ibx)) (Iap (qr6 hx).1)) .((Evs.cons .(Ia2 .(Ia0 2) .(Ia1) .(Iap (by decide))) .((Evs.cons .(Ia2 .(Ia2 .(Ia0 2) .(Ia1) .(Ias (by decide) (by decide))) .(Ia1) .(Iap (by decide))) .(Evs.nil)))))))) .(fun _=>Ib0 (Weak.set Uu) Uu))))))
theorem qk1 (F:Fac W):Calls W Y (k+1) fr σ (.glob (.ref A16)) [.lst (qaq c)] [] [] (.lst (qag c)) σ:=
  Iax (F.f16 _ rfl) (fun cd env _=>(qm7 F).f) rfl rfl
end
section
noncomputable def qgt (par:Nat->Nat) (d:Nat->Int):Nat->List (List Int)
  | 0=>[[0]]
  | n+1=>(List.range (n+1)).map (fun o=>(qgt par d n).getD o []++[(((qgt par d n).getD (par (n+1)) []).map (· + d (n+1))).getD o 0])++[((qgt par d n).getD (par (n+1)) []).map (· + d (n+1))++[0]]
theorem qaw {l:List α}{x d:α}(h:l[i]?=some x):l.getD i d=x:=by rw[List.getD_eq_getElem?_getD,h];rfl
theorem qca {par:Nat->Nat}{d:Nat->Int}:∀n,(∀t,1<=t->t<=n->par t<t)->(qgt par d n).length=n+1/\∀r∈qgt par d n,r.length=n+1
  | 0,_=>⟨rfl,fun r hr=>by simp[qgt] at hr;rw[hr];rfl⟩
  | n+1,h=>by
    refine And.elim ?_ (qca (par:=par) (d:=d) n fun t a b=>h t a (by lia));intro h1 h2;have hp:=h (n+1) (by simp +arith) (Nat.le_refl _);have row:∀i,i<n+1->((qgt par d n).getD i []).length=n+1:=fun i hi=>by
      have e:(qgt par d n)[i]?=some ((qgt par d n)[i]'(by simp_all)):=List.getElem?_eq_getElem _;rw[qaw e];exact h2 _ (List.getElem_mem _)
    constructor
    . simp[qgt]
    . intro r hr;rw[qgt] at hr;rcases List.mem_append.mp hr with hr | hr
      . refine qa4 (List.mem_map.mp hr) ?_;intro o ho eq_1_2;subst eq_1_2;have ho:o<n+1:=by simpa using ho
        rw[List.length_append,row o ho];rfl
      . rw[List.mem_singleton.mp hr,List.length_append,List.length_map,row _ (by assumption)];rfl
noncomputable abbrev mA (M:List (List Int)):AV:=.lst (M.map fun r=>.lst (qa0 r))
noncomputable abbrev qe4 (c:Nat->Int) (t:Nat):Nat:=(qt4 c t).toNat
noncomputable abbrev qa6 (c:Nat->Int) (n:Nat):List (List Int):=qgt (qe4 c) (dI c) n
theorem qc3 {t:Nat}(h:1<=t):qt4 c t=(qe4 c t:Nat)/\qe4 c t<t:=by
  have e:tn t=(t:Nat):=by unfold tn;exact Int.max_eq_left (Int.ofNat_le.mpr h)
  refine qa4 (qrx (x:=c t) (n:=t) h) ?_;intro m hm hl;have h1:qt4 c t=m:=by unfold qt4;rw[e];exact hm
  unfold qe4;rw[h1];exact ⟨rfl,hl⟩
theorem qge (hi:i<n+1):∃r:List Int,(qa6 c n)[i]?=some r/\(qa6 c n).getD i []=r/\r.length=n+1/\((qa6 c n).map fun r=>AV.lst (qa0 r))[i]?=some (.lst (qa0 r)):=by
  refine And.elim ?_ (qca (par:=qe4 c) (d:=dI c) n fun t a _=>(qc3 a).2);intro h1 h2;have hi':i<(qa6 c n).length:=by show i<(qgt (qe4 c) (dI c) n).length;simp_all
  have e:(qa6 c n)[i]?=some ((qa6 c n)[i]'hi'):=List.getElem?_eq_getElem _;exact ⟨_,e,qaw e,h2 _ (List.getElem_mem _),by rw[List.getElem?_map,e];rfl⟩
theorem qea {t:Nat}(h:t<5):(qag c)[t]?=some (qhl c t):=by
  rw[List.getElem?_map,List.getElem?_range h];rfl
theorem qg9 {l:List Int}(h:i<l.length):(qa0 l)[i]?=some (.int (l.getD i 0)):=by
  rw[qa0,List.getElem?_map,List.getElem?_eq_getElem h,qaw (List.getElem?_eq_getElem h)];rfl
noncomputable def ta19:PSigma (fun l=>(qcc (nth bd19.1 1))=l):=⟨_,by conv=>lhs;whnf⟩
noncomputable def bo19:PSigma (fun l=>(qbo (nth bd19.1 1))=l):=⟨_,by conv=>lhs;whnf⟩
noncomputable def faM (c:Nat->Int) (n:Nat):List (Option AV):=[some (.lst (qag c)),some (mA (qa6 c n)),none,none,none]
theorem qqd (F:Fac W)(hn:n<4):Exs ⟨W,Y,nm19.1,cd⟩ k fr ((faM c n).set 2 (some (.int (1+(n:Nat)*1)))) σ bo19.1 .next (faM c (n+1)) σ:=by
  refine And.elim ?_ (qc3 (c:=c) (t:=n+1) (Nat.le_add_left _ _));intro hp1 hp2;refine qba (qge (c:=c) (n:=n) hp2) ?_;intro r hr1 hr2 hr3 hr4;have hlen:=(qca (par:=qe4 c) (d:=dI c) n fun t a _=>(qc3 a).2).1;have hpa:=qea (c:=c) (t:=n+1) (Nat.succ_lt_succ hn);have hpl:(1:Int)+(n:Nat)*1=((n+1:Nat):Int):=quq n;have hz5:(qag c).length<=sizeLine:=by exact (by decide:5<=sizeLine)
  have hzf:((qa6 c n).map fun r=>AV.lst (qa0 r)).length<=sizeLine:=by rw[List.length_map,hlen];exact szl (Nat.succ_le_succ (Nat.le_of_lt hn))
  have hzr:r.length<=2 ^ 20:=hr3.symm ▸ Nat.le_trans (Nat.succ_le_succ (Nat.le_of_lt hn)) (by decide);have hzl:(r.map fun s=>AV.int (s+dI c (n+1))).length<=sizeLine:=by rw[List.length_map,hr3];exact szl (Nat.succ_le_succ (Nat.le_of_lt hn))
  have hrow:∀o∈List.range (n+1),((qa6 c n).map fun r=>AV.lst (qa0 r))[o]?=some (.lst (qa0 ((qa6 c n).getD o [])))/\((qa6 c n).getD o []).length=n+1:=fun o ho=>by
    have ho:o<n+1:=by simpa using ho
    refine qba (qge (c:=c) (n:=n) ho) ?_;intro r' q1 q2 q3 q4;rw[q2];exact ⟨q4,q3⟩
  have hline:∀o∈List.range (n+1),(r.map fun s=>AV.int (s+dI c (n+1)))[o]?=some (.int ((r.map (· + dI c (n+1))).getD o 0)):=fun o ho=>by
    have ho:o<n+1:=by simpa using ho
    have:=qg9 (l:=r.map (· + dI c (n+1))) (i:=o) (by rw[List.length_map,hr3];exact ho);rwa[qa0,List.map_map] at this
  have hix:∀o:Nat,(0:Int)+(o:Nat)*1=(o:Nat):=qv8;have hrg:-(2 ^ 62)<=(1:Int)+(n:Nat)*1/\(1:Int)+(n:Nat)*1<2 ^ 62:=by rw[quq];exact ⟨Int.le_trans (by decide) (Int.natCast_nonneg _),Int.lt_trans (Int.ofNat_lt.mpr (Nat.succ_lt_succ hn)) (by decide)⟩
  have hxr:(AIt.range 0 1 ((1:Int)+(n:Nat)*1).toNat).items=(List.range (n+1)).map (fun o:Nat=>AV.int (0+(o:Nat)*1)):=by
    have:((1:Int)+(n:Nat)*1).toNat=n+1:=by rw[quq];rfl
    rw[this];rfl
  have hz2:(List.range (n+1)).length<=2 ^ 20:=by rw[List.length_range];exact Nat.le_trans (Nat.succ_le_succ (Nat.le_of_lt hn)) (by decide)
  have hza:∀o∈List.range (n+1),(qa0 ((qa6 c n).getD o [])).length+[AV.int ((r.map (· + dI c (n+1))).getD o 0)].length<=sizeLine:=fun o ho=>by
    rw[qa0,List.length_map,(hrow o ho).2];exact szl (Nat.succ_le_succ (Nat.succ_le_succ (Nat.le_of_lt hn)))
  have hea:∀o∈List.range (n+1),AV.lst (qa0 ((qa6 c n).getD o [])++[AV.int ((r.map (· + dI c (n+1))).getD o 0)])=.lst (qa0 ((qa6 c n).getD o []++[(r.map (· + dI c (n+1))).getD o 0])):=fun o ho=>by
    simp[qa0]
  have hzl2:(r.map fun s=>AV.int (s+dI c (n+1))).length+[AV.int 0].length<=sizeLine:=by rw[List.length_map,hr3];exact szl (Nat.succ_le_succ (Nat.succ_le_succ (Nat.le_of_lt hn)))
  have hzb:((List.range (n+1)).map fun o=>AV.lst (qa0 ((qa6 c n).getD o []++[(r.map (· + dI c (n+1))).getD o 0]))).length+[AV.lst ((r.map fun s=>AV.int (s+dI c (n+1)))++[.int 0])].length<=sizeLine:=by
    rw[List.length_map,List.length_range];exact szl (Nat.succ_le_succ (Nat.succ_le_succ (Nat.le_of_lt hn)))
  have hend:AV.lst (((List.range (n+1)).map fun o=>AV.lst (qa0 ((qa6 c n).getD o []++[(r.map (· + dI c (n+1))).getD o 0])))++[AV.lst ((r.map fun s=>AV.int (s+dI c (n+1)))++[.int 0])])=mA (qa6 c (n+1)):=by
    unfold mA qa6;rw[qgt];rw[show (qgt (qe4 c) (dI c) n).getD (qe4 c (n+1)) []=r from hr2];simp[qa0]
  have hpm:plain (.lst (r.map fun s=>AV.int (s+dI c (n+1))))=true:=qa7 (fun _=>rfl) _;have hpm2:plain (mA (qa6 c (n+1)))=true:=qa7 (fun _=>qap _) _;refine Exs.post (m2:=(((faM c n).set 2 (some (.int (1+(n:Nat)*1)))).set 3 (some (.lst (r.map fun s=>AV.int (s+dI c (n+1)))))).set 1 (some (mA (qa6 c (n+1))))) ?_ (Weak.of (by simp[qay,faM]));show Exs _ _ _ _ _ (_::_) _ _ _;with_reducible exact .(Exs.cons .(Ic8 (i:=3) Uu .(Iae .(ItE.list .(Ia8 .(Ia6 1) .(Iaa .(Ia8 .(Ia6 0) .(Ia6 2) .(Lv.fz) (by exact qb4 hpl hpa) (by exact hz5)) .(Ia1) .(⟨_,rfl,rfl⟩)) .(Lv.fz) (by exact qb4 hp1 hr4) (by exact hzf)) .(Lv.fz)) (CompIn.of [none,none,some 0,some 2] (by kernel_rfl) (by kernel_rfl)) .(CompC.map (hp:=by with_unfolding_all exact qai (fun _=>rfl) _) (hz:=by assumption) Uu (r) (AV.int) ((fun s=>AV.int (s+dI c (n+1)))) _ (fun x hx=>.(Ia5 1)) (fun x hx=>.(Ia2 .(Ia0 1) .(Iaa .(Ia8 .(Ia6 2) .(Ia6 3) .(Lv.fz) (by exact qb4 hpl hpa) (by exact hz5)) .(Ia1) .(⟨_,rfl,rfl⟩)) .(Op2.add))) .(fun _=>Weak.set Uu))) (by assumption)) .(Exs.cons .(Ia4 .(Ian .(Ia2 .(Iae .(ItE.call .(Iaf 4 F.b_range) .(Kept.type) (Evs.cons .(Ia6 2) .(Evs.nil)) (Iag hrg)) (CompIn.of [none,none,some 1,some 3] (by kernel_rfl) (by kernel_rfl)) .(CompC.map (hf:=by intros;with_unfolding_all exact qai (fun _=>rfl) _) (hx:=by assumption) (hz:=by assumption) Uu (List.range (n+1)) ((fun o:Nat=>AV.int (0+(o:Nat)*1))) ((fun o=>AV.lst (qa0 ((qa6 c n).getD o []++[(r.map (· + dI c (n+1))).getD o 0])))) _ (fun x hx=>.(Ia5 1)) (fun x hx=>.(Ian .(Ia2 .(Ia8 .(Ia6 2) .(Ia0 1) .(Lv.fz) (by exact qb4 (hix x) (hrow x hx).1) (by exact hzf)) .(Ev.list (Evs.cons .(Ia8 .(Ia6 3) .(Ia0 1) .(Lv.fz) (by exact qb4 (hix x) (hline x hx)) (by exact hzl)) .(Evs.nil))) (Ib7 Lv.fz Lv.fz (hza x hx))) (hea x hx))) .(fun _=>Weak.set Uu))) .(Ev.list (Evs.cons .(Ia2 .(Ia6 3) .(Ev.list (Evs.cons .(Ia1) .(Evs.nil))) (Ib7 Lv.fz Lv.fz hzl2)) .(Evs.nil))) (Ib7 Lv.fz Lv.fz hzb)) (hend)) .(Ib9 1 (hp:=(by assumption)))) .(Exs.nil)))
theorem qow (F:Fac W):Calls W Y (k+1) fr σ (.glob (.ref A19)) [.lst (qag c)] [] [] (mA (qa6 c 4)) σ:=by
  refine Iax (F.f19 _ rfl) (m':=[]) (fl:=.ret (mA (qa6 c 4))) (fun cd env _=>?_) rfl (qa7 (fun _=>qap _) _);have hl:∀(n i:Nat),i+n=4->ForC ⟨W,fun n=>Y n\/σ.length<=n,nm19.1,cd⟩ k (env::fr) ta19.1 bo19.1 [] (.range 1 1 4) i (faM c i) σ .next (faM c 4) σ:=by
    intro n;induction n with
    | zero=>intro i hi;obtain rfl:i=4:=hi;exact ForC.done True.intro rfl Exs.nil
    | succ n ih=>
      intro i hi;refine ForC.next True.intro rfl (qbp (by lia)) nofun (m1:=(faM c i).set 2 (some (.int (1+(i:Nat)*1)))) (z1:=σ) ?_ (qqd F (by lia)) (ih (i+1) (by lia));show As _ _ _ _ _ (.Name _ _) _ _ _;exact .(Ib9 2)
  refine Exs.f (Iad (m2:=faM c 4) ?_);have hl:=hl 4 0 rfl;show Exs _ _ _ _ _ (_::_) _ _ _;with_reducible exact .(Exs.cons .(Ia4 .(Ev.list (Evs.cons .(Ev.list (Evs.cons .(Ia1) .(Evs.nil))) .(Evs.nil))) .(Ib9 1)) .(Exs.cons .(Ib8 .(ItE.call .(Iaf 4 F.b_range) .(Kept.type) (Evs.cons .(Ia1) .((Evs.cons .(Ia1) .(Evs.nil)))) .(Ibr (by decide))) (by with_unfolding_all exact ForC.pre hl Weak.refl)) .(Exs.ret .(Iaj .(Ia6 1)))))
end
section
noncomputable abbrev atE:List Str:=["makeelement", "append", "inner", "attrib", "tag"]
theorem qej (F:Fac W){tag attr:AV}(hpt:plain tag=true)(hpa:plain attr=true):
    Calls W Y (k+1) fr σ (.glob (.ref A17)) [tag,attr] [] [] (.loc σ.length) (σ++[.elem atE [.glob (.ref A17),.bound "list.append" (.loc (σ.length+1)),.loc (σ.length+1),attr,tag],.lst []]):=by
  refine Ibd (F.f17 tag attr) (m':=[]) (fl:=.ret (.loc σ.length)) (fun cd env hK=>?_) (by simp) rfl rfl;refine qgr (hK) ?_;intro lc lP hLam;have hY:(fun m=>Y m\/σ.length<=m) σ.length:=.inr (Nat.le_refl _);have e0:(σ++[AObj.fn0])[σ.length]?=some .fn0:=by simp
  have e1:(σ++[AObj.fn0]).set σ.length (.elem ["tag"] [tag])=σ++[.elem ["tag"] [tag]]:=by simp
  have g1:(σ++[AObj.elem ["tag"] [tag]])[σ.length]?=some (.elem ["tag"] [tag]):=by simp
  have e2:(σ++[AObj.elem ["tag"] [tag]]).set σ.length (.elem ["attrib", "tag"] [attr,tag])=σ++[.elem ["attrib", "tag"] [attr,tag]]:=by simp
  have l2:(σ++[AObj.elem ["attrib", "tag"] [attr,tag]]).length=σ.length+1:=by simp
  have g2:(σ++[AObj.elem ["attrib", "tag"] [attr,tag]]++[AObj.lst []])[σ.length]?=some (.elem ["attrib", "tag"] [attr,tag]):=by simp
  have e3:(σ++[AObj.elem ["attrib", "tag"] [attr,tag]]++[AObj.lst []]).set σ.length (.elem ["inner", "attrib", "tag"] [.loc (σ.length+1),attr,tag])=σ++[.elem ["inner", "attrib", "tag"] [.loc (σ.length+1),attr,tag],.lst []]:=by simp
  have v2:AV.loc (σ++[AObj.elem ["attrib", "tag"] [attr,tag]]).length=.loc (σ.length+1):=by rw[l2]
  have g3:(σ++[AObj.elem ["inner", "attrib", "tag"] [.loc (σ.length+1),attr,tag],.lst []])[σ.length]?=some (.elem ["inner", "attrib", "tag"] [.loc (σ.length+1),attr,tag]):=by simp
  have g3':(σ++[AObj.elem ["inner", "attrib", "tag"] [.loc (σ.length+1),attr,tag],.lst []])[σ.length+1]?=some (.lst []):=by simp
  have e4:(σ++[AObj.elem ["inner", "attrib", "tag"] [.loc (σ.length+1),attr,tag],.lst []]).set σ.length (.elem ["append", "inner", "attrib", "tag"] [.bound "list.append" (.loc (σ.length+1)),.loc (σ.length+1),attr,tag])=σ++[.elem ["append", "inner", "attrib", "tag"] [.bound "list.append" (.loc (σ.length+1)),.loc (σ.length+1),attr,tag],.lst []]:=by simp
  have g4:(σ++[AObj.elem ["append", "inner", "attrib", "tag"] [.bound "list.append" (.loc (σ.length+1)),.loc (σ.length+1),attr,tag],.lst []])[σ.length]?=some (.elem ["append", "inner", "attrib", "tag"] [.bound "list.append" (.loc (σ.length+1)),.loc (σ.length+1),attr,tag]):=by simp
  have e5:(σ++[AObj.elem ["append", "inner", "attrib", "tag"] [.bound "list.append" (.loc (σ.length+1)),.loc (σ.length+1),attr,tag],.lst []]).set σ.length (.elem atE [.glob (.ref A17),.bound "list.append" (.loc (σ.length+1)),.loc (σ.length+1),attr,tag])=σ++[.elem atE [.glob (.ref A17),.bound "list.append" (.loc (σ.length+1)),.loc (σ.length+1),attr,tag],.lst []]:=by simp
  refine Exs.f (Iad (m2:=[some tag,some attr,none,none].set 2 (some (.loc σ.length))) ?_);show Exs _ _ _ _ _ (_::_) _ _ _;with_reducible exact .(Exs.cons .(Ia4 .(Icb (hLam _ _) (qle (by kernel_rfl))) .(Ia5 2)) .(Exs.cons .(Ia4 .(Ia0 0) .(Ibb .(Ict .(Ia0 2) (by exact e0) qfm (by exact hY) (hp:=(by assumption))) e1)) .(Exs.cons .(Ia4 .(Ia0 1) .(Ibb .(Iby .(Ia0 2) (by exact g1) qb9 (by exact hY) (hp:=(by assumption))) e2)) .(Exs.cons .(Ia4 .(Ian .(Iak Evs.nil) (v2)) .(Ibb .(Iby .(Ia0 2) (by exact g2) qfg (by exact hY) (hp:=Uu)) e3)) .(Exs.cons .(Ia4 .(Ev.bound .(Iah .(Ia0 2) (by assumption) Uu qfg) (by exact g3')) .(Ibb .(Iby .(Ia0 2) (by exact g3) qic (by exact hY) (hp:=Uu)) e4)) .(Exs.cons .(Ia4 .(Ial 3 F.g_law_element) .(Ibb .(Iby .(Ia0 2) (by exact g4) qdx (by exact hY) (hp:=Uu)) e5)) .(Exs.ret .(Iaj .(Ia0 2)))))))))
noncomputable abbrev qbg (F:Addr) (inner attr tag:AV):List AV:=[.glob (.ref F),.bound "list.append" inner,inner,attr,tag]
theorem ql4 (F:Fac W){p ip:Nat}{ks ks':List Str}{vs':List AV}{as:List Str}{avs:List AV}{tag base:AV}(hn:n=σ.length)(hp:σ[p]?=some (.elem as avs))(hm:(as.zip avs).lookup ("makeelement":Str)=some (.glob (.ref A17)))(ha:(as.zip avs).lookup ("append":Str)=some (.bound "list.append" (.loc ip)))(hi:σ[ip]?=some (.lst ch))(hYi:Y ip)(hY:∀m,σ.length<=m->Y m)(hD:Dsrc W σ base ks vs)(hpv:plains vs=true)(hpv':plains vs'=true)(hz:ks.length+ks'.length<=sizeLine)(hpt:plain tag=true)(hz2:ch.length<=sizeLine){mk:List Str}{mv:List AV}(hmk:(qah (qah [] [] ks vs).1 (qah [] [] ks vs).2 ks' vs')=(mk,mv)):
    Exs ⟨W,Y,nm11.1,cd⟩ (k+1) fr [some (.loc p),some tag,some base,some (.loc n),none] (σ++[.dstr ks' vs']) bd11.1 (.ret (.loc (n+2))) [] (σ.set ip (.lst (ch++[.loc (n+2)]))++[.dstr ks' vs',.dstr mk mv,.elem atE (qbg A17 (.loc (n+3)) (.loc (n+1)) tag),.lst []]):=by
  subst hn;have hD':Dsrc W (σ++[.dstr ks' vs']) base ks vs:=by
    rcases hD with ⟨j,h1,h2⟩ | h
    . exact .inl ⟨j,h1,qac h2⟩
    . exact .inr h
  have hE:Dsrc W (σ++[.dstr ks' vs']) (.loc σ.length) ks' vs':=.inl ⟨_,rfl,by simp⟩;have hmv1:(qah (qah [] [] ks vs).1 (qah [] [] ks vs).2 ks' vs').1=mk:=by rw[hmk]
  have hmv2:(qah (qah [] [] ks vs).1 (qah [] [] ks vs).2 ks' vs').2=mv:=by rw[hmk]
  have s1:(σ++[AObj.dstr ks' vs']++[.dstr (qah (qah [] [] ks vs).1 (qah [] [] ks vs).2 ks' vs').1 (qah (qah [] [] ks vs).1 (qah [] [] ks vs).2 ks' vs').2])=σ++[AObj.dstr ks' vs',.dstr mk mv]:=by rw[hmv1,hmv2];simp
  have v1:AV.loc (σ++[AObj.dstr ks' vs']).length=.loc (σ.length+1):=by simp
  have l2:(σ++[AObj.dstr ks' vs',.dstr mk mv]).length=σ.length+2:=by simp
  have hp2:(σ++[AObj.dstr ks' vs',.dstr mk mv])[p]?=some (.elem as avs):=qac hp;have hc:=qej F (Y:=Y) (k:=k) (fr:=fr) (σ:=σ++[AObj.dstr ks' vs',.dstr mk mv]) (tag:=tag) (attr:=.loc (σ.length+1)) hpt rfl;have hkp:=(F.f17 .none .none).kept;rw[l2] at hc;have s2:σ++[AObj.dstr ks' vs',.dstr mk mv]++[.elem atE [.glob (.ref A17),.bound "list.append" (.loc (σ.length+2+1)),.loc (σ.length+2+1),.loc (σ.length+1),tag],.lst []]=σ++[AObj.dstr ks' vs',.dstr mk mv,.elem atE (qbg A17 (.loc (σ.length+3)) (.loc (σ.length+1)) tag),.lst []]:=by simp[qbg]
  rw[s2] at hc;have hp3:(σ++[AObj.dstr ks' vs',.dstr mk mv,.elem atE (qbg A17 (.loc (σ.length+3)) (.loc (σ.length+1)) tag),.lst []])[p]?=some (.elem as avs):=qac hp;have hi3:(σ++[AObj.dstr ks' vs',.dstr mk mv,.elem atE (qbg A17 (.loc (σ.length+3)) (.loc (σ.length+1)) tag),.lst []])[ip]?=some (.lst ch):=qac hi;have s3:(σ++[AObj.dstr ks' vs',.dstr mk mv,.elem atE (qbg A17 (.loc (σ.length+3)) (.loc (σ.length+1)) tag),.lst []]).set ip (.lst (ch++[.loc (σ.length+2)]))=σ.set ip (.lst (ch++[.loc (σ.length+2)]))++[.dstr ks' vs',.dstr mk mv,.elem atE (qbg A17 (.loc (σ.length+3)) (.loc (σ.length+1)) tag),.lst []]:=set_app (qdl hi);have hb:=Ibg (Calls.bound (W:=W) (Y:=Y) (k:=k+1) (fr:=fr) (v:=.loc (σ.length+2)) hi3 hYi rfl hz2) rfl s3;refine Iad (m2:=([some (.loc p),some tag,some base,some (.loc σ.length),none].set 2 (some (.loc (σ.length+1)))).set 4 (some (.loc (σ.length+2)))) ?_;show Exs _ _ _ _ _ (_::_) _ _ _;with_reducible exact .(Exs.cons .(Ia4 .(Ibl .(Ie7 (i:=2) (j:=3) Uu Uu Uu Uu hD' hE hpv hpv' hz) s1 v1) .(Ia5 2)) .(Exs.cons .(Ia4 .(Iam .(Ia0 0) ((by exact MethOk.elem hp2 hm qdx)) (hkp) (Evs.cons .(Ia0 1) .((Evs.cons .(Ia0 2) .(Evs.nil)))) (by with_unfolding_all exact (hc))) .(Ia5 4)) .(Exs.cons .(Ex.expr .(Iam .(Ia0 0) ((by exact MethOk.elem hp3 ha qic)) .(Kept.bound) (Evs.cons .(Ia0 4) .(Evs.nil)) (by with_unfolding_all exact (hb)))) .(Exs.ret .(Iaj .(Ia0 4))))))
section
variable (F : Fac W) {p ip:Nat} {ks ks':List Str} {vs':List AV} {as:List Str} {avs:List AV} {tag base:AV}
include F in
theorem qsz {t:Nat}(hp:σ[p]?=some (.elem as avs))(hm:(as.zip avs).lookup ("makeelement":Str)=some (.glob (.ref A17)))(ha:(as.zip avs).lookup ("append":Str)=some (.bound "list.append" (.loc ip)))(hi:σ[ip]?=some (.lst ch))(hYi:Y ip)(ht:σ[t]?=some (.dstr ks vs))(hpv:plains vs=true)(hpv':plains vs'=true)(hz:ks.length+ks'.length<=sizeLine)(hpt:plain tag=true)(hz2:ch.length<=sizeLine)(hnd:ks'.Nodup)(hl:ks'.length=vs'.length)(hx:∀x∈ks',x∉(["parent", "tag", "attrib"]:List Str)){mk:List Str}{mv:List AV}(hmk:(qah (qah [] [] ks vs).1 (qah [] [] ks vs).2 ks' vs')=(mk,mv)):
    Calls W Y (k+2) fr σ (.glob (.ref A11)) [.loc p,tag,.loc t] ks' vs' (.loc (σ.length+2)) (σ.set ip (.lst (ch++[.loc (σ.length+2)]))++[.dstr ks' vs',.dstr mk mv,.elem atE (qbg A17 (.loc (σ.length+3)) (.loc (σ.length+1)) tag),.lst []]):=
  FnX.calls (F.f11t (.loc p) tag (.loc t) ks' vs' hnd hl hpv' hx (by lia)) (fun cd env=>ql4 F rfl hp hm ha hi (.inl hYi) (fun m hm=>.inr hm) (.inl ⟨t,rfl,ht⟩) hpv hpv' hz hpt hz2 hmk) (by simp) rfl rfl
include F in
theorem qt0 (hp:σ[p]?=some (.elem as avs))(hm:(as.zip avs).lookup ("makeelement":Str)=some (.glob (.ref A17)))(ha:(as.zip avs).lookup ("append":Str)=some (.bound "list.append" (.loc ip)))(hi:σ[ip]?=some (.lst ch))(hYi:Y ip)(hpv':plains vs'=true)(hz:ks'.length<=100)(hpt:plain tag=true)(hz2:ch.length<=sizeLine)(hnd:ks'.Nodup)(hl:ks'.length=vs'.length)(hx:∀x∈ks',x∉(["parent", "tag", "attrib"]:List Str)){mk:List Str}{mv:List AV}(hmk:(qah [] [] ks' vs')=(mk,mv)):
    Calls W Y (k+2) fr σ (.glob (.ref A11)) [.loc p,tag] ks' vs' (.loc (σ.length+2)) (σ.set ip (.lst (ch++[.loc (σ.length+2)]))++[.dstr ks' vs',.dstr mk mv,.elem atE (qbg A17 (.loc (σ.length+3)) (.loc (σ.length+1)) tag),.lst []]):=
  FnX.calls (F.f11d (.loc p) tag ks' vs' hnd hl hpv' hx (by rw[sizeLine_eq];lia)) (fun cd env=>ql4 F (ks:=[]) (vs:=[]) rfl hp hm ha hi (.inl hYi) (fun m hm=>.inr hm) (F.dsrc _) rfl hpv' (by rw[sizeLine_eq];simp;lia) hpt hz2 hmk) (by simp) rfl rfl
include F in
theorem qoj {b:Bool}(hc:∀Y,Calls W Y k fr σ (.glob (.builtin "hasattr")) [v,.str "tag"] [] [] (.bool b) σ):Exs ⟨W,Y,nm10.1,cd⟩ k fr [some v,none] σ bd10.1 (.ret (.bool b)) [] σ:=by
  refine Iad (m2:=[some v,none]) ?_;have hc:=hc Y;show Exs _ _ _ _ _ (_::_) _ _ _;with_reducible exact .(Exs.ret .(Iaj .(Ev.call .(Iaf 1 F.b_hasattr) .(Kept.builtin) (Evs.cons .(Ia0 0) .((Evs.cons .(Ia7) .(Evs.nil)))) EvK.nil (hc))))
include F in
theorem qu1 {b:Bool}(hc:∀k fr Y,Calls W Y k fr σ (.glob (.builtin "hasattr")) [v,.str "tag"] [] [] (.bool b) σ):Calls W Y (k+1) fr σ (.glob (.ref A10)) [v] [] [] (.bool b) σ:=
  Iax (F.f10 v) (fun cd env _=>(qoj F (hc k (env::fr))).f) rfl rfl
end
end
section
noncomputable abbrev qmx (t:Nat):Str:=Str.ofString "e"++Str.ofString (toString ((t:Nat):Int))
theorem qr7:∀t:Fin 8,PyData.strOk (qmx t)=true/\(Str.ofString "e").length+(Str.ofString (toString (((t:Nat):Nat):Int))).length<=100:=by decide +kernel
theorem qfk:∀{t:Nat},t<6->(qaq c)[t]?=some (.int (c t))
  | 0,_=>rfl
  | 1,_=>rfl
  | 2,_=>rfl
  | 3,_=>rfl
  | 4,_=>rfl
  | 5,_=>rfl
noncomputable def ta18:PSigma (fun l=>(qcc (nth bd18.1 4))=l):=⟨_,by conv=>lhs;whnf⟩
noncomputable def bo18:PSigma (fun l=>(qbo (nth bd18.1 4))=l):=⟨_,by conv=>lhs;whnf⟩
noncomputable abbrev qjp (odd:Bool):List Str:=if odd then ["far", "by", "ease"] else ["far", "ease"]
noncomputable abbrev qkl (odd:Bool) (d e:Int):List AV:=if odd then [.int d,.str "hand",.int e] else [.int d,.int e]
theorem qu8 (odd:Bool){d e:Int}(h1:(qjp odd)[i]?=some x)(h2:(qkl odd d e)[i]?=some v):qc0 (qjp odd) (qkl odd d e) x=some v:=by
  cases odd with
  | true=>
    match i,h1,h2 with
    | 0,h1,h2=>injection h1 with h1;injection h2 with h2;subst h1 h2;kernel_rfl
    | 1,h1,h2=>injection h1 with h1;injection h2 with h2;subst h1 h2;kernel_rfl
    | 2,h1,h2=>injection h1 with h1;injection h2 with h2;subst h1 h2;kernel_rfl
    | n+3,h1,h2=>simp[qjp] at h1
  | false=>
    match i,h1,h2 with
    | 0,h1,h2=>injection h1 with h1;injection h2 with h2;subst h1 h2;kernel_rfl
    | 1,h1,h2=>injection h1 with h1;injection h2 with h2;subst h1 h2;kernel_rfl
    | n+2,h1,h2=>simp[qjp] at h1
noncomputable abbrev at7:List Str:=["above", "place", "makeelement", "append", "inner", "attrib", "tag"]
noncomputable abbrev qj9 (F:Addr) (n ab t:Nat):AObj:=.elem at7 (.loc ab::.int (t:Nat)::qbg F (.loc (n+3)) (.loc (n+1)) (.str (qmx t)))
noncomputable abbrev qux (F:Addr) (odd:Bool) (n ab t:Nat) (d e:Int):List AObj:=[.dstr ["far", "ease"] [.int d,.int e],.dstr (qjp odd) (qkl odd d e),qj9 F n ab t,.lst [],.dstr (qjp odd) (qkl odd d e)]
noncomputable def qmz (c:Nat->Int) (rl tl bl b1 l1:Nat):List (Option AV):=[some (.lst (qaq c)),some (.lst (qag c)),some (.loc rl),some (.loc tl),some (.bool true),some (.loc bl),some (.loc b1),some (.loc l1),none,none,none,none,none,none,none,none,none,none,none,none]
section
variable (F : Fac W) {rl tl bl b1 l1 ab ib t:Nat} {R avs:List AV} {as:List Str}
include F in
theorem qqf (odd:Bool)(ht:t<5)(hodd:((c t).fmod 2==1)=odd)(hR:σ[rl]?=some (.lst R))(hT:σ[tl]?=some (.dstr ["far", "by"] [.int 99,.str "hand"]))(hab:(t=0/\ab=bl)\/(0<t/\R[qe4 c t]?=some (.loc ab)))(hp:σ[ab]?=some (.elem as avs))(hm:(as.zip avs).lookup ("makeelement":Str)=some (.glob (.ref A17)))(ha:(as.zip avs).lookup ("append":Str)=some (.bound "list.append" (.loc ib)))(hin:(as.zip avs).lookup ("inner":Str)=some (.loc ib))(hi:σ[ib]?=some (.lst ch))(hYi:Y ib)(hYr:Y rl)(hYn:∀m,σ.length<=m->Y m)(hri:rl≠ib)(hai:ab≠ib)(hzc:ch.length<=1000)(hzR:R.length<=1000):
    Exs ⟨W,Y,nm18.1,cd⟩ (k+2) fr (((qmz c rl tl bl b1 l1).set 8 (some (.int (t:Nat)))).set 9 (some (qhl c t))) σ bo18.1 .next (qmz c rl tl bl b1 l1) ((σ.set ib (.lst (ch++[.loc (σ.length+2)]))).set rl (.lst (R++[.loc (σ.length+2)]))++qux A17 odd σ.length ab t (dI c t) (eI c t)):=by
  generalize hn:σ.length=n at *;generalize hS:σ.set ib (.lst (ch++[.loc (n+2)]))=S;have hSl:S.length=n:=by rw[<- hS,List.length_set,hn]
  obtain ⟨htok,htz⟩:=qr7 ⟨t,by lia⟩;simp only[] at htok htz;have htz':(Str.ofString "e").length+(Str.ofString (toString ((t:Nat):Int))).length<=sizeLine:=Nat.le_trans htz (by decide);have hts:((t:Nat):Int).natAbs<4611686018427387904:=by omega
  have hz6:(qaq c).length<=sizeLine:=by exact (by decide:6<=sizeLine)
  have hct:=qfk (c:=c) (show t<6 by lia);have hzR':R.length<=sizeLine:=by rw[sizeLine_eq];lia
  have hkS:=(F.f11t .none .none .none [] [] (by decide) rfl rfl nofun (Nat.zero_le _)).kept;have hkI:=(F.f10 .none).kept;have hnd:(["far", "ease"]:List Str).Nodup:=by decide
  have hnx:∀x∈(["far", "ease"]:List Str),x∉(["parent", "tag", "attrib"]:List Str):=by decide
  obtain ⟨A0,hA0⟩:∃A0,A0=qbg A17 (.loc (n+3)) (.loc (n+1)) (.str (qmx t)):=⟨_,rfl⟩
  obtain ⟨X,hX⟩:∃X,X=AObj.dstr ["far", "ease"] [.int (dI c t),.int (eI c t)]:=⟨_,rfl⟩
  obtain ⟨D,hD⟩:∃D,D=AObj.dstr (qjp odd) (qkl odd (dI c t) (eI c t)):=⟨_,rfl⟩
  have at1:(atE.zip A0).lookup ("tag":Str)=some (.str (qmx t)):=by rw[hA0];rfl
  have at2:(atE.zip A0).lookup ("attrib":Str)=some (.loc (n+1)):=by rw[hA0];rfl
  have hfive:qux A17 odd n ab t (dI c t) (eI c t)=[X,D,.elem at7 (.loc ab::.int (t:Nat)::A0),.lst [],D]:=by rw[hX,hD,hA0]
  rw[hfive];have hsubT:((c t).fmod 2==1)=true->Calls W Y (k+2) fr σ (.glob (.ref A11)) [.loc ab,.str (qmx t),.loc tl] ["far", "ease"] [.int (dI c t),.int (eI c t)] (.loc (n+2)) (S++[X,D,.elem atE A0,.lst []]):=fun h=>by
    obtain rfl:=hodd.symm.trans h;have:=qsz F (Y:=Y) (k:=k) (fr:=fr) (σ:=σ) (tag:=.str (qmx t)) (ks':=["far", "ease"]) (vs':=[.int (dI c t),.int (eI c t)]) hp hm ha hi hYi hT rfl rfl (by exact (by decide:4<=sizeLine)) rfl (szl hzc) hnd rfl hnx (mk:=["far", "by", "ease"]) (mv:=[.int (dI c t),.str "hand",.int (eI c t)]) (by kernel_rfl);rw[hn,hS] at this;rw[hX,hD,hA0];exact this
  have hsubF:((c t).fmod 2==1)=false->Calls W Y (k+2) fr σ (.glob (.ref A11)) [.loc ab,.str (qmx t)] ["far", "ease"] [.int (dI c t),.int (eI c t)] (.loc (n+2)) (S++[X,D,.elem atE A0,.lst []]):=fun h=>by
    obtain rfl:=hodd.symm.trans h;have:=qt0 F (Y:=Y) (k:=k) (fr:=fr) (σ:=σ) (tag:=.str (qmx t)) (ks':=["far", "ease"]) (vs':=[.int (dI c t),.int (eI c t)]) hp hm ha hi hYi rfl (by decide) rfl (szl hzc) hnd rfl hnx (mk:=["far", "ease"]) (mv:=[.int (dI c t),.int (eI c t)]) (by kernel_rfl);rw[hn,hS] at this;rw[hX,hD,hA0];exact this
  have dT:((c t).fmod 2==1)=true->S++[X,D,.elem atE A0,.lst []]++[.dstr ["far", "by", "ease"] [.int (dI c t),.str "hand",.int (eI c t)]]=S++[X,D,.elem atE A0,.lst [],D]:=fun h=>by
    obtain rfl:=hodd.symm.trans h;rw[hD,List.append_assoc];rfl
  have dF:((c t).fmod 2==1)=false->S++[X,D,.elem atE A0,.lst []]++[.dstr ["far", "ease"] [.int (dI c t),.int (eI c t)]]=S++[X,D,.elem atE A0,.lst [],D]:=fun h=>by
    obtain rfl:=hodd.symm.trans h;rw[hD,List.append_assoc];rfl
  have vl:AV.loc (S++[X,D,.elem atE A0,.lst []]).length=.loc (n+4):=by rw[List.length_append,hSl];rfl
  have hSab:S[ab]?=some (.elem as avs):=by rw[<- hS,qan (Ne.symm hai)];exact hp
  have hSib:S[ib]?=some (.lst (ch++[.loc (n+2)])):=by rw[<- hS];exact qbi hi
  have hSrl:S[rl]?=some (.lst R):=by rw[<- hS,qan (Ne.symm hri)];exact hR
  have gn:∀τ j,(S++τ)[n+j]?=τ[j]?:=fun τ j=>qbn (by rw[hSl])
  have sn:∀τ j x,(S++τ).set (n+j) x=S++τ.set j x:=fun τ j x=>qfq (by rw[hSl])
  have hlast:∃j,seqIndex? (-1) (ch++[AV.loc (n+2)]).length=some j/\(ch++[AV.loc (n+2)])[j]?=some (.loc (n+2)):=qu0 (j:=ch.length) (by simp) (by simp;lia);have hzl:(ch++[AV.loc (n+2)]).length<=sizeLine:=by rw[List.length_append];exact szl (Nat.succ_le_succ hzc)
  have hd2:Op2 W Y (k+2) fr (S++[X,D,.elem atE A0,.lst [],D]) (compareOp .Eq) (.loc (n+1)) (.loc (n+4)) (.bool true) (S++[X,D,.elem atE A0,.lst [],D]):=by
    refine Ibt (ks:=qjp odd) (ks':=qjp odd) (vs:=qkl odd (dI c t) (eI c t)) (vs':=qkl odd (dI c t) (eI c t)) ((gn _ 1).trans (congrArg some hD)) ((gn _ 4).trans (congrArg some hD)) rfl (by cases odd <;> rfl) (fun v hv=>?_) (fun i x v h1 h2=>qu8 odd h1 h2);cases odd <;> simp[qkl] at hv <;> rcases hv with rfl | rfl | rfl <;> first | exact ⟨rfl,Nat.zero_le _⟩ | exact ⟨by decide +kernel,Nat.zero_le _⟩
  have g2:(S++[X,D,.elem atE A0,.lst [],D])[n+2]?=some (.elem atE A0):=gn _ 2;have hi2:Calls W Y (k+2) fr (S++[X,D,.elem atE A0,.lst [],D]) (.glob (.ref A10)) [.loc (n+2)] [] [] (.bool true) (S++[X,D,.elem atE A0,.lst [],D]):=qu1 F (k:=k+1) fun k fr Y=>Ibq g2 at1 rfl qfm
  have hDt:D1 64 (.str (qmx t)):=D1.str htok;have hYn2:=hYn (n+2) (Nat.le_add_right _ _);have e2:(S++[X,D,.elem atE A0,.lst [],D]).set (n+2) (.elem ("place" :: atE) (.int (t:Nat)::A0))=S++[X,D,.elem ("place" :: atE) (.int (t:Nat)::A0),.lst [],D]:=sn _ 2 _;have g3:(S++[X,D,.elem ("place" :: atE) (.int (t:Nat)::A0),.lst [],D])[n+2]?=some (.elem ("place" :: atE) (.int (t:Nat)::A0)):=gn _ 2;have e3:(S++[X,D,.elem ("place" :: atE) (.int (t:Nat)::A0),.lst [],D]).set (n+2) (.elem at7 (.loc ab::.int (t:Nat)::A0))=S++[X,D,.elem at7 (.loc ab::.int (t:Nat)::A0),.lst [],D]:=sn _ 2 _;have hgr:(S++[X,D,.elem at7 (.loc ab::.int (t:Nat)::A0),.lst [],D])[rl]?=some (.lst R):=qac hSrl;have hap:=Ibg (Calls.append (W:=W) (Y:=Y) (k:=k+2) (fr:=fr) (v:=.loc (n+2)) hgr hYr rfl hzR') rfl (set_app (qdl hSrl));have hpos:decide ((0:Int)<((t:Nat):Int))=true->0<t:=fun h=>Int.natCast_pos.mp (of_decide_eq_true h)
  have hpar:=fun h=>(qc3 (c:=c) (t:=t) (hpos h)).1
  have hRp:=fun h=>(hab.resolve_left fun q=>absurd (hpos h) (q.1 ▸ Nat.lt_irrefl 0)).2
  have hbl:decide ((0:Int)<((t:Nat):Int))=false->AV.loc bl=.loc ab:=fun h=>hab.elim (fun q=>congrArg AV.loc q.2.symm) fun q=>absurd (Int.natCast_pos.mpr q.1) (of_decide_eq_false h)
  refine Exs.post (m2:=(((((((qmz c rl tl bl b1 l1).set 8 (some (.int (t:Nat)))).set 9 (some (qhl c t))).set 10 (some (.loc ab))).set 11 (some (.str (qmx t)))).set 12 (some (.loc (n+2)))).set 13 (some (.loc (n+4)))).set 4 (some (.bool true))) ?_ (Weak.of (by simp[qay,qmz]));show Exs _ _ _ _ _ (_::_) _ _ _;with_reducible exact .(Exs.cons .(Ic9 (i:=10) (j:=11) .(Ev.tuple (Evs.cons .(Ibn .(Ia3 .(Ia0 8) .(Ia1) .(Icw)) (fun hc=>.(Ia8 .(Ia0 2) .(Iaa .(Ia0 9) .(Ia1) .(⟨_,rfl,rfl⟩)) .(Lv.loc (by assumption)) (by exact qb4 (hpar hc) (hRp hc)) (by exact hzR'))) (fun hc=>.(Ian .(Ia0 5) ((hbl hc))))) .((Evs.cons .(Ia2 .(Ia7) .(Ev.call .(Iaf 17 F.b_str) .(Kept.type) (Evs.cons .(Ia0 8) .(Evs.nil)) EvK.nil (Idt hts)) (Ie4 htz')) .(Evs.nil))))) Uu Uu (by decide) Uu Uu) .(Exs.cons .(Ia4 .(Ibn .(Ia3 .(Ia2 .(Ia8 .(Ia0 0) .(Ia0 8) .(Lv.fz) (by exact qb4 rfl hct) (by exact hz6)) .(Ia1) .(Iap (by decide))) .(Ia1) .(Ibj)) (fun hc=>.(Ev.call .(Ial 18 F.g_SubElement) (hkS) (Evs.cons .(Ia0 10) .((Evs.cons .(Ia0 11) .((Evs.cons .(Ia0 3) .(Evs.nil)))))) (EvK.cons .(Iaa .(Ia0 9) .(Ia1) .(⟨_,rfl,rfl⟩)) .((EvK.cons .(Iaa .(Ia0 9) .(Ia1) .(⟨_,rfl,rfl⟩)) .(EvK.nil)))) ((hsubT hc)))) (fun hc=>.(Ev.call .(Ial 18 F.g_SubElement) (hkS) (Evs.cons .(Ia0 10) .((Evs.cons .(Ia0 11) .(Evs.nil)))) (EvK.cons .(Iaa .(Ia0 9) .(Ia1) .(⟨_,rfl,rfl⟩)) .((EvK.cons .(Iaa .(Ia0 9) .(Ia1) .(⟨_,rfl,rfl⟩)) .(EvK.nil)))) ((hsubF hc))))) .(Ia5 12)) .(Exs.cons .(Ia4 .(Ibn .(Ia3 .(Ia2 .(Ia8 .(Ia0 0) .(Ia0 8) .(Lv.fz) (by exact qb4 rfl hct) (by exact hz6)) .(Ia1) .(Iap (by decide))) .(Ia1) .(Ibj)) (fun hc=>.(Ibl .(Ibo ["far", "by", "ease"] (by with_unfolding_all exact EvP.cons .(Ia7) .(Iaa .(Ia0 9) .(Ia1) .(⟨_,rfl,rfl⟩)) (by with_unfolding_all exact EvP.cons .(Ia7) .(Ia7) (by with_unfolding_all exact EvP.cons .(Ia7) .(Iaa .(Ia0 9) .(Ia1) .(⟨_,rfl,rfl⟩)) (by with_unfolding_all exact EvP.nil)))) Uu (by decide)) (dT hc) (vl))) (fun hc=>.(Ibl .(Ibo ["far", "ease"] (by with_unfolding_all exact EvP.cons .(Ia7) .(Iaa .(Ia0 9) .(Ia1) .(⟨_,rfl,rfl⟩)) (by with_unfolding_all exact EvP.cons .(Ia7) .(Iaa .(Ia0 9) .(Ia1) .(⟨_,rfl,rfl⟩)) (by with_unfolding_all exact EvP.nil))) Uu (by decide)) (dF hc) (vl)))) .(Ia5 13)) .(Exs.cons .(Ia4 .(Ian .(Icp .(EvAnd.cons .(Ia0 4) .(EvAnd.cons .(Iba .(Ia8 .(Iah .(Ia0 10) (by exact qac hSab) (by exact hin) qfg) .(Ic0 .(Ia1)) (by exact Lv.loc (qac hSib)) (by exact hlast) (by exact hzl)) .(Ia0 12) .(Idl)) .(EvAnd.cons .(Iba .(Iah .(Ia0 12) (by exact g2) (by exact at1) qfm) .(Ia0 11) (Icx (Dv.of hDt) (Dv.of hDt) (by simp))) .(EvAnd.cons .(Iba .(Iah .(Ia0 12) (by exact g2) (by exact at2) qb9) .(Ia0 13) (hd2)) .(EvAnd.one .(Iba .(Ev.call .(Ial 19 F.g_iselement) (hkI) (Evs.cons .(Ia0 12) .(Evs.nil)) EvK.nil (hi2)) .(Ibf) .(Ib1)))))))) ((rfl:AV.bool (true==true)=.bool true))) .(Ia5 4)) .(Exs.cons .(Ia4 .(Ia0 8) .(Ibb .(Iby .(Ia0 12) (by exact g2) qd2 (by exact hYn2) (hp:=Uu)) e2)) .(Exs.cons .(Ia4 .(Ia0 10) .(Ibb .(Iby .(Ia0 12) (by exact g3) ql2 (by exact hYn2) (hp:=Uu)) e3)) .(Exs.cons .(Ex.expr .(Iam .(Ia0 2) ((by exact Meth.append (Lv.loc hgr))) .(Kept.builtin) (Evs.cons .(Ia0 12) .(Evs.nil)) (by with_unfolding_all exact (hap)))) .(Exs.nil))))))))
end
end
section
def Ext (b:Nat) (σ T:List AObj):Prop:=σ.length<=T.length/\∀i,i<σ.length->i≠b->T[i]?=σ[i]?
theorem Ext.trans {T U:List AObj}(h:Ext b σ T)(h':Ext b T U):Ext b σ U:=⟨Nat.le_trans h.1 h'.1,fun i hi hb=>(h'.2 i (Nat.lt_of_lt_of_le hi h.1) hb).trans (h.2 i hi hb)⟩
theorem Ext.get {T:List AObj}(h:Ext b σ T){x:AObj}(hx:σ[i]?=some x)(hb:i≠b):T[i]?=some x:=(h.2 i (qdl hx) hb).trans hx
theorem Ext.app:Ext b σ (σ++τ):=⟨by simp,fun i hi _=>List.getElem?_append_left hi⟩
theorem Ext.set {x:AObj}:Ext b σ (σ.set b x):=⟨by simp,fun i hi hb=>qan (Ne.symm hb)⟩
section
variable (F : Fac W) {p ip:Nat} {x:AV}
include F in
theorem qqq (hp:σ[p]?=some (.elem atE (qbg A17 (.loc ip) x y)))(hi:σ[ip]?=some (.lst ch))(hYi:Y ip)(hz2:ch.length<=1000):∃T,(∀fr,Calls W Y (k+2) fr σ (.glob (.ref A11)) [.loc p,.str "note"] [] [] (.loc (σ.length+2)) T)/\Ext ip σ T/\T.length=σ.length+4/\T[ip]?=some (.lst (ch++[.loc (σ.length+2)])) /\
    T[σ.length+1]?=some (.dstr [] [])/\T[σ.length+2]?=some (.elem atE (qbg A17 (.loc (σ.length+3)) (.loc (σ.length+1)) (.str "note"))):=by
  refine ⟨_,fun fr=>qt0 F (Y:=Y) (k:=k) (fr:=fr) (σ:=σ) (tag:=.str "note") (ks':=[]) (vs':=[]) hp rfl rfl hi hYi rfl (by decide) rfl (by rw[sizeLine_eq];lia) .nil rfl (fun _ h=>absurd h List.not_mem_nil) (mk:=[]) (mv:=[]) rfl,Ext.set.trans Ext.app,by simp,qac (qbi hi),?_,?_⟩
  . rw[qbn (j:=1) (by simp)];rfl
  . rw[qbn (j:=2) (by simp)];rfl
include F in
theorem qt8 {t:Nat}(ht:σ[t]?=some (.dstr ["far", "by"] [.int 99,.str "hand"]))(hp:σ[p]?=some (.elem atE (qbg A17 (.loc ip) x y)))(hi:σ[ip]?=some (.lst ch))(hYi:Y ip)(hz2:ch.length<=1000):∃T,(∀fr,Calls W Y (k+2) fr σ (.glob (.ref A11)) [.loc p,.str "note",.loc t] [] [] (.loc (σ.length+2)) T)/\Ext ip σ T/\T.length=σ.length+4/\T[ip]?=some (.lst (ch++[.loc (σ.length+2)])) /\
    T[σ.length+1]?=some (.dstr ["far", "by"] [.int 99,.str "hand"])/\T[σ.length+2]?=some (.elem atE (qbg A17 (.loc (σ.length+3)) (.loc (σ.length+1)) (.str "note"))):=by
  refine ⟨_,fun fr=>qsz F (Y:=Y) (k:=k) (fr:=fr) (σ:=σ) (tag:=.str "note") (ks':=[]) (vs':=[]) hp rfl rfl hi hYi ht rfl rfl (by exact (by decide:2<=sizeLine)) rfl (by rw[sizeLine_eq];lia) .nil rfl (fun _ h=>absurd h List.not_mem_nil) (mk:=["far", "by"]) (mv:=[.int 99,.str "hand"]) (by kernel_rfl),Ext.set.trans Ext.app,by simp,qac (qbi hi),?_,?_⟩
  . rw[qbn (j:=1) (by simp)];rfl
  . rw[qbn (j:=2) (by simp)];rfl
end
noncomputable def ta185:PSigma (fun l=>(qcc (nth bd18.1 5))=l):=⟨_,by conv=>lhs;whnf⟩
noncomputable def bo185:PSigma (fun l=>(qbo (nth bd18.1 5))=l):=⟨_,by conv=>lhs;whnf⟩
section
variable (F : Fac W) {rl tl bl b1 l1 e a:Nat} {ks:List Str} {avs:List AV}
include F in
theorem qo0 (he:σ[e]?=some (.elem atE avs))(hat:(atE.zip avs).lookup ("attrib":Str)=some (.loc a))(ha:σ[a]?=some (.dstr ks vs))(hd:σ[d]?=some (.dstr ks vs))(hl:ks.length=vs.length)(hD:∀v∈vs,isD v=true/\(toP v).depth<=64)(hsub:∀(i:Nat) (x:Str) (v:AV),ks[i]?=some x->vs[i]?=some v->qc0 ks vs x=some v)(hY:Y a)(hz:ks.length<=100):
    Exs ⟨W,Y,nm18.1,cd⟩ (k+2) fr (((qmz c rl tl bl b1 l1).set 14 (some (.loc e))).set 13 (some (.loc d))) σ bo185.1 .next (qmz c rl tl bl b1 l1) (σ.set a (.dstr (qf1 ks vs "by" (.str "none")).1 (qf1 ks vs "by" (.str "none")).2)):=by
  have hzz:ks.length<=sizeLine:=by rw[sizeLine_eq];lia
  have heq:=Ibt (W:=W) (Y:=Y) (k:=k+2) (fr:=fr) ha hd rfl hl hD hsub;refine Exs.post (m2:=(((qmz c rl tl bl b1 l1).set 14 (some (.loc e))).set 13 (some (.loc d))).set 4 (some (.bool true))) ?_ (Weak.of (by simp[qay,qmz]));show Exs _ _ _ _ _ (_::_) _ _ _;with_reducible exact .(Exs.cons .(Ia4 .(Icp .(EvAnd.cons .(Ia0 4) .(EvAnd.one .(Iba .(Iah .(Ia0 14) (by exact he) (by exact hat) qb9) .(Ia0 13) (heq))))) .(Ia5 4)) .(Exs.cons .(Ia4 .(Ia7) .(Ieh .(Iah .(Ia0 14) (by exact he) (by exact hat) qb9) .(Ia7) ha hY rfl hzz)) .(Exs.nil)))
end
end
section
theorem qun:(["far", "by"]:List Str).Nodup:=by decide
theorem flK (d:Int):plains [AV.int d,.str "hand"]=true:=rfl
noncomputable abbrev tabO:AObj:=.dstr ["far", "by"] [.int 99,.str "hand"]
noncomputable abbrev qpm (F:Addr) (n:Nat):List AObj:=[.lst [],tabO,.dstr [] [],.elem atE (qbg F (.loc (n+4)) (.loc (n+2)) (.str "book")),.lst [],.elem ["attrib"] [.loc (n+1)],.elem ["tag"] [.str "lone"]]
noncomputable def abL (c:Nat->Int) (n:Nat):Nat->Nat
  | 0=>n+3
  | t+1=>(n+7+5*(qe4 c (t+1))+2)
noncomputable def qjn (c:Nat->Int) (t:Nat):Bool:=(c t).fmod 2==1
theorem qkm (h:j∈[1,3,5,6]):0<j/\j<7/\j≠4:=(by decide:∀j∈[1,3,5,6],0<j/\j<7/\j≠4) j h
structure DocI (W:Wd) (c:Nat->Int) (n t:Nat) (z0 σ:List AObj):Prop where
  len:σ.length=n+7+5*t
  row:σ[n]?=some (.lst ((List.range t).map fun s=>.loc (n+7+5*s+2)))
  fix:∀{j:Nat} {x:AObj},j∈[1,3,5,6]->(qpm A17 n)[j]?=some x->σ[n+j]?=some x
  bookI:σ[n+4]?=some (.lst (if t=0 then [] else [.loc (n+7+5*0+2)]))
  els:∀s,s<t->σ[n+7+5*s+2]?=some (qj9 A17 (n+7+5*s) (abL c n s) s)
  inn:∀s,s<t->∃ch:List AV,σ[n+7+5*s+2+1]?=some (.lst ch)/\ch.length<=t
  att:∀s,s<t->σ[n+7+5*s+1]?=some (.dstr (qjp (qjn c s)) (qkl (qjn c s) (dI c s) (eI c s)))
  old:∀i,i<n->σ[i]?=z0[i]?
section
variable (F : Fac W) {t:Nat} {z0:List AObj}
theorem Idr {S:List AObj}(D:DocI W c n t z0 σ){ib:Nat}{R:List AV}(hib:(t=0/\ib=n+4)\/(0<t/\ib=n+7+5*(qe4 c t)+2+1))(hch:ch.length<=t)(hch0:t=0->ch=[])(hR:R=(List.range t).map fun s=>.loc (n+7+5*s+2))(h5:τ.length=5)(t1:τ[1]?=some (.dstr (qjp (qjn c t)) (qkl (qjn c t) (dI c t) (eI c t))))(t2:τ[2]?=some (qj9 A17 (n+7+5*t) (abL c n t) t))(t3:τ[3]?=some (.lst []))(hnb:∀s j,j<3->n+7+5*s+j≠ib)(hn4:∀j,j<7->j≠4->n+j≠ib)(hn0:∀s j,n+7+5*s+j≠n)(hle:n<=ib)(hl:S.length=n+7+5*t)(row:S[n]?=some (.lst (R++[.loc (n+7+5*t+2)])))(own:S[ib]?=some (.lst (ch++[.loc (n+7+5*t+2)])))(rest:∀i,i≠n->i≠ib->S[i]?=σ[i]?):DocI W c n (t+1) z0 (S++τ):=by
  have keep:∀i x,i≠n->i≠ib->σ[i]?=some x->(S++τ)[i]?=some x:=fun i x h1 h2 hx=>qac ((rest i h1 h2).trans hx)
  have new:∀j,(S++τ)[n+7+5*t+j]?=τ[j]?:=fun j=>qbn (by rw[hl])
  refine ⟨by rw[List.length_append,hl,h5];rfl,by rw[qac row,List.range_succ,List.map_append,hR];rfl,fun {j x} hj hx=>?_,?_,fun s hs=>?_,fun s hs=>?_,fun s hs=>?_,fun i hi'=>?_⟩
  . have h:=qkm hj;exact keep _ _ (Nat.ne_of_gt (Nat.lt_add_of_pos_right h.1)) (hn4 j h.2.1 h.2.2) (D.fix hj hx)
  . rcases hib with h | h
    . rw[<- h.2,qac own,hch0 h.1,h.1];rfl
    . rw[keep _ _ (Nat.ne_of_gt (Nat.lt_add_of_pos_right (by decide:0<4))) (fun e=>by have:=h.2;lia) D.bookI,if_neg (Nat.ne_of_gt h.1)];rfl
  . rcases Nat.lt_or_eq_of_le (Nat.le_of_lt_succ hs) with hs | rfl
    . exact keep _ _ (hn0 s 2) (hnb s 2 (by decide)) (D.els s hs)
    . exact (new 2).trans t2
  . rcases Nat.lt_or_eq_of_le (Nat.le_of_lt_succ hs) with hs | rfl
    . refine qa4 (D.inn s hs) ?_;intro ch' h1 h2;by_cases hsi:n+7+5*s+2+1=ib
      . exact ⟨_,by rw[hsi];exact qac own,by rw[List.length_append];exact Nat.succ_le_succ hch⟩
      . exact ⟨ch',keep _ _ (hn0 s 3) hsi h1,Nat.le_succ_of_le h2⟩
    . exact ⟨[],(new 3).trans t3,Nat.zero_le _⟩
  . rcases Nat.lt_or_eq_of_le (Nat.le_of_lt_succ hs) with hs | rfl
    . exact keep _ _ (hn0 s 1) (hnb s 1 (by decide)) (D.att s hs)
    . exact (new 1).trans t1
  . rw[<- D.old i hi',List.getElem?_append_left (by rw[hl];exact Nat.lt_of_lt_of_le hi' (Nat.le_trans (Nat.le_add_right n 7) (Nat.le_add_right _ _)))];exact rest i (Nat.ne_of_lt hi') (Nat.ne_of_lt (Nat.lt_of_lt_of_le hi' hle))
theorem DocI.step (D:DocI W c n t z0 σ){ib:Nat}{R:List AV}(hi:σ[ib]?=some (.lst ch))(hib:(t=0/\ib=n+4)\/(0<t/\ib=n+7+5*(qe4 c t)+2+1))(hch:ch.length<=t)(hch0:t=0->ch=[])(hR:R=(List.range t).map fun s=>.loc (n+7+5*s+2))(h5:τ.length=5)(t1:τ[1]?=some (.dstr (qjp (qjn c t)) (qkl (qjn c t) (dI c t) (eI c t))))(t2:τ[2]?=some (qj9 A17 (n+7+5*t) (abL c n t) t))(t3:τ[3]?=some (.lst [])):
    DocI W c n (t+1) z0 ((σ.set ib (.lst (ch++[.loc (n+7+5*t+2)]))).set n (.lst (R++[.loc (n+7+5*t+2)]))++τ):=by
  have hnb:∀s j,j<3->n+7+5*s+j≠ib:=fun s j hj e=>by rcases hib with ⟨_,h⟩ | ⟨_,h⟩ <;> lia
  have hn4:∀j,j<7->j≠4->n+j≠ib:=fun j h1 h2 e=>hib.elim (fun h=>h2 (Nat.add_left_cancel (e.trans h.2))) fun h=>by have:=h.2;lia
  have hn0:∀s j,n+7+5*s+j≠n:=fun s j=>by simp +arith
  have hibn:ib≠n:=fun e=>hn4 0 (by decide) (by decide) e.symm
  have hle:n<=ib:=by rcases hib with ⟨_,h⟩ | ⟨_,h⟩ <;> lia
  have hl:((σ.set ib (.lst (ch++[.loc (n+7+5*t+2)]))).set n (.lst (R++[.loc (n+7+5*t+2)]))).length=n+7+5*t:=by rw[List.length_set,List.length_set];exact D.len
  have row:((σ.set ib (.lst (ch++[.loc (n+7+5*t+2)]))).set n (.lst (R++[.loc (n+7+5*t+2)])))[n]?=some (.lst (R++[.loc (n+7+5*t+2)])):=qbi ((qan hibn).trans D.row);have own:((σ.set ib (.lst (ch++[.loc (n+7+5*t+2)]))).set n (.lst (R++[.loc (n+7+5*t+2)])))[ib]?=some (.lst (ch++[.loc (n+7+5*t+2)])):=(qan hibn.symm).trans (qbi hi);have rest:∀i,i≠n->i≠ib->((σ.set ib (.lst (ch++[.loc (n+7+5*t+2)]))).set n (.lst (R++[.loc (n+7+5*t+2)])))[i]?=σ[i]?:=fun i h1 h2=>(qan (Ne.symm h1)).trans (qan (Ne.symm h2))
  generalize (σ.set ib (.lst (ch++[.loc (n+7+5*t+2)]))).set n (.lst (R++[.loc (n+7+5*t+2)]))=S at hl row own rest;exact Idr D hib hch hch0 hR h5 t1 t2 t3 hnb hn4 hn0 hle hl row own rest
include F in
theorem qqh (hY:∀m,n<=m->Y m):∀(j t:Nat) (σ:List AObj),t+j=5->DocI W c n t z0 σ->∃z',DocI W c n 5 z0 z' /\
    ∀(cd:Value) (fr:List Env),ForC ⟨W,Y,nm18.1,cd⟩ (k+2) fr ta18.1 bo18.1 [] (.enum (.lst (qag c)) (qag c)) t (qmz c n (n+1) (n+3) (n+5) (n+6)) σ .next (qmz c n (n+1) (n+3) (n+5) (n+6)) z':=by
  intro j;induction j with
  | zero=>
    intro t σ ht D;obtain rfl:t=5:=ht;exact ⟨σ,D,fun cd fr=>ForC.done Lv.fz rfl Exs.nil⟩
  | succ j ih=>
    intro t σ ht D;have ht5:t<5:=ht ▸ Nat.lt_add_of_pos_right (Nat.succ_pos j);have hpt:0<t->qe4 c t<t:=fun h=>(qc3 h).2
    obtain ⟨ib,ch,as,avs,hi,hib,hch,hch0,hp,hm,ha,hin,habl,hle⟩:∃ib ch as avs,σ[ib]?=some (.lst ch)/\((t=0/\ib=n+4)\/(0<t/\ib=n+7+5*(qe4 c t)+2+1))/\ch.length<=t/\(t=0->ch=[])/\σ[abL c n t]?=some (.elem as avs) /\
        (as.zip avs).lookup ("makeelement":Str)=some (.glob (.ref A17))/\(as.zip avs).lookup ("append":Str)=some (.bound "list.append" (.loc ib))/\(as.zip avs).lookup ("inner":Str)=some (.loc ib)/\abL c n t≠ib/\n<ib:=by
      cases t with
      | zero=>exact ⟨n+4,[],_,_,D.bookI,.inl ⟨rfl,rfl⟩,Nat.le_refl _,fun _=>rfl,D.fix (j:=3) (by decide) rfl,by with_unfolding_all rfl,by with_unfolding_all rfl,by with_unfolding_all rfl,qb2 (a:=3) (b:=4) rfl,Nat.lt_add_of_pos_right (by decide)⟩
      | succ t=>
        have hp:=hpt (Nat.succ_pos t);obtain ⟨ch,h1,h2⟩:=D.inn _ hp;exact ⟨_,ch,_,_,h1,.inr ⟨Nat.succ_pos t,rfl⟩,h2,nofun,D.els _ hp,by with_unfolding_all rfl,by with_unfolding_all rfl,by with_unfolding_all rfl,qb2 (n:=n+7+5*qe4 c (t+1)) (a:=2) (b:=3) rfl,by simp +arith⟩
    obtain ⟨z',D5,hf⟩:=ih (t+1) _ ((Nat.succ_add_eq_add_succ t j).trans ht) (D.step hi hib hch hch0 rfl (τ:=qux A17 (qjn c t) (n+7+5*t) (abL c n t) t (dI c t) (eI c t)) rfl rfl rfl rfl);refine ⟨z',D5,fun cd fr=>?_⟩;have hab:(t=0/\abL c n t=n+3)\/(0<t/\((List.range t).map fun s=>AV.loc (n+7+5*s+2))[qe4 c t]?=some (.loc (abL c n t))):=by
      cases t with
      | zero=>exact .inl ⟨rfl,rfl⟩
      | succ t=>
        refine .inr ⟨Nat.succ_pos t,?_⟩;rw[List.getElem?_map,List.getElem?_range (hpt (Nat.succ_pos t))];rfl
    have hb:=qqf F (Y:=Y) (cd:=cd) (k:=k) (fr:=fr) (b1:=n+5) (l1:=n+6) (qjn c t) ht5 rfl D.row (D.fix (j:=1) (by decide) rfl) hab hp hm ha hin hi (hY _ (Nat.le_of_lt hle)) (hY _ (Nat.le_refl _)) (fun m hm=>hY m (Nat.le_trans (Nat.le_trans (Nat.le_add_right n 7) (Nat.le_add_right _ _)) (Nat.le_trans (Nat.le_of_eq D.len.symm) hm))) (Nat.ne_of_lt hle) habl (Nat.le_trans hch (Nat.le_trans (Nat.le_of_lt ht5) (by decide))) (by rw[List.length_map,List.length_range];exact Nat.le_trans (Nat.le_of_lt ht5) (by decide));rw[D.len] at hb;refine ForC.next (m1:=((qmz c n (n+1) (n+3) (n+5) (n+6)).set 8 (some (.int (t:Nat)))).set 9 (some (qhl c t))) (z1:=σ) Lv.fz rfl (v:=.tup [.int (t:Nat),qhl c t]) ?_ (fun _=>⟨_,_,_,rfl⟩) ?_ hb (hf cd fr)
    . show ((qag c).zipIdx.map fun p=>AV.tup [.int p.2,p.1])[t]?=_;rw[List.getElem?_map,List.getElem?_zipIdx,qea ht5];simp
    . show As _ _ _ _ _ (.Tuple _ _ _) _ _ _;exact .(As.tuple .(AsL.cons .(Ia5 8) .(AsL.cons .(Ia5 9) .(AsL.nil) (hp:=Uu)) (hp:=Uu)))
end
end
section
section
variable (F : Fac W) {z0:List AObj}
structure qvp (W:Wd) (c:Nat->Int) (n:Nat) (z0 σ:List AObj):Prop where
  len:n+7+5*5<=σ.length
  row:σ[n]?=some (.lst ((List.range 5).map fun s=>.loc (n+7+5*s+2)))
  els:∀s,s<5->∃a,σ[n+7+5*s+2]?=some (qj9 a (n+7+5*s) (abL c n s) s)
  att:∀s,s<5->σ[n+7+5*s+1]?=some (.dstr (qjp (qjn c s)) (qkl (qjn c s) (dI c s) (eI c s)))
  old:∀i,i<n->σ[i]?=z0[i]?
noncomputable abbrev qc2 (c:Nat->Int) (n:Nat):List (Option AV):=qmz c n (n+1) (n+3) (n+5) (n+6)
noncomputable abbrev elN (n:Nat):AObj:=.elem atE (qbg A17 (.loc (n+1)) (.loc (n - 1)) (.str "note"))
noncomputable abbrev qv5 (n:Nat):AIt:=.tup [.tup [.loc (n+34),.loc (n+36)],.tup [.loc (n+39),.loc (n+41)],.tup [.loc (n+44),.loc (n+46)]]
include F in
theorem qp3 (hY:∀m,n<=m->Y m)(D:DocI W c n 5 z0 σ):∃T,Ext (n+4) σ T/\(∀(cd:Value) (fr:List Env),ItE ⟨W,Y,nm18.1,cd⟩ (k+2) fr (qc2 c n) σ (qdd (nth bd18.1 5)) (qv5 n) T) /\
    T[n+4]?=some (.lst [.loc (n+7+5*0+2),.loc (n+34),.loc (n+39),.loc (n+44)])/\T[n+34]?=some (elN (n+34))/\T[n+39]?=some (elN (n+39))/\T[n+44]?=some (elN (n+44)) /\
    T[n+33]?=some (.dstr [] [])/\T[n+38]?=some (.dstr [] [])/\T[n+43]?=some tabO/\T[n+36]?=some (.dstr [] [])/\T[n+41]?=some (.dstr [] [])/\T[n+46]?=some tabO:=by
  have hl:σ.length=n+32:=D.len;have bk:=D.fix (j:=3) (by decide) rfl;obtain ⟨T1,c1,E1,l1,b1,g1,h1⟩:=qqq F (Y:=Y) (k:=k) bk D.bookI (hY _ (Nat.le_add_right _ _)) (Nat.le_of_ble_eq_true rfl);rw[hl] at c1 l1 b1 g1 h1;have p1:=E1.get bk (qb2 rfl);have l1':(T1++[AObj.dstr [] []]).length=n+37:=by rw[List.length_append,l1];rfl
  obtain ⟨T2,c2,E2,l2,b2,g2,h2⟩:=qqq F (Y:=Y) (k:=k) (qac (τ:=[AObj.dstr [] []]) p1) (qac b1) (hY _ (Nat.le_add_right _ _)) (Nat.le_of_ble_eq_true rfl);rw[l1'] at c2 l2 b2 g2 h2;have p2:=E2.get (qac (τ:=[AObj.dstr [] []]) p1) (qb2 rfl);have l2':(T2++[AObj.dstr [] []]).length=n+42:=by rw[List.length_append,l2];rfl
  have E02:Ext (n+4) σ (T2++[AObj.dstr [] []]):=((E1.trans Ext.app).trans E2).trans Ext.app;obtain ⟨T3,c3,E3,l3,b3,g3,h3⟩:=qt8 F (Y:=Y) (k:=k) (E02.get (D.fix (j:=1) (by decide) rfl) (qb2 rfl)) (qac (τ:=[AObj.dstr [] []]) p2) (qac b2) (hY _ (Nat.le_add_right _ _)) (Nat.le_of_ble_eq_true rfl);rw[l2'] at c3 l3 b3 g3 h3;have EA:Ext (n+4) (T1++[AObj.dstr [] []]) (T3++[tabO]):=((E2.trans Ext.app).trans E3).trans Ext.app;have EB:Ext (n+4) (T2++[AObj.dstr [] []]) (T3++[tabO]):=E3.trans Ext.app;have at0:∀{S:List AObj} {x:AObj} {m:Nat},S.length=m->(S++[x])[m]?=some x:=fun h=>qbn (j:=0) h.symm
  refine ⟨T3++[tabO],E02.trans EB,fun cd fr=>?_,qac b3,EA.get (qac h1) (qb2 rfl),EB.get (qac h2) (qb2 rfl),qac h3,EA.get (qac g1) (qb2 rfl),EB.get (qac g2) (qb2 rfl),qac g3,EA.get (at0 l1) (qb2 rfl),EB.get (at0 l2) (qb2 rfl),at0 l3⟩;have hkS:=(F.f11t .none .none .none [] [] (by decide) rfl rfl (fun _ h=>absurd h List.not_mem_nil) (Nat.zero_le _)).kept;have h:ItE ⟨W,Y,nm18.1,cd⟩ (k+2) fr (qc2 c n) σ (qdd (nth bd18.1 5)) (.tup [.tup [.loc (n+34),.loc T1.length],.tup [.loc (n+39),.loc T2.length],.tup [.loc (n+44),.loc T3.length]]) (T3++[tabO]):=by
    show ItE _ _ _ _ _ (.Tuple [.Tuple _ _ _,.Tuple _ _ _,.Tuple _ _ _] _ _) _ _;exact .(ItE.tuple .(Ev.tuple (Evs.cons .(Ev.tuple (Evs.cons .(Ev.call .(Ial 18 F.g_SubElement) (hkS) (Evs.cons .(Ia0 5) .((Evs.cons .(Ia7) .(Evs.nil)))) EvK.nil (c1 fr)) .((Evs.cons .(Ico) .(Evs.nil))))) .((Evs.cons .(Ev.tuple (Evs.cons .(Ev.call .(Ial 18 F.g_SubElement) (hkS) (Evs.cons .(Ia0 5) .((Evs.cons .(Ia7) .(Evs.nil)))) EvK.nil (c2 fr)) .((Evs.cons .(Ico) .(Evs.nil))))) .((Evs.cons .(Ev.tuple (Evs.cons .(Ev.call .(Ial 18 F.g_SubElement) (hkS) (Evs.cons .(Ia0 5) .((Evs.cons .(Ia7) .((Evs.cons .(Ia0 3) .(Evs.nil)))))) EvK.nil (c3 fr)) .((Evs.cons .(Ibo ["far", "by"] (by with_unfolding_all exact EvP.cons .(Ia7) .(Ia1) (by with_unfolding_all exact EvP.cons .(Ia7) .(Ia7) (by with_unfolding_all exact EvP.nil))) Uu (by decide)) .(Evs.nil))))) .(Evs.nil))))))))
  rw[l1,l2,l3] at h;exact h
theorem ql3 (h1:([]:List Str)[i]?=some x)(h2:([]:List AV)[i]?=some v):qc0 ([]:List Str) [] x=some v:=by simp at h1
theorem qn8 (h1:(["far", "by"]:List Str)[i]?=some x)(h2:([.int 99,.str "hand"]:List AV)[i]?=some v):qc0 (["far", "by"]:List Str) [.int 99,.str "hand"] x=some v:=by
  match i,h1,h2 with
  | 0,h1,h2=>injection h1 with h1;injection h2 with h2;subst h1 h2;kernel_rfl
  | 1,h1,h2=>injection h1 with h1;injection h2 with h2;subst h1 h2;kernel_rfl
  | n+2,h1,h2=>simp at h1
theorem qv6:∀v∈([.int 99,.str "hand"]:List AV),isD v=true/\(toP v).depth<=64:=fun v hv=>by
  rcases List.mem_cons.mp hv with rfl | hv
  . exact ⟨rfl,Nat.zero_le _⟩
  . obtain rfl:=List.mem_singleton.mp hv;exact ⟨by decide +kernel,Nat.zero_le _⟩
include F in
theorem qmm (hY:∀m,n<=m->Y m){T:List AObj}(hx1:T[n+34]?=some (elN (n+34)))(hx2:T[n+39]?=some (elN (n+39)))(hx3:T[n+44]?=some (elN (n+44)))(ha1:T[n+33]?=some (.dstr [] []))(ha2:T[n+38]?=some (.dstr [] []))(ha3:T[n+43]?=some tabO)(hd1:T[n+36]?=some (.dstr [] []))(hd2:T[n+41]?=some (.dstr [] []))(hd3:T[n+46]?=some tabO):
    ∃U,(∀j,j≠33->j≠38->j≠43->U[n+j]?=T[n+j]?)/\(∀i,i<n->U[i]?=T[i]?)/\U.length=T.length/\∀(cd:Value) (fr:List Env),ForC ⟨W,Y,nm18.1,cd⟩ (k+2) fr ta185.1 bo185.1 [] (qv5 n) 0 (qc2 c n) T .next (qc2 c n) U:=by
  have as:∀(cd:Value) (fr:List Env) (x d:Nat) (σ:List AObj),As ⟨W,Y,nm18.1,cd⟩ (k+2) fr (qc2 c n) σ ta185.1 (.tup [.loc x,.loc d]) (((qc2 c n).set 14 (some (.loc x))).set 13 (some (.loc d))) σ:=fun cd fr x d σ=>by
    show As _ _ _ _ _ (.Tuple _ _ _) _ _ _;exact .(As.tuple .(AsL.cons .(Ia5 14) .(AsL.cons .(Ia5 13) .(AsL.nil) (hp:=Uu)) (hp:=Uu)))
  have le:∀j,Y (n+j):=fun j=>hY _ (Nat.le_add_right n j)
  have turn:=fun {e a d} {σ:List AObj} {ks vs avs} cd fr h1 h2 h3 h4 h5 h6 h7 h8 h9=>qo0 F (Y:=Y) (cd:=cd) (k:=k) (fr:=fr) (e:=e) (a:=a) (d:=d) (σ:=σ) (ks:=ks) (vs:=vs) (avs:=avs) (c:=c) (rl:=n) (tl:=n+1) (bl:=n+3) (b1:=n+5) (l1:=n+6) h1 h2 h3 h4 h5 h6 h7 h8 h9
  have n0:∀v∈([]:List AV),isD v=true/\(toP v).depth<=64:=fun _ h=>absurd h List.not_mem_nil
  refine ⟨_,fun j q1 q2 q3=>?_,fun i hi=>?_,?_,fun cd fr=>ForC.next True.intro rfl rfl nofun (as cd fr _ _ T) (turn cd fr hx1 Uu ha1 hd1 rfl n0 (fun i x v=>ql3) (le 33) (by decide))
    (ForC.next True.intro rfl rfl nofun (as cd fr _ _ _) (turn cd fr ((qan (qb2 rfl)).trans hx2) Uu ((qan (qb2 rfl)).trans ha2) ((qan (qb2 rfl)).trans hd2) rfl n0 (fun i x v=>ql3) (le 38) (by decide))
    (ForC.next True.intro rfl rfl nofun (as cd fr _ _ _) (turn cd fr ((qan (qb2 rfl)).trans ((qan (qb2 rfl)).trans hx3)) Uu ((qan (qb2 rfl)).trans ((qan (qb2 rfl)).trans ha3)) ((qan (qb2 rfl)).trans ((qan (qb2 rfl)).trans hd3)) rfl qv6 (fun i x v=>qn8) (le 43) (by decide))
    (ForC.done True.intro rfl Exs.nil)))⟩
  . have ne:∀{a},j≠a->n+a≠n+j:=fun h e=>h (Nat.add_left_cancel e).symm
    rw[qan (ne q3),qan (ne q2),qan (ne q1)]
  . have ne:∀{a},n+a≠i:=fun e=>absurd hi (e ▸ Nat.not_lt.mpr (Nat.le_add_right _ _))
    rw[qan ne,qan ne,qan ne]
  . rw[List.length_set,List.length_set,List.length_set]
noncomputable abbrev qlu (n:Nat):List AObj:=[.lst [],tabO,.dstr [] [],.elem atE (qbg A17 (.loc (n+4)) (.loc (n+2)) (.str "book")),.lst []]
include F in
theorem qs4 {rest:List Stmt}(hn:z0.length=n)(hK:qgm W cd)(hY:∀j,Y (n+j))(h:Exs ⟨W,Y,nm18.1,cd⟩ (k+2) fr (qc2 c n) (z0++qpm A17 n) rest fl m' z'):
    Exs ⟨W,Y,nm18.1,cd⟩ (k+2) fr [some (.lst (qaq c)),some (.lst (qag c)),none,none,none,none,none,none,none,none,none,none,none,none,none,none,none,none,none,none] z0 (nth bd18.1 0::nth bd18.1 1::nth bd18.1 2::nth bd18.1 3::rest) fl m' z':=by
  obtain ⟨lc,lP,hLam⟩:=hK;have ap:∀{τ:List AObj} {x:AObj},z0++τ++[x]=z0++(τ++[x]):=List.append_assoc _ _ _;have ln:∀{τ:List AObj},(z0++τ).length=n+τ.length:=fun {τ}=>by rw[List.length_append,hn]
  have hc:Calls W Y (k+2) fr (z0++[AObj.lst [],tabO]++[.dstr [] []]) (.glob (.ref A17)) [.str "book",.loc (z0++[AObj.lst [],tabO]).length] [] [] (.loc (n+3)) (z0++qlu n):=
    Ibg (qej F (k:=k+1) (tag:=.str "book") (attr:=.loc (z0++[AObj.lst [],tabO]).length) rfl rfl) (by rw[ap,ln];rfl) (by rw[ap,ln,ln,List.append_assoc];rfl)
  have hkE:=(F.f17 .none .none).kept;have e0:z0++[AObj.lst []]++[tabO]=z0++[.lst [],tabO]:=ap;have v0:AV.tup [.loc z0.length,.loc (z0++[AObj.lst []]).length,.bool true]=.tup [.loc n,.loc (n+1),.bool true]:=by rw[ln,hn];rfl
  have e1:z0++qlu n++[AObj.fn0]++[.fn0]=z0++(qlu n++[.fn0,.fn0]):=by rw[ap,ap];rfl
  have v1:AV.tup [.loc (n+3),.loc (z0++qlu n).length,.loc (z0++qlu n++[AObj.fn0]).length]=.tup [.loc (n+3),.loc (n+5),.loc (n+6)]:=by rw[ap,ln,ln];rfl
  have s0:Ex ⟨W,Y,nm18.1,cd⟩ (k+2) fr [some (.lst (qaq c)),some (.lst (qag c)),none,none,none,none,none,none,none,none,none,none,none,none,none,none,none,none,none,none] z0 (nth bd18.1 0) .next ((([some (.lst (qaq c)),some (.lst (qag c)),none,none,none,none,none,none,none,none,none,none,none,none,none,none,none,none,none,none].set 2 (some (.loc n))).set 3 (some (.loc (n+1)))).set 4 (some (.bool true))) (z0++[.lst [],tabO]):=by
    show Ex _ _ _ _ _ (.Assign _ _ _) _ _ _;with_reducible exact .(Icm (i:=2) (j:=3) (l:=4) .(Ibl .(Ev.tuple (Evs.cons .(Iak Evs.nil) .((Evs.cons .(Ibo ["far", "by"] (by with_unfolding_all exact EvP.cons .(Ia7) .(Ia1) (by with_unfolding_all exact EvP.cons .(Ia7) .(Ia7) (by with_unfolding_all exact EvP.nil))) Uu (by decide)) .((Evs.cons .(Ibf) .(Evs.nil))))))) e0 v0) Uu Uu Uu (by decide) (by decide) (by decide) Uu Uu Uu)
  have s1:Ex ⟨W,Y,nm18.1,cd⟩ (k+2) fr ((([some (.lst (qaq c)),some (.lst (qag c)),none,none,none,none,none,none,none,none,none,none,none,none,none,none,none,none,none,none].set 2 (some (.loc n))).set 3 (some (.loc (n+1)))).set 4 (some (.bool true))) (z0++[.lst [],tabO]) (nth bd18.1 1) .next (((((([some (.lst (qaq c)),some (.lst (qag c)),none,none,none,none,none,none,none,none,none,none,none,none,none,none,none,none,none,none].set 2 (some (.loc n))).set 3 (some (.loc (n+1)))).set 4 (some (.bool true))).set 5 (some (.loc (n+3)))).set 6 (some (.loc (n+5)))).set 7 (some (.loc (n+6)))) (z0++(qlu n++[.fn0,.fn0])):=by
    show Ex _ _ _ _ _ (.Assign _ _ _) _ _ _;with_reducible exact .(Icm (i:=5) (j:=6) (l:=7) .(Ibl .(Ev.tuple (Evs.cons .(Ev.call .(Ial 15 F.g_law_element) (hkE) (Evs.cons .(Ia7) .((Evs.cons .(Ico) .(Evs.nil)))) EvK.nil (hc)) .((Evs.cons .(Icb (hLam _ _) (qle (by kernel_rfl))) .((Evs.cons .(Icb (hLam _ _) (qle (by kernel_rfl))) .(Evs.nil))))))) e1 v1) Uu Uu Uu (by decide) (by decide) (by decide) Uu Uu Uu)
  have s2:Ex ⟨W,Y,nm18.1,cd⟩ (k+2) fr (qc2 c n) (z0++(qlu n++[.fn0,.fn0])) (nth bd18.1 2) .next (qc2 c n) (z0++(qlu n++[.elem ["attrib"] [.loc (n+1)],.fn0])):=by
    show Ex _ _ _ _ _ (.Assign _ _ _) _ _ _;have g:(z0++(qlu n++[AObj.fn0,.fn0]))[n+5]?=some .fn0:=qbn (j:=5) (by rw[hn]);have s:(z0++(qlu n++[AObj.fn0,.fn0])).set (n+5) (.elem ["attrib"] [.loc (n+1)])=z0++(qlu n++[.elem ["attrib"] [.loc (n+1)],.fn0]):=qfq (j:=5) (by rw[hn]);have y:=hY 5;with_reducible exact .(Ia4 .(Ia0 3) .(Ibb .(Ict .(Ia0 6) (by exact g) qb9 (by exact y) (hp:=Uu)) s))
  have s3:Ex ⟨W,Y,nm18.1,cd⟩ (k+2) fr (qc2 c n) (z0++(qlu n++[.elem ["attrib"] [.loc (n+1)],.fn0])) (nth bd18.1 3) .next (qc2 c n) (z0++qpm A17 n):=by
    show Ex _ _ _ _ _ (.Assign _ _ _) _ _ _;have g:(z0++(qlu n++[AObj.elem ["attrib"] [.loc (n+1)],.fn0]))[n+6]?=some .fn0:=qbn (j:=6) (by rw[hn]);have s:(z0++(qlu n++[AObj.elem ["attrib"] [.loc (n+1)],.fn0])).set (n+6) (.elem ["tag"] [.str "lone"])=z0++qpm A17 n:=qfq (j:=6) (by rw[hn]);have y:=hY 6;with_reducible exact .(Ia4 .(Ia7) .(Ibb .(Ict .(Ia0 7) (by exact g) qfm (by exact y) (hp:=Uu)) s))
  have em:((((((([some (.lst (qaq c)),some (.lst (qag c)),none,none,none,none,none,none,none,none,none,none,none,none,none,none,none,none,none,none].set 2 (some (.loc n))).set 3 (some (.loc (n+1)))).set 4 (some (.bool true))).set 5 (some (.loc (n+3)))).set 6 (some (.loc (n+5)))).set 7 (some (.loc (n+6)))):List (Option AV))=qc2 c n:=by kernel_rfl
  rw[em] at s1;with_reducible exact Exs.cons s0 (Exs.cons s1 (Exs.cons s2 (Exs.cons s3 h)))
include F in
theorem qqg {U:List AObj}{v0:List AV}(u0:U[n]?=some (.lst v0))(u1:U[n+1]?=some tabO)(u3:U[n+3]?=some (.elem atE (qbg A17 (.loc (n+4)) (.loc (n+2)) (.str "book"))))(u4:U[n+4]?=some (.lst [.loc (n+9),.loc (n+34),.loc (n+39),.loc (n+44)]))(u5:U[n+5]?=some (.elem ["attrib"] [.loc (n+1)]))(u6:U[n+6]?=some (.elem ["tag"] [.str "lone"]))(ue:U[n+9]?=some (qj9 A17 (n+7) (abL c n 0) 0))(ux1:U[n+34]?=some (elN (n+34)))(ux2:U[n+39]?=some (elN (n+39)))(ux3:U[n+44]?=some (elN (n+44))):Exs ⟨W,Y,nm18.1,cd⟩ (k+2) fr (qc2 c n) U [nth bd18.1 6,nth bd18.1 7] (.ret (.tup [.loc n,.bool true])) ((qc2 c n).set 4 (some (.bool true))) (U++[tabO]):=by
  obtain ⟨xs,hxs⟩:∃xs:List (Nat×Str×List Str×List AV),xs=[(n+9,("e0":Str),at7,[.loc (abL c n 0),.int ((0:Nat):Int),.glob (.ref A17),.bound "list.append" (.loc (n+10)),.loc (n+10),.loc (n+8),.str (qmx 0)]),(n+34, "note",atE,qbg A17 (.loc (n+35)) (.loc (n+33)) (.str "note")),(n+39, "note",atE,qbg A17 (.loc (n+40)) (.loc (n+38)) (.str "note")),(n+44, "note",atE,qbg A17 (.loc (n+45)) (.loc (n+43)) (.str "note"))]:=⟨_,rfl⟩
  have t0:qmx 0="e0":=by decide +kernel
  have htg:∀x∈xs,U[x.1]?=some (.elem x.2.2.1 x.2.2.2)/\(x.2.2.1.zip x.2.2.2).lookup ("tag":Str)=some (.str x.2.1):=hxs ▸ fac ⟨ue,t0 ▸ by with_unfolding_all rfl⟩ (fac ⟨ux1,by with_unfolding_all rfl⟩ (fac ⟨ux2,by with_unfolding_all rfl⟩ (fac ⟨ux3,by with_unfolding_all rfl⟩ fa0)));have hxi:(AIt.seq (.loc (n+4)) [.loc (n+9),.loc (n+34),.loc (n+39),.loc (n+44)]).items=xs.map (fun x=>AV.loc x.1):=by rw[hxs];rfl
  have hxz:xs.length<=2 ^ 20:=by rw[hxs];exact (by decide:4<=2 ^ 20)
  have hsl:xs.map (fun x=>AV.str x.2.1)=[.str "e0",.str "note",.str "note",.str "note"]:=by rw[hxs];rfl
  have hDr:D1 64 (.lst [.str "e0",.str "note",.str "note",.str "note"]):=⟨by decide +kernel,by decide +kernel⟩
  have hDl:D1 64 (.lst (xs.map fun x=>AV.str x.2.1)):=hsl ▸ hDr;have hcmp:true=true↔AV.lst (xs.map fun x=>AV.str x.2.1)=.lst [.str "e0",.str "note",.str "note",.str "note"]:=⟨fun _=>congrArg AV.lst hsl,fun _=>rfl⟩
  have htq:=Ibt (W:=W) (Y:=Y) (k:=k+2) (fr:=fr) (σ:=U++[tabO]) (n:=n+1) (n':=U.length) (qac u1) (qbn (j:=0) rfl) rfl rfl qv6 (fun i x v h1 h2=>qn8 h1 h2);have hkI:=(F.f10 .none).kept;have hi1:Calls W Y (k+2) fr (U++[tabO]) (.glob (.ref A10)) [.loc (n+6)] [] [] (.bool true) (U++[tabO]):=qu1 F (k:=k+1) fun k fr Y=>Ibq (qac u6) Uu rfl qfm
  have hi2:Calls W Y (k+2) fr (U++[tabO]) (.glob (.ref A10)) [.loc (n+5)] [] [] (.bool false) (U++[tabO]):=qu1 F (k:=k+1) fun k fr Y=>Id1 (qac u5) (by decide) qfm (by decide) (by decide +kernel)
  have hi3:Calls W Y (k+2) fr (U++[tabO]) (.glob (.ref A10)) [.loc n] [] [] (.bool false) (U++[tabO]):=qu1 F (k:=k+1) fun k fr Y=>Ice (Lv.loc (qac u0))
  have hi4:Calls W Y (k+2) fr (U++[tabO]) (.glob (.ref A10)) [.loc (n+1)] [] [] (.bool false) (U++[tabO]):=qu1 F (k:=k+1) fun k fr Y=>Icf (qac u1)
  have s6:Ex ⟨W,Y,nm18.1,cd⟩ (k+2) fr (qc2 c n) U (nth bd18.1 6) .next ((qc2 c n).set 4 (some (.bool true))) (U++[tabO]):=by
    show Ex _ _ _ _ _ (.Assign _ _ _) _ _ _;with_reducible exact .(Ia4 .(Icp .(EvAnd.cons .(Ia0 4) .(EvAnd.cons .(Iba .(Iae .(ItE.list .(Iah .(Ia0 5) (by exact u3) Uu qfg) (Lv.loc u4)) (CompIn.of [none,none] (by kernel_rfl) (by kernel_rfl)) .(CompC.map (hx:=by assumption) (hO:=by with_unfolding_all exact Lv.loc (by assumption)) (hz:=by assumption) Uu (xs) ((fun x:Nat×Str×List Str×List AV=>AV.loc x.1)) ((fun x=>AV.str x.2.1)) _ (fun x hx=>.(Ia5 1)) (fun x hx=>.(Iah .(Ia0 1) (by exact (htg x hx).1) (by exact (htg x hx).2) qfm)) .(fun _=>Weak.set Uu))) .(Ev.list (Evs.cons .(Ia7) .((Evs.cons .(Ia7) .((Evs.cons .(Ia7) .((Evs.cons .(Ia7) .(Evs.nil))))))))) (Icx (Dv.of hDl) (Dv.of hDr) hcmp)) .(EvAnd.one .(Iba .(Ia0 3) .(Ibo ["far", "by"] (by with_unfolding_all exact EvP.cons .(Ia7) .(Ia1) (by with_unfolding_all exact EvP.cons .(Ia7) .(Ia7) (by with_unfolding_all exact EvP.nil))) Uu (by decide)) (htq)))))) .(Ia5 4))
  have s7:Ex ⟨W,Y,nm18.1,cd⟩ (k+2) fr ((qc2 c n).set 4 (some (.bool true))) (U++[tabO]) (nth bd18.1 7) (.ret (.tup [.loc n,.bool true])) ((qc2 c n).set 4 (some (.bool true))) (U++[tabO]):=by
    show Ex _ _ _ _ _ (.Return _ _) _ _ _;with_reducible exact .(Iaj .(Ev.tuple (Evs.cons .(Ia0 2) .((Evs.cons .(Icp .(EvAnd.cons .(Ia0 4) .(EvAnd.cons .(Iba .(Ev.call .(Ial 19 F.g_iselement) (hkI) (Evs.cons .(Ia0 7) .(Evs.nil)) EvK.nil (hi1)) .(Ibf) (Ibh Ib1 rfl)) .(EvAnd.cons .(Iba .(Ev.call .(Ial 19 F.g_iselement) (hkI) (Evs.cons .(Ia0 6) .(Evs.nil)) EvK.nil (hi2)) .(Ibf) (Ibh Ib1 rfl)) .(EvAnd.cons .(Iba .(Ev.call .(Ial 19 F.g_iselement) (hkI) (Evs.cons .(Ia0 2) .(Evs.nil)) EvK.nil (hi3)) .(Ibf) (Ibh Ib1 rfl)) .(EvAnd.one .(Iba .(Ev.call .(Ial 19 F.g_iselement) (hkI) (Evs.cons .(Ia0 3) .(Evs.nil)) EvK.nil (hi4)) .(Ibf) (Ibh Ib1 rfl)))))))) .(Evs.nil))))))
  with_reducible exact Exs.cons s6 (Exs.ret s7)
include F in
theorem qp4:∃z',qvp W c z0.length z0 z'/\∀fr,Calls W Y (k+3) fr z0 (.glob (.ref A18)) [.lst (qaq c),.lst (qag c)] [] [] (.tup [.loc z0.length,.bool true]) z':=by
  obtain ⟨n,hn⟩:∃n,z0.length=n:=⟨_,rfl⟩
  rw[hn];have new:∀j,(z0++qpm A17 n)[n+j]?=(qpm A17 n)[j]?:=fun j=>qbn (by rw[hn])
  have D0:DocI W c n 0 z0 (z0++qpm A17 n):=⟨by rw[List.length_append,hn];rfl,new 0,fun {j x} _ hx=>(new j).trans hx,new 4,fun s hs=>absurd hs (Nat.not_lt_zero s),fun s hs=>absurd hs (Nat.not_lt_zero s),fun s hs=>absurd hs (Nat.not_lt_zero s),fun i hi=>List.getElem?_append_left (hn ▸ hi)⟩
  have hY:∀m,n<=m->(fun m=>Y m\/n<=m) m:=fun m hm=>.inr hm
  refine qa4 (qqh F (k:=k) hY 5 0 _ rfl D0) ?_;intro z1 D5 hl1;obtain ⟨T,E1,hit,T4,x1,x2,x3,a1,a2,a3,d1,d2,d3⟩:=qp3 F (k:=k) hY D5;refine qba (qmm F (k:=k) (c:=c) hY x1 x2 x3 a1 a2 a3 d1 d2 d3) ?_;intro U hU hUo hUl hl2;have hl5:z1.length=n+32:=D5.len;have E2:∀{j x},j<32->j≠4->z1[n+j]?=some x->U[n+j]?=some x:=fun {j x} h1 h2 h3=>(hU j (Nat.ne_of_lt (Nat.lt_trans h1 (by decide))) (Nat.ne_of_lt (Nat.lt_trans h1 (by decide))) (Nat.ne_of_lt (Nat.lt_trans h1 (by decide)))).trans (E1.get h3 fun e=>h2 (Nat.add_left_cancel e))
  have E3:∀{s j x},s<5->j<3->z1[n+7+5*s+j]?=some x->U[n+7+5*s+j]?=some x:=fun {s j x} h1 h2 h3=>by
    have e:n+7+5*s+j=n+(7+5*s+j):=by rw[Nat.add_assoc n,Nat.add_assoc n]
    rw[e] at h3 ⊢;exact E2 (by lia) (by simp +arith) h3
  have F5:∀{j x},j∈[1,3,5,6]->(qpm A17 n)[j]?=some x->U[n+j]?=some x:=fun h hx=>E2 (Nat.lt_trans (qkm h).2.1 (by decide)) (qkm h).2.2 (D5.fix h hx)
  have u0:U[n]?=some (.lst ((List.range 5).map fun s=>.loc (n+7+5*s+2))):=E2 (j:=0) (by decide) (by decide) D5.row;have up:∀{i x},U[i]?=some x->(U++[tabO])[i]?=some x:=qac;refine ⟨U++[tabO],⟨by rw[List.length_append,hUl];exact Nat.le_succ_of_le (Nat.le_trans (Nat.le_of_eq hl5.symm) E1.1),up u0,fun s hs=>⟨A17,up (E3 hs (by decide) (D5.els s hs))⟩,fun s hs=>up (E3 hs (by decide) (D5.att s hs)),fun i hi=>?_⟩,fun fr=>?_⟩
  . have hT:=Nat.lt_of_lt_of_le hi (Nat.le_trans (Nat.le_add_right n 32) (Nat.le_of_eq hl5.symm));rw[List.getElem?_append_left (hUl ▸ Nat.lt_of_lt_of_le hT E1.1),hUo i hi,E1.2 i hT (Nat.ne_of_lt (Nat.lt_of_lt_of_le hi (Nat.le_add_right n 4)))];exact D5.old i hi
  . refine Ibd (F.f18 (.lst (qaq c)) (.lst (qag c))) (m':=(qc2 c n).set 4 (some (.bool true))) (fl:=.ret (.tup [.loc n,.bool true])) (fun cd env hK=>Exs.f ?_) (by rw[hn,List.length_append,hUl];exact Nat.le_succ_of_le (Nat.le_trans (Nat.le_add_right n 32) (Nat.le_trans (Nat.le_of_eq hl5.symm) E1.1))) rfl rfl;rw[hn];have l4:Ex ⟨W,fun m=>Y m\/n<=m,nm18.1,cd⟩ (k+2) (env::fr) (qc2 c n) (z0++qpm A17 n) (nth bd18.1 4) .next (qc2 c n) z1:=by
      show Ex _ _ _ _ _ (.For _ _ _ _ _) _ _ _;have hl1:=hl1 cd (env::fr);with_reducible exact .(Ib8 .(ItE.call .(Iaf 16 F.b_enumerate) .(Kept.type) (Evs.cons .(Ia0 1) .(Evs.nil)) .(CallIt.enum (Lv.fz))) (by with_unfolding_all exact ForC.pre hl1 Weak.refl))
    have l5:Ex ⟨W,fun m=>Y m\/n<=m,nm18.1,cd⟩ (k+2) (env::fr) (qc2 c n) z1 (nth bd18.1 5) .next (qc2 c n) U:=by
      show Ex _ _ _ _ _ (.For _ _ _ _ _) _ _ _;have hit:=hit cd (env::fr);have hl2:=hl2 cd (env::fr);with_reducible exact .(Ib8 (by with_unfolding_all exact hit) (by with_unfolding_all exact ForC.pre hl2 Weak.refl))
    have p:=qqg F (n:=n) (Y:=fun m=>Y m\/n<=m) (cd:=cd) (k:=k) (fr:=env::fr) (c:=c) u0 (F5 (j:=1) (by decide) rfl) (F5 (j:=3) (by decide) rfl) ((hU 4 (by decide) (by decide) (by decide)).trans T4) (F5 (j:=5) (by decide) rfl) (F5 (j:=6) (by decide) rfl) (E3 (s:=0) (j:=2) (by decide) (by decide) (D5.els 0 (by decide))) ((hU 34 (by decide) (by decide) (by decide)).trans x1) ((hU 39 (by decide) (by decide) (by decide)).trans x2) ((hU 44 (by decide) (by decide) (by decide)).trans x3);have r:Exs ⟨W,fun m=>Y m\/n<=m,nm18.1,cd⟩ (k+2) (env::fr) (qc2 c n) (z0++qpm A17 n) [nth bd18.1 4,nth bd18.1 5,nth bd18.1 6,nth bd18.1 7] (.ret (.tup [.loc n,.bool true])) ((qc2 c n).set 4 (some (.bool true))) (U++[tabO]):=by with_reducible exact Exs.cons l4 (Exs.cons l5 p)
    have y:∀j,(fun m=>Y m\/n<=m) (n+j):=fun j=>hY (n+j) (Nat.le_add_right n j)
    have e:Exs ⟨W,fun m=>Y m\/n<=m,nm18.1,cd⟩ (k+2) (env::fr) [some (.lst (qaq c)),some (.lst (qag c)),none,none,none,none,none,none,none,none,none,none,none,none,none,none,none,none,none,none] z0 [nth bd18.1 0,nth bd18.1 1,nth bd18.1 2,nth bd18.1 3,nth bd18.1 4,nth bd18.1 5,nth bd18.1 6,nth bd18.1 7] (.ret (.tup [.loc n,.bool true])) ((qc2 c n).set 4 (some (.bool true))) (U++[tabO]):=by with_reducible exact qs4 F hn hK y r
    have hb:bd18.1=[nth bd18.1 0,nth bd18.1 1,nth bd18.1 2,nth bd18.1 3,nth bd18.1 4,nth bd18.1 5,nth bd18.1 6,nth bd18.1 7]:=by kernel_rfl
    rw[hb];with_reducible exact e
end
end
section
noncomputable def qau (m:Nat):List Nat:=(List.range 5).filter fun b=>m / 2 ^ b % 2==1
noncomputable def lbN (m:Nat):Nat:=(qau m).headD 0
noncomputable def qcp (m:Nat):Nat:=m - 2 ^ lbN m
theorem qhb:∀m:Fin 32,m.val≠0->qau m=lbN m::qau (qcp m)/\qcp m<m.val/\lbN m<5/\Builtin.bitAnd (m.val:Int) (-(m.val:Int))=2 ^ lbN m/\Builtin.bitXor (m.val:Int) (2 ^ lbN m)=(qcp m:Int)/\((Builtin.Int.intBits (2 ^ lbN m):Nat):Int) - 1=(lbN m:Nat)/\(qau (qcp m)).length+1<=5:=by decide +kernel
section
variable (M : List (List Int)) (e : Nat -> Int)
noncomputable def Dm (i j:Nat):Int:=(M.getD i []).getD j 0
noncomputable def qb3 (m j:Nat):Int:=(qau m).foldr (fun b a=>min a (Dm M b j)) 99
noncomputable def qhq (m:Nat):List Int:=(List.range 5).map (qb3 M m)
noncomputable def qfc (m:Nat):Int:=(List.range 5).foldl (fun a j=>max a (qb3 M m j - e j)) 0
noncomputable def qar:Nat->Nat->Int
  | 0,_=>99
  | m+1,c=>if m≠0/\(qau m).length=c then min (qar m c) (qfc M e m) else qar m c
noncomputable abbrev qhp (i:Nat):AV:=.tup [.int ((qau i).length:Nat),.lst (qa0 (qhq M i))]
noncomputable abbrev qc1 (m:Nat):AObj:=.dint ((List.range m).map fun i=>((i:Nat):Int)) ((List.range m).map (qhp M))
noncomputable abbrev qbe (m:Nat):AObj:=.lst (qa0 ((List.range 6).map (qar M e m)))
end
theorem qku {f:Nat->AV}{m:Nat}(h:i<m):qc0 ((List.range m).map fun i=>((i:Nat):Int)) ((List.range m).map f) ((i:Nat):Int)=some (f i):=by
  unfold qc0;rw[List.zip_map'];have:((List.range m).map fun x=>(((x:Nat):Int),f x)).find? (fun kv=>decide (kv.1=((i:Nat):Int)))=some (((i:Nat):Int),f i):=by
    rw[List.find?_map];have e:(List.range m).find? ((fun kv:Int×AV=>decide (kv.1=((i:Nat):Int)))∘fun x:Nat=>(((x:Nat):Int),f x))=some i:=by
      rw[List.find?_eq_some_iff_append];refine ⟨by simp,List.range i,(List.range' (i+1) (m - i - 1)),?_,fun a ha=>by simp at ha ⊢;lia⟩;rw[List.range_eq_range',List.range_eq_range',show m=i+(1+(m - i - 1)) by grind,<- List.range'_append_1,Nat.zero_add,<- List.range'_append_1];simp[List.range'_succ]
    rw[e];rfl
  rw[this];rfl
theorem qla {x:Int}(h:x∉ks):qf1 ks vs x v=(ks++[x],vs++[v]):=by rw[qf1,if_neg h]
theorem qmf {M:List (List Int)}{m:Nat}(h:m<32)(h0:m≠0):qb3 M m j=min (qb3 M (qcp m) j) (Dm M (lbN m) j):=by
  have:=(qhb ⟨m,h⟩ h0).1;unfold qb3;rw[show qau m=lbN m::qau (qcp m) from this];rfl
theorem qcj {f:Nat->Int}:∀(l:List Nat) (a:Int),a<=l.foldl (fun a j=>max a (f j)) a/\∀j∈l,f j<=l.foldl (fun a j=>max a (f j)) a
  | [],a=>⟨Int.le_refl _,fun _ h=>absurd h List.not_mem_nil⟩
  | x::l,a=>by
    have h:=qcj (f:=f) l (max a (f x));exact ⟨Int.le_trans (Int.le_max_left _ _) h.1,List.forall_mem_cons.mpr ⟨Int.le_trans (Int.le_max_right _ _) h.1,h.2⟩⟩
theorem qc7 {f:Nat->Int}:∀(l:List Nat) (a:Int),l.foldl (fun a j=>max a (f j)) a∈a::l.map f
  | [],a=>by simp
  | x::l,a=>by
    have:=qc7 (f:=f) l (max a (f x));simp only[List.foldl_cons,List.map_cons];rcases List.mem_cons.mp this with h | h
    . rw[h];by_cases hx:a<=f x
      . rw[Int.max_eq_right hx];simp
      . rw[Int.max_eq_left (by lia)];simp
    . simp[h]
noncomputable def ta21:PSigma (fun l=>(qcc (nth bd21.1 1))=l):=⟨_,by conv=>lhs;whnf⟩
noncomputable def bo21:PSigma (fun l=>(qbo (nth bd21.1 1))=l):=⟨_,by conv=>lhs;whnf⟩
section
variable (F : Fac W) {nl ll:Nat}
noncomputable def leM (c:Nat->Int) (nl ll:Nat):List (Option AV):=[some (mA (qa6 c 4)),some (.lst (qag c)),some (.loc nl),some (.loc ll),none,none,none,none,none,none,none,none]
include F in
theorem qmg {m:Nat}(h0:1<=m)(h32:m<32)(hn:σ[nl]?=some (qc1 (qa6 c 4) m))(hl:σ[ll]?=some (qbe (qa6 c 4) (eI c) m))(hY1:Y nl)(hY2:Y ll)(hne:nl≠ll):
    Exs ⟨W,Y,nm21.1,cd⟩ k fr ((leM c nl ll).set 4 (some (.int ((m:Nat):Int)))) σ bo21.1 .next (leM c nl ll) ((σ.set nl (qc1 (qa6 c 4) (m+1))).set ll (qbe (qa6 c 4) (eI c) (m+1))):=by
  refine qld (qhb ⟨m,h32⟩ (by simp;lia)) ?_;intro b1 b2 b3 b4 b5 b6 b7;simp only[] at b1 b2 b3 b4 b5 b6 b7;have h3:0<m:=h0;have hbl:(qau m).length=(qau (qcp m)).length+1:=by rw[b1];rfl
  have e1:AV.int (Builtin.bitAnd ((m:Nat):Int) (-((m:Nat):Int)))=.int (2 ^ lbN m):=congrArg AV.int b4;have e2:AV.int (Builtin.bitXor ((m:Nat):Int) (2 ^ lbN m))=.int ((qcp m:Nat):Int):=congrArg AV.int b5;have hnx:qc0 ((List.range m).map fun i=>((i:Nat):Int)) ((List.range m).map (qhp (qa6 c 4))) ((qcp m:Nat):Int)=some (qhp (qa6 c 4) (qcp m)):=qku b2;refine qba (qge (c:=c) (n:=4) (i:=lbN m) (by assumption)) ?_;intro r hr1 hr2 hr3 hr4;have hre:qa0 r=(List.range 5).map fun j=>AV.int (Dm (qa6 c 4) (lbN m) j):=by
    apply List.ext_getElem?;intro j;by_cases hj:j<5
    . rw[qg9 (by simp_all),List.getElem?_map,List.getElem?_range hj];show some (AV.int (r.getD j 0))=some (.int ((List.getD (qa6 c 4) (lbN m) []).getD j 0));rw[hr2]
    . rw[List.getElem?_eq_none (by rw[qa0,List.length_map];simp_all),List.getElem?_eq_none (by simp;simp_all)]
  rw[hre] at hr4;have hzf:((qa6 c 4).map fun r=>AV.lst (qa0 r)).length<=sizeLine:=by rw[List.length_map,(qca (par:=qe4 c) (d:=dI c) 4 fun t a _=>(qc3 a).2).1];exact (by decide:5<=sizeLine)
  have hx1:(AIt.zip (.lst (qa0 (qhq (qa6 c 4) (qcp m)))) (qa0 (qhq (qa6 c 4) (qcp m))) (.lst ((List.range 5).map fun j=>AV.int (Dm (qa6 c 4) (lbN m) j))) ((List.range 5).map fun j=>AV.int (Dm (qa6 c 4) (lbN m) j))).items=(List.range 5).map (fun j=>AV.tup [.int (qb3 (qa6 c 4) (qcp m) j),.int (Dm (qa6 c 4) (lbN m) j)]):=rfl;have hp1:(AIt.zip (.lst (qa0 (qhq (qa6 c 4) (qcp m)))) (qa0 (qhq (qa6 c 4) (qcp m))) (.lst ((List.range 5).map fun j=>AV.int (Dm (qa6 c 4) (lbN m) j))) ((List.range 5).map fun j=>AV.int (Dm (qa6 c 4) (lbN m) j))).plain=true:=rfl;have hmin:∀j:Nat,AV.int (min (qb3 (qa6 c 4) (qcp m) j) (Dm (qa6 c 4) (lbN m) j))=.int (qb3 (qa6 c 4) m j):=fun j=>congrArg AV.int (qmf h32 (by lia)).symm
  have hO1:AIt.Ok σ (AIt.zip (.lst (qa0 (qhq (qa6 c 4) (qcp m)))) (qa0 (qhq (qa6 c 4) (qcp m))) (.lst ((List.range 5).map fun j=>AV.int (Dm (qa6 c 4) (lbN m) j))) ((List.range 5).map fun j=>AV.int (Dm (qa6 c 4) (lbN m) j))):=⟨Lv.fz,Lv.fz⟩
  have v156:AV.tup [.int (((qau (qcp m)).length:Nat)+1),.lst ((List.range 5).map fun j=>AV.int (qb3 (qa6 c 4) m j))]=qhp (qa6 c 4) m:=by
    show _=AV.tup [.int (((qau m).length:Nat):Int),.lst (qa0 (qhq (qa6 c 4) m))];rw[hbl];have:qa0 (qhq (qa6 c 4) m)=(List.range 5).map fun j=>AV.int (qb3 (qa6 c 4) m j):=rfl
    rw[this];simp
  have hzk:((List.range m).map fun i=>((i:Nat):Int)).length<=sizeLine:=by rw[List.length_map,List.length_range,sizeLine_eq];lia
  have hnotin:((m:Nat):Int)∉((List.range m).map fun i=>((i:Nat):Int)):=by simp;lia
  have e156:σ.set nl (.dint (qf1 ((List.range m).map fun i=>((i:Nat):Int)) ((List.range m).map (qhp (qa6 c 4))) ((m:Nat):Int) (qhp (qa6 c 4) m)).1 (qf1 ((List.range m).map fun i=>((i:Nat):Int)) ((List.range m).map (qhp (qa6 c 4))) ((m:Nat):Int) (qhp (qa6 c 4) m)).2)=σ.set nl (qc1 (qa6 c 4) (m+1)):=by
    rw[qla hnotin,qc1,List.range_succ,List.map_append,List.map_append];rfl
  have hl':(σ.set nl (qc1 (qa6 c 4) (m+1)))[ll]?=some (qbe (qa6 c 4) (eI c) m):=by rw[qan hne];exact hl
  have hcn:(((qau (qcp m)).length:Nat):Int)+1=(((qau m).length:Nat):Int):=by simp_all
  have hc6:(qau m).length<6:=by lia
  have hlv:(qa0 ((List.range 6).map (qar (qa6 c 4) (eI c) m)))[(qau m).length]?=some (.int (qar (qa6 c 4) (eI c) m (qau m).length)):=by
    rw[qa0,List.map_map,List.getElem?_map,List.getElem?_range hc6];rfl
  have hzl:(qa0 ((List.range 6).map (qar (qa6 c 4) (eI c) m))).length<=sizeLine:=by exact (by decide:6<=sizeLine)
  have hx2:(AIt.zip (.lst ((List.range 5).map fun j=>AV.int (qb3 (qa6 c 4) m j))) ((List.range 5).map fun j=>AV.int (qb3 (qa6 c 4) m j)) (.lst (qag c)) (qag c)).items=(List.range 5).map (fun j=>AV.tup [.int (qb3 (qa6 c 4) m j),qhl c j]):=rfl;have hp2:(AIt.zip (.lst ((List.range 5).map fun j=>AV.int (qb3 (qa6 c 4) m j))) ((List.range 5).map fun j=>AV.int (qb3 (qa6 c 4) m j)) (.lst (qag c)) (qag c)).plain=true:=rfl;have hO2:AIt.Ok (σ.set nl (qc1 (qa6 c 4) (m+1))) (AIt.zip (.lst ((List.range 5).map fun j=>AV.int (qb3 (qa6 c 4) m j))) ((List.range 5).map fun j=>AV.int (qb3 (qa6 c 4) m j)) (.lst (qag c)) (qag c)):=⟨Lv.fz,Lv.fz⟩
  have hza:[AV.int 0].length+((List.range 5).map fun j=>AV.int (qb3 (qa6 c 4) m j - eI c j)).length<=sizeLine:=by exact (by decide:6<=sizeLine)
  have hadd:AV.lst ([AV.int 0]++(List.range 5).map fun j=>AV.int (qb3 (qa6 c 4) m j - eI c j))=.lst (qa0 (0::(List.range 5).map fun j=>qb3 (qa6 c 4) m j - eI c j)):=rfl;have hmx:qfc (qa6 c 4) (eI c) m∈(0::(List.range 5).map fun j=>qb3 (qa6 c 4) m j - eI c j):=qc7 _ _;have hmle:∀a∈(0::(List.range 5).map fun j=>qb3 (qa6 c 4) m j - eI c j),a<=qfc (qa6 c 4) (eI c) m:=fun a ha=>by
    refine And.elim ?_ (qcj (f:=fun j=>qb3 (qa6 c 4) m j - eI c j) (List.range 5) 0);intro q1 q2;rcases List.mem_cons.mp ha with rfl | ha
    . exact q1
    . refine qa4 (List.mem_map.mp ha) ?_;intro j hj eq_4_2;subst eq_4_2;exact q2 j hj
  have hls:(σ.set nl (qc1 (qa6 c 4) (m+1))).set ll (.lst ((qa0 ((List.range 6).map (qar (qa6 c 4) (eI c) m))).set (qau m).length (.int (min (qar (qa6 c 4) (eI c) m (qau m).length) (qfc (qa6 c 4) (eI c) m)))))=(σ.set nl (qc1 (qa6 c 4) (m+1))).set ll (qbe (qa6 c 4) (eI c) (m+1)):=by
    congr 2
    apply List.ext_getElem?;intro j;rw[List.getElem?_set];by_cases hj:(qau m).length=j
    . subst hj;rw[if_pos rfl,if_pos (by rw[qa0,List.length_map,List.length_map,List.length_range];assumption),qa0,List.map_map,List.getElem?_map,List.getElem?_range hc6];show _=some (AV.int (qar _ _ (m+1) _));rw[qar,if_pos ⟨by lia,rfl⟩]
    . rw[if_neg hj,qa0,qa0,List.map_map,List.map_map,List.getElem?_map,List.getElem?_map];by_cases hj6:j<6
      . rw[List.getElem?_range hj6];show some (AV.int _)=some (AV.int (qar _ _ (m+1) _));rw[qar,if_neg (fun q=>hj q.2)]
      . rw[List.getElem?_eq_none (l:=List.range 6) (by simp;lia)];rfl
  have hjl:(qau m).length<(qa0 ((List.range 6).map (qar (qa6 c 4) (eI c) m))).length:=by rw[qa0,List.length_map,List.length_map,List.length_range];assumption
  have hzl2:(qa0 ((List.range 6).map (qar (qa6 c 4) (eI c) m))).length<=2 ^ 24:=by exact (by decide:6<=2 ^ 24)
  have h5:(List.range 5).length<=2 ^ 20:=by decide
  have hpl1:plains ((List.range 5).map fun j=>AV.int (qb3 (qa6 c 4) m j))=true:=rfl;have hpn:plain (qhp (qa6 c 4) m)=true:=rfl;show Exs _ _ _ _ _ (_::_) _ _ _;with_reducible exact Exs.post .(Exs.cons .(Ia4 .(Ian .(Ia2 .(Ia0 4) .(Ic0 .(Ia0 4)) .(Op2.and)) (e1)) .(Ia5 5)) .(Exs.cons .(Ia4 .(Idy .(Ia0 2) .(Ia2 .(Ia0 4) .(Ia0 5) (Ibh Ied e2)) hn hnx) .(As.tuple .(AsL.cons .(Ia5 6) .(AsL.cons .(Ia5 7 (hp:=.(qap _))) .(AsL.nil) (hp:=Uu)) (hp:=Uu)))) .(Exs.cons .(Ib4 (i:=7) Uu .(ItE.call .(Iaf 9 F.b_zip) .(Kept.type) (Evs.cons .(Ia0 7) .((Evs.cons .(Ia8 .(Ia0 0) .(Ia2 .(Iam .(Ia0 5) (by exact MethOk.intBits) .(Kept.builtin) Evs.nil (by with_unfolding_all exact (Id2))) .(Ia1) .(Ibi)) .(Lv.fz) (by exact qb4 b6 hr4) (by exact hzf)) .(Evs.nil)))) .(CallIt.zip (Lv.fz) (Lv.fz))) (CompIn.of [none,none,none,none] (by kernel_rfl) (by kernel_rfl)) .(CompC.map (ht:=.(fun _=>⟨_,_,_,rfl⟩)) Uu (List.range 5) ((fun j=>AV.tup [.int (qb3 (qa6 c 4) (qcp m) j),.int (Dm (qa6 c 4) (lbN m) j)])) ((fun j=>AV.int (qb3 (qa6 c 4) m j))) _ (fun x hx=>.(As.tuple .(AsL.cons .(Ia5 1) .(AsL.cons .(Ia5 2) .(AsL.nil) (hp:=Uu)) (hp:=Uu)))) (fun x hx=>.(Ian .(Ev.call .(Iaf 3 F.b_min) .(Kept.builtin) (Evs.cons .(Ia0 1) .((Evs.cons .(Ia0 2) .(Evs.nil)))) EvK.nil (Ibw)) (hmin x))) .(fun _=>Ib0 (Weak.set Uu) Uu)) (by assumption)) .(Exs.cons .(Ia4 .(Ian .(Ev.tuple (Evs.cons .(Ia2 .(Ia0 6) .(Ia1) .(Op2.add)) .((Evs.cons .(Ia0 7) .(Evs.nil))))) (v156)) .(Ibb .(Ie2 .(Ia0 2) .(Ia0 4) hn hY1 hpn hzk) e156)) .(Exs.cons .(Ia4 .(Ev.call .(Iaf 10 F.b_min) .(Kept.builtin) (Evs.cons .(Ia8 .(Ia0 3) .(Ia2 .(Ia0 6) .(Ia1) .(Op2.add)) (by exact Lv.loc hl') (by exact qb4 hcn hlv) (by exact hzl)) .((Evs.cons .(Ev.call .(Iaf 11 F.b_max) .(Kept.builtin) (Evs.cons .(Ia2 .(Ev.list (Evs.cons .(Ia1) .(Evs.nil))) .(Iae .(ItE.call .(Iaf 9 F.b_zip) .(Kept.type) (Evs.cons .(Ia0 7) .((Evs.cons .(Ia0 1) .(Evs.nil)))) .(CallIt.zip (Lv.fz) (Lv.fz))) (CompIn.of [none,none,none] (by kernel_rfl) (by kernel_rfl)) .(CompC.map (ht:=.(fun _=>⟨_,_,_,rfl⟩)) Uu (List.range 5) ((fun j=>AV.tup [.int (qb3 (qa6 c 4) m j),qhl c j])) ((fun j=>AV.int (qb3 (qa6 c 4) m j - eI c j))) _ (fun x hx=>.(As.tuple .(AsL.cons .(Ia5 1) .(AsL.cons .(Ia5 2) .(AsL.nil) (hp:=Uu)) (hp:=Uu)))) (fun x hx=>.(Ia2 .(Ia0 1) .(Iaa .(Ia0 2) .(Ia1) .(⟨_,rfl,rfl⟩)) .(Ibi))) .(fun _=>Ib0 (Weak.set Uu) Uu))) (Ibh (Ib7 Lv.fz Lv.fz hza) hadd)) .(Evs.nil)) EvK.nil (Ie1 Lv.fz hmx hmle)) .(Evs.nil)))) EvK.nil (Ibw)) .(Ibb .(Iei .(Ia0 3) .(Ia2 .(Ia0 6) .(Ia1) .(Op2.add)) hcn hl' hjl hzl2 hY2 rfl) hls)) .(Exs.nil)))))) (by exact Weak.of (by simp[qay,leM]))
end
section
variable (F : Fac W)
include F in
theorem qmh {nl ll:Nat}(hY1:Y nl)(hY2:Y ll)(hne:nl≠ll):∀(j m:Nat) (σ:List AObj),m+j=32->1<=m->σ[nl]?=some (qc1 (qa6 c 4) m)->σ[ll]?=some (qbe (qa6 c 4) (eI c) m) ->
    ForC ⟨W,Y,nm21.1,cd⟩ k fr ta21.1 bo21.1 [] (.range 1 1 31) (m - 1) (leM c nl ll) σ .next (leM c nl ll) ((σ.set nl (qc1 (qa6 c 4) 32)).set ll (qbe (qa6 c 4) (eI c) 32)):=by
  intro j;induction j with
  | zero=>
    intro m σ hm h1 hn hl;obtain rfl:m=32:=hm;rw[qbs hn,qbs hl];exact ForC.done True.intro rfl Exs.nil
  | succ j ih=>
    intro m σ hm h1 hn hl;have hn':((σ.set nl (qc1 (qa6 c 4) (m+1))).set ll (qbe (qa6 c 4) (eI c) (m+1)))[nl]?=some (qc1 (qa6 c 4) (m+1)):=by rw[qan (Ne.symm hne)];exact qbi hn
    have hl0:(σ.set nl (qc1 (qa6 c 4) (m+1)))[ll]?=some (qbe (qa6 c 4) (eI c) m):=by rw[qan hne];exact hl
    have h:=ih (m+1) _ (by lia) (by simp +arith) hn' (qbi hl0);have e:((((σ.set nl (qc1 (qa6 c 4) (m+1))).set ll (qbe (qa6 c 4) (eI c) (m+1))).set nl (qc1 (qa6 c 4) 32)).set ll (qbe (qa6 c 4) (eI c) 32))=(σ.set nl (qc1 (qa6 c 4) 32)).set ll (qbe (qa6 c 4) (eI c) 32):=by
      rw[List.set_comm _ _ (Ne.symm hne),List.set_set,List.set_set]
    rw[e] at h;have hm1:m - 1+1=m+1 - 1:=by simp_all
    rw[<- hm1] at h;refine ForC.next (m1:=(leM c nl ll).set 4 (some (.int ((m:Nat):Int)))) (z1:=σ) (v:=.int ((m:Nat):Int)) True.intro rfl ?_ nofun ?_ (qmg F h1 (by lia) hn hl hY1 hY2 hne) h
    . rw[qbp (by lia)];congr 2;lia
    . show As _ _ _ _ _ (.Name _ _) _ _ _;exact .(Ia5 4)
include F in
theorem qk6:Calls W Y (k+1) fr σ (.glob (.ref A21)) [mA (qa6 c 4),.lst (qag c)] [] [] (.lst (qa0 ((List.range 6).map (qar (qa6 c 4) (eI c) 32)))) σ:=by
  refine Ibu (τ:=[qc1 (qa6 c 4) 32,qbe (qa6 c 4) (eI c) 32]) (F.f21 (mA (qa6 c 4)) (.lst (qag c))) (m':=[]) (fl:=.ret (.loc (σ.length+1))) (fun cd env _=>?_) (fun _ _=>?_)
  . have hn:(σ++[qc1 (qa6 c 4) 1,qbe (qa6 c 4) (eI c) 1])[σ.length]?=some (qc1 (qa6 c 4) 1):=by simp
    have hl:(σ++[qc1 (qa6 c 4) 1,qbe (qa6 c 4) (eI c) 1])[σ.length+1]?=some (qbe (qa6 c 4) (eI c) 1):=by simp
    have h:=qmh F (Y:=fun m=>Y m\/σ.length<=m) (cd:=cd) (k:=k) (fr:=env::fr) (c:=c) (nl:=σ.length) (ll:=σ.length+1) (.inr (Nat.le_refl _)) (.inr (by simp +arith)) (by simp +arith) 31 1 _ rfl (Nat.le_refl _) hn hl;have e:((σ++[qc1 (qa6 c 4) 1,qbe (qa6 c 4) (eI c) 1]).set σ.length (qc1 (qa6 c 4) 32)).set (σ.length+1) (qbe (qa6 c 4) (eI c) 32)=σ++[qc1 (qa6 c 4) 32,qbe (qa6 c 4) (eI c) 32]:=by simp
    rw[e] at h;have z1:σ++[AObj.dint [0] [.tup [.int 0,.lst (List.replicate (5:Int).toNat [AV.int 99]).flatten]]]++[.lst (List.replicate (6:Int).toNat [AV.int 99]).flatten]=σ++[qc1 (qa6 c 4) 1,qbe (qa6 c 4) (eI c) 1]:=by
      rw[List.append_assoc];rfl
    have v1:AV.tup [.loc σ.length,.loc (σ++[AObj.dint [0] [.tup [.int 0,.lst (List.replicate (5:Int).toNat [AV.int 99]).flatten]]]).length]=.tup [.loc σ.length,.loc (σ.length+1)]:=by simp
    have hzm:[AV.int 99].length*(5:Int).toNat<=2 ^ 24:=by decide
    have hzm2:[AV.int 99].length*(6:Int).toNat<=2 ^ 24:=by decide
    with_reducible refine Exs.f (Iad (m2:=leM c σ.length (σ.length+1)) ?_)
    show Exs _ _ _ _ _ (_::_) _ _ _;with_reducible exact .(Exs.cons .(Ic9 (i:=2) (j:=3) .(Ibl .(Ev.tuple (Evs.cons .(Ie9 [0] (by with_unfolding_all exact EvP.cons .(Ia1) .(Ev.tuple (Evs.cons .(Ia1) .((Evs.cons .(Ia2 .(Ev.list (Evs.cons .(Ia1) .(Evs.nil))) .(Ia1) (Idd Lv.fz (by decide) (by decide) hzm)) .(Evs.nil))))) (by with_unfolding_all exact EvP.nil)) Uu (by decide)) .((Evs.cons .(Ia2 .(Ev.list (Evs.cons .(Ia1) .(Evs.nil))) .(Ia1) (Idk Lv.fz (by decide) (by decide) hzm2 rfl)) .(Evs.nil))))) z1 v1) Uu Uu (by decide) Uu Uu) .(Exs.cons .(Ib8 .(ItE.call .(Iaf 8 F.b_range) .(Kept.type) (Evs.cons .(Ia1) .((Evs.cons .(Ia1) .(Evs.nil)))) .(Ibr (by decide))) (by with_unfolding_all exact ForC.pre h Weak.refl)) .(Exs.ret .(Iaj .(Ia0 3)))))
  . show _=frz σ.length _ (.loc (σ.length+1));show _=(if σ.length+1<σ.length then AV.loc (σ.length+1) else match (σ++[qc1 (qa6 c 4) 32,qbe (qa6 c 4) (eI c) 32])[σ.length+1]? with | some (.lst l)=>if qae σ.length l then .lst l else .any | _=>.any);rw[if_neg (by simp +arith)];have:(σ++[qc1 (qa6 c 4) 32,qbe (qa6 c 4) (eI c) 32])[σ.length+1]?=some (qbe (qa6 c 4) (eI c) 32):=by simp
    rw[this];show _=if qae σ.length (qa0 _)=true then _ else _;rw[if_pos (qdo _)]
end
end
section
noncomputable def la20:PSigma (fun l=>qmi (kwE (qdd (nth (qbo (nth bd20.1 2)) 2)) 0)=l):=⟨_,by conv=>lhs;whnf⟩
section
theorem qlm {p:Int}(hpv:plain v=true)(k:Nat)(fr:List Env)(Y:Nat->Prop):Calls W Y (k+1) fr σ (.clo la20.1 [] []) [.tup [.int p,v]] [] [] (.int (-p)) σ:=by
  have hp:plain (.tup [.int p,v])=true:=by show (true&&(plain v&&true))=true;rw[hpv];rfl
  refine Iaz (m0:=qcz [] [none]) (m1:=[some (.tup [.int p,v])]) (xs:=["pair"]) (CloIn.of [none] rfl rfl rfl (by kernel_rfl) (by kernel_rfl) rfl) (fun fd h1 h2 h3 us hl=>?_) (Binds.cons (i:=0) rfl (.inl rfl) (.inl hp) .nil) (fun cd env=>?_) (Nat.le_refl _) rfl
  . match us,hl with
    | [u],_=>
      cases fd
      simp only at h1 h2 h3;subst h1 h2 h3;rfl
  . show Ev _ _ _ _ _ (.UnaryOp _ _ _) _ _;with_reducible exact .(Ic0 .(Iaa .(Ia0 0) .(Ia1) .(⟨_,rfl,rfl⟩)))
end
end
section
noncomputable def qez (par:Nat->Nat) (d:Nat->Int):Nat->Nat->Int->Nat
  | 0,p,_=>p
  | f+1,p,r=>if 0<p/\d p<=r then qez par d f (par p) (r - d p) else p
noncomputable def qff (c:Nat->Int) (reach:Int) (t:Nat):Nat:=qez (qe4 c) (dI c) 5 t (reach+eI c t)
noncomputable def qnn (L:List (Nat×Nat)) (p:Nat):Nat:=(L.filter fun y=>decide (p<=y.1)).length
noncomputable def qom (L:List (Nat×Nat)) (x:Nat×Nat):List (Nat×Nat):=L.take (qnn L x.1)++[x]++L.drop (qnn L x.1)
noncomputable def qaf (c:Nat->Int) (reach:Int):Nat->List (Nat×Nat)
  | 0=>[]
  | t+1=>qom (qaf c reach t) (qff c reach t,t)
def qsj (L:List (Nat×Nat)):Prop:=L.Pairwise fun a b=>b.1<=a.1
theorem qnm (L:List (Nat×Nat))(p:Nat):qnn L p<=L.length:=List.length_filter_le _ _
theorem qk0:∀{L:List (Nat×Nat)} {p:Nat},qsj L->∀j y,L[j]?=some y->(y.1<p↔qnn L p<=j)
  | [],_,_,j,y,h=>by simp at h
  | a::L,p,hs,j,y,h=>by
    have hs':=List.pairwise_cons.mp hs;unfold qnn;rw[List.filter_cons];by_cases ha:p<=a.1
    . rw[if_pos (by simpa using ha),List.length_cons];cases j with
      | zero=>simp at h;subst h;lia
      | succ j=>
        have:=qk0 (p:=p) hs'.2 j y (by simpa using h);unfold qnn at this
        simp_all
    . rw[if_neg (by simpa using ha)];have hall:L.filter (fun y=>decide (p<=y.1))=[]:=by
        rw[List.filter_eq_nil_iff];intro b hb;have:=hs'.1 b hb;simp;lia
      rw[hall];cases j with
      | zero=>simp at h;subst h;simp;simp_all
      | succ j=>
        have hy:=hs'.1 y (List.mem_of_getElem? (by simpa using h));simp;lia
theorem qol {L:List (Nat×Nat)}{x:Nat×Nat}(h:qsj L):qsj (qom L x):=by
  unfold qsj qom;rw[List.append_assoc,List.pairwise_append];have hx:=fun j y hy=>qk0 (p:=x.1) h j y hy
  refine ⟨h.sublist (List.take_sublist _ _),?_,?_⟩
  . rw[List.singleton_append,List.pairwise_cons];refine ⟨fun b hb=>?_,h.sublist (List.drop_sublist _ _)⟩;obtain ⟨j,hj⟩:=List.mem_iff_getElem?.mp hb;rw[List.getElem?_drop] at hj;have:=(hx _ _ hj).mpr (by simp +arith);lia
  . intro a ha b hb;obtain ⟨i,hi⟩:=List.mem_iff_getElem?.mp ha;rw[List.getElem?_take] at hi;split at hi
    . rename_i hlt;have h1:x.1<=a.1:=by
        have:=hx _ _ hi;lia
      rcases List.mem_append.mp hb with hb | hb
      . obtain rfl:=List.mem_singleton.mp hb;exact h1
      . obtain ⟨j,hj⟩:=List.mem_iff_getElem?.mp hb;rw[List.getElem?_drop] at hj;have:=(hx _ _ hj).mpr (by simp +arith);lia
    . cases hi
theorem qka (L:List (Nat×Nat))(x:Nat×Nat):(qom L x).length=L.length+1:=by
  have:=qnm L x.1;simp[qom];grind
theorem qdn (c:Nat->Int)(reach:Int):∀t,qsj (qaf c reach t)/\(qaf c reach t).length=t
  | 0=>⟨List.Pairwise.nil,rfl⟩
  | t+1=>by
    refine And.elim ?_ (qdn c reach t);intro h1 h2;exact ⟨qol h1,by rw[qaf,qka,h2]⟩
noncomputable abbrev qgq (n:Nat) (y:Nat×Nat):AV:=.tup [.int ((y.1:Nat):Int),.loc (n+7+5*y.2+2)]
theorem qhz (odd:Bool)(d e:Int):qc0 (qjp odd) (qkl odd d e) ("far":Str)=some (.int d)/\qc0 (qjp odd) (qkl odd d e) ("ease":Str)=some (.int e):=by
  cases odd <;> exact ⟨by kernel_rfl,by kernel_rfl⟩
noncomputable def te20:PSigma (fun l=>(qn5 (nth (qbo (nth bd20.1 2)) 1))=l):=⟨_,by conv=>lhs;whnf⟩
noncomputable def bo20w:PSigma (fun l=>(qbo (nth (qbo (nth bd20.1 2)) 1))=l):=⟨_,by conv=>lhs;whnf⟩
noncomputable def ta20:PSigma (fun l=>(qcc (nth bd20.1 2))=l):=⟨_,by conv=>lhs;whnf⟩
noncomputable def bo20:PSigma (fun l=>(qbo (nth bd20.1 2))=l):=⟨_,by conv=>lhs;whnf⟩
section
variable (F : Fac W) {L0:Nat}
noncomputable def weM (c:Nat->Int) (n b L0:Nat) (reach:Int):List (Option AV):=[some (.loc n),some (.int reach),some (mA (qa6 c 4)),some (.loc b),some (.loc L0),some (.loc (L0+1)),some (.loc (L0+2)),none,none,none,none]
structure ElS (c:Nat->Int) (n:Nat) (σ:List AObj):Prop where
  els:∀s,s<5->∃a,σ[n+7+5*s+2]?=some (qj9 a (n+7+5*s) (abL c n s) s)
  att:∀s,s<5->σ[n+7+5*s+1]?=some (.dstr (qjp (qjn c s)) (qkl (qjn c s) (dI c s) (eI c s)))
include F in
theorem qmp (hE:ElS c n σ)(one:AV):∀(f p:Nat) (r:Int),p<=f->p<5 ->
    WhileC ⟨W,Y,nm20.1,cd⟩ k fr te20.1 bo20w.1 [] ((((weM c n b L0 reach).set 7 (some one)).set 8 (some (.loc (n+7+5*p+2)))).set 9 (some (.int r))) σ .next (((weM c n b L0 reach).set 7 (some one)).set 8 (some (.loc (n+7+5*(qez (qe4 c) (dI c) f p r)+2)))) σ:=by
  intro f;have stop:∀(p:Nat) (r:Int),p<5->¬(0<p/\dI c p<=r)->WhileC ⟨W,Y,nm20.1,cd⟩ k fr te20.1 bo20w.1 [] ((((weM c n b L0 reach).set 7 (some one)).set 8 (some (.loc (n+7+5*p+2)))).set 9 (some (.int r))) σ .next (((weM c n b L0 reach).set 7 (some one)).set 8 (some (.loc (n+7+5*p+2)))) σ:=by
    intro p r hp hno;refine Exists.elim (hE.els p hp) ?_;intro a he;have ha:=hE.att p hp;have hf:=(qhz (qjn c p) (dI c p) (eI c p)).1;have ht:(decide ((0:Int)<((p:Nat):Int))&&decide (dI c p<=r))=false:=by
      rw[Bool.and_eq_false_iff];by_cases h0:0<p
      . right;rw[decide_eq_false_iff_not];exact fun q=>hno ⟨h0,q⟩
      . left;rw[decide_eq_false_iff_not];simp_all
    refine WhileC.post (Ib6 (z1:=σ) ?_ Exs.nil) (Weak.of (by simp[qay,weM]));show Tr _ _ _ _ _ (.BoolOp _ (_::_) _) _ _;with_reducible exact Iac .(Ic4 .(Icj .(Ia3 .(Iah .(Ia0 8) (by exact he) Uu qd2) .(Ia1) .(Icw)) (fun _=>.(Ic3 .(Ia3 .(Ibv .(Iah .(Ia0 8) (by exact he) Uu qb9) .(Ia7) ha hf) .(Ia0 9) .(Op2.le)))) (fun _=>rfl))) ht
  induction f with
  | zero=>
    intro p r hp hp5;obtain rfl:p=0:=by lia
    exact stop 0 r hp5 (by simp)
  | succ f ih=>
    intro p r hp hp5;rw[qez];by_cases hyes:0<p/\dI c p<=r
    . rw[if_pos hyes];have hpp:=(qc3 (c:=c) (t:=p) hyes.1).2;have hw:=ih (qe4 c p) (r - dI c p) (by omega) (by omega);refine Exists.elim (hE.els p hp5) ?_;intro a he;have ha:=hE.att p hp5;have hf:=(qhz (qjn c p) (dI c p) (eI c p)).1;have hab:abL c n p=n+7+5*qe4 c p+2:=by cases p with | zero=>simp_all | succ p=>rfl
      rw[hab] at he;have ht:(decide ((0:Int)<((p:Nat):Int))&&decide (dI c p<=r))=true:=by
        rw[Bool.and_eq_true];exact ⟨decide_eq_true (by simp_all),decide_eq_true hyes.2⟩
      refine WhileC.next (z1:=σ) (z2:=σ) ?_ ?_ (hw.pre Weak.refl)
      . show Tr _ _ _ _ _ (.BoolOp _ (_::_) _) _ _;with_reducible exact Iac .(Ic4 .(Icj .(Ia3 .(Iah .(Ia0 8) (by exact he) Uu qd2) .(Ia1) .(Icw)) (fun _=>.(Ic3 .(Ia3 .(Ibv .(Iah .(Ia0 8) (by exact he) Uu qb9) .(Ia7) ha hf) .(Ia0 9) .(Op2.le)))) (fun _=>rfl))) ht
      . show Exs _ _ _ _ _ (_::_) _ _ _;with_reducible exact Exs.post .(Exs.cons .(Ic9 (i:=8) (j:=9) .(Ev.tuple (Evs.cons .(Iah .(Ia0 8) (by exact he) Uu ql2) .((Evs.cons .(Ia2 .(Ia0 9) .(Ibv .(Iah .(Ia0 8) (by exact he) Uu qb9) .(Ia7) ha hf) .(Ibi)) .(Evs.nil))))) Uu Uu (by decide) Uu Uu) .(Exs.nil)) (by exact Weak.of (by simp[qay,weM]))
    . rw[if_neg hyes];exact stop p r hp5 hyes
end
end
section
noncomputable abbrev qa8 (l:List Nat):List AV:=l.map fun w=>AV.int ((w:Nat):Int)
noncomputable abbrev qcr (n:Nat) (L:List (Nat×Nat)):AObj:=.lst (L.map (qgq n))
noncomputable def qc4 (c:Nat->Int) (reach:Int) (s:List Nat×List Nat) (y:Nat×Nat):List Nat×List Nat:=if s.1.filter (fun w=>decide (Dm (qa6 c 4) y.2 w<=reach+eI c y.2))=[] then (s.1++[y.1],s.2++[y.2]) else s
noncomputable def qad (c:Nat->Int) (reach:Int):List Nat×List Nat:=(qaf c reach 5).foldl (qc4 c reach) ([],[])
noncomputable abbrev qc5 (c:Nat->Int) (reach:Int):AV:=.tup [.lst (qa8 (qad c reach).1),.lst (qa8 (qad c reach).2)]
theorem qq6 (n:Nat)(L:List (Nat×Nat))(x:Nat×Nat):(qom L x).map (qgq n)=(L.map (qgq n)).take (qnn L x.1)++[qgq n x]++(L.map (qgq n)).drop (qnn L x.1):=by
  simp[qom,List.map_take,List.map_drop]
noncomputable def ta20b:PSigma (fun l=>(qcc (nth bd20.1 3))=l):=⟨_,by conv=>lhs;whnf⟩
noncomputable def bo20b:PSigma (fun l=>(qbo (nth bd20.1 3))=l):=⟨_,by conv=>lhs;whnf⟩
section
variable (F : Fac W) {L0:Nat}
include F in
theorem qn3 (hK:qgm W cd)(hE:ElS c n σ){t:Nat}(ht:t<5)(hL:σ[L0]?=some (qcr n (qaf c reach t)))(hY:Y L0):
    Exs ⟨W,Y,nm20.1,cd⟩ (k+3) fr ((weM c n b L0 reach).set 7 (some (.loc (n+7+5*t+2)))) σ bo20.1 .next (weM c n b L0 reach) (σ.set L0 (qcr n (qaf c reach (t+1)))):=by
  refine qgr (hK) ?_;intro lc lP hLam;obtain ⟨a,he⟩:=hE.els t ht;have ha:=hE.att t ht;have hf:=(qhz (qjn c t) (dI c t) (eI c t)).2;obtain ⟨hD,hlen⟩:=qdn c reach t;have hw:=qmp F (Y:=Y) (cd:=cd) (k:=k+3) (fr:=fr) (b:=b) (L0:=L0) (reach:=reach) hE (.loc (n+7+5*t+2)) 5 t (reach+eI c t) (by lia) ht;have htop:qff c reach t=qez (qe4 c) (dI c) 5 t (reach+eI c t):=rfl;rw[<- htop] at hw;have htop5:qff c reach t<5:=by
    have:∀(f p:Nat) (r:Int),p<5->qez (qe4 c) (dI c) f p r<5:=by
      intro f;induction f with
      | zero=>intro p r h;exact h
      | succ f ih=>
        intro p r h;rw[qez];split
        . rename_i hy;exact ih _ _ (Nat.lt_trans (qc3 (c:=c) hy.1).2 h)
        . exact h
    exact this _ _ _ ht
  obtain ⟨a2,he2⟩:=hE.els (qff c reach t) htop5;have hins:=qu2 F (Y:=Y) (κ:=fun j=>-((((qaf c reach t).getD j (0,0)).1:Nat):Int)) (kx:=-((qff c reach t:Nat):Int)) (r:=qnn (qaf c reach t) (qff c reach t)) (d:=1) (key:=.clo la20.1 [] []) (x:=qgq n (qff c reach t,t)) hL hY (by rw[List.length_map,hlen,sizeLine_eq];lia) (by rw[List.length_map];exact qnm _ _)
    (fun j _ hj=>by
      rw[List.length_map] at hj;have hj':(qaf c reach t)[j]?=some ((qaf c reach t)[j]):=List.getElem?_eq_getElem hj;have:=qk0 (p:=qff c reach t) hD j _ hj';show -((qff c reach t:Nat):Int) < -((((qaf c reach t).getD j (0,0)).1:Nat):Int)↔_;rw[qaw hj']
      simp_all) Kept.clo rfl
    (fun j v hv k fr Y=>by
      rw[List.getElem?_map] at hv;cases e:(qaf c reach t)[j]? with
      | none=>rw[e] at hv;cases hv
      | some y=>
        rw[e] at hv;injection hv with hv
        subst hv;show Calls W Y (k+1) fr σ _ _ _ _ (.int (-((((qaf c reach t).getD j (0,0)).1:Nat):Int))) σ;rw[qaw e];exact qlm rfl k fr Y) (fun k fr Y=>qlm rfl k fr Y) rfl k fr
  rw[<- qq6 n (qaf c reach t) (qff c reach t,t),<- show qaf c reach (t+1)=qom (qaf c reach t) (qff c reach t,t) from rfl] at hins;have hkI:=(F.f1k2 .none .none .none).kept;show Exs _ _ _ _ _ (_::_) _ _ _;with_reducible exact Exs.post .(Exs.cons .(Ic9 (i:=8) (j:=9) .(Ev.tuple (Evs.cons .(Ia6 7) .((Evs.cons .(Ia2 .(Ia6 1) .(Ibv .(Iah .(Ia6 7) (by exact he) Uu qb9) .(Ia7) ha hf) .(Op2.add)) .(Evs.nil))))) Uu Uu (by decide) Uu Uu) .(Exs.cons .(Iat (by with_unfolding_all exact WhileC.pre hw Weak.refl)) .(Exs.cons .(Ex.expr .(Ev.call .(Ial 10 F.g_insort_right) (hkI) (Evs.cons .(Ia0 4) .((Evs.cons .(Ev.tuple (Evs.cons .(Iah .(Ia0 8) (by exact he2) Uu qd2) .((Evs.cons .(Ia6 7) .(Evs.nil))))) .(Evs.nil)))) (EvK.cons .((Ic1 (ns:=[]) (caps:=[]) (hLam _ _) (Iar (by kernel_rfl)))) .(EvK.nil)) ((by with_unfolding_all exact hins)))) .(Exs.nil)))) (by exact Weak.of (by simp[qay,weM]))
include F in
theorem qi8 (hE:ElS c n σ){p t:Nat}(ht:t<5)(hp:p<5){ws as:List Nat}(hw:σ[L0+1]?=some (.lst (qa8 ws)))(ha:σ[L0+2]?=some (.lst (qa8 as)))(hY1:Y (L0+1))(hY2:Y (L0+2))(hws:∀w∈ws,w<5)(hz:ws.length<=100)(hz2:as.length<=100):
    Exs ⟨W,Y,nm20.1,cd⟩ k fr (((weM c n b L0 reach).set 8 (some (.int ((p:Nat):Int)))).set 7 (some (.loc (n+7+5*t+2)))) σ bo20b.1 .next (weM c n b L0 reach) ((σ.set (L0+1) (.lst (qa8 (qc4 c reach (ws,as) (p,t)).1))).set (L0+2) (.lst (qa8 (qc4 c reach (ws,as) (p,t)).2))):=by
  refine Exists.elim (hE.els t ht) ?_;intro a he;have hatt:=hE.att t ht;have hf:=(qhz (qjn c t) (dI c t) (eI c t)).2;refine qba (qge (c:=c) (n:=4) (i:=t) (by assumption)) ?_;intro r hr1 hr2 hr3 hr4;have hzf:((qa6 c 4).map fun r=>AV.lst (qa0 r)).length<=sizeLine:=by rw[List.length_map,(qca (par:=qe4 c) (d:=dI c) 4 fun t a _=>(qc3 a).2).1];exact (by decide:5<=sizeLine)
  have hzr:(qa0 r).length<=sizeLine:=by rw[qa0,List.length_map,hr3];exact (by decide:5<=sizeLine)
  have hrw:∀w∈ws,(qa0 r)[w]?=some (.int (Dm (qa6 c 4) t w)):=fun w hw=>by
    rw[qg9 (by rw[hr3];exact hws w hw)];show some (AV.int (r.getD w 0))=some (.int ((List.getD (qa6 c 4) t []).getD w 0));rw[hr2]
  have hws2:ws.length<=2 ^ 20:=by lia
  have hxi:(AIt.seq (.loc (L0+1)) (qa8 ws)).items=ws.map (fun w:Nat=>AV.int w):=rfl;have hD:D1 64 (.lst ((ws.filter fun w=>decide (Dm (qa6 c 4) t w<=reach+eI c t)).map fun w:Nat=>AV.int w)):=D1.lst (d:=63) fun _ _=>D1.int
  have hceq:(decide (ws.filter (fun w=>decide (Dm (qa6 c 4) t w<=reach+eI c t))=[]))=true↔AV.lst ((ws.filter fun w=>decide (Dm (qa6 c 4) t w<=reach+eI c t)).map fun w:Nat=>AV.int w)=.lst []:=by
    rw[decide_eq_true_iff];constructor
    . intro h;rw[h];rfl
    . intro h;injection h with h;exact List.map_eq_nil_iff.mp h
  have hzw:(qa8 ws).length<=sizeLine:=by rw[List.length_map,sizeLine_eq];lia
  have hza:(qa8 as).length<=sizeLine:=by rw[List.length_map,sizeLine_eq];lia
  by_cases hno:ws.filter (fun w=>decide (Dm (qa6 c 4) t w<=reach+eI c t))=[]
  . have hg:qc4 c reach (ws,as) (p,t)=(ws++[p],as++[t]):=by unfold qc4;rw[if_pos hno]
    rw[hg];have e1:qa8 (ws++[p])=qa8 ws++[.int ((p:Nat):Int)]:=by simp[qa8]
    have e2:qa8 (as++[t])=qa8 as++[.int ((t:Nat):Int)]:=by simp[qa8]
    have ha':(σ.set (L0+1) (.lst (qa8 ws++[.int ((p:Nat):Int)])))[L0+2]?=some (.lst (qa8 as)):=by rw[qan .(qb2 rfl)];exact ha
    have he':(σ.set (L0+1) (.lst (qa8 ws++[.int ((p:Nat):Int)])))[n+7+5*t+2]?=some (qj9 a (n+7+5*t) (abL c n t) t):=by
      rw[qan (fun q=>by rw[q] at hw;rw[hw] at he;injection he with he;cases he)];exact he
    rw[e1,e2];have htt:decide (ws.filter (fun w=>decide (Dm (qa6 c 4) t w<=reach+eI c t))=[])=true:=decide_eq_true hno;show Exs _ _ _ _ _ (_::_) _ _ _;with_reducible exact Exs.post .(Exs.cons .(Ia9 (c:=true) .(Iac .(Ia3 .(Iae .(ItE.list .(Ia0 5) (Lv.loc hw)) (CompIn.of [none,none,some 2,some 7,some 1] (by kernel_rfl) (by kernel_rfl)) .(Iao (hO:=by with_unfolding_all exact Lv.loc (by assumption)) (hz:=by assumption) Uu (ws) ((fun w:Nat=>AV.int w)) ((fun w=>decide (Dm (qa6 c 4) t w<=reach+eI c t))) ((fun w:Nat=>AV.int w)) _ (fun x hx=>.(Ia5 1)) (fun x hx=>.(Ia3 .(Ia8 .(Ia8 .(Ia6 2) .(Iah .(Ia6 3) (by exact he) Uu qd2) .(Lv.fz) (by exact qb4 rfl hr4) (by exact hzf)) .(Ia0 1) .(Lv.fz) (by exact qb4 rfl (hrw x hx)) (by exact hzr)) .(Ia2 .(Ia6 4) .(Ibv .(Iah .(Ia6 3) (by exact he) Uu qb9) .(Ia7) hatt hf) .(Op2.add)) .(Op2.le))) (fun x hx hp=>.(Ia0 1)) .(fun _=>Weak.set Uu))) .(Ev.list Evs.nil) (Icx (Dv.of hD) (Dv.of D1.nil) hceq)) htt) (fun _=>.(Exs.cons .(Ex.expr .(Iam .(Ia0 5) (by exact Meth.append .(Lv.loc (by assumption))) .(Kept.builtin) (Evs.cons .(Ia0 8) .(Evs.nil)) (by with_unfolding_all exact (Calls.append hw hY1 rfl hzw)))) .(Exs.cons .(Ex.expr .(Iam .(Ia0 6) (by exact Meth.append .(Lv.loc (by assumption))) .(Kept.builtin) (Evs.cons .(Iah .(Ia6 7) (by exact he') Uu qd2) .(Evs.nil)) (by with_unfolding_all exact (Calls.append ha' hY2 rfl hza)))) .(Exs.nil)))) (fun h=>nomatch h)) .(Exs.nil)) (by exact Weak.of (by simp[qay,weM]))
  . have hg:qc4 c reach (ws,as) (p,t)=(ws,as):=by unfold qc4;rw[if_neg hno]
    rw[hg];have e:(σ.set (L0+1) (.lst (qa8 ws))).set (L0+2) (.lst (qa8 as))=σ:=by rw[qbs hw,qbs ha]
    show Exs _ _ _ _ _ _ _ _ ((σ.set (L0+1) (.lst (qa8 ws))).set (L0+2) (.lst (qa8 as)));rw[e];have htt:decide (ws.filter (fun w=>decide (Dm (qa6 c 4) t w<=reach+eI c t))=[])=false:=decide_eq_false hno;show Exs _ _ _ _ _ (_::_) _ _ _;with_reducible exact Exs.post .(Exs.cons .(Ia9 (c:=false) .(Iac .(Ia3 .(Iae .(ItE.list .(Ia0 5) (Lv.loc hw)) (CompIn.of [none,none,some 2,some 7,some 1] (by kernel_rfl) (by kernel_rfl)) .(Iao (hO:=by with_unfolding_all exact Lv.loc (by assumption)) (hz:=by assumption) Uu (ws) ((fun w:Nat=>AV.int w)) ((fun w=>decide (Dm (qa6 c 4) t w<=reach+eI c t))) ((fun w:Nat=>AV.int w)) _ (fun x hx=>.(Ia5 1)) (fun x hx=>.(Ia3 .(Ia8 .(Ia8 .(Ia6 2) .(Iah .(Ia6 3) (by exact he) Uu qd2) .(Lv.fz) (by exact qb4 rfl hr4) (by exact hzf)) .(Ia0 1) .(Lv.fz) (by exact qb4 rfl (hrw x hx)) (by exact hzr)) .(Ia2 .(Ia6 4) .(Ibv .(Iah .(Ia6 3) (by exact he) Uu qb9) .(Ia7) hatt hf) .(Op2.add)) .(Op2.le))) (fun x hx hp=>.(Ia0 1)) .(fun _=>Weak.set Uu))) .(Ev.list Evs.nil) (Icx (Dv.of hD) (Dv.of D1.nil) hceq)) htt) (fun h=>nomatch h) (fun _=>.(Exs.nil))) .(Exs.nil)) (by exact Weak.of (by simp[qay,weM]))
end
end
section
theorem ElS.set {x:AObj}(h:ElS c n σ)(hi:n+32<=i):ElS c n (σ.set i x):=⟨fun s hs=>by rw[qan (by lia)];exact h.els s hs,fun s hs=>by rw[qan (by lia)];exact h.att s hs⟩
theorem qg6 (c:Nat->Int)(reach:Int):∀t,t<=5->∀y∈qaf c reach t,y.1<5/\y.2<5
  | 0,_,y,hy=>by cases hy
  | t+1,ht,y,hy=>by
    rw[qaf,qom] at hy;rcases List.mem_append.mp hy with hy | hy
    . rcases List.mem_append.mp hy with hy | hy
      . exact qg6 c reach t (by lia) y (List.mem_of_mem_take hy)
      . obtain rfl:=List.mem_singleton.mp hy;refine ⟨?_,by show t<5;assumption⟩;have:∀(f p:Nat) (r:Int),p<5->qez (qe4 c) (dI c) f p r<5:=by
          intro f;induction f with
          | zero=>intro p r h;exact h
          | succ f ih=>
            intro p r h;rw[qez];split
            . rename_i hy;exact ih _ _ (Nat.lt_trans (qc3 (c:=c) hy.1).2 h)
            . exact h
        exact this _ _ _ (by assumption)
    . exact qg6 c reach t (by lia) y (List.mem_of_mem_drop hy)
section
variable (F : Fac W) {L0:Nat}
noncomputable abbrev qsc (n:Nat):List AV:=(List.range 5).map fun s=>AV.loc (n+7+5*s+2)
include F in
theorem qjs (hK:qgm W cd)(hY:Y L0)(hL0:n+32<=L0):∀(j t:Nat) (σ:List AObj),t+j=5->ElS c n σ->σ[n]?=some (.lst (qsc n))->σ[L0]?=some (qcr n (qaf c reach t)) ->
    ForC ⟨W,Y,nm20.1,cd⟩ (k+3) fr ta20.1 bo20.1 [] (.seq (.loc n) (qsc n)) t (weM c n b L0 reach) σ .next (weM c n b L0 reach) (σ.set L0 (qcr n (qaf c reach 5))):=by
  intro j;induction j with
  | zero=>
    intro t σ ht hE hR hL;obtain rfl:t=5:=ht;rw[qbs hL];exact ForC.done (Lv.loc hR) rfl Exs.nil
  | succ j ih=>
    intro t σ ht hE hR hL;have h:=ih (t+1) (σ.set L0 (qcr n (qaf c reach (t+1)))) (by lia) (hE.set hL0) (by rw[qan (by lia)];exact hR) (qbi hL);rw[List.set_set] at h;refine ForC.next (m1:=(weM c n b L0 reach).set 7 (some (.loc (n+7+5*t+2)))) (z1:=σ) (v:=.loc (n+7+5*t+2)) (Lv.loc hR) rfl ?_ nofun ?_ (qn3 F hK hE (by lia) hL hY) h
    . show (qsc n)[t]?=_;rw[List.getElem?_map,List.getElem?_range (by lia)];rfl
    . show As _ _ _ _ _ (.Name _ _) _ _ _;exact .(Ib9 7)
include F in
theorem qjr (hY1:Y (L0+1))(hY2:Y (L0+2))(hL0:n+32<=L0){L:List (Nat×Nat)}(hLt:∀y∈L,y.1<5/\y.2<5)(hLl:L.length<=5):∀(rest pre:List (Nat×Nat)) (s:List Nat×List Nat) (σ:List AObj),L=pre++rest->(∀w∈s.1,w<5)->s.1.length<=pre.length->s.2.length<=pre.length->ElS c n σ->σ[L0]?=some (qcr n L)->σ[L0+1]?=some (.lst (qa8 s.1))->σ[L0+2]?=some (.lst (qa8 s.2)) ->
    ForC ⟨W,Y,nm20.1,cd⟩ k fr ta20b.1 bo20b.1 [] (.seq (.loc L0) (L.map (qgq n))) pre.length (weM c n b L0 reach) σ .next (weM c n b L0 reach) ((σ.set (L0+1) (.lst (qa8 (rest.foldl (qc4 c reach) s).1))).set (L0+2) (.lst (qa8 (rest.foldl (qc4 c reach) s).2))):=by
  intro rest;induction rest with
  | nil=>
    intro pre s σ hL hs h1 h2 hE h0 hw ha;rw[List.foldl_nil,qbs hw,qbs ha];exact ForC.done (Lv.loc h0) (by show (L.map (qgq n)).length=_;rw[List.length_map,hL,List.append_nil]) Exs.nil
  | cons y rest ih=>
    intro pre s σ hL hs h1 h2 hE h0 hw ha;have hy:=hLt y (by rw[hL];simp);have hpl:pre.length+(rest.length+1)=L.length:=by rw[hL];simp
    have hg:(∀w∈(qc4 c reach s y).1,w<5)/\(qc4 c reach s y).1.length<=pre.length+1/\(qc4 c reach s y).2.length<=pre.length+1:=by
      unfold qc4;split
      . refine ⟨fun w hw=>?_,by simp;assumption,by simp;assumption⟩;rcases List.mem_append.mp hw with hw | hw
        . exact hs w hw
        . obtain rfl:=List.mem_singleton.mp hw;exact hy.1
      . exact ⟨hs,by lia,by lia⟩
    have hw':((σ.set (L0+1) (.lst (qa8 (qc4 c reach s y).1))).set (L0+2) (.lst (qa8 (qc4 c reach s y).2)))[L0+1]?=some (.lst (qa8 (qc4 c reach s y).1)):=by rw[qan .(qb2 rfl)];exact qbi hw
    have ha0:(σ.set (L0+1) (.lst (qa8 (qc4 c reach s y).1)))[L0+2]?=some (.lst (qa8 s.2)):=by rw[qan .(qb2 rfl)];exact ha
    have h:=ih (pre++[y]) (qc4 c reach s y) _ (by rw[hL];simp) hg.1 (by simp;lia) (by simp;lia) ((hE.set (i:=L0+1) (by lia)).set (i:=L0+2) (by lia)) (by rw[qan (by simp +arith),qan (by simp +arith)];exact h0) hw' (qbi ha0);rw[List.length_append,List.length_singleton] at h;rw[List.set_comm _ _ (by exact qb2 rfl:L0+2≠L0+1),List.set_set,List.set_set] at h;have hb:=qi8 F (Y:=Y) (cd:=cd) (k:=k) (fr:=fr) (b:=b) (reach:=reach) hE hy.2 hy.1 hw ha hY1 hY2 hs (by lia) (by lia);refine ForC.next (m1:=((weM c n b L0 reach).set 8 (some (.int ((y.1:Nat):Int)))).set 7 (some (.loc (n+7+5*y.2+2)))) (z1:=σ) (v:=qgq n y) (Lv.loc h0) rfl ?_ nofun ?_ hb h
    . show (L.map (qgq n))[pre.length]?=_;rw[List.getElem?_map,hL];simp
    . show As _ _ _ _ _ (.Tuple _ _ _) _ _ _;exact .(As.tuple .(AsL.cons .(Ia5 8) .(AsL.cons .(Ib9 7) .(AsL.nil) (hp:=Uu)) (hp:=Uu)))
theorem qgb:∀{l l':List AV},qf4 b σ (l++l')=qf4 b σ l++qf4 b σ l'
  | [],l'=>rfl
  | a::l,l'=>by
    show frz b σ a::qf4 b σ (l++l')=_;rw[qgb];rfl
theorem qoq (hb:σ.length=b)(hj:τ[j]?=some (.lst l))(hc:qae b l=true):frz b (σ++τ) (.loc (b+j))=.lst l:=by
  show (if b+j<b then AV.loc (b+j) else match (σ++τ)[b+j]? with | some (.lst l)=>if qae b l then .lst l else .any | _=>.any)=_;rw[if_neg (by simp),qbn (by rw[hb]),hj];show (if qae b l=true then AV.lst l else .any)=_;rw[if_pos hc]
theorem qcm (l:List Nat):qae b (qa8 l)=true:=qe7 fun v hv=>by
  refine qa4 (List.mem_map.mp hv) ?_;intro i _ eq_0_2;subst eq_0_2;rfl
theorem qkp {l l':List Nat}:qbf b (.tup [.lst (qa8 l),.lst (qa8 l')])=true:=by
  show (qae b (qa8 l)&&(qae b (qa8 l')&&true))=true;rw[qcm,qcm];rfl
noncomputable abbrev qjj (c:Nat->Int) (ks:List Int):AObj:=.dint ks (ks.map (qc5 c))
theorem qgl {f:Int->AV}{x:Int}:∀{ks:List Int},(x∈ks->qc0 ks (ks.map f) x=some (f x))/\(x∉ks->qc0 ks (ks.map f) x=none)
  | []=>⟨(fun h=>nomatch h),fun _=>rfl⟩
  | a::ks=>by
    refine And.elim ?_ (qgl (f:=f) (x:=x) (ks:=ks));intro h1 h2;by_cases ha:a=x
    . subst ha;refine ⟨fun _=>by simp[qc0],fun h=>absurd List.mem_cons_self h⟩
    . constructor
      . intro h;have:=h1 ((List.mem_cons.mp h).resolve_left (Ne.symm ha));unfold qc0 at this ⊢;rw[List.map_cons,List.zip_cons_cons,List.find?_cons_of_neg (by simpa using ha)];exact this
      . intro h;have:=h2 (fun q=>h (List.mem_cons_of_mem _ q));unfold qc0 at this ⊢;rw[List.map_cons,List.zip_cons_cons,List.find?_cons_of_neg (by simpa using ha)];exact this
include F in
theorem qjt (hE:ElS c n σ)(hR:σ[n]?=some (.lst (qsc n)))(hn:n+32<=σ.length)(hb:σ[b]?=some (qjj c ks))(hYb:Y b)(hz:ks.length<=1000):
    Calls W Y (k+4) fr σ (.glob (.ref A20)) [.loc n,.int reach,mA (qa6 c 4),.loc b] [] [] (qc5 c reach) (σ.set b (qjj c (if reach∈ks then ks else ks++[reach]))):=by
  have hpm:plain (mA (qa6 c 4))=true:=qa7 (fun _=>qap _) _;by_cases hin:reach∈ks
  . rw[if_pos hin,qbs hb];have hat:=(qgl (f:=qc5 c) (x:=reach) (ks:=ks)).1 hin;refine Ibu (τ:=[.lst [],.lst [],.lst []]) (F.f20 (.loc n) (.int reach) (mA (qa6 c 4)) (.loc b) rfl rfl hpm rfl) (m':=[]) (fl:=.ret (qc5 c reach)) (fun cd env hK=>?_) (fun _ _=>?_)
    . have hb':(σ++[AObj.lst [],.lst [],.lst []])[b]?=some (qjj c ks):=qac hb;have z1:σ++[AObj.lst []]++[AObj.lst []]++[AObj.lst []]=σ++[AObj.lst [],.lst [],.lst []]:=by simp
      have v1:AV.tup [.loc σ.length,.loc (σ++[AObj.lst []]).length,.loc (σ++[AObj.lst []]++[AObj.lst []]).length]=.tup [.loc σ.length,.loc (σ.length+1),.loc (σ.length+2)]:=by simp
      have hin':true=(qc0 ks (ks.map (qc5 c)) reach).isSome:=by rw[hat];rfl
      with_reducible refine Exs.f (Iad (m2:=((([some (.loc n),some (.int reach),some (mA (qa6 c 4)),some (.loc b),none,none,none,none,none,none,none]:List (Option AV)).set 4 (some (.loc σ.length))).set 5 (some (.loc (σ.length+1)))).set 6 (some (.loc (σ.length+2)))) ?_)
      show Exs _ _ _ _ _ (_::_) _ _ _;with_reducible exact .(Exs.cons .(Icm (i:=4) (j:=5) (l:=6) .(Ibl .(Ev.tuple (Evs.cons .(Iak Evs.nil) .((Evs.cons .(Iak Evs.nil) .((Evs.cons .(Iak Evs.nil) .(Evs.nil))))))) z1 v1) Uu Uu Uu (by decide) (by decide) (by decide) Uu Uu Uu) .(Exs.ret .(Ia9 (c:=true) .(Iac .(Ia3 .(Ia6 1) .(Ia0 3) (Icv hb' hin')) rfl) (fun _=>.(Exs.ret .(Iaj .(Idy .(Ia0 3) .(Ia6 1) hb' hat)))) (fun h=>nomatch h))))
    . generalize qad c reach=wc;exact (qby _ qkp).symm
  . rw[if_neg hin];have hat:=(qgl (f:=qc5 c) (x:=reach) (ks:=ks)).2 hin;have hbl:=qdl hb;refine FnB.calls (F.f20 (.loc n) (.int reach) (mA (qa6 c 4)) (.loc b) rfl rfl hpm rfl) σ.length (z'':=σ.set b (.dint (ks++[reach]) (ks.map (qc5 c)++[.tup [.loc (σ.length+1),.loc (σ.length+2)]]))++[qcr n (qaf c reach 5),.lst (qa8 (qad c reach).1),.lst (qa8 (qad c reach).2)]) (m':=[]) (fl:=.ret (.tup [.loc (σ.length+1),.loc (σ.length+2)])) (fun cd env hK=>?_) (Nat.le_refl _) (by simp) (fun c1 _ _ _=>?_)
    . have hEx:∀τ,ElS c n (σ++τ):=fun τ=>⟨fun s hs=>by refine Exists.elim (hE.els s hs) ?_;intro a h;exact ⟨a,qac h⟩,fun s hs=>qac (hE.att s hs)⟩
      have z1:σ++[AObj.lst []]++[AObj.lst []]++[AObj.lst []]=σ++[AObj.lst [],.lst [],.lst []]:=by simp
      have v1:AV.tup [.loc σ.length,.loc (σ++[AObj.lst []]).length,.loc (σ++[AObj.lst []]++[AObj.lst []]).length]=.tup [.loc σ.length,.loc (σ.length+1),.loc (σ.length+2)]:=by simp
      have hb':(σ++[AObj.lst [],.lst [],.lst []])[b]?=some (qjj c ks):=qac hb;have hin':false=(qc0 ks (ks.map (qc5 c)) reach).isSome:=by rw[hat];rfl
      have hl1:=qjs F (Y:=fun m=>Y m\/σ.length<=m) (cd:=cd) (k:=k) (fr:=env::fr) (b:=b) (L0:=σ.length) (reach:=reach) hK (.inr (Nat.le_refl _)) hn 5 0 (σ++[AObj.lst [],.lst [],.lst []]) rfl (hEx _) (qac hR) (by simp[qaf]);have e1:(σ++[AObj.lst [],.lst [],.lst []]).set σ.length (qcr n (qaf c reach 5))=σ++[qcr n (qaf c reach 5),.lst [],.lst []]:=by simp
      rw[e1] at hl1;have hl2:=qjr F (Y:=fun m=>Y m\/σ.length<=m) (cd:=cd) (k:=k+3) (fr:=env::fr) (b:=b) (L0:=σ.length) (reach:=reach) (.inr (by simp +arith)) (.inr (by simp +arith)) hn (qg6 c reach 5 (Nat.le_refl _)) (by rw[(qdn c reach 5).2];exact Nat.le_refl _) (qaf c reach 5) [] ([],[]) (σ++[qcr n (qaf c reach 5),.lst [],.lst []]) (List.nil_append _).symm (fun w hw=>by cases hw) (Nat.zero_le _) (Nat.zero_le _) (hEx _) (by simp) (by simp) (by simp);have e2:((σ++[qcr n (qaf c reach 5),.lst [],.lst []]).set (σ.length+1) (.lst (qa8 ((qaf c reach 5).foldl (qc4 c reach) ([],[])).1))).set (σ.length+2) (.lst (qa8 ((qaf c reach 5).foldl (qc4 c reach) ([],[])).2))=σ++[qcr n (qaf c reach 5),.lst (qa8 (qad c reach).1),.lst (qa8 (qad c reach).2)]:=by simp[qad]
      rw[e2] at hl2;have hli:(σ++[qcr n (qaf c reach 5),.lst [],.lst []])[σ.length]?=some (qcr n (qaf c reach 5)):=by simp
      have hR2:(σ++[AObj.lst [],.lst [],.lst []])[n]?=some (.lst (qsc n)):=qac hR;have hb2:(σ++[qcr n (qaf c reach 5),.lst (qa8 (qad c reach).1),.lst (qa8 (qad c reach).2)])[b]?=some (qjj c ks):=qac hb;have hYb':(fun m=>Y m\/σ.length<=m) b:=.inl hYb;have hzz:ks.length<=sizeLine:=by rw[sizeLine_eq];lia
      have e3:(σ++[qcr n (qaf c reach 5),.lst (qa8 (qad c reach).1),.lst (qa8 (qad c reach).2)]).set b (.dint (qf1 ks (ks.map (qc5 c)) reach (.tup [.loc (σ.length+1),.loc (σ.length+2)])).1 (qf1 ks (ks.map (qc5 c)) reach (.tup [.loc (σ.length+1),.loc (σ.length+2)])).2)=σ.set b (.dint (ks++[reach]) (ks.map (qc5 c)++[.tup [.loc (σ.length+1),.loc (σ.length+2)]]))++[qcr n (qaf c reach 5),.lst (qa8 (qad c reach).1),.lst (qa8 (qad c reach).2)]:=by
        rw[qla hin,set_app hbl]
      with_reducible refine Exs.f (Iad (m2:=weM c n b σ.length reach) ?_)
      show Exs _ _ _ _ _ (_::_) _ _ _;with_reducible exact .(Exs.cons .(Icm (i:=4) (j:=5) (l:=6) .(Ibl .(Ev.tuple (Evs.cons .(Iak Evs.nil) .((Evs.cons .(Iak Evs.nil) .((Evs.cons .(Iak Evs.nil) .(Evs.nil))))))) z1 v1) Uu Uu Uu (by decide) (by decide) (by decide) Uu Uu Uu) .(Exs.cons .(Ia9 (c:=false) .(Iac .(Ia3 .(Ia6 1) .(Ia0 3) (Icv hb' hin')) rfl) (fun h=>nomatch h) (fun _=>.(Exs.nil))) .(Exs.cons .(Ib8 .(ItE.list .(Ia0 0) (Lv.loc hR2)) (by with_unfolding_all exact ForC.pre hl1 Weak.refl)) .(Exs.cons .(Ib8 .(ItE.list .(Ia0 4) (Lv.loc hli)) (by with_unfolding_all exact ForC.pre hl2 Weak.refl)) .(Exs.cons .(Ia4 .(Ev.tuple (Evs.cons .(Ia0 5) .((Evs.cons .(Ia0 6) .(Evs.nil))))) .(Ibb .(Ie2 .(Ia0 3) .(Ia6 1) hb2 hYb' rfl hzz) e3)) .(Exs.ret .(Iaj .(Ev.tuple (Evs.cons .(Ia0 5) .((Evs.cons .(Ia0 6) .(Evs.nil))))))))))))
    . have hfz:∀(X:AObj),(σ.set b X).length=σ.length:=fun X=>by simp
      generalize hS:σ.set b (.dint (ks++[reach]) (ks.map (qc5 c)++[.tup [.loc (σ.length+1),.loc (σ.length+2)]]))=S;have hSl:S.length=σ.length:=by rw[<- hS,hfz]
      have f1:frz σ.length (S++[qcr n (qaf c reach 5),.lst (qa8 (qad c reach).1),.lst (qa8 (qad c reach).2)]) (.loc (σ.length+1))=.lst (qa8 (qad c reach).1):=qoq hSl rfl (qcm _);have f2:frz σ.length (S++[qcr n (qaf c reach 5),.lst (qa8 (qad c reach).1),.lst (qa8 (qad c reach).2)]) (.loc (σ.length+2))=.lst (qa8 (qad c reach).2):=qoq hSl rfl (qcm _);have ft:frz σ.length (S++[qcr n (qaf c reach 5),.lst (qa8 (qad c reach).1),.lst (qa8 (qad c reach).2)]) (.tup [.loc (σ.length+1),.loc (σ.length+2)])=qc5 c reach:=by
        show AV.tup [frz _ _ _,frz _ _ _]=_;rw[f1,f2]
      refine ⟨ft.symm,?_⟩;rw[List.take_left' hSl,<- hS,List.map_set];have hm:σ.map (qlr σ.length (σ.set b (.dint (ks++[reach]) (ks.map (qc5 c)++[.tup [.loc (σ.length+1),.loc (σ.length+2)]]))++[qcr n (qaf c reach 5),.lst (qa8 (qad c reach).1),.lst (qa8 (qad c reach).2)]))=σ:=by
        rw[List.map_congr_left (g:=id) fun ao hao=>qgc ao (c1 ao hao),List.map_id]
      rw[hm];congr 1
      show _=AObj.dint (ks++[reach]) (qf4 _ _ _);rw[qgb,hS];show _=AObj.dint (ks++[reach]) (qf4 _ _ _++[frz _ _ _]);rw[ft,qb1 _ (by
        have:=c1 _ (List.mem_of_getElem? hb);exact this)]
      show AObj.dint _ ((ks++[reach]).map (qc5 c))=_;rw[List.map_append];rfl
end
end
section
section
noncomputable def qjo (par:Nat->Nat):Nat->List (List (List Nat))
  | 0=>[[[]]]
  | n+1=>(List.range (n+1)).map (fun o=>(qjo par n).getD o []++[(((qjo par n).getD (par (n+1)) []).map ((n+1) :: ·)).getD o []])++[((qjo par n).getD (par (n+1)) []).map ((n+1) :: ·)++[[]]]
noncomputable def evE (d:Nat->Int):List Nat->Int
  | []=>0
  | p::l=>evE d l+d p
noncomputable def edE (M:List (List (List Nat))) (i j:Nat):List Nat:=(M.getD i []).getD j []
theorem qeg (f:α->β)(l:List α)(i:Nat)(a:α):(l.map f).getD i (f a)=f (l.getD i a):=by
  simp only[List.getD_eq_getElem?_getD,List.getElem?_map];cases l[i]? <;> rfl
theorem qox (par:Nat->Nat)(d:Nat->Int):∀n,qgt par d n=(qjo par n).map fun r=>r.map (evE d)
  | 0=>rfl
  | n+1=>by
    have h:=qox par d n;have hr:∀i,(qgt par d n).getD i []=((qjo par n).getD i []).map (evE d):=fun i=>by
      rw[h];exact qeg (fun r:List (List Nat)=>r.map (evE d)) _ i []
    have hm:∀l:List (List Nat),(l.map (evE d)).map (· + d (n+1))=(l.map ((n+1) :: ·)).map (evE d):=fun l=>by
      rw[List.map_map,List.map_map];rfl
    unfold qgt qjo;simp only[hr,hm,List.map_append,List.map_map,List.map_cons,List.map_nil];have h0:∀o,(((((qjo par n).getD (par (n+1)) []).map ((n+1) :: ·)).map (evE d)).getD o 0)=evE d ((((qjo par n).getD (par (n+1)) []).map ((n+1) :: ·)).getD o []):=fun o=>qeg (evE d) _ o []
    congr 1
    apply List.map_congr_left;intro o _;simp only[Function.comp,List.map_append,List.map_cons,List.map_nil];rw[<- h0 o,List.map_map]
theorem qv3 (par:Nat->Nat)(d:Nat->Int)(i j:Nat):Dm (qgt par d 4) i j=evE d (edE (qjo par 4) i j):=by
  unfold Dm edE;rw[qox,show ((qjo par 4).map fun r=>r.map (evE d)).getD i []=((qjo par 4).getD i []).map (evE d) from qeg (fun r:List (List Nat)=>r.map (evE d)) _ i []];exact qeg (evE d) _ j []
noncomputable def cnt (p:Nat):List Nat->Nat
  | []=>0
  | q::l=>cnt p l+(if q=p then 1 else 0)
noncomputable def qig:List Nat->Bool
  | []=>true
  | q::l=>decide (1<=q/\q<=4)&&qig l
theorem qhx (d:Nat->Int):∀l,qig l=true->evE d l=cnt 1 l*d 1+cnt 2 l*d 2+cnt 3 l*d 3+cnt 4 l*d 4
  | [],_=>by simp[evE,cnt]
  | q::l,h=>by
    simp only[qig,Bool.and_eq_true,decide_eq_true_eq] at h;have:=qhx d l h.2;have hq:q=1\/q=2\/q=3\/q=4:=by lia
    rcases hq with rfl | rfl | rfl | rfl <;> simp[evE,cnt,this,Int.add_mul] <;> simp +arith
noncomputable def leE (l l':List Nat):Bool:=qig l&&qig l'&&decide (cnt 1 l<=cnt 1 l'/\cnt 2 l<=cnt 2 l'/\cnt 3 l<=cnt 3 l'/\cnt 4 l<=cnt 4 l')
theorem qtl {d:Nat->Int}(hd:∀p,1<=p->0<=d p){l l':List Nat}(h:leE l l'=true):evE d l<=evE d l':=by
  simp only[leE,Bool.and_eq_true,decide_eq_true_eq] at h;rw[qhx d l h.1.1,qhx d l' h.1.2];have m:∀(a b:Nat) (x:Int),0<=x->a<=b->(a:Int)*x<=b*x:=fun a b x hx hab=>Int.mul_le_mul_of_nonneg_right (by simp_all) hx
  have h1:=m _ _ _ (hd 1 (by decide)) h.2.1;have h2:=m _ _ _ (hd 2 (by simp +arith)) h.2.2.1;have h3:=m _ _ _ (hd 3 (by simp +arith)) h.2.2.2.1;have h4:=m _ _ _ (hd 4 (by simp +arith)) h.2.2.2.2
  grind
noncomputable def subT (par:Nat->Nat) (p v:Nat):Bool:=v==p||(v != 0&&(par v==p||(par v != 0&&(par (par v)==p||(par (par v) != 0&&(par (par (par v))==p||(par (par (par v)) != 0&&par (par (par (par v)))==p)))))))
noncomputable def qt3 (p2 p3 p4:Nat):Nat->Nat
  | 2=>p2
  | 3=>p3
  | 4=>p4
  | _=>0
noncomputable def qv0 (par:Nat->Nat) (M:List (List (List Nat))) (i j:Nat):Bool:=
  leE (edE M i j) (edE M j i)&&decide ((edE M i i)=[])&&leE (edE M i j) [1,2,3,4]&&subT par 0 i&&subT par i i
    && (if subT par i j&&i != 0 then decide (par i<i)&&subT par (par i) j&&leE (edE M j (par i)) (i::edE M j i)&&leE (i::edE M j i) (edE M j (par i)) else true)
noncomputable def qsi (par:Nat->Nat) (M:List (List (List Nat))) (i j t:Nat):Bool:=
  (if subT par i t&&subT par j t then (if i<j then leE (edE M t (par j)) (edE M t i) else leE (edE M t i) (edE M t j)) else true)
    && (if subT par t j then (if subT par t i then true else (t==0||leE (edE M j (par t)) (edE M j i))&&leE (edE M i t) (edE M i j)) else true)
noncomputable def qvm (par:Nat->Nat) (M:List (List (List Nat))):Bool:=(List.range 5).all fun i=>(List.range 5).all fun j=>qv0 par M i j&&(List.range 5).all fun t=>qsi par M i j t
theorem qs5:∀(p2:Fin 2) (p3:Fin 3) (p4:Fin 4),qvm (qt3 p2 p3 p4) (qjo (qt3 p2 p3 p4) 4)=true:=by decide +kernel
theorem qh6 {par par':Nat->Nat}:∀n,(∀t,1<=t->t<=n->par t=par' t)->qjo par n=qjo par' n
  | 0,_=>rfl
  | n+1,h=>by
    have:=qh6 n fun t h1 h2=>h t h1 (by lia)
    unfold qjo;rw[this,h (n+1) (by simp +arith) (by simp +arith)]
structure qsa (par:Nat->Nat) (d:Nat->Int) (D:Nat->Nat->Int) (sub:Nat->Nat->Bool):Prop where
  z:∀i,i<5->D i i=0
  sym:∀i j,i<5->j<5->D i j=D j i
  nn:∀i j,i<5->j<5->0<=D i j
  le:∀i j,i<5->j<5->D i j<=24
  s0:∀i,i<5->sub 0 i=true
  ss:∀i,i<5->sub i i=true
  up:∀p t,p<5->t<5->sub p t=true->p≠0->par p<p/\sub (par p) t=true/\D t (par p)=D t p+d p
  hi:∀a p t,a<5->p<5->t<5->sub a t=true->sub p t=true->a<p->D t (par p)<=D t a
  ch:∀a b t,a<5->b<5->t<5->sub a t=true->sub b t=true->b<=a->D t a<=D t b
  out:∀t j v,t<5->j<5->v<5->sub t j=true->sub t v=false->t≠0->D j (par t)<=D j v
  inn:∀t i v,t<5->i<5->v<5->sub t v=true->sub t i=false->D i t<=D i v
theorem qr5 {par:Nat->Nat}{d:Nat->Int}(h1:par 1=0)(h2:par 2<2)(h3:par 3<3)(h4:par 4<4)(hd:∀p,0<=d p/\d p<=6):
    ∃sub,qsa par d (Dm (qgt par d 4)) sub:=by
  have hc:=qs5 ⟨_,h2⟩ ⟨_,h3⟩ ⟨_,h4⟩;have hpar:∀t,1<=t->t<5->par t=qt3 (par 2) (par 3) (par 4) t:=by
    intro t ht ht';have:t=1\/t=2\/t=3\/t=4:=by lia
    rcases this with rfl | rfl | rfl | rfl <;> simp[qt3,h1]
  simp only at hc;rw[<- qh6 4 fun t a b=>hpar t a (by lia)] at hc;generalize hM:qjo par 4=M at hc;have hD:∀i j,Dm (qgt par d 4) i j=evE d (edE M i j):=fun i j=>by rw[<- hM];exact qv3 par d i j
  generalize hq:qt3 (par 2) (par 3) (par 4)=q at hc hpar;have hd0:∀p,1<=p->0<=d p:=fun p _=>(hd p).1
  have h2c:∀i j,i<5->j<5->qv0 q M i j=true/\∀t,t<5->qsi q M i j t=true:=by
    intro i j hi hj;have:=List.all_eq_true.mp (List.all_eq_true.mp hc i (List.mem_range.mpr hi)) j (List.mem_range.mpr hj);rw[Bool.and_eq_true] at this;exact ⟨this.1,fun t ht=>List.all_eq_true.mp this.2 t (List.mem_range.mpr ht)⟩
  have c2:∀i j,i<5->j<5->(leE (edE M i j) (edE M j i)=true/\edE M i i=[]/\leE (edE M i j) [1,2,3,4]=true/\subT q 0 i=true/\subT q i i=true)/\(subT q i j=true->i≠0->q i<i/\subT q (q i) j=true/\leE (edE M j (q i)) (i::edE M j i)=true/\leE (i::edE M j i) (edE M j (q i))=true):=by
    intro i j hi hj;have h:=(h2c i j hi hj).1;unfold qv0 at h;simp only[Bool.and_eq_true,decide_eq_true_eq] at h;refine ⟨⟨h.1.1.1.1.1,h.1.1.1.1.2,h.1.1.1.2,h.1.1.2,h.1.2⟩,fun hs h0=>?_⟩;have h':=h.2;rw[if_pos (by simp[hs,h0])] at h';simp only[Bool.and_eq_true,decide_eq_true_eq] at h';exact ⟨h'.1.1.1,h'.1.1.2,h'.1.2,h'.2⟩
  have le:=fun {l l':List Nat} (h:leE l l'=true)=>qtl hd0 h
  have hl4:evE d [1,2,3,4]<=24:=by
    have:=hd 1;have:=hd 2;have:=hd 3;have:=hd 4;simp only[evE];lia
  refine ⟨subT q,?_⟩;refine ⟨?_,?_,?_,?_,?_,?_,?_,?_,?_,?_,?_⟩
  . intro i hi;rw[hD,(c2 i i hi hi).1.2.1];rfl
  . intro i j hi hj;rw[hD,hD];exact Int.le_antisymm (le (c2 i j hi hj).1.1) (le (c2 j i hj hi).1.1)
  . intro i j hi hj;rw[hD];have h:=(c2 i j hi hj).1.2.2.1;simp only[leE,Bool.and_eq_true] at h;rw[qhx d _ h.1.1];have m:∀(a:Nat) (x:Int),0<=x->0<=(a:Int)*x:=fun a x hx=>Int.mul_nonneg (by simp +arith) hx
    have h1:=m (cnt 1 (edE M i j)) _ (hd 1).1;have h2:=m (cnt 2 (edE M i j)) _ (hd 2).1;have h3:=m (cnt 3 (edE M i j)) _ (hd 3).1;have h4:=m (cnt 4 (edE M i j)) _ (hd 4).1;lia
  . intro i j hi hj;rw[hD];exact Int.le_trans (le (c2 i j hi hj).1.2.2.1) hl4
  . intro i hi;exact (c2 i i hi hi).1.2.2.2.1
  . intro i hi;exact (c2 i i hi hi).1.2.2.2.2
  . intro p t hp ht hs h0;have h:=(c2 p t hp ht).2 hs h0;rw[hpar p (by lia) hp,hD,hD];exact ⟨h.1,h.2.1,Int.le_antisymm (le h.2.2.1) (le h.2.2.2)⟩
  . intro a p t ha hp ht h1 h2 hap;have h:=(h2c a p ha hp).2 t ht;unfold qsi at h;rw[Bool.and_eq_true] at h;have h':=h.1;rw[if_pos (by simp[h1,h2]),if_pos hap] at h';rw[hpar p (by lia) hp,hD,hD];exact le h'
  . intro a b t ha hb ht h1 h2 hap;have h:=(h2c a b ha hb).2 t ht;unfold qsi at h;rw[Bool.and_eq_true] at h;have h':=h.1;rw[if_pos (by simp[h1,h2]),if_neg (by simp_all)] at h';rw[hD,hD];exact le h'
  . intro t j v ht hj hv h1 h2 h0;have h:=(h2c v j hv hj).2 t ht;unfold qsi at h;rw[Bool.and_eq_true] at h;have h':=h.2;rw[if_pos h1,if_neg (by simp[h2])] at h';simp only[Bool.and_eq_true,Bool.or_eq_true,beq_iff_eq] at h';rw[hpar t (by lia) ht,hD,hD];exact le (h'.1.resolve_left h0)
  . intro t i v ht hi hv h1 h2;have h:=(h2c i v hi hv).2 t ht;unfold qsi at h;rw[Bool.and_eq_true] at h;have h':=h.2;rw[if_pos h1,if_neg (by simp[h2])] at h';simp only[Bool.and_eq_true] at h';rw[hD,hD];exact le h'.2
end
section
variable {par:Nat->Nat} {d e:Nat->Int} {D:Nat->Nat->Int} {sub:Nat->Nat->Bool}
structure Top (D:Nat->Nat->Int) (sub:Nat->Nat->Bool) (i:Nat) (R:Int) (t:Nat):Prop where
  lt:t<5
  sb:sub t i=true
  near:D i t<=R
  far:∀a,a<5->sub a i=true->a<t->R<D i a
theorem qjh (T:qsa par d D sub){t:Nat}{R:Int}(ht:t<5):∀(f p:Nat) (r:Int),p<=f->p<5->sub p t=true->r=R - D t p->0<=r->Top D sub t R (qez par d f p r)
  | 0,p,r,hpf,hp,hs,hr,h0=>by
    obtain rfl:p=0:=by lia
    exact ⟨hp,hs,by unfold qez;simp_all,fun a _ _ ha=>by unfold qez at ha;simp_all⟩
  | f+1,p,r,hpf,hp,hs,hr,h0=>by
    unfold qez;by_cases hc:0<p/\d p<=r
    . rw[if_pos hc];refine qee (T.up p t hp ht hs (by lia)) ?_;intro u1 u2 u3;exact qjh T ht f (par p) (r - d p) (by lia) (by lia) u2 (by lia) (by simp_all)
    . rw[if_neg hc];refine ⟨hp,hs,by simp_all,fun a ha hsa hap=>?_⟩;have hp0:p≠0:=by lia
      refine qee (T.up p t hp ht hs hp0) ?_;intro u1 u2 u3;have:=T.hi a p t ha hp ht hsa hs hap;lia
theorem qpn (T:qsa par d D sub){ti tj v:Nat}{Ri Rj:Int}(hi:i<5)(hj:j<5)(hv:v<5)(Hi:Top D sub i Ri ti)(Hj:Top D sub j Rj tj)(h1:D i v<=Ri)(h2:D j v<=Rj)(h:ti<=tj):D i tj<=Ri:=by
  have htj:=Hj.lt;cases hsv:sub tj v with
  | false=>
    exfalso
    by_cases h0:tj=0
    . rw[h0,T.s0 v hv] at hsv;cases hsv
    . have:=T.out tj j v htj hj hv Hj.sb hsv h0;refine qee (T.up tj j htj hj Hj.sb h0) ?_;intro u1 u2 u3;have:=Hj.far (par tj) (by lia) u2 u1;lia
  | true=>
    cases hsi:sub tj i with
    | true=>have:=T.ch tj ti i htj Hi.lt hi hsi Hi.sb h;have:=Hi.near;lia
    | false=>have:=T.inn tj i v htj hi hv hsv hsi;lia
end
theorem qpu {L:List (Nat×Nat)}{x y:Nat×Nat}:y∈qom L x↔y=x\/y∈L:=by
  unfold qom;rw[List.mem_append,List.mem_append,List.mem_singleton];have:y∈L↔y∈L.take (qnn L x.1)\/y∈L.drop (qnn L x.1):=by rw[<- List.mem_append,List.take_append_drop]
  rw[this];constructor
  . rintro ((h | h) | h)
    . exact .inr (.inl h)
    . exact .inl h
    . exact .inr (.inr h)
  . rintro (h | h | h)
    . exact .inl (.inr h)
    . exact .inl (.inl h)
    . exact .inr h
theorem qew (c:Nat->Int)(reach:Int):∀(t:Nat) (y:Nat×Nat),y∈qaf c reach t↔∃s,s<t/\y=(qff c reach s,s)
  | 0,y=>by simp[qaf]
  | t+1,y=>by
    rw[qaf,qpu,qew c reach t];constructor
    . rintro (h | ⟨s,h,e⟩)
      . exact ⟨t,by simp +arith,h⟩
      . exact ⟨s,by lia,e⟩
    . rintro ⟨s,h,e⟩
      by_cases hs:s=t
      . exact .inl (by rw[e,hs])
      . exact .inr ⟨s,by lia,e⟩
theorem qei {p:α->Bool}:∀{l:List α},l.Pairwise (fun a b=>¬(p a=true/\p b=true))->(l.filter p).length<=1
  | [],_=>by simp
  | a::l,h=>by
    refine And.elim ?_ (List.pairwise_cons.mp h);intro h1 h2;by_cases hp:p a=true
    . rw[List.filter_cons_of_pos hp];have:l.filter p=[]:=List.filter_eq_nil_iff.mpr fun b hb hpb=>h1 b hb ⟨hp,hpb⟩
      rw[this];simp
    . rw[List.filter_cons_of_neg hp];exact qei h2
theorem qhh {f:α->Nat->Prop}:∀{as:List α} {B:List Nat},as.Pairwise (fun a b=>∀v∈B,¬(f a v/\f b v))->(∀a∈as,∃v∈B,f a v)->as.length<=B.length
  | [],_,_,_=>by simp
  | a::as,B,h,hs=>by
    refine And.elim ?_ (List.pairwise_cons.mp h);intro h1 h2;refine qa4 (hs a (by simp)) ?_;intro v hv hf;have:=qhh (f:=f) (as:=as) (B:=B.erase v) (h2.imp fun h w hw=>h w (List.mem_of_mem_erase hw)) fun b hb=>by
      refine qa4 (hs b (by simp[hb])) ?_;intro w hw hg;refine ⟨w,(List.mem_erase_of_ne ?_).mpr hw,hg⟩;intro e;subst e;exact h1 b hb w hw ⟨hf,hg⟩
    rw[List.length_erase_of_mem hv] at this;have:0<B.length:=List.length_pos_of_mem hv;simp only[List.length_cons];lia
theorem qps {l B:List Nat}(h:l.Nodup)(hs:∀a∈l,a∈B):l.length<=B.length:=
  qhh (f:=fun a v=>a=v) (h.imp fun {a b} h v _ e=>h (e.1.trans e.2.symm)) fun a ha=>⟨a,hs a ha,rfl⟩
section
noncomputable abbrev DC (c:Nat->Int):Nat->Nat->Int:=Dm (qa6 c 4)
noncomputable abbrev RC (c:Nat->Int) (reach:Int) (i:Nat):Int:=reach+eI c i
theorem qmk (c:Nat->Int)(t:Nat):0<=eI c t/\eI c t<=3:=by
  have:=Int.fmod_nonneg_of_pos ((qfa c t).fdiv 7) (b:=4) (by simp);have:=Int.fmod_lt_of_pos ((qfa c t).fdiv 7) (b:=4) (by simp);unfold eI;omega
theorem quz (c:Nat->Int)(t:Nat):0<=dI c t/\dI c t<=6:=by
  have:=Int.fmod_nonneg_of_pos (qfa c t) (b:=7) (by simp);have:=Int.fmod_lt_of_pos (qfa c t) (b:=7) (by simp);unfold dI;omega
theorem qn4 (c:Nat->Int):∃sub,qsa (qe4 c) (dI c) (DC c) sub:=by
  have h:=fun t ht=>(qc3 (c:=c) (t:=t) ht).2
  exact qr5 (by have:=h 1 (by decide);omega) (h 2 (by simp)) (h 3 (by simp)) (h 4 (by simp)) (quz c)
theorem qhf {sub:Nat->Nat->Bool}(T:qsa (qe4 c) (dI c) (DC c) sub)(hr:0<=reach){t:Nat}(ht:t<5):Top (DC c) sub t (RC c reach t) (qff c reach t):=by
  have:=qmk c t;exact qjh T ht 5 t _ (by lia) ht (T.ss t ht) (by rw[T.z t ht];show reach+eI c t=reach+eI c t - 0;generalize eI c t=z;simp) (by omega)
structure Gr (c:Nat->Int) (reach:Int) (done:List (Nat×Nat)) (s:List Nat×List Nat):Prop where
  len:s.1.length=s.2.length
  of_:∀w∈s.1,∃a∈s.2,w=qff c reach a
  to_:∀a∈s.2,a<5/\qff c reach a∈s.1/\(qff c reach a,a)∈done
  served:∀y∈done,∃w∈s.1,DC c y.2 w<=RC c reach y.2
  apart:s.2.Pairwise fun a b=>∀v,v<5->¬(DC c a v<=RC c reach a/\DC c b v<=RC c reach b)
  nodup:s.1.Nodup
theorem qru {sub:Nat->Nat->Bool}(T:qsa (qe4 c) (dI c) (DC c) sub)(hr:0<=reach){done:List (Nat×Nat)}{s:List Nat×List Nat}(hi:i<5)(G:Gr c reach done s)(hd:∀y∈done,qff c reach i<=y.1):
    Gr c reach (done++[(qff c reach i,i)]) (qc4 c reach s (qff c reach i,i)):=by
  unfold qc4;have Hi:=qhf T hr hi;by_cases hf:s.1.filter (fun w=>decide (Dm (qa6 c 4) i w<=reach+eI c i))=[]
  . rw[if_pos hf];have hno:∀w∈s.1,¬DC c i w<=RC c reach i:=fun w hw h=>by
      have:=List.filter_eq_nil_iff.mp hf w hw;simp only[decide_eq_true_eq] at this;exact this h
    refine ⟨by simp[G.len],?_,?_,?_,?_,?_⟩
    . intro w hw;rcases List.mem_append.mp hw with h | h
      . refine qa4 (G.of_ w h) ?_;intro a ha e;exact ⟨a,by simp[ha],e⟩
      . exact ⟨i,by simp,List.mem_singleton.mp h⟩
    . intro a ha;rcases List.mem_append.mp ha with h | h
      . refine qee (G.to_ a h) ?_;intro h1 h2 h3;exact ⟨h1,by simp[h2],by simp[h3]⟩
      . rw[List.mem_singleton.mp h];exact ⟨hi,by simp,by simp⟩
    . intro y hy;rcases List.mem_append.mp hy with h | h
      . refine qa4 (G.served y h) ?_;intro w hw e;exact ⟨w,by simp[hw],e⟩
      . rw[List.mem_singleton.mp h];exact ⟨qff c reach i,by simp,Hi.near⟩
    . refine List.pairwise_append.mpr ⟨G.apart,List.pairwise_singleton _ _,fun a ha b hb v hv hab=>?_⟩;rw[List.mem_singleton.mp hb] at hab;refine qee (G.to_ a ha) ?_;intro h1 h2 h3;exact hno _ h2 (qpn T hi h1 hv Hi (qhf T hr h1) hab.2 hab.1 (hd _ h3))
    . refine List.nodup_append.mpr ⟨G.nodup,(by simp),fun a ha b hb e=>?_⟩;rw[List.mem_singleton.mp hb] at e;exact hno a ha (by rw[e];exact Hi.near)
  . rw[if_neg hf];refine ⟨G.len,G.of_,fun a ha=>?_,?_,G.apart,G.nodup⟩
    . refine qee (G.to_ a ha) ?_;intro h1 h2 h3;exact ⟨h1,h2,by simp[h3]⟩
    . intro y hy;rcases List.mem_append.mp hy with h | h
      . exact G.served y h
      . rw[List.mem_singleton.mp h];refine Exists.elim (List.exists_mem_of_ne_nil _ hf) ?_;intro w hw;rw[List.mem_filter,decide_eq_true_eq] at hw;exact ⟨w,hw.1,hw.2⟩
theorem qqx {sub:Nat->Nat->Bool}(T:qsa (qe4 c) (dI c) (DC c) sub)(hr:0<=reach):∀(rest done:List (Nat×Nat)) (s:List Nat×List Nat),qsj (done++rest)->(∀y∈rest,y.2<5/\y=(qff c reach y.2,y.2))->Gr c reach done s->Gr c reach (done++rest) (rest.foldl (qc4 c reach) s)
  | [],done,s,_,_,G=>by simpa using G
  | y::rest,done,s,hD,hy,G=>by
    refine And.elim ?_ (hy y (by simp));intro h1 h2;have hd:∀z∈done,qff c reach y.2<=z.1:=fun z hz=>by
      have:=(List.pairwise_append.mp hD).2.2 z hz y (by simp);rw[h2] at this;exact this
    have G1:=qru T hr h1 G hd;rw[<- h2] at G1;have:=qqx T hr rest (done++[y]) _ (by simpa using hD) (fun z hz=>hy z (by simp[hz])) G1;simpa using this
theorem ql0 (hr:0<=reach):Gr c reach (qaf c reach 5) (qad c reach):=by
  refine Exists.elim (qn4 c) ?_;intro sub T;have hm:∀y∈qaf c reach 5,y.2<5/\y=(qff c reach y.2,y.2):=fun y hy=>by
    refine qa4 ((qew c reach 5 y).mp hy) ?_;intro s hs e;rw[e];exact ⟨hs,rfl⟩
  have hd:=(qdn c reach 5).1;unfold qad;generalize qaf c reach 5=L at hm hd;exact qqx T hr L [] ([],[]) hd hm ⟨rfl,by simp,by simp,by simp,by simp,by simp⟩
theorem qkz (hr:0<=reach):(qad c reach).1.Nodup/\(∀w∈(qad c reach).1,w<5)/\(∀a∈(qad c reach).2,a<5)/\(∀i,i<5->∃w∈(qad c reach).1,DC c i w<=RC c reach i) /\
    (∀v,v<5->((qad c reach).2.filter fun a=>decide (DC c a v<=RC c reach a)).length<=1)/\(qad c reach).1.length=(qad c reach).2.length:=by
  refine Exists.elim (qn4 c) ?_;intro sub T;have G:=ql0 (c:=c) hr;refine ⟨G.nodup,fun w hw=>?_,fun a ha=>(G.to_ a ha).1,fun i hi=>?_,fun v hv=>?_,G.len⟩
  . refine qa4 (G.of_ w hw) ?_;intro a ha e;rw[e];exact (qhf T hr (G.to_ a ha).1).lt
  . exact G.served (qff c reach i,i) ((qew c reach 5 _).mpr ⟨i,hi,rfl⟩)
  . exact qei (G.apart.imp fun h=>by simp only[decide_eq_true_eq];exact h v hv)
end
theorem qg4 {a b x:Int}:min a b<=x↔a<=x\/b<=x:=by
  rcases Int.le_total a b with h | h
  . rw[Int.min_eq_left h];exact ⟨.inl,fun q=>q.elim id (Int.le_trans h)⟩
  . rw[Int.min_eq_right h];exact ⟨.inr,fun q=>q.elim (Int.le_trans h) id⟩
section
variable {M:List (List Int)} {e:Nat->Int}
theorem qg7 {c:Nat}{x:Int}(hx:x<99):∀n,qar M e n c<=x↔∃m,m<n/\m≠0/\(qau m).length=c/\qfc M e m<=x
  | 0=>by simp[qar];assumption
  | n+1=>by
    have ih:=qg7 (c:=c) hx n;unfold qar;by_cases h:n≠0/\(qau n).length=c
    . rw[if_pos h,qg4,ih];constructor
      . rintro (⟨m,a,b⟩ | hn)
        . exact ⟨m,by lia,b⟩
        . exact ⟨n,by simp +arith,h.1,h.2,hn⟩
      . rintro ⟨m,a,b,e1,e2⟩
        by_cases hm:m=n
        . right;rw[<- hm];exact e2
        . exact .inl ⟨m,by lia,b,e1,e2⟩
    . rw[if_neg h,ih];constructor
      . rintro ⟨m,a,b⟩;exact ⟨m,by lia,b⟩
      . rintro ⟨m,a,b,e1,e2⟩
        by_cases hm:m=n
        . subst hm;exact absurd ⟨b,e1⟩ h
        . exact ⟨m,by lia,b,e1,e2⟩
theorem qiu {c:Nat}:∀n,qar M e n c=99\/∃m,m<n/\m≠0/\(qau m).length=c/\qar M e n c=qfc M e m
  | 0=>.inl rfl
  | n+1=>by
    have ih:=qiu (c:=c) n;unfold qar;by_cases h:n≠0/\(qau n).length=c
    . rw[if_pos h];by_cases hl:qar M e n c<=qfc M e n
      . rw[Int.min_eq_left hl];rcases ih with ih | ⟨m,a,b⟩
        . exact .inl ih
        . exact .inr ⟨m,by lia,b⟩
      . rw[Int.min_eq_right (by lia)];exact .inr ⟨n,by simp +arith,h.1,h.2,rfl⟩
    . rw[if_neg h];rcases ih with ih | ⟨m,a,b⟩
      . exact .inl ih
      . exact .inr ⟨m,by lia,b⟩
theorem qho {m:Nat}{x:Int}(h0:0<=x):qfc M e m<=x↔∀j,j<5->qb3 M m j - e j<=x:=by
  unfold qfc;constructor
  . exact fun h j hj=>Int.le_trans ((qcj (f:=fun j=>qb3 M m j - e j) (List.range 5) 0).2 j (List.mem_range.mpr hj)) h
  . intro h;rcases List.mem_cons.mp (qc7 (f:=fun j=>qb3 M m j - e j) (List.range 5) 0) with h' | h'
    . rw[h'];exact h0
    . refine qa4 (List.mem_map.mp h') ?_;intro j hj e';rw[<- e'];exact h j (List.mem_range.mp hj)
theorem qj2 {f:Nat->Int}{x:Int}(hx:x<99):∀l:List Nat,l.foldr (fun b a=>min a (f b)) 99<=x↔∃b∈l,f b<=x
  | []=>by simp;omega
  | b::l=>by
    have:=qj2 (f:=f) hx l;simp only[List.foldr_cons,qg4,this,List.mem_cons,exists_eq_or_imp];constructor
    . rintro (h | h)
      . exact .inr h
      . exact .inl h
    . rintro (h | h)
      . exact .inr h
      . exact .inl h
theorem qf5 {f:Nat->Int}:∀l:List Nat,l.foldr (fun b a=>min a (f b)) 99=99\/∃b∈l,l.foldr (fun b a=>min a (f b)) 99=f b
  | []=>.inl rfl
  | b::l=>by
    simp only[List.foldr_cons];by_cases h:l.foldr (fun b a=>min a (f b)) 99<=f b
    . rw[Int.min_eq_left h];rcases qf5 (f:=f) l with h' | ⟨b',hb,e⟩
      . exact .inl h'
      . exact .inr ⟨b',by simp[hb],e⟩
    . rw[Int.min_eq_right (by lia)];exact .inr ⟨b,by simp,rfl⟩
theorem qhr {m:Nat}{x:Int}(hx:x<99):qb3 M m j<=x↔∃b∈qau m,Dm M b j<=x:=qj2 hx _
end
theorem qfi {m:Nat}(h:b∈qau m):b<5:=by
  unfold qau at h;exact List.mem_range.mp (List.mem_filter.mp h).1
theorem qs7:∀m:Fin 32,m.val≠0->qau m≠[]:=by decide +kernel
theorem qmr (m:Nat):(qau m).Nodup:=List.Nodup.sublist List.filter_sublist List.nodup_range
theorem qlw:∀(m0:Fin 32) (p:Fin 6),p.val≠0->(qau m0).length<=p.val->∃m:Fin 32,m.val≠0/\(qau m).length=p.val/\∀b∈qau m0,b∈qau m:=by decide +kernel
noncomputable def qpw (f:Nat->Bool):Nat:=(if f 0 then 1 else 0)+(if f 1 then 2 else 0)+(if f 2 then 4 else 0)+(if f 3 then 8 else 0)+(if f 4 then 16 else 0)
theorem qmc (f:Nat->Bool):qpw f<32/\qau (qpw f)=(List.range 5).filter f:=by
  have h:∀a0 a1 a2 a3 a4:Bool,((if a0 then 1 else 0)+(if a1 then 2 else 0)+(if a2 then 4 else 0)+(if a3 then 8 else 0)+(if a4 then 16 else 0):Nat)<32/\qau ((if a0 then 1 else 0)+(if a1 then 2 else 0)+(if a2 then 4 else 0)+(if a3 then 8 else 0)+(if a4 then 16 else 0))=(if a0 then [0] else [])++(if a1 then [1] else [])++(if a2 then [2] else [])++(if a3 then [3] else [])++(if a4 then [4] else []):=by decide +kernel
  have:=h (f 0) (f 1) (f 2) (f 3) (f 4);refine ⟨this.1,?_⟩;unfold qpw;rw[this.2];show _=List.filter f [0,1,2,3,4];simp only[List.filter_cons,List.filter_nil];cases f 0 <;> cases f 1 <;> cases f 2 <;> cases f 3 <;> cases f 4 <;> rfl
section
theorem qob (hr:0<=reach)(hr2:reach<=30){p:Nat}(hp:1<=p)(hp5:p<=5):qar (qa6 c 4) (eI c) 32 p<=reach↔(qad c reach).1.length<=p:=by
  refine Exists.elim (qn4 c) ?_;intro sub T;refine qnz (qkz (c:=c) hr) ?_;intro w1 w2 w3 w4 w5 w6;rw[qg7 (by lia)];have G:=ql0 (c:=c) hr;constructor
  . rintro ⟨m,h32,h0,hl,hn⟩
    rw[qho hr] at hn;rw[w6,<- hl];refine qhh (f:=fun a v=>DC c a v<=RC c reach a) (G.apart.imp fun h v hv=>h v (qfi hv)) fun a ha=>?_
    have ha5:=w3 a ha;have he:=qmk c a;refine qa4 ((qhr (M:=qa6 c 4) (m:=m) (j:=a) (x:=reach+eI c a) (by omega)).mp (by have:=hn a ha5;omega)) ?_;intro b hb hd;exact ⟨b,hb,by rw[T.sym a b ha5 (qfi hb)];exact hd⟩
  . intro h;refine And.elim ?_ (qmc fun b=>decide (b∈(qad c reach).1));intro h32 hb;generalize qpw (fun b=>decide (b∈(qad c reach).1))=m0 at h32 hb;have hlen:(qau m0).length<=(qad c reach).1.length:=qps (qmr m0) fun b hb'=>by
      rw[hb,List.mem_filter] at hb';simpa using hb'.2
    refine qal (qlw ⟨m0,h32⟩ ⟨p,by lia⟩ (by show p≠0;lia) (by show (qau m0).length<=p;lia)) ?_;intro m m1 m2 m3;refine ⟨m.val,m.isLt,m1,m2,(qho hr).mpr fun j hj=>?_⟩;refine qa4 (w4 j hj) ?_;intro w hw hd;have he:=qmk c j;have:qb3 (qa6 c 4) m.val j<=reach+eI c j:=(qhr (by omega)).mpr ⟨w,m3 w (by rw[hb,List.mem_filter];exact ⟨List.mem_range.mpr (w2 w hw),by simpa using hw⟩),by have h2:=T.sym j w hj (w2 w hw);show DC c w j<=_;rw[<- h2];exact hd⟩;omega
theorem qpz {p:Nat}(hp:1<=p)(hp5:p<=5):qar (qa6 c 4) (eI c) 32 p=0\/∃i j,i<5/\j<5/\j≠i/\qar (qa6 c 4) (eI c) 32 p=DC c i j - eI c i/\0<qar (qa6 c 4) (eI c) 32 p:=by
  refine Exists.elim (qn4 c) ?_;intro sub T;have h24:qar (qa6 c 4) (eI c) 32 p<=24:=by
    refine (qg7 (by simp) 32).mpr ?_;refine qal (qlw ⟨0,by simp⟩ ⟨p,by lia⟩ (by show p≠0;lia) (by show (qau 0).length<=p;rw[show qau 0=[] from by decide +kernel];simp)) ?_;intro m m1 m2 m3;refine ⟨m.val,m.isLt,m1,m2,(qho (by simp)).mpr fun j hj=>?_⟩;have he:=qmk c j;refine Exists.elim (List.exists_mem_of_ne_nil _ (qs7 m m1)) ?_;intro b hb;have:qb3 (qa6 c 4) m.val j<=24:=(qhr (by simp)).mpr ⟨b,hb,T.le b j (qfi hb) hj⟩;omega
  rcases qiu (M:=qa6 c 4) (e:=eI c) (c:=p) 32 with h | ⟨m,h32,h0,hl,he⟩
  . simp_all
  . rw[he];rw[he] at h24;have hmem:=qc7 (f:=fun j=>qb3 (qa6 c 4) m j - eI c j) (List.range 5) 0;have hge:=(qcj (f:=fun j=>qb3 (qa6 c 4) m j - eI c j) (List.range 5) 0).1;change qfc (qa6 c 4) (eI c) m∈_ at hmem;change 0<=qfc (qa6 c 4) (eI c) m at hge;rcases List.mem_cons.mp hmem with h | h
    . exact .inl h
    . refine qa4 (List.mem_map.mp h) ?_;intro j hj e';have hj:=List.mem_range.mp hj;have hej:=qmk c j;rcases qf5 (f:=fun b=>Dm (qa6 c 4) b j) (qau m) with h' | ⟨b,hb,h'⟩
      . change qb3 (qa6 c 4) m j=99 at h';omega
      . change qb3 (qa6 c 4) m j=Dm (qa6 c 4) b j at h';have hb5:=qfi hb;by_cases hz:qfc (qa6 c 4) (eI c) m=0
        . exact .inl hz
        . refine .inr ⟨j,b,hj,hb5,?_,?_,by omega⟩
          . intro e;subst e;have:=T.z b hj;unfold DC at this;omega
          . rw[T.sym j b hj hb5];unfold DC;simp_all
end
theorem qbz {q:α->Bool}:∀{L:List α},L.Pairwise (fun a b=>q b=true->q a=true)->∀(j:Nat) (y:α),L[j]?=some y->(q y=true↔j<(L.filter q).length)
  | [],_,j,y,h=>by simp at h
  | a::l,hp,j,y,h=>by
    refine And.elim ?_ (List.pairwise_cons.mp hp);intro h1 h2;cases hq:q a with
    | true=>
      rw[List.filter_cons_of_pos hq];cases j with
      | zero=>simp at h;subst h;simp[hq]
      | succ j=>
        simp at h;rw[qbz h2 j y h];simp
    | false=>
      rw[List.filter_cons_of_neg (by simp[hq])];have hn:∀b∈l,q b=false:=fun b hb=>by
        cases hb':q b with
        | false=>rfl
        | true=>have:=h1 b hb hb';rw[hq] at this;cases this
      have:l.filter q=[]:=List.filter_eq_nil_iff.mpr fun b hb=>by rw[hn b hb];simp
      rw[this];cases j with
      | zero=>simp at h;subst h;simp[hq]
      | succ j=>simp at h;have:=hn y (List.mem_of_getElem? h);simp[this]
theorem qd3 {q:α->Bool}{L:List α}(h:L.Pairwise (fun a b=>q b=true->q a=true)):(∀y∈L.take (L.filter q).length,q y=true)/\∀y∈L.drop (L.filter q).length,q y=false:=by
  constructor
  . intro y hy;obtain ⟨j,hj⟩:=List.mem_iff_getElem?.mp hy;rw[List.getElem?_take] at hj;by_cases hlt:j<(L.filter q).length
    . rw[if_pos hlt] at hj;exact (qbz h j y hj).mpr hlt
    . rw[if_neg hlt] at hj;cases hj
  . intro y hy;obtain ⟨j,hj⟩:=List.mem_iff_getElem?.mp hy;rw[List.getElem?_drop] at hj;have:=qbz h _ y hj;cases hq:q y with
    | false=>rfl
    | true=>have:=this.mp hq;lia
theorem qls {R:α->α->Prop}(irr:∀a,¬R a a)(tr:∀a b c,R a b->R b c->R a c):∀{l l':List α},l.Pairwise R->l'.Pairwise R->(∀x,x∈l↔x∈l')->l=l'
  | [],[],_,_,_=>rfl
  | [],b::t,_,_,h=>by have:=(h b).mpr (by simp);simp at this
  | a::t,[],_,_,h=>by have:=(h a).mp (by simp);simp at this
  | a::t,b::t',h1,h2,h=>by
    obtain ⟨a1,a2⟩:=List.pairwise_cons.mp h1;obtain ⟨b1,b2⟩:=List.pairwise_cons.mp h2;have hab:a=b:=by
      rcases List.mem_cons.mp ((h a).mp (by simp)) with e | e
      . exact e
      . rcases List.mem_cons.mp ((h b).mpr (by simp)) with e' | e'
        . exact e'.symm
        . exact absurd (tr _ _ _ (a1 b e') (b1 a e)) (irr a)
    subst hab;congr 1
    refine qls irr tr a2 b2 fun x=>⟨fun hx=>?_,fun hx=>?_⟩
    . rcases List.mem_cons.mp ((h x).mp (by simp[hx])) with e | e
      . subst e;exact absurd (a1 x hx) (irr x)
      . exact e
    . rcases List.mem_cons.mp ((h x).mpr (by simp[hx])) with e | e
      . subst e;exact absurd (b1 x hx) (irr x)
      . exact e
noncomputable def sgn (k:Int):Int:=if k.fmod 2==1 then -k else k
def LtS (a b:Int×Int):Prop:=a.1<b.1\/(a.1=b.1/\sgn a.2<sgn b.2)
theorem LtS.irr (a:Int×Int):¬LtS a a:=by unfold LtS;simp +arith
theorem LtS.tr (a b c:Int×Int):LtS a b->LtS b c->LtS a c:=qqs
noncomputable def qgp (L:List (Int×Int)) (p:Int×Int):Nat:=if p.2.fmod 2==1 then (L.filter fun y=>decide (y.1<p.1)).length else (L.filter fun y=>decide (y.1<=p.1)).length
noncomputable def qkd (L:List (Int×Int)) (p:Int×Int):List (Int×Int):=L.take (qgp L p)++[p]++L.drop (qgp L p)
noncomputable def qjm (ps:List (Int×Int)):List (Int×Int):=ps.foldl qkd []
theorem mem_insI {x y:Int×Int}:y∈qkd L x↔y∈L\/y=x:=by
  unfold qkd;rw[List.mem_append,List.mem_append,List.mem_singleton];have:y∈L↔y∈L.take (qgp L x)\/y∈L.drop (qgp L x):=by rw[<- List.mem_append,List.take_append_drop]
  rw[this];constructor
  . rintro ((h | h) | h)
    . exact .inl (.inl h)
    . exact .inr h
    . exact .inl (.inr h)
  . rintro ((h | h) | h)
    . exact .inl (.inl h)
    . exact .inr h
    . exact .inl (.inr h)
theorem qkc (L:List (Int×Int))(x:Int×Int):(qkd L x).length=L.length+1:=by
  unfold qkd;have:=congrArg List.length (List.take_append_drop (qgp L x) L);rw[List.length_append] at this;simp only[List.length_append,List.length_singleton];lia
theorem qjx (h:L.Pairwise LtS):L.Pairwise fun a b=>a.1<=b.1:=h.imp fun h=>by unfold LtS at h;lia
theorem qnk (h:L.Pairwise fun a b=>a.1<=b.1)(x:Int):L.Pairwise fun a b=>decide (b.1<x)=true->decide (a.1<x)=true:=h.imp fun h=>by simp only[decide_eq_true_eq];lia
theorem qnl (h:L.Pairwise fun a b=>a.1<=b.1)(x:Int):L.Pairwise fun a b=>decide (b.1<=x)=true->decide (a.1<=x)=true:=h.imp fun h=>by simp only[decide_eq_true_eq];lia
theorem qkb {p:Int×Int}(h:L.Pairwise LtS)(hp:∀y∈L,0<=y.2/\y.2<p.2):(qkd L p).Pairwise LtS:=by
  have h1:=qjx h;have hs:∀y∈L,-p.2<sgn y.2/\sgn y.2<p.2:=fun y hy=>by have:=hp y hy;unfold sgn;split <;> omega
  have hA:∀y∈L.take (qgp L p),LtS y p:=fun y hy=>by
    have hyL:=List.mem_of_mem_take hy;have:=hs y hyL;unfold qgp at hy;by_cases ho:(p.2.fmod 2==1)=true
    . rw[if_pos ho] at hy;have:=(qd3 (qnk h1 p.1)).1 y hy;simp only[decide_eq_true_eq] at this;exact .inl this
    . rw[if_neg ho] at hy;have:=(qd3 (qnl h1 p.1)).1 y hy;simp only[decide_eq_true_eq] at this;unfold LtS;have:sgn p.2=p.2:=by unfold sgn;rw[if_neg ho]
      grind
  have hB:∀y∈L.drop (qgp L p),LtS p y:=fun y hy=>by
    have hyL:=List.mem_of_mem_drop hy;have:=hs y hyL;unfold qgp at hy;by_cases ho:(p.2.fmod 2==1)=true
    . rw[if_pos ho] at hy;have:=(qd3 (qnk h1 p.1)).2 y hy;simp only[decide_eq_false_iff_not] at this;unfold LtS;have:sgn p.2=-p.2:=by unfold sgn;rw[if_pos ho]
      omega
    . rw[if_neg ho] at hy;have:=(qd3 (qnl h1 p.1)).2 y hy;simp only[decide_eq_false_iff_not] at this;exact .inl (by simp_all)
  have hL:(L.take (qgp L p)++L.drop (qgp L p)).Pairwise LtS:=by rw[List.take_append_drop];exact h
  refine qee (List.pairwise_append.mp hL) ?_;intro q1 q2 q3;unfold qkd;refine List.pairwise_append.mpr ⟨List.pairwise_append.mpr ⟨q1,List.pairwise_singleton _ _,fun a ha b hb=>?_⟩,q2,fun a ha b hb=>?_⟩
  . rw[List.mem_singleton.mp hb];exact hA a ha
  . rcases List.mem_append.mp ha with h' | h'
    . exact q3 a h' b hb
    . rw[List.mem_singleton.mp h'];exact hB b hb
def Turns (ps:List (Int×Int)):Prop:=ps.Pairwise (fun a b=>a.2<b.2)/\∀y∈ps,0<=y.2
theorem qng (ps:List (Int×Int))(p:Int×Int):qjm (ps++[p])=qkd (qjm ps) p:=by unfold qjm;rw[List.foldl_append];rfl
theorem qlg:∀(ps acc:List (Int×Int)) (y:Int×Int),y∈ps.foldl qkd acc↔y∈acc\/y∈ps
  | [],acc,y=>by simp
  | p::ps,acc,y=>by
    rw[List.foldl_cons,qlg ps,mem_insI,List.mem_cons];constructor
    . rintro ((h | h) | h)
      . exact .inl h
      . exact .inr (.inl h)
      . exact .inr (.inr h)
    . rintro (h | h | h)
      . exact .inl (.inl h)
      . exact .inl (.inr h)
      . exact .inr h
theorem qfh (ps:List (Int×Int))(y:Int×Int):y∈qjm ps↔y∈ps:=by unfold qjm;rw[qlg];simp
theorem qf6:∀(ps acc:List (Int×Int)),acc.Pairwise LtS->(∀y∈acc,0<=y.2/\∀p∈ps,y.2<p.2)->Turns ps->(ps.foldl qkd acc).Pairwise LtS/\(ps.foldl qkd acc).length=acc.length+ps.length
  | [],acc,h,_,_=>⟨h,rfl⟩
  | p::ps,acc,h,ha,ht=>by
    refine And.elim ?_ (List.pairwise_cons.mp ht.1);intro t1 t2;have:=qf6 ps (qkd acc p) (qkb h fun y hy=>⟨(ha y hy).1,(ha y hy).2 p (by simp)⟩) (fun y hy=>by
      rcases mem_insI.mp hy with h' | h'
      . exact ⟨(ha y h').1,fun q hq=>(ha y h').2 q (by simp[hq])⟩
      . subst h';exact ⟨ht.2 _ (by simp),t1⟩) ⟨t2,fun y hy=>ht.2 y (by simp[hy])⟩
    rw[List.foldl_cons,qkc] at *;exact ⟨this.1,by rw[this.2,List.length_cons];simp +arith⟩
theorem qjy {ps:List (Int×Int)}(h:Turns ps):(qjm ps).Pairwise LtS/\(qjm ps).length=ps.length:=by
  have:=qf6 ps [] List.Pairwise.nil (by simp) h;exact ⟨this.1,by rw[qjm,this.2];simp⟩
theorem Turns.pre {a b:List (Int×Int)}(h:Turns (a++b)):Turns a:=⟨(List.pairwise_append.mp h.1).1,fun y hy=>h.2 y (by simp[hy])⟩
theorem qdv {x:Int}:∀{l:List Int},l.Pairwise (·<=·)->x∈l->l.idxOf x=(l.filter fun y=>decide (y<x)).length
  | [],_,h=>by simp at h
  | a::l,hp,h=>by
    refine And.elim ?_ (List.pairwise_cons.mp hp);intro h1 h2;by_cases e:a=x
    . subst e;rw[List.idxOf_cons_self];have:(a::l).filter (fun y=>decide (y<a))=[]:=List.filter_eq_nil_iff.mpr fun b hb=>by
        simp only[decide_eq_true_eq];rcases List.mem_cons.mp hb with e | e
        . simp_all
        . have:=h1 b e;simp_all
      rw[this];rfl
    . have hx:x∈l:=by
        rcases List.mem_cons.mp h with e' | e'
        . exact absurd e'.symm e
        . exact e'
      have:=h1 x hx;have e':(a==x)=false:=by simpa using e
      rw[List.idxOf_cons,e',cond_false,qdv h2 hx,List.filter_cons_of_pos (by simp;lia)];rfl
theorem qlj {x:Int}:∀l:List Int,(l.filter fun y=>decide (y<=x)).length=(l.filter fun y=>decide (y<x)).length+l.count x
  | []=>rfl
  | a::l=>by
    have:=qlj (x:=x) l;have fp:∀{p:Int->Bool},p a=true->((a::l).filter p).length=(l.filter p).length+1:=fun h=>by rw[List.filter_cons_of_pos h];rfl
    have fn:∀{p:Int->Bool},¬p a=true->((a::l).filter p).length=(l.filter p).length:=fun h=>by rw[List.filter_cons_of_neg h]
    rw[List.count_cons];rcases Int.lt_trichotomy a x with h | h | h
    . rw[fp (decide_eq_true (Int.le_of_lt h)),fp (decide_eq_true h),this,if_neg fun q:(a==x)=true=>Int.ne_of_lt h (eq_of_beq q)];exact Nat.add_right_comm _ _ _
    . rw[fp (decide_eq_true (Int.le_of_eq h)),fn fun q=>absurd (of_decide_eq_true q) (h ▸ Int.lt_irrefl _),this,if_pos (beq_iff_eq.mpr h)];rfl
    . rw[fn fun q=>absurd h (Int.not_lt.mpr (of_decide_eq_true q)),fn fun q=>Int.lt_asymm h (of_decide_eq_true q),this,if_neg fun q:(a==x)=true=>Int.ne_of_gt h (eq_of_beq q)];rfl
noncomputable def qf2 (rs:List Int):List (Int×Int):=(rs.zipIdx.filter fun x=>decide (0<=x.1)).map fun x=>(x.1,((x.2:Nat):Int))
theorem qn1 {rs:List Int}:∀n,(rs.zipIdx n).Pairwise fun a b=>a.2<b.2:=by
  induction rs with
  | nil=>intro n;simp
  | cons r rs ih=>
    intro n;rw[List.zipIdx_cons];refine List.pairwise_cons.mpr ⟨fun b hb=>?_,ih (n+1)⟩;refine qee (List.mem_zipIdx hb) ?_;intro h1 h2 h3;show n<b.2;assumption
theorem qdh (rs:List Int):Turns (qf2 rs):=by
  unfold qf2;refine ⟨?_,fun y hy=>?_⟩
  . rw[List.pairwise_map];exact ((qn1 0).filter _).imp fun h=>by simp only;simp_all
  . refine qa4 (List.mem_map.mp hy) ?_;intro x _ e;rw[<- e];simp only;simp +arith
theorem pairsI_mem {rs:List Int}{y:Int×Int}:y∈qf2 rs↔∃k:Nat,rs[k]?=some y.1/\y.2=k/\0<=y.1:=by
  unfold qf2;rw[List.mem_map];constructor
  . rintro ⟨x,hx,e⟩
    rw[List.mem_filter] at hx;have h1:=List.mem_zipIdx_iff_getElem?.mp hx.1;have h2:=hx.2;simp only[decide_eq_true_eq] at h2;rw[<- e];exact ⟨x.2,h1,rfl,h2⟩
  . rintro ⟨k,h1,h2,h3⟩
    refine ⟨(y.1,k),List.mem_filter.mpr ⟨List.mem_zipIdx_iff_getElem?.mpr h1,by simpa using h3⟩,?_⟩;simp only[<- h2]
theorem qd4 (rs:List Int):(qf2 rs).length<=rs.length:=by
  unfold qf2;rw[List.length_map];have:=List.length_filter_le (fun x:Int×Nat=>decide (0<=x.1)) rs.zipIdx;rw[List.length_zipIdx] at this;exact this
end
section
noncomputable def qqk:Nat->Int
  | 0=>1
  | 1=>3
  | 2=>10
  | 3=>7
  | 4=>74
  | _=>4121
noncomputable abbrev qml (scr:List Int) (t:Nat):List Int:=(pickL (pickL scr none (some 60) none) (some ((t:Nat):Int)) none (some 6)).map fun v=>v.fmod 1000000
noncomputable def qp9 (scr:List Int) (t:Nat):Int:=qqk t+(qml scr t).sum
noncomputable def qsg (a:List (Option AV)):List (Option AV):=a++List.replicate (43 - a.length) none
section
variable (F : Fac W) {scr:List Int}
theorem qnr (l:List α)(t:Nat):(pickL l (some ((t:Nat):Int)) none (some 6)).length<=l.length:=by
  refine Nat.le_trans (List.length_filterMap_le _ _) (sliceRange_length_le _ _ _ _ (fun hc=>?_) fun hc=>?_)
  . simp only[sliceBounds] at hc ⊢;simp only[hc,if_true];constructor
    . omega
    . simp
  . simp[sliceBounds] at hc
theorem qlt {scr:List Int}(hz:scr.length<=63)(t:Nat):(pickL (pickL scr none (some 60) none) (some ((t:Nat):Int)) none (some 6)).length<=60:=by
  refine Nat.le_trans (qnr _ t) ?_;rw[show pickL scr none (some 60) none=scr.take 60 from qfy scr 60,List.length_take];lia
theorem qo9 {f:α->Int}{l:List α}:Lv σ (.lst (l.map fun x=>.int (f x))) (qa0 (l.map f)):=.inl (by rw[qa0,List.map_map];rfl)
include F in
theorem qtv (hz:scr.length<=63):Ex ⟨W,Y,nm22.1,cd⟩ k fr (qsg [some (.lst (qa0 scr))]) σ (nth bd22.1 0) .next ((qsg [some (.lst (qa0 scr))]).set 1 (some (.lst (qaq (qp9 scr))))) σ:=by
  have e1:AV.lst (qdw (qa0 scr) none (some 60) none)=.lst (qa0 (pickL scr none (some 60) none)):=by rw[qa0,qim]
  have e2:∀x:Nat×Int,AV.lst (qdw (qa0 (pickL scr none (some 60) none)) (some x.1) none (some 6))=.lst (qa0 (pickL (pickL scr none (some 60) none) (some x.1) none (some 6))):=fun x=>by rw[qa0,qim]
  have z1:(qa0 scr).length<=sizeLine:=by rw[sizeLine_eq,qa0,List.length_map];lia
  have z2:(qa0 (pickL scr none (some 60) none)).length<=sizeLine:=by rw[qa0,List.length_map,show pickL scr none (some 60) none=scr.take 60 from qfy scr 60,List.length_take,sizeLine_eq];lia
  have hz3:∀x:Nat×Int,(pickL (pickL scr none (some 60) none) (some x.1) none (some 6)).length<=2 ^ 20:=fun x=>Nat.le_trans (qlt hz x.1) (by decide)
  have h:Ex ⟨W,Y,nm22.1,cd⟩ k fr (qsg [some (.lst (qa0 scr))]) σ (nth bd22.1 0) .next ((qsg [some (.lst (qa0 scr))]).set 1 (some (.lst (([(0,1),(1,3),(2,10),(3,7),(4,74),(5,4121)]:List (Nat×Int)).map fun x=>AV.int (x.2+(qml scr x.1).sum))))) σ:=by
    show Ex _ _ _ _ _ (.Assign _ _ _) _ _ _;with_reducible exact .(Ib4 (i:=1) Uu .(ItE.call .(Iaf 26 F.b_enumerate) .(Kept.type) (Evs.cons .(Ev.list (Evs.cons .(Ia1) .((Evs.cons .(Ia1) .((Evs.cons .(Ia1) .((Evs.cons .(Ia1) .((Evs.cons .(Ia1) .((Evs.cons .(Ia1) .(Evs.nil))))))))))))) .(Evs.nil)) .(CallIt.enum (Lv.fz))) (CompIn.of [none,none,none,none,some 0] (by kernel_rfl) (by kernel_rfl)) .(CompC.map (ht:=.(fun _=>⟨_,_,_,rfl⟩)) Uu (([(0,1),(1,3),(2,10),(3,7),(4,74),(5,4121)]:List (Nat×Int))) ((fun x=>AV.tup [.int x.1,.int x.2])) ((fun x=>AV.int (x.2+(qml scr x.1).sum))) _ (fun x hx=>.(As.tuple .(AsL.cons .(Ia5 1) .(AsL.cons .(Ia5 2) .(AsL.nil) (hp:=Uu)) (hp:=Uu)))) (fun x hx=>.(Ia2 .(Ia0 2) .(Ev.call .(Iaf 3 F.b_sum) .(Kept.builtin) (Evs.cons .(Iae .(ItE.list .(Ian .(Ibm .(Ian .(Ibm .(Ia6 4) EvO.none (Ibe .(Ia1)) EvO.none .(Lv.fz) (by simp) (by assumption)) e1) (Ibe .(Ia0 1)) EvO.none (Ibe .(Ia1)) .(Lv.fz) (by simp) (by assumption)) (e2 x)) .(Lv.fz)) (CompIn.of [none,none] (by kernel_rfl) (by kernel_rfl)) .(CompC.map (hp:=by with_unfolding_all exact qai (fun _=>rfl) _) Uu (pickL (pickL scr none (some 60) none) (some x.1) none (some 6)) (AV.int) ((fun v=>AV.int (v.fmod 1000000))) _ (fun x1 hx1=>.(Ia5 1)) (fun x1 hx1=>.(Ia2 .(Ia0 1) .(Ia1) .(Iap (by decide)))) .(fun _=>Weak.set Uu) (hz:=by exact hz3 x))) .(Evs.nil)) EvK.nil ((by exact Calls.sum qo9))) .(Op2.add))) .(fun _=>Ib0 (Weak.set Uu) Uu)) .(qai (fun _=>Uu) _))
  exact h
end
end
section
section
variable (F : Fac W)
noncomputable def qfn (c:Nat->Int):List Int:=(List.range 6).flatMap fun t=>qmy (c t) (((t:Nat):Int).fmod 2)
noncomputable def lm1 (c:Nat->Int):List (Option AV):=[none,some (.lst (qaq c)),none,none,none,none,none,none,none,none,none,none,none,none,none,none,none,none,none,none,none,none,none,none,none,none,none,none,none,none,none,none,none,none,none,none,none,none,none,none,none,none,none]
noncomputable def lm2 (c:Nat->Int):List (Option AV):=[none,some (.lst (qaq c)),some (.loc 0),none,none,none,none,none,none,none,none,none,none,none,none,none,none,none,none,none,none,none,none,none,none,none,none,none,none,none,none,none,none,none,none,none,none,none,none,none,none,none,none]
theorem qqe (n w:Int):(qmy n w).length<=6:=by
  refine qt5 (qh7 (n:=n) (w:=w)) ?_;intro hl h t e;unfold qmy;rw[e] at hl ⊢;simpa using hl
theorem qpo (c:Nat->Int):(qfn c).length<=36:=by
  have h:=fun t=>qqe (c t) (((t:Nat):Int).fmod 2)
  have h0:=h 0;have h1:=h 1;have h2:=h 2;have h3:=h 3;have h4:=h 4;have h5:=h 5;show ([0,1,2,3,4,5].flatMap fun t=>qmy (c t) (((t:Nat):Int).fmod 2)).length<=36;simp only[List.flatMap_cons,List.flatMap_nil,List.length_append,List.length_nil];omega
theorem qm2 (hc:∀t,0<=c t/\c t<64 ^ 6):Reads [c 0,c 1,c 2,c 3,c 4,c 5] (qfn c):=by
  have h:=fun t rest=>qt2 (w:=((t:Nat):Int).fmod 2) (hc t).1 (hc t).2 rest
  show Reads _ ([0,1,2,3,4,5].flatMap fun t=>qmy (c t) (((t:Nat):Int).fmod 2));simp only[List.flatMap_cons,List.flatMap_nil];exact ⟨_,h 0 _,_,h 1 _,_,h 2 _,_,h 3 _,_,h 4 _,_,h 5 _,rfl⟩
include F in
theorem qtu:Ex ⟨W,Y,nm22.1,cd⟩ (k+1) fr (lm1 c) [] (nth bd22.1 1) .next (lm2 c) [.iter (qa0 (qfn c))]:=by
  have hz:((List.range 6).flatMap fun t:Nat=>qmy (c t) (((t:Nat):Int).fmod 2)).length<=2 ^ 20:=Nat.le_trans (qpo c) (by decide);have hkd:=(F.f13 .none .none rfl rfl).kept;have e1:AV.lst ((List.range 6).flatMap fun t:Nat=>(qmy (c t) (((t:Nat):Int).fmod 2)).map fun o=>AV.int o)=.lst (qa0 (qfn c)):=by
    rw[qa0,qfn,List.map_flatMap]
  have hpt:plains (qa0 (qfn c))=true:=qft _;have h:Ex ⟨W,Y,nm22.1,cd⟩ (k+1) fr (lm1 c) [] (nth bd22.1 1) .next ((lm1 c).set 2 (some (.loc ([]:List AObj).length))) ([]++[.iter (qa0 (qfn c))]):=by
    show Ex _ _ _ _ _ (.Assign _ _ _) _ _ _;with_reducible exact .(Ia4 .(Ev.call .(Iaf 27 F.b_iter) .(Kept.builtin) (Evs.cons .(Ian .(Iae .(ItE.call .(Iaf 26 F.b_enumerate) .(Kept.type) (Evs.cons .(Ia0 1) .(Evs.nil)) .(CallIt.enum (Lv.fz))) (CompIn.of [none,none,none,none,none] (by kernel_rfl) (by kernel_rfl)) .(Ids Uu Uu (List.range 6) ((fun t:Nat=>AV.tup [.int ((t:Nat):Int),.int (c t)])) ((fun t:Nat=>qmy (c t) (((t:Nat):Int).fmod 2))) ((fun _ o=>AV.int o)) ((fun _ o=>AV.int o)) _ (fun x hx=>.(As.tuple .(AsL.cons .(Ia5 1) .(AsL.cons .(Ia5 2) .(AsL.nil) (hp:=Uu)) (hp:=Uu)))) _ (fun x hx=>.(ItE.list .(Ev.call .(Ial 4 F.g_law_digits) (hkd) (Evs.cons .(Ia0 2) .((Evs.cons .(Ia2 .(Ia0 1) .(Ia1) .(Iap (by decide))) .(Evs.nil)))) EvK.nil (qjb F)) .(Lv.fz))) _ (fun x hx y hy=>.(Ia5 3)) (fun x hx y hy=>.(Ia0 3)) .(fun _=>Ib0 (Weak.set Uu) Uu) (by intro _ _;exact Weak.set Uu) (by intro _ _;with_unfolding_all rfl) (by first | (with_reducible assumption) | with_unfolding_all rfl) (by intro _ _;first | (with_reducible assumption) | with_unfolding_all rfl) Uu (by with_unfolding_all exact Lv.fz) (by intro _;with_unfolding_all exact Lv.fz) Uu (by intro _;with_unfolding_all exact qap _) (by with_unfolding_all first | exact (fun _=>⟨_,_,_,rfl⟩) | exact (fun h=>by cases h)) (by intro _;with_unfolding_all first | exact (fun _=>⟨_,_,_,rfl⟩) | exact (fun h=>by cases h)) (by intro _ _;with_unfolding_all rfl) (by exact hz))) (e1)) .(Evs.nil)) EvK.nil (Idb hpt)) .(Ia5 2))
  exact h
end
end
section
section
variable (F : Fac W)
noncomputable abbrev st1 (c:Nat->Int):List AObj:=[.iterDone,.lst (qaq c)]
noncomputable def lm3 (c:Nat->Int):List (Option AV):=[none,some (.lst (qaq c)),none,some (.lst (qag c)),none,none,none,none,none,none,none,none,none,none,none,none,none,none,none,none,none,none,none,none,none,none,none,none,none,none,none,none,none,none,none,none,none,none,none,none,none,none,none]
noncomputable def lm4 (c:Nat->Int):List (Option AV):=[none,some (.lst (qaq c)),none,some (.lst (qag c)),some (.bool true),none,none,none,none,none,none,none,none,none,none,none,none,none,none,none,none,none,none,none,none,some (.loc 2),none,none,none,none,none,none,none,none,none,none,none,none,none,none,none,none,none]
noncomputable def lm5 (c:Nat->Int) (n:Nat):List (Option AV):=[none,some (.lst (qaq c)),none,some (.lst (qag c)),some (.bool true),some (.loc n),some (.int ((c 5).fmod 28)),none,none,none,none,none,none,none,none,none,none,none,none,none,none,none,none,some (.loc (n+1)),some (mA (qa6 c 4)),some (.loc 2),none,none,none,none,none,none,none,none,none,none,none,none,none,none,none,none,none]
include F in
theorem qtt (hc:∀t,0<=c t/\c t<64 ^ 6)(hY:∀n,Y n):Ex ⟨W,Y,nm22.1,cd⟩ (k+2) fr (lm2 c) [.iter (qa0 (qfn c))] (nth bd22.1 2) .next (lm1 c) (st1 c):=by
  have hkr:=(F.f14 .none .none).kept;have hread:Calls W Y (k+2) fr ([.iter (qa0 (qfn c))]++[.lst []]) (.glob (.ref A14)) [.loc 0,.loc [AObj.iter (qa0 (qfn c))].length] [] [] (.loc 1) (st1 c):=qm5 F (hY 0) (hY 1) (by decide) rfl rfl (qm2 hc) (by show 6<20;decide);have hne:false=true↔AV.lst (qa0 [c 0,c 1,c 2,c 3,c 4,c 5])≠.lst (qa0 [c 0,c 1,c 2,c 3,c 4,c 5]):=by simp
  have h:Ex ⟨W,Y,nm22.1,cd⟩ (k+2) fr (lm2 c) [.iter (qa0 (qfn c))] (nth bd22.1 2) .next (lm2 c) (st1 c):=by
    show Ex _ _ _ _ _ (.If _ _ _ _) _ _ _;with_reducible exact .(Ia9 (c:=false) .(Iac .(Ia3 .(Ev.call .(Ial 28 F.g_law_read) (hkr) (Evs.cons .(Ia0 2) .((Evs.cons .(Iak Evs.nil) .(Evs.nil)))) EvK.nil (hread)) .(Ia0 1) ((by with_unfolding_all exact Ibz (c:=false) (Idq (n:=1) (l:=[c 0,c 1,c 2,c 3,c 4,c 5]) rfl) (Dv.ints (l:=[c 0,c 1,c 2,c 3,c 4,c 5])) hne))) rfl) (fun h=>nomatch h) (fun _=>.(Exs.nil)))
  exact Ex.post h (Weak.of (by simp[qay,lm1,lm2]))
include F in
theorem qts:Ex ⟨W,Y,nm22.1,cd⟩ (k+1) fr (lm1 c) σ (nth bd22.1 3) .next (lm3 c) σ:=by
  have hkr:=(F.f16 .none rfl).kept;have h:Ex ⟨W,Y,nm22.1,cd⟩ (k+1) fr (lm1 c) σ (nth bd22.1 3) .next ((lm1 c).set 3 (some (.lst (qag c)))) σ:=by
    show Ex _ _ _ _ _ (.Assign _ _ _) _ _ _;with_reducible exact .(Ia4 .(Ev.call .(Ial 29 F.g_law_parts) (hkr) (Evs.cons .(Ia0 1) .(Evs.nil)) EvK.nil (qk1 F)) .(Ib9 3 (hp:=.(qa7 (fun _=>Uu) _))))
  exact h
include F in
theorem qtr (hd:Calls W Y k fr (st1 c) (.glob (.ref A18)) [.lst (qaq c),.lst (qag c)] [] [] (.tup [.loc 2,.bool true]) σ):Ex ⟨W,Y,nm22.1,cd⟩ k fr (lm3 c) (st1 c) (nth bd22.1 4) .next (lm4 c) σ:=by
  have hkr:=(F.f18 .none .none).kept;have h:Ex ⟨W,Y,nm22.1,cd⟩ k fr (lm3 c) (st1 c) (nth bd22.1 4) .next (((lm3 c).set 25 (some (.loc 2))).set 4 (some (.bool true))) σ:=by
    show Ex _ _ _ _ _ (.Assign _ _ _) _ _ _;with_reducible exact .(Ia4 .(Ev.call .(Ial 30 F.g_law_document) (hkr) (Evs.cons .(Ia0 1) .((Evs.cons .(Ia6 3) .(Evs.nil)))) EvK.nil (hd)) .(As.tuple .(AsL.cons .(Ib9 25) .(AsL.cons .(Ia5 4) .(AsL.nil) (hp:=Uu)) (hp:=Uu))))
  exact h
include F in
theorem qtq (hn:σ.length=n):Ex ⟨W,Y,nm22.1,cd⟩ (k+1) fr (lm4 c) σ (nth bd22.1 5) .next (lm5 c n) (σ++[.lst [],.dint [] []]):=by
  have hkr:=(F.f19 .none rfl).kept;have hz6:(qaq c).length<=sizeLine:=by rw[sizeLine_eq];exact (by decide:6<=16777216)
  have hpf:plain (mA (qa6 c 4))=true:=qa7 (fun _=>qap _) _;have e1:σ++[AObj.lst []]++[.dint [] []]=σ++[.lst [],.dint [] []]:=by simp
  have e2:AV.tup [mA (qa6 c 4),.loc σ.length,.loc (σ++[AObj.lst []]).length,.int ((c 5).fmod 28)]=.tup [mA (qa6 c 4),.loc n,.loc (n+1),.int ((c 5).fmod 28)]:=by simp[hn]
  have h:Ex ⟨W,Y,nm22.1,cd⟩ (k+1) fr (lm4 c) σ (nth bd22.1 5) .next (((((lm4 c).set 24 (some (mA (qa6 c 4)))).set 5 (some (.loc n))).set 23 (some (.loc (n+1)))).set 6 (some (.int ((c 5).fmod 28)))) (σ++[.lst [],.dint [] []]):=by
    show Ex _ _ _ _ _ (.Assign _ _ _) _ _ _;with_reducible exact .(Ia4 .(Ibl .(Ev.tuple (Evs.cons .(Ev.call .(Ial 31 F.g_law_far) (hkr) (Evs.cons .(Ia6 3) .(Evs.nil)) EvK.nil (qow F)) .((Evs.cons .(Iak Evs.nil) .((Evs.cons .(Iea) .((Evs.cons .(Ia2 .(Ia8 .(Ia0 1) .(Ia1) .(Lv.fz) (by exact qb4 rfl (qfk (t:=5) (by decide))) (by exact hz6)) .(Ia1) .(Iap (by decide))) .(Evs.nil))))))))) e1 e2) .(As.tuple .(AsL.cons .(Ib9 24 (hp:=(by assumption))) .(AsL.cons .(Ib9 5) .(AsL.cons .(Ib9 23) .(AsL.cons .(Ib9 6) .(AsL.nil) (hp:=Uu)) (hp:=Uu)) (hp:=Uu)) (hp:=Uu))))
  exact h
end
end
section
section
variable (F : Fac W)
noncomputable def rsL (c:Nat->Int):List Int:=0::(List.range 5).flatMap fun i=>((List.range 5).filter fun j=>((0:Int)+(j:Nat)*1 != 0+(i:Nat)*1)).map fun j=>DC c i j - eI c i
noncomputable abbrev prL (c:Nat->Int):List (Int×Int):=qf2 (rsL c)
noncomputable def lm6 (c:Nat->Int) (n:Nat):List (Option AV):=[none,some (.lst (qaq c)),none,some (.lst (qag c)),some (.bool true),some (.loc n),some (.int ((c 5).fmod 28)),none,some (.lst (qa1 (prL c))),none,none,none,none,none,none,none,none,none,none,none,none,none,none,some (.loc (n+1)),some (mA (qa6 c 4)),some (.loc 2),none,none,none,none,none,none,none,none,none,none,none,none,none,none,none,none,none]
theorem qj6 (hi:i<5):((qa6 c 4).map fun r=>AV.lst (qa0 r))[i]?=some (.lst (qa0 ((qa6 c 4).getD i [])))/\((qa6 c 4).getD i []).length=5:=by
  refine qba (qge (c:=c) (n:=4) (i:=i) hi) ?_;intro r h1 h2 h3 h4;rw[h2];exact ⟨h4,h3⟩
theorem qkj (hi:i<5)(hj:j<5):(qa0 ((qa6 c 4).getD i []))[j]?=some (.int (DC c i j)):=qg9 (by rw[(qj6 hi).2];exact hj)
theorem z5 (c:Nat->Int):((qa6 c 4).map fun r=>AV.lst (qa0 r)).length<=sizeLine/\(qag c).length<=sizeLine:=by
  have h:=(qca (par:=qe4 c) (d:=dI c) 4 (fun t h1 h2=>(qc3 h1).2)).1;rw[List.length_map,show (qa6 c 4).length=5 from h,sizeLine_eq];exact ⟨by decide,(by decide:5<=16777216)⟩
theorem z5r (hi:i<5):(qa0 ((qa6 c 4).getD i [])).length<=sizeLine:=by
  rw[qa0,List.length_map,(qj6 hi).2,sizeLine_eq];decide
theorem ql6 (c:Nat->Int):(rsL c).length=21:=by
  unfold rsL;rw[List.length_cons,List.length_flatMap];simp only[List.length_map];decide
theorem ix0:(0:Int)+(i:Nat)*1=(i:Nat):=by simp +arith
include F in
theorem qtp:Ex ⟨W,Y,nm22.1,cd⟩ k fr (lm5 c n) σ (nth bd22.1 6) .next (lm6 c n) σ:=by
  have lt5:∀x:Nat,x∈List.range 5->x<5:=fun x hx=>List.mem_range.mp hx
  have hz0:((List.range 5).flatMap fun _:Nat=>List.range 5).length<=2 ^ 20:=by decide
  have hadd:AV.lst ([.int 0]++(List.range 5).flatMap fun i:Nat=>((List.range 5).filter fun j:Nat=>((0:Int)+(j:Nat)*1 != 0+(i:Nat)*1)).map fun j=>AV.int (DC c i j - eI c i))=.lst (qa0 (rsL c)):=by
    rw[qa0,rsL,List.map_cons,List.map_flatMap];simp only[List.map_map];rfl
  have hza:[AV.int 0].length+((List.range 5).flatMap fun i:Nat=>((List.range 5).filter fun j:Nat=>((0:Int)+(j:Nat)*1 != 0+(i:Nat)*1)).map fun j=>AV.int (DC c i j - eI c i)).length<=sizeLine:=by
    rw[List.length_flatMap,sizeLine_eq];simp only[List.length_map];decide
  have hx1:(AIt.enum (.lst (qa0 (rsL c))) (qa0 (rsL c))).items=((rsL c).zipIdx).map fun x:Int×Nat=>AV.tup [.int (x.2:Nat),.int x.1]:=by
    simp only[AIt.items,qa0,List.zipIdx_map,List.map_map];rfl
  have hz1:(rsL c).zipIdx.length<=2 ^ 20:=by rw[List.length_zipIdx,ql6];decide
  have hpp:plains (((rsL c).zipIdx.filter fun x=>decide (0<=x.1)).map fun x:Int×Nat=>AV.tup [.int x.1,.int (x.2:Nat)])=true:=qai (fun _=>rfl) _;have h:Ex ⟨W,Y,nm22.1,cd⟩ k fr (lm5 c n) σ (nth bd22.1 6) .next ((lm5 c n).set 8 (some (.lst (((rsL c).zipIdx.filter fun x=>decide (0<=x.1)).map fun x:Int×Nat=>AV.tup [.int x.1,.int (x.2:Nat)])))) σ:=by
    show Ex _ _ _ _ _ (.Assign _ _ _) _ _ _;with_reducible exact .(Ib4 (i:=8) Uu .(ItE.call .(Iaf 26 F.b_enumerate) .(Kept.type) (Evs.cons .(Ia2 .(Ev.list (Evs.cons .(Ia1) .(Evs.nil))) .(Iae .(ItE.call .(Iaf 32 F.b_range) .(Kept.type) (Evs.cons .(Ia1) .(Evs.nil)) .(Iag (by decide))) (CompIn.of [none,none,none,none,some 24,some 3] (by kernel_rfl) (by kernel_rfl)) .(Icz Uu Uu (List.range 5) ((fun i:Nat=>AV.int (0+(i:Nat)*1))) ((fun _:Nat=>List.range 5)) ((fun _ j:Nat=>AV.int (0+(j:Nat)*1))) ((fun i j:Nat=>(0:Int)+(j:Nat)*1 != 0+(i:Nat)*1)) ((fun i j:Nat=>AV.int (DC c i j - eI c i))) _ (fun x hx=>.(Ia5 1)) _ (fun x hx=>.(ItE.call .(Iaf 3 F.b_range) .(Kept.type) (Evs.cons .(Ia1) .(Evs.nil)) .(Iag (by decide)))) _ (fun x hx y hy=>.(Ia5 2)) (fun x hx y hy=>.(Ia3 .(Ia0 2) .(Ia0 1) .(Iee))) (fun x hx y hy hp=>.(Ia2 .(Ia8 .(Ia8 .(Ia6 4) .(Ia0 1) .(Lv.fz) (by exact qb4 ix0 (qj6 (lt5 x hx)).1) (by exact (z5 c).1)) .(Ia0 2) .(Lv.fz) (by exact qb4 ix0 (qkj (lt5 x hx) (lt5 y hy))) (by exact z5r (lt5 x hx))) .(Iaa .(Ia8 .(Ia6 5) .(Ia0 1) .(Lv.fz) (by exact qb4 ix0 (qea (lt5 x hx))) (by exact (z5 c).2)) .(Ia1) .(⟨_,rfl,rfl⟩)) .(Ibi))) .(fun _=>Weak.set Uu) (by intro _ _;exact Weak.set Uu) (by intro _ _;with_unfolding_all rfl) (by first | (with_reducible assumption) | with_unfolding_all rfl) (by intro _ _;first | (with_reducible assumption) | with_unfolding_all rfl) Uu (by with_unfolding_all exact True.intro) (by intro _;with_unfolding_all exact True.intro) Uu (by intro _;with_unfolding_all rfl) (by with_unfolding_all first | exact (fun _=>⟨_,_,_,rfl⟩) | exact (fun h=>by cases h)) (by intro _;with_unfolding_all first | exact (fun _=>⟨_,_,_,rfl⟩) | exact (fun h=>by cases h)) (by intro _ _;with_unfolding_all rfl) (by exact hz0))) (Ibh (Ib7 Lv.fz Lv.fz hza) hadd)) .(Evs.nil)) .(CallIt.enum (Lv.fz))) (CompIn.of [none,none,none] (by kernel_rfl) (by kernel_rfl)) .(Iao (ht:=.(fun _=>⟨_,_,_,rfl⟩)) Uu ((rsL c).zipIdx) ((fun x:Int×Nat=>AV.tup [.int (x.2:Nat),.int x.1])) ((fun x:Int×Nat=>decide (0<=x.1))) ((fun x:Int×Nat=>AV.tup [.int x.1,.int (x.2:Nat)])) _ (fun x hx=>.(As.tuple .(AsL.cons .(Ia5 1) .(AsL.cons .(Ia5 2) .(AsL.nil) (hp:=Uu)) (hp:=Uu)))) (fun x hx=>.(Ia3 .(Ia0 2) .(Ia1) .(Iec))) (fun x hx hp=>.(Ev.tuple (Evs.cons .(Ia0 2) .((Evs.cons .(Ia0 1) .(Evs.nil)))))) .(fun _=>Ib0 (Weak.set Uu) Uu) (hz:=by exact hz1)) (by assumption))
  rw[show AV.lst (((rsL c).zipIdx.filter fun x=>decide (0<=x.1)).map fun x:Int×Nat=>AV.tup [.int x.1,.int (x.2:Nat)])=.lst (qa1 (prL c)) from by rw[qa1,prL,qf2,List.map_map];rfl] at h;exact h
end
end
section
noncomputable def la22a:PSigma (fun l=>qmi (kwE (qdd (nth (qbo (nth bd22.1 7)) 1)) 0)=l):=⟨_,by conv=>lhs;whnf⟩
noncomputable def ta227:PSigma (fun l=>(qcc (nth bd22.1 7))=l):=⟨_,by conv=>lhs;whnf⟩
noncomputable def bo227:PSigma (fun l=>(qbo (nth bd22.1 7))=l):=⟨_,by conv=>lhs;whnf⟩
section
theorem qk7 {p:Int}(hpv:plain v=true)(k:Nat)(fr:List Env)(Y:Nat->Prop):Calls W Y (k+1) fr σ (.clo la22a.1 [] []) [.tup [.int p,v]] [] [] (.int p) σ:=by
  have hp:plain (.tup [.int p,v])=true:=by show (true&&(plain v&&true))=true;rw[hpv];rfl
  refine Iaz (m0:=qcz [] [none]) (m1:=[some (.tup [.int p,v])]) (xs:=["one"]) (CloIn.of [none] rfl rfl rfl (by kernel_rfl) (by kernel_rfl) rfl) (fun fd h1 h2 h3 us hl=>?_) (Binds.cons (i:=0) rfl (.inl rfl) (.inl hp) .nil) (fun cd env=>?_) (Nat.le_refl _) rfl
  . match us,hl with
    | [u],_=>
      cases fd
      simp only at h1 h2 h3;subst h1 h2 h3;rfl
  . show Ev _ _ _ _ _ (.Subscript _ _ _) _ _;with_reducible exact .(Iaa .(Ia0 0) .(Ia1) .(⟨_,rfl,rfl⟩))
end
noncomputable abbrev prA (p:Int×Int):AV:=.tup [.int p.1,.int p.2]
theorem qlo (L:List (Int×Int))(p:Int×Int):qa1 (qkd L p)=(qa1 L).take (qgp L p)++[prA p]++(qa1 L).drop (qgp L p):=by
  rw[qkd,qa1,List.map_append,List.map_append,List.map_take,List.map_drop];rfl
theorem qno (L:List (Int×Int))(p:Int×Int):qgp L p<=L.length:=by
  unfold qgp;split <;> exact List.length_filter_le _ _
theorem qdi (hv:(qa1 L)[j]?=some v):∃p,L[j]?=some p/\v=prA p:=by
  rw[qa1,List.getElem?_map] at hv;cases e:L[j]? with
  | none=>rw[e] at hv;cases hv
  | some y=>rw[e] at hv;injection hv with hv;exact ⟨y,rfl,hv.symm⟩
theorem qi6 {l:List α}(h:j<l.length):∃x,l[j]?=some x:=⟨_,List.getElem?_eq_getElem h⟩
section
variable (F : Fac W)
include F in
theorem qpp (hK:qgm W cd){p:Int×Int}(hs:L.Pairwise fun a b=>a.1<=b.1)(hL:σ[n]?=some (.lst (qa1 L)))(hY:Y n)(hz:L.length<=1000):
    Exs ⟨W,Y,nm22.1,cd⟩ (k+3) fr ((lm6 c n).set 9 (some (prA p))) σ bo227.1 .next (lm6 c n) (σ.set n (.lst (qa1 (qkd L p)))):=by
  refine qgr (hK) ?_;intro lc lP hLam;have hzl:(qa1 L).length<=sizeLine:=by rw[qa1,List.length_map,sizeLine_eq];lia
  have hkeys:∀(j:Nat) (v:AV),(qa1 L)[j]?=some v->∀k fr Y,Calls W Y (k+1) fr σ (.clo la22a.1 [] []) [v] [] [] (.int ((L.getD j (0,0)).1)) σ:=fun j v hv k fr Y=>by
    refine qa4 (qdi hv) ?_;intro y hy e;rw[e,qaw hy];exact qk7 rfl k fr Y
  show Exs _ _ _ _ _ (_::_) _ _ _;by_cases ho:(p.2.fmod 2==1)=true
  . have hput:=quv F (Y:=Y) (κ:=fun j=>(L.getD j (0,0)).1) (kx:=p.1) (r:=qgp L p) (d:=1) (key:=.clo la22a.1 [] []) (x:=prA p) hL hY hzl (by rw[qa1,List.length_map];exact qno _ _)
      (fun j _ hj=>by
        rw[qa1,List.length_map] at hj;refine Exists.elim (qi6 hj) ?_;intro y hy;have:=qbz (qnk hs p.1) j y hy;simp only[decide_eq_true_eq] at this;show (L.getD j (0,0)).1<p.1↔j<qgp L p;rw[qaw hy,qgp,if_pos ho];exact this) Kept.clo rfl hkeys (fun k fr Y=>qk7 rfl k fr Y) rfl k fr
    rw[<- qlo] at hput;have hkI:=(F.f3k2 .none .none .none).kept;with_reducible exact Exs.post .(Exs.cons .(Ia4 .(Ibn (c:=true) .(Iac .(Ia3 .(Ia2 .(Iaa .(Ia0 9) .(Ia1) .(⟨_,rfl,rfl⟩)) .(Ia1) .(Iap (by decide))) .(Ia1) .(Ibj)) ho) (fun _=>.(Ial 33 F.g_insort_left)) (fun h=>nomatch h)) .(Ia5 10)) .(Exs.cons .(Ex.expr .(Ev.call .(Ia0 10) (hkI) (Evs.cons .(Ia6 5) .((Evs.cons .(Ia0 9) .(Evs.nil)))) (EvK.cons .((Ic1 (ns:=[]) (caps:=[]) (hLam _ _) (Iar (by kernel_rfl)))) .(EvK.nil)) ((by with_unfolding_all exact hput)))) .(Exs.nil))) (by exact Weak.of (by simp[qay,lm6]))
  . have ho':(p.2.fmod 2==1)=false:=by simpa using ho
    have hput:=qu2 F (Y:=Y) (κ:=fun j=>(L.getD j (0,0)).1) (kx:=p.1) (r:=qgp L p) (d:=1) (key:=.clo la22a.1 [] []) (x:=prA p) hL hY hzl (by rw[qa1,List.length_map];exact qno _ _)
      (fun j _ hj=>by
        rw[qa1,List.length_map] at hj;refine Exists.elim (qi6 hj) ?_;intro y hy;have:=qbz (qnl hs p.1) j y hy;simp only[decide_eq_true_eq] at this;show p.1<(L.getD j (0,0)).1↔qgp L p<=j;rw[qaw hy,qgp,if_neg ho];lia) Kept.clo rfl hkeys (fun k fr Y=>qk7 rfl k fr Y) rfl k fr
    rw[<- qlo] at hput;have hkI:=(F.f1k2 .none .none .none).kept;with_reducible exact Exs.post .(Exs.cons .(Ia4 .(Ibn (c:=false) .(Iac .(Ia3 .(Ia2 .(Iaa .(Ia0 9) .(Ia1) .(⟨_,rfl,rfl⟩)) .(Ia1) .(Iap (by decide))) .(Ia1) .(Ibj)) ho') (fun h=>nomatch h) (fun _=>.(Ial 34 F.g_insort_right))) .(Ia5 10)) .(Exs.cons .(Ex.expr .(Ev.call .(Ia0 10) (hkI) (Evs.cons .(Ia6 5) .((Evs.cons .(Ia0 9) .(Evs.nil)))) (EvK.cons .((Ic1 (ns:=[]) (caps:=[]) (hLam _ _) (Iar (by kernel_rfl)))) .(EvK.nil)) ((by with_unfolding_all exact hput)))) .(Exs.nil))) (by exact Weak.of (by simp[qay,lm6]))
include F in
theorem qpq (hK:qgm W cd)(hY:Y n){P:List (Int×Int)}(hT:Turns P)(hz:P.length<=100):∀(rest pre:List (Int×Int)) (σ:List AObj),P=pre++rest->σ[n]?=some (.lst (qa1 (qjm pre))) ->
    ForC ⟨W,Y,nm22.1,cd⟩ (k+3) fr ta227.1 bo227.1 [] (.seq (.lst (qa1 P)) (qa1 P)) pre.length (lm6 c n) σ .next (lm6 c n) (σ.set n (.lst (qa1 (qjm P)))):=by
  intro rest;induction rest with
  | nil=>
    intro pre σ hP hL;rw[List.append_nil] at hP;subst hP;rw[qbs hL];exact ForC.done Lv.fz (by show (qa1 P).length=_;rw[qa1,List.length_map]) Exs.nil
  | cons p rest ih=>
    intro pre σ hP hL;have hpre:Turns pre:=Turns.pre (b:=p::rest) (by rw[<- hP];exact hT);refine And.elim ?_ (qjy hpre);intro hs hl;have hlen:pre.length+(rest.length+1)=P.length:=by rw[hP];simp
    have h:=ih (pre++[p]) (σ.set n (.lst (qa1 (qjm (pre++[p]))))) (by rw[hP];simp) (qbi hL);rw[List.set_set,List.length_append] at h;have hb:=qpp F (cd:=cd) (k:=k) (fr:=fr) (c:=c) hK (p:=p) (qjx hs) hL hY (by lia);rw[<- qng] at hb;refine ForC.next (m1:=(lm6 c n).set 9 (some (prA p))) (z1:=σ) (v:=prA p) Lv.fz (by show plain (.lst (qa1 P))=true;exact qa7 (fun _=>rfl) _) ?_ nofun ?_ hb h
    . show (qa1 P)[pre.length]?=_;rw[qa1,hP,List.getElem?_map,List.getElem?_append_right (Nat.le_refl _)];simp
    . show As _ _ _ _ _ (.Name _ _) _ _ _;exact .(Ia5 9)
include F in
theorem qto (hK:qgm W cd)(hY:∀n,Y n)(hn:σ.length=n):Ex ⟨W,Y,nm22.1,cd⟩ (k+3) fr (lm6 c n) (σ++[.lst [],.dint [] []]) (nth bd22.1 7) .next (lm6 c n) (σ++[.lst (qa1 (qjm (prL c))),.dint [] []]):=by
  have hl:=qpq F (k:=k) (fr:=fr) (c:=c) hK (hY n) (qdh (rsL c)) (Nat.le_trans (qd4 _) (by rw[ql6];decide)) (prL c) [] (σ++[.lst [],.dint [] []]) rfl (by rw[qbn (j:=0) (by simp_all)];rfl);rw[show (σ++[AObj.lst [],.dint [] []]).set n (.lst (qa1 (qjm (prL c))))=σ++[.lst (qa1 (qjm (prL c))),.dint [] []] from qfq (j:=0) (by simp_all)] at hl;show Ex _ _ _ _ _ (.For _ _ _ _ _) _ _ _;with_reducible exact .(Ib8 .(ItE.list .(Ia0 8) .(Lv.fz)) (by with_unfolding_all exact ForC.pre hl Weak.refl))
end
end
section
noncomputable def la22b:PSigma (fun l=>qmi (kwE (qdd (nth bd22.1 8)) 0)=l):=⟨_,by conv=>lhs;whnf⟩
section
theorem qrs {p q:Int}(k:Nat)(fr:List Env)(Y:Nat->Prop):Calls W Y (k+1) fr σ (.clo la22b.1 [] []) [.tup [.int p,.int q]] [] [] (.tup [.int p,.int (sgn q)]) σ:=by
  have hp:plain (.tup [.int p,.int q])=true:=rfl;refine Iaz (m0:=qcz [] [none]) (m1:=[some (.tup [.int p,.int q])]) (xs:=["pair"]) (CloIn.of [none] rfl rfl rfl (by kernel_rfl) (by kernel_rfl) rfl) (fun fd h1 h2 h3 us hl=>?_) (Binds.cons (i:=0) rfl (.inl rfl) (.inl hp) .nil) (fun cd env=>?_) (Nat.le_refl _) rfl
  . match us,hl with
    | [u],_=>
      cases fd
      simp only at h1 h2 h3;subst h1 h2 h3;rfl
  . show Ev _ _ _ _ _ (.Tuple _ _ _) _ _;unfold sgn;by_cases ho:(q.fmod 2==1)=true
    . rw[if_pos ho];with_reducible exact .(Ev.tuple (Evs.cons .(Iaa .(Ia0 0) .(Ia1) .(⟨_,rfl,rfl⟩)) .((Evs.cons .(Ibn (c:=true) .(Iac .(Ia3 .(Ia2 .(Iaa .(Ia0 0) .(Ia1) .(⟨_,rfl,rfl⟩)) .(Ia1) .(Iap (by decide))) .(Ia1) .(Ibj)) ho) (fun _=>.(Ic0 .(Iaa .(Ia0 0) .(Ia1) .(⟨_,rfl,rfl⟩)))) (fun h=>nomatch h)) .(Evs.nil)))))
    . rw[if_neg ho];have ho':(q.fmod 2==1)=false:=by simpa using ho
      with_reducible exact .(Ev.tuple (Evs.cons .(Iaa .(Ia0 0) .(Ia1) .(⟨_,rfl,rfl⟩)) .((Evs.cons .(Ibn (c:=false) .(Iac .(Ia3 .(Ia2 .(Iaa .(Ia0 0) .(Ia1) .(⟨_,rfl,rfl⟩)) .(Ia1) .(Iap (by decide))) .(Ia1) .(Ibj)) ho') (fun h=>nomatch h) (fun _=>.(Iaa .(Ia0 0) .(Ia1) .(⟨_,rfl,rfl⟩)))) .(Evs.nil)))))
end
noncomputable def kyS (p:Int×Int):Int×Int:=(p.1,sgn p.2)
noncomputable abbrev ltP (P:List (Int×Int)):Nat->Nat->Bool:=fun i j=>decide (((P.map kyS).getD i (0,0)).1<((P.map kyS).getD j (0,0)).1\/(((P.map kyS).getD i (0,0)).1=((P.map kyS).getD j (0,0)).1/\((P.map kyS).getD i (0,0)).2<((P.map kyS).getD j (0,0)).2))
theorem qr9 {a b:Int}(ha:0<=a)(hb:0<=b)(h:sgn a=sgn b):a=b:=by
  have z:∀{x y:Int},0<=x->0<=y->-x=y->x=y:=fun h1 h2 h=>by lia
  unfold sgn at h;by_cases h1:(a.fmod 2==1)=true
  . rw[if_pos h1] at h;by_cases h2:(b.fmod 2==1)=true
    . rw[if_pos h2] at h;exact Int.neg_inj.mp h
    . rw[if_neg h2] at h;exact z ha hb h
  . rw[if_neg h1] at h;by_cases h2:(b.fmod 2==1)=true
    . rw[if_pos h2] at h;exact (z hb ha h.symm).symm
    . rw[if_neg h2] at h;exact h
theorem qrr {P:List (Int×Int)}(hT:Turns P):qgo (ltP P) (qa1 P)=qa1 (qjm P):=by
  refine qal (qm4 (lt:=ltP P) SWO.pairs (qa1 P)) ?_;intro q h1 h2 h3;have hlen:(qa1 P).length=P.length:=by rw[qa1,List.length_map]
  rw[hlen] at h1;have hq:∀i∈q,i<P.length:=fun i hi=>List.mem_range.mp (h1.mem_iff.mp hi)
  have hnd:q.Nodup:=h1.nodup_iff.mpr List.nodup_range;have e1:qgo (ltP P) (qa1 P)=qa1 (q.map fun i=>P.getD i (0,0)):=by
    rw[h3];show _=(q.map fun i=>P.getD i (0,0)).map prA;rw[List.map_map];refine List.map_congr_left fun i hi=>?_
    refine Exists.elim (qi6 (hq i hi)) ?_;intro y hy;show (qa1 P).getD i .none=prA (P.getD i (0,0));rw[qaw hy,qaw (x:=prA y)];rw[qa1,List.getElem?_map,hy];rfl
  rw[e1];congr 1
  refine qls LtS.irr LtS.tr ?_ (qjy hT).1 fun y=>?_
  . rw[List.pairwise_map];refine List.Pairwise.imp_of_mem (R:=fun a b=>Prec (ltP P) a b/\a≠b) (fun {a b} ha hb h=>?_) (h2.and hnd);refine Exists.elim (qi6 (hq a ha)) ?_;intro y hy;refine Exists.elim (qi6 (hq b hb)) ?_;intro z hz;have ky:(P.map kyS).getD a (0,0)=kyS y:=qaw (by rw[List.getElem?_map,hy];rfl);have kz:(P.map kyS).getD b (0,0)=kyS z:=qaw (by rw[List.getElem?_map,hz];rfl);rw[qaw hy,qaw hz];have hy0:=hT.2 y (List.mem_of_getElem? hy);have hz0:=hT.2 z (List.mem_of_getElem? hz);have hne:y.2≠z.2:=by
      intro e;have hpw:=List.pairwise_iff_getElem.mp hT.1;refine Exists.elim (List.getElem?_eq_some_iff.mp hy) ?_;intro ha' ea;refine Exists.elim (List.getElem?_eq_some_iff.mp hz) ?_;intro hb' eb;rcases Nat.lt_or_gt_of_ne h.2 with hlt | hlt
      . have:=hpw a b ha' hb' hlt;rw[ea,eb] at this;simp_all
      . have:=hpw b a hb' ha' hlt;rw[ea,eb] at this;simp_all
    have hs:sgn y.2≠sgn z.2:=fun e=>hne (qr9 hy0 hz0 e)
    unfold LtS;rcases h.1 with hl | ⟨hl,_⟩
    . simp only[ltP,ky,kz,decide_eq_true_eq] at hl;exact hl
    . simp only[ltP,ky,kz,decide_eq_false_iff_not] at hl;simp only[kyS] at hl;grind
  . rw[qfh,List.mem_map];constructor
    . rintro ⟨i,hi,e⟩
      refine Exists.elim (qi6 (hq i hi)) ?_;intro z hz;rw[qaw hz] at e;rw[<- e];exact List.mem_of_getElem? hz
    . intro hy;obtain ⟨i,hi⟩:=List.mem_iff_getElem?.mp hy;have hlt:=(List.getElem?_eq_some_iff.mp hi).1;exact ⟨i,h1.mem_iff.mpr (List.mem_range.mpr hlt),qaw hi⟩
noncomputable abbrev lnL (c:Nat->Int):List (Int×Int):=qjm (prL c)
noncomputable abbrev reL (c:Nat->Int):List Int:=(lnL c).map (·.1)
theorem qdz (c:Nat->Int):(lnL c).length<=21/\0<(lnL c).length/\(lnL c).Pairwise LtS:=by
  refine And.elim ?_ (qjy (qdh (rsL c)));intro h1 h2;refine ⟨by rw[h2];exact Nat.le_trans (qd4 _) (by rw[ql6];exact Nat.le_refl _),?_,h1⟩;have:((0,0):Int×Int)∈lnL c:=(qfh _ _).mpr (pairsI_mem.mpr ⟨0,rfl,rfl,by decide⟩);exact List.length_pos_of_mem this
noncomputable def qb8 (c:Nat->Int):Int:=(c 1).fmod ((lnL c).length+1)
noncomputable def qb6 (c:Nat->Int):Int:=qb8 c+(c 3).fmod ((lnL c).length+1 - qb8 c)
theorem qp1 (c:Nat->Int):∃f b:Nat,qb8 c=f/\qb6 c=b/\f<=b/\b<=(lnL c).length:=by
  refine qa4 (qrx (x:=c 1) (n:=(lnL c).length+1) (Nat.succ_pos _)) ?_;intro f hf hfl;refine Exists.elim (Nat.exists_eq_add_of_le (Nat.le_of_lt_succ hfl)) ?_;intro g hg;refine qa4 (qrx (x:=c 3) (n:=g+1) (Nat.succ_pos _)) ?_;intro z hz hzl;have hF:qb8 c=f:=hf;refine ⟨f,f+z,hF,?_,Nat.le_add_right _ _,by rw[hg];exact Nat.add_le_add_left (Nat.le_of_lt_succ hzl) f⟩;unfold qb6;rw[hF,hg,show ((f+g:Nat):Int)+1 - (f:Int)=((g+1:Nat):Int) by simp +arith,hz];rfl
noncomputable def lm8 (c:Nat->Int) (n:Nat):List (Option AV):=[none,some (.lst (qaq c)),none,some (.lst (qag c)),some (.bool true),some (.loc n),some (.int ((c 5).fmod 28)),none,none,none,none,some (.lst (qa1 (lnL c))),none,none,none,none,none,none,none,none,none,none,none,some (.loc (n+1)),some (mA (qa6 c 4)),some (.loc 2),none,none,none,none,none,none,none,none,none,none,none,none,none,none,none,none,none]
noncomputable def qti (c:Nat->Int) (n:Nat):List (Option AV):=[none,some (.lst (qaq c)),none,some (.lst (qag c)),some (.bool true),some (.loc n),some (.int ((c 5).fmod 28)),none,none,none,none,some (.lst (qa1 (lnL c))),some (.lst (qa0 (reL c))),some (.int (qb8 c)),none,none,none,none,none,none,none,none,none,some (.loc (n+1)),some (mA (qa6 c 4)),some (.loc 2),none,none,none,none,none,none,none,none,none,none,none,none,none,none,none,none,none]
noncomputable def qoa (c:Nat->Int) (n:Nat):List (Option AV):=[none,none,none,some (.lst (qag c)),none,some (.loc n),some (.int ((c 5).fmod 28)),none,none,none,none,some (.lst (qa1 (lnL c))),some (.lst (qa0 (reL c))),some (.int (qb8 c)),some (.int (qb6 c)),none,none,none,none,none,none,none,none,some (.loc (n+1)),some (mA (qa6 c 4)),some (.loc 2),none,none,none,none,none,none,none,none,none,none,none,none,none,none,none,none,none]
theorem Idh:D1 64 (.lst (qa1 L)):=D1.lst (d:=63) fun x _=>Ieg (d:=62) D1.int D1.int
section
variable (F : Fac W)
include F in
theorem qtn (hK:qgm W cd):Ex ⟨W,Y,nm22.1,cd⟩ (k+3) fr (lm6 c n) σ (nth bd22.1 8) .next (lm8 c n) σ:=by
  refine qgr (hK) ?_;intro lc lP hLam;have hT:=qdh (rsL c);have hz:(prL c).length<=21:=Nat.le_trans (qd4 _) (by rw[ql6];exact Nat.le_refl _);have hcall:Calls W Y (k+3) fr σ (.glob (.builtin "sorted")) [.lst (qa1 (prL c))] ["key"] [.clo la22b.1 [] []] (.lst (qa1 (lnL c))) σ:=by
    have:=Icr (W:=W) (Y:=Y) (k:=k+1) (fr:=fr) (σ:=σ) (f:=.clo la22b.1 [] []) (v:=.lst (qa1 (prL c))) (l:=qa1 (prL c)) (keys:=qa1 ((prL c).map kyS)) (lt:=ltP (prL c)) (kx := "key") rfl
      (fun g h u r=>by refine qbu (r) ?_;intro a fd vs e _;exact ⟨a,e⟩) Lv.fz (by rw[qa1,List.length_map];lia) (by rw[qa1,qa1,List.length_map,List.length_map,List.length_map])
      (fun i x y hx hy=>by
        refine qa4 (qdi hx) ?_;intro p hp e;refine qa4 (qdi hy) ?_;intro q hq e';rw[List.getElem?_map,hp] at hq;injection hq with hq
        rw[e,e',<- hq];exact qrs k fr noY) (qai (fun _=>rfl) _) (qai (fun _=>rfl) _) KeyOk.pairs SWO.pairs
    rw[qrr hT] at this;exact this
  have hpp:plain (.lst (qa1 (lnL c)))=true:=qa7 (fun _=>rfl) _;have h:Ex ⟨W,Y,nm22.1,cd⟩ (k+3) fr (lm6 c n) σ (nth bd22.1 8) .next ((lm6 c n).set 11 (some (.lst (qa1 (lnL c))))) σ:=by
    show Ex _ _ _ _ _ (.Assign _ _ _) _ _ _;with_reducible exact .(Ia4 .(Ev.call .(Iaf 35 F.b_sorted) .(Kept.builtin) (Evs.cons .(Ia0 8) .(Evs.nil)) (EvK.cons .((Ic1 (ns:=[]) (caps:=[]) (hLam _ _) (Iar (by kernel_rfl)))) .(EvK.nil)) ((by with_unfolding_all exact hcall))) .(Ia5 11 (hp:=(by assumption))))
  exact Ex.post h (Weak.of (by simp[qay,lm6,lm8]))
include F in
theorem qtm (hn:σ[n]?=some (.lst (qa1 (lnL c)))):Ex ⟨W,Y,nm22.1,cd⟩ k fr (lm8 c n) σ (nth bd22.1 9) .next (lm8 c n) σ:=by
  have hne:false=true↔AV.lst (qa1 (lnL c))≠.lst (qa1 (lnL c)):=by simp
  show Ex _ _ _ _ _ (.If _ _ _ _) _ _ _;with_reducible exact .(Ia9 (c:=false) .(Iac .(Ic4 .(Id4 .(Id5 .(Tr.val .(Ia0 4) (Tv.bool))) (fun _=>.(Ic3 .(Ia3 .(Ia6 5) .(Ia0 11) (Ibz (c:=false) (Icq hn Idh) (Dv.of Idh) hne)))) (fun _=>rfl))) Uu) (fun h=>nomatch h) (fun _=>.(Exs.nil)))
include F in
theorem qrq (hn:σ[n]?=some (.lst (qa1 (lnL c)))):Ex ⟨W,Y,nm22.1,cd⟩ k fr (lm8 c n) σ (nth bd22.1 10) .next (qti c n) σ:=by
  have hz:=(qdz c).1;have hz1:(lnL c).length<=2 ^ 20:=Nat.le_trans hz (by decide);have hlen:((qa1 (lnL c)).length:Int)=((lnL c).length:Nat):=by rw[qa1,List.length_map]
  have hzl:(qa1 (lnL c)).length<=sizeLine:=by rw[qa1,List.length_map,sizeLine_eq];lia
  have hz6:(qaq c).length<=sizeLine:=by rw[sizeLine_eq];exact (by decide:6<=16777216)
  have hnz:((qa1 (lnL c)).length:Int)+1≠0:=by lia
  have e1:AV.tup [.lst ((lnL c).map fun p:Int×Int=>AV.int p.1),.int ((c 1).fmod (((qa1 (lnL c)).length:Nat)+1))]=.tup [.lst (qa0 (reL c)),.int (qb8 c)]:=by
    rw[hlen,qa0,reL,List.map_map];rfl
  have hpp:plain (.lst (qa0 (reL c)))=true:=qap _;have h:Ex ⟨W,Y,nm22.1,cd⟩ k fr (lm8 c n) σ (nth bd22.1 10) .next (((lm8 c n).set 12 (some (.lst (qa0 (reL c))))).set 13 (some (.int (qb8 c)))) σ:=by
    show Ex _ _ _ _ _ (.Assign _ _ _) _ _ _;with_reducible exact .(Ic9 (i:=12) (j:=13) .(Ian .(Ev.tuple (Evs.cons .(Iae .(ItE.list .(Ia6 5) (Lv.loc hn)) (CompIn.of [none,none] (by kernel_rfl) (by kernel_rfl)) .(CompC.map (hO:=by with_unfolding_all exact Lv.loc (by assumption)) Uu (lnL c) (prA) ((fun p:Int×Int=>AV.int p.1)) _ (fun x hx=>.(Ia5 1)) (fun x hx=>.(Iaa .(Ia0 1) .(Ia1) .(⟨_,rfl,rfl⟩))) .(fun _=>Weak.set Uu) (hz:=by exact hz1))) .((Evs.cons .(Ia2 .(Ia8 .(Ia0 1) .(Ia1) .(Lv.fz) (by exact qb4 rfl (qfk (t:=1) (by decide))) (by exact hz6)) .(Ia2 .(Ev.call .(Iaf 36 F.b_len) .(Kept.builtin) (Evs.cons .(Ia6 5) .(Evs.nil)) EvK.nil (Calls.len (Lv.loc hn) hzl)) .(Ia1) .(Op2.add)) (Iap hnz)) .(Evs.nil))))) (e1)) Uu Uu (by decide) (by assumption) Uu)
  exact h
include F in
theorem qrp (hn:σ[n]?=some (.lst (qa1 (lnL c)))):Ex ⟨W,Y,nm22.1,cd⟩ k fr (qti c n) σ (nth bd22.1 11) .next (qoa c n) σ:=by
  have hz:=(qdz c).1;have hlen:((qa1 (lnL c)).length:Int)=((lnL c).length:Nat):=by rw[qa1,List.length_map]
  have hzl:(qa1 (lnL c)).length<=sizeLine:=by rw[qa1,List.length_map,sizeLine_eq];lia
  have hz6:(qaq c).length<=sizeLine:=by rw[sizeLine_eq];exact (by decide:6<=16777216)
  have hnz:((qa1 (lnL c)).length:Int)+1 - qb8 c≠0:=by
    refine qb0 (qp1 c) ?_;intro f b h1 h2 h3 h4;lia
  have e1:AV.int (qb8 c+(c 3).fmod (((qa1 (lnL c)).length:Nat)+1 - qb8 c))=.int (qb6 c):=by
    rw[hlen];rfl
  have h:Ex ⟨W,Y,nm22.1,cd⟩ k fr (qti c n) σ (nth bd22.1 11) .next ((qti c n).set 14 (some (.int (qb6 c)))) σ:=by
    show Ex _ _ _ _ _ (.Assign _ _ _) _ _ _;with_reducible exact .(Ia4 .(Ian .(Ia2 .(Ia6 13) .(Ia2 .(Ia8 .(Ia0 1) .(Ia1) .(Lv.fz) (by exact qb4 rfl (qfk (t:=3) (by decide))) (by exact hz6)) .(Ia2 .(Ia2 .(Ev.call .(Iaf 36 F.b_len) .(Kept.builtin) (Evs.cons .(Ia6 5) .(Evs.nil)) EvK.nil (Calls.len (Lv.loc hn) hzl)) .(Ia1) .(Op2.add)) .(Ia6 13) .(Ibi)) (Iap hnz)) .(Op2.add)) (e1)) .(Ib9 14))
  exact Ex.post h (Weak.of (by simp[qay,qti,qoa]))
end
end
section
noncomputable def la22c:PSigma (fun l=>qmi (kwE (qvl (qdd (nth (qbo (nth bd22.1 12)) 0))) 0)=l):=⟨_,by conv=>lhs;whnf⟩
noncomputable def lc177:PSigma (fun l=>(qdd (nth (qbo (nth bd22.1 12)) 0))=l):=⟨_,by conv=>lhs;whnf⟩
noncomputable abbrev sgB (σ:List AObj) (c:Nat->Int) (ks:List Int):List AObj:=σ++[.lst (qa1 (lnL c)),qjj c ks]
def PK (c:Nat->Int) (ks:List Int):Prop:=ks.Nodup/\∀x∈ks,x∈reL c
noncomputable def qr2 (ks:List Int) (x:Int):List Int:=if x∈ks then ks else ks++[x]
theorem qo3 {l B:List Int}(h:l.Nodup)(hs:∀a∈l,a∈B):l.length<=B.length:=by
  induction l generalizing B with
  | nil=>simp
  | cons a l ih=>
    refine And.elim ?_ (List.nodup_cons.mp h);intro h1 h2;have ha:=hs a (by simp);have:=ih (B:=B.erase a) h2 fun b hb=>(List.mem_erase_of_ne (fun e=>h1 (by rw[<- e];exact hb))).mpr (hs b (by simp[hb]))
    rw[List.length_erase_of_mem ha] at this;have:0<B.length:=List.length_pos_of_mem ha;simp only[List.length_cons];lia
theorem PK.len (h:PK c ks):ks.length<=1000:=by
  have:=qo3 h.1 h.2;rw[reL,List.length_map] at this;have:=(qdz c).1;lia
theorem PK.add (h:PK c ks){x:Int}(hx:x∈reL c):PK c (qr2 ks x):=by
  unfold qr2;by_cases hm:x∈ks
  . rw[if_pos hm];exact h
  . rw[if_neg hm];refine ⟨List.nodup_append.mpr ⟨h.1,by simp,fun a ha b hb e=>?_⟩,fun y hy=>?_⟩
    . rw[List.mem_singleton.mp hb] at e;exact hm (by rw[<- e];exact ha)
    . rcases List.mem_append.mp hy with h' | h'
      . exact h.2 y h'
      . rw[List.mem_singleton.mp h'];exact hx
structure StD (c:Nat->Int) (n:Nat) (σ:List AObj):Prop where
  len:σ.length=n
  big:2+32<=n
  row:σ[2]?=some (.lst (qsc 2))
  els:ElS c 2 σ
section
theorem ElS.app (h:ElS c 2 σ):ElS c 2 (σ++τ):=⟨fun s hs=>by refine Exists.elim (h.els s hs) ?_;intro a e;exact ⟨a,qac e⟩,fun s hs=>qac (h.att s hs)⟩
theorem StD.book (h:StD c n σ)(ks:List Int):(sgB σ c ks)[n+1]?=some (qjj c ks):=by rw[qbn (j:=1) (by rw[h.len])];rfl
theorem StD.line (h:StD c n σ)(ks:List Int):(sgB σ c ks)[n]?=some (.lst (qa1 (lnL c))):=by rw[qbn (j:=0) (by rw[h.len];rfl)];rfl
theorem StD.set (h:StD c n σ)(ks ks':List Int):(sgB σ c ks).set (n+1) (qjj c ks')=sgB σ c ks':=by rw[qfq (j:=1) (by rw[h.len])];rfl
theorem StD.lenB (h:StD c n σ)(ks:List Int):(sgB σ c ks).length=n+2:=by simp[h.len]
end
section
variable (F : Fac W)
include F in
theorem qky (S:StD c n σ)(h:PK c ks)(hY:Y (n+1))(x:Int):Calls W Y (k+4) fr (sgB σ c ks) (.glob (.ref A20)) [.loc 2,.int x,mA (qa6 c 4),.loc (n+1)] [] [] (qc5 c x) (sgB σ c (qr2 ks x)):=by
  have:=qjt F (Y:=Y) (k:=k) (fr:=fr) (c:=c) (n:=2) (b:=n+1) (reach:=x) (σ:=sgB σ c ks) (ks:=ks) S.els.app (qac S.row) (by rw[S.lenB];have:=S.big;lia) (S.book ks) hY h.len;rw[S.set] at this;exact this
theorem qi7 (c:Nat->Int)(x:Int):(qad c x).1.length<=5:=by
  have:∀(L:List (Nat×Nat)) (s:List Nat×List Nat),(L.foldl (qc4 c x) s).1.length<=s.1.length+L.length:=by
    intro L;induction L with
    | nil=>intro s;simp
    | cons y L ih=>
      intro s;rw[List.foldl_cons];refine Nat.le_trans (ih _) ?_;unfold qc4;split
      . simp;simp +arith
      . simp
  have h:=this (qaf c x 5) ([],[]);rw[(qdn c x 5).2] at h;exact Nat.le_trans h (by simp)
noncomputable abbrev qta (c:Nat->Int) (x:Int):Int:=-(((qad c x).1.length:Nat):Int)
include F in
theorem qog (S:StD c n σ)(h:PK c ks)(p:Int×Int)(k:Nat)(fr:List Env)(Y:Nat->Prop)(hY:Y (n+1)):
    Calls W Y (k+5) fr (sgB σ c ks) (.clo la22c.1 ["book", "far", "row"] [.loc (n+1),mA (qa6 c 4),.loc 2]) [prA p] [] [] (.int (qta c p.1)) (sgB σ c (qr2 ks p.1)):=by
  have hp:plain (prA p)=true:=rfl;have hpf:plain (mA (qa6 c 4))=true:=qa7 (fun _=>qap _) _;have hpc:plains [.loc (n+1),mA (qa6 c 4),.loc 2]=true:=by show (true&&(plain (mA (qa6 c 4))&&(true&&true)))=true;rw[hpf];rfl
  refine Iaz (m0:=qcz ([.loc (n+1),mA (qa6 c 4),.loc 2].map some) [none,some 0,some 1,some 2,none,none]) (m1:=[some (prA p),some (.loc (n+1)),some (mA (qa6 c 4)),some (.loc 2),none,none]) (xs:=["pair"]) (CloIn.of [none,some 0,some 1,some 2,none,none] rfl rfl rfl (by kernel_rfl) (by kernel_rfl) hpc) (fun fd h1 h2 h3 us hl=>?_) (Binds.cons (i:=0) rfl (.inl rfl) (.inl hp) .nil) (fun cd env=>?_) (by rw[S.lenB,S.lenB];exact Nat.le_refl _) rfl
  . match us,hl with
    | [u],_=>
      cases fd
      simp only at h1 h2 h3;subst h1 h2 h3;rfl
  . have hkI:=(F.f20 .none .none .none .none rfl rfl rfl rfl).kept;have hw:=qky F (Y:=fun m=>Y m\/(sgB σ c ks).length<=m) (k:=k) (fr:=env::fr) S h (.inl hY) p.1;have hzw:(qa8 (qad c p.1).1).length<=sizeLine:=by rw[qa8,List.length_map,sizeLine_eq];have:=qi7 c p.1;lia
    have e1:AV.int (-(((qa8 (qad c p.1).1).length:Nat):Int))=.int (qta c p.1):=by rw[qa8,List.length_map]
    show Ev _ _ _ _ _ (.UnaryOp _ _ _) _ _;with_reducible exact Ian .(Ic0 .(Ev.call .(Iaf 4 F.b_len) .(Kept.builtin) (Evs.cons .(Iaa .(Ev.call .(Ial 5 F.g_law_wells) (hkI) (Evs.cons .(Ia6 3) .((Evs.cons .(Iaa .(Ia0 0) .(Ia1) .(⟨_,rfl,rfl⟩)) .((Evs.cons .(Ia6 2) .((Evs.cons .(Ia6 1) .(Evs.nil)))))))) EvK.nil (hw)) .(Ia1) .(⟨_,rfl,rfl⟩)) .(Evs.nil)) EvK.nil (Calls.len Lv.fz hzw))) e1
noncomputable abbrev leI (c:Nat->Int) (t:Nat):Int:=qar (qa6 c 4) (eI c) 32 (t+1)
noncomputable def qsf (c:Nat->Int) (n t:Nat):List (Option AV):=[none,none,none,some (.lst (qag c)),none,some (.loc n),some (.int ((c 5).fmod 28)),some (.int ((t:Nat):Int)),none,none,none,some (.lst (qa1 (lnL c))),some (.lst (qa0 (reL c))),some (.int (qb8 c)),some (.int (qb6 c)),some (.int (leI c t)),none,none,none,none,none,none,none,some (.loc (n+1)),some (mA (qa6 c 4)),some (.loc 2),none,none,none,none,none,none,none,none,none,none,none,none,none,none,none,none,none]
include F in
theorem qg8 (S:StD c n σ):qmw W 5 (fun m=>m=n+1) (sgB σ c) (PK c) (.clo la22c.1 ["book", "far", "row"] [.loc (n+1),mA (qa6 c 4),.loc 2]) (.loc n) (qa1 (lnL c)) (fun j=>qta c ((reL c).getD j 0)):=by
  refine ⟨Kept.clo,rfl,fun s _=>Lv.loc (S.line s),fun j v hv=>?_⟩;refine qa4 (qdi hv) ?_;intro p hp e;have hr:(reL c)[j]?=some p.1:=by rw[reL,List.getElem?_map,hp];rfl
  rw[e,qaw hr];intro s hs;exact ⟨qr2 s p.1,hs.add (List.mem_of_getElem? hr),fun k fr Y hY=>qog F S hs p k fr Y (hY _ rfl)⟩
include F in
theorem qnq (hK:qgm W cd)(S:StD c n σ)(h:PK c ks){t:Nat}(hr:r<=(lnL c).length)(hY:∀m,Y m)(hl:∀j:Nat,0<=j->j<(qa1 (lnL c)).length->(qta c ((reL c).getD j 0) < -((t:Nat):Int) - 1↔j<r))(hr2:∀j:Nat,0<=j->j<(qa1 (lnL c)).length->(-((t:Nat):Int) - 2<qta c ((reL c).getD j 0)↔r<=j)):
    ∃ks',PK c ks'/\∀(k:Nat) (fr:List Env),Ev ⟨W,Y,nm22.1,cd⟩ (k+6) fr (qsf c n t) (sgB σ c ks) lc177.1 (.lst [.int (r:Nat),.int (r:Nat)]) (sgB σ c ks'):=by
  refine qgr hK ?_;intro lc lP hLam;have hzl:(qa1 (lnL c)).length<=sizeLine:=by rw[qa1,List.length_map,sizeLine_eq];have:=(qdz c).1;lia
  have hrl:r<=(qa1 (lnL c)).length:=by rw[qa1,List.length_map];exact hr
  have hlen:∀s s':List Int,(sgB σ c s).length=(sgB σ c s').length:=fun s s'=>by rw[S.lenB,S.lenB]
  refine qa4 (qs8 F (lo:=0) (qg8 F S) h hlen hzl (.inl ⟨rfl,rfl⟩) (Nat.le_refl _) (Nat.zero_le _) hrl hl (F.f4k2 _ _ _)) ?_;intro k1 h1 c1;refine qa4 (qud F (lo:=0) (qg8 F S) h1 hlen hzl (.inl ⟨rfl,rfl⟩) (Nat.le_refl _) (Nat.zero_le _) hrl hr2 (F.f2k2 _ _ _)) ?_;intro k2 h2 c2;refine ⟨k2,h2,fun k fr=>?_⟩;have hpf:plain (mA (qa6 c 4))=true:=qa7 (fun _=>qap _) _;have hk1:=(F.f4k2 .none .none .none).kept;have hk2:=(F.f2k2 .none .none .none).kept;have c1:=c1 k fr Y (fun m _=>hY m);have c2:=c2 k fr Y (fun m _=>hY m);show Ev _ _ _ _ _ (.ListComp _ (⟨_,_,_,0⟩::_) _ _) _ _;refine Iae (mc:=(((([none,none,none,some (.loc (n+1)),some (mA (qa6 c 4)),some (.int ((t:Nat):Int)),some (.loc n),some (.loc 2)].set 1 (some (.glob (.ref A4)))).set 2 (some (.int 1))).set 1 (some (.glob (.ref A2)))).set 2 (some (.int 2)))) (z1:=sgB σ c ks) (ai:=.tup [.tup [.glob (.ref A4),.int 1],.tup [.glob (.ref A2),.int 2]]) (m0:=[none,none,none,some (.loc (n+1)),some (mA (qa6 c 4)),some (.int ((t:Nat):Int)),some (.loc n),some (.loc 2)]) ?_ (CompIn.of [none,none,none,some 23,some 24,some 7,some 5,some 25] (by kernel_rfl) (by kernel_rfl)) ?_
  . with_reducible exact .(ItE.tuple .(Ev.tuple (Evs.cons .(Ev.tuple (Evs.cons .(Ial 38 F.g_bisect_left) .((Evs.cons .(Ia1) .(Evs.nil))))) .((Evs.cons .(Ev.tuple (Evs.cons .(Ial 39 F.g_bisect_right) .((Evs.cons .(Ia1) .(Evs.nil))))) .(Evs.nil))))))
  . refine CompC.turn (v:=.tup [.glob (.ref A4),.int 1]) (b:=true) (m1:=(([none,none,none,some (.loc (n+1)),some (mA (qa6 c 4)),some (.int ((t:Nat):Int)),some (.loc n),some (.loc 2)].set 1 (some (.glob (.ref A4)))).set 2 (some (.int 1)))) (z1:=sgB σ c ks) (acc1:=[.int (r:Nat)]) rfl trivial rfl rfl nofun ?_ Tests.nil (.inl ⟨rfl,Iaw (v:=.int (r:Nat)) (z':=sgB σ c k1) rfl ?_ rfl (by decide)⟩) ?_ nofun
    . show As _ _ _ _ _ (.Tuple _ _ _) _ _ _
      with_unfolding_all exact .(As.tuple .(AsL.cons .(Ia5 1) .(AsL.cons .(Ia5 2) .(AsL.nil) (hp:=Uu)) (hp:=Uu)))
    . show Ev _ _ _ _ _ (.Call (.Name _ _) _ _ _) _ _;with_reducible exact .(Ev.call .(Ia0 1) (hk1) (Evs.cons .(Ia6 6) .((Evs.cons .(Ia2 .(Ic0 .(Ia6 5)) .(Ia0 2) .(Ibi)) .(Evs.nil)))) (EvK.cons .((Ic1 (ns:=["book", "far", "row"]) (caps:=[.loc (n+1),mA (qa6 c 4),.loc 2]) (hLam _ _) (LamCap.of [(1,3),(2,4),(3,7)] (by kernel_rfl) Uu (by kernel_rfl)))) .(EvK.nil)) ((by with_unfolding_all exact c1)))
    . refine CompC.turn (v:=.tup [.glob (.ref A2),.int 2]) (b:=true) (m1:=(((([none,none,none,some (.loc (n+1)),some (mA (qa6 c 4)),some (.int ((t:Nat):Int)),some (.loc n),some (.loc 2)].set 1 (some (.glob (.ref A4)))).set 2 (some (.int 1))).set 1 (some (.glob (.ref A2)))).set 2 (some (.int 2)))) (z1:=sgB σ c k1) (acc1:=[.int (r:Nat),.int (r:Nat)]) rfl trivial rfl rfl nofun ?_ Tests.nil (.inl ⟨rfl,Iaw (v:=.int (r:Nat)) (z':=sgB σ c k2) rfl ?_ rfl (by rw[sizeLine_eq];exact (by decide:1<=16777216))⟩) (CompC.done rfl trivial rfl nofun) nofun
      . show As _ _ _ _ _ (.Tuple _ _ _) _ _ _
        with_unfolding_all exact .(As.tuple .(AsL.cons .(Ia5 1) .(AsL.cons .(Ia5 2) .(AsL.nil) (hp:=Uu)) (hp:=Uu)))
      . show Ev _ _ _ _ _ (.Call (.Name _ _) _ _ _) _ _;with_reducible exact .(Ev.call .(Ia0 1) (hk2) (Evs.cons .(Ia6 6) .((Evs.cons .(Ia2 .(Ic0 .(Ia6 5)) .(Ia0 2) .(Ibi)) .(Evs.nil)))) (EvK.cons .((Ic1 (ns:=["book", "far", "row"]) (caps:=[.loc (n+1),mA (qa6 c 4),.loc 2]) (hLam _ _) (LamCap.of [(1,3),(2,4),(3,7)] (by kernel_rfl) Uu (by kernel_rfl)))) .(EvK.nil)) ((by with_unfolding_all exact c2)))
end
end
section
noncomputable def bo2212:PSigma (fun l=>(qbo (nth bd22.1 12))=l):=⟨_,by conv=>lhs;whnf⟩
noncomputable def ta2212:PSigma (fun l=>(qcc (nth bd22.1 12))=l):=⟨_,by conv=>lhs;whnf⟩
noncomputable def la22d:PSigma (fun l=>qmi (kwE (quy (qdd (nth (qbo (nth bd22.1 12)) 2)) 0) 0)=l):=⟨_,by conv=>lhs;whnf⟩
section
theorem qq4 {p:Int}(hpv:plain v=true)(k:Nat)(fr:List Env)(Y:Nat->Prop):Calls W Y (k+1) fr σ (.clo la22d.1 [] []) [.tup [.int p,v]] [] [] (.int p) σ:=by
  have hp:plain (.tup [.int p,v])=true:=by show (true&&(plain v&&true))=true;rw[hpv];rfl
  refine Iaz (m0:=qcz [] [none]) (m1:=[some (.tup [.int p,v])]) (xs:=["pair"]) (CloIn.of [none] rfl rfl rfl (by kernel_rfl) (by kernel_rfl) rfl) (fun fd h1 h2 h3 us hl=>?_) (Binds.cons (i:=0) rfl (.inl rfl) (.inl hp) .nil) (fun cd env=>?_) (Nat.le_refl _) rfl
  . match us,hl with
    | [u],_=>
      cases fd
      simp only at h1 h2 h3;subst h1 h2 h3;rfl
  . show Ev _ _ _ _ _ (.Subscript _ _ _) _ _;with_reducible exact .(Iaa .(Ia0 0) .(Ia1) .(⟨_,rfl,rfl⟩))
theorem qof (hn:σ[n]?=some (.lst (qa1 L))):qmw W 1 (fun _=>False) (fun _:Unit=>σ) (fun _=>True) (.clo la22d.1 [] []) (.loc n) (qa1 L) (fun j=>((L.map (·.1)).getD j 0)):=by
  refine ⟨Kept.clo,rfl,fun s _=>Lv.loc hn,fun j v hv=>?_⟩;refine qa4 (qdi hv) ?_;intro p hp e;have hr:(L.map (·.1))[j]?=some p.1:=by rw[List.getElem?_map,hp];rfl
  rw[e,qaw hr];exact Ibk fun k fr Y=>qq4 rfl k fr Y
end
section
theorem mem_rs {x:Int}:x∈rsL c↔x=0\/∃i j,i<5/\j<5/\j≠i/\x=DC c i j - eI c i:=by
  unfold rsL;rw[List.mem_cons,List.mem_flatMap];constructor
  . rintro (h | ⟨i,hi,h⟩)
    . exact .inl h
    . refine qa4 (List.mem_map.mp h) ?_;intro j hj e;rw[List.mem_filter] at hj;have h2:=hj.2;simp only[bne_iff_ne,ne_eq] at h2;exact .inr ⟨i,j,List.mem_range.mp hi,List.mem_range.mp hj.1,by intro e;apply h2;rw[e],e.symm⟩
  . rintro (h | ⟨i,j,hi,hj,hne,e⟩)
    . exact .inl h
    . refine .inr ⟨i,List.mem_range.mpr hi,List.mem_map.mpr ⟨j,List.mem_filter.mpr ⟨List.mem_range.mpr hj,?_⟩,e.symm⟩⟩;simp only[bne_iff_ne,ne_eq];lia
theorem mem_re {x:Int}:x∈reL c↔x∈rsL c/\0<=x:=by
  unfold reL lnL;rw[List.mem_map];constructor
  . rintro ⟨p,hp,e⟩
    refine qal (pairsI_mem.mp ((qfh _ _).mp hp)) ?_;intro k h1 h2 h3;rw[<- e];exact ⟨List.mem_of_getElem? h1,h3⟩
  . rintro ⟨h,h0⟩
    obtain ⟨k,hk⟩:=List.mem_iff_getElem?.mp h;exact ⟨(x,k),(qfh _ _).mpr (pairsI_mem.mpr ⟨k,hk,rfl,h0⟩),rfl⟩
theorem ql7 {x:Int}(h:x∈reL c):0<=x/\x<=30:=by
  refine And.elim ?_ (mem_re.mp h);intro h1 h2;refine ⟨h2,?_⟩;rcases mem_rs.mp h1 with e | ⟨i,j,hi,hj,_,e⟩
  . simp_all
  . refine Exists.elim (qn4 c) ?_;intro sub T;have:=T.le i j hi hj;have:=qmk c i;omega
theorem qdf (c:Nat->Int):(reL c).Pairwise (·<=·):=by
  unfold reL;rw[List.pairwise_map];exact qjx (qdz c).2.2
theorem qja {t:Nat}(ht:t<5):leI c t∈reL c:=by
  refine mem_re.mpr ?_;rcases qpz (c:=c) (p:=t+1) (by simp +arith) (by assumption) with h | ⟨i,j,hi,hj,hne,e,h0⟩
  . exact ⟨mem_rs.mpr (.inl h),by show 0<=leI c t;rw[show leI c t=0 from h];exact Int.le_refl 0⟩
  . exact ⟨mem_rs.mpr (.inr ⟨i,j,hi,hj,hne,e⟩),Int.le_of_lt h0⟩
theorem qgx (c:Nat->Int):(reL c).length=(lnL c).length:=by rw[reL,List.length_map]
theorem qni (c:Nat->Int)(x:Int):(reL c).Pairwise fun a b=>decide (b<x)=true->decide (a<x)=true:=(qdf c).imp fun h=>by simp only[decide_eq_true_eq];lia
theorem qnj (c:Nat->Int)(x:Int):(reL c).Pairwise fun a b=>decide (b<=x)=true->decide (a<=x)=true:=(qdf c).imp fun h=>by simp only[decide_eq_true_eq];lia
theorem qpg {t:Nat}(ht:t<5)(hj:j<(reL c).length):((reL c).getD j 0<leI c t↔j<(reL c).idxOf (leI c t))/\(leI c t<(reL c).getD j 0↔(reL c).idxOf (leI c t)+(reL c).count (leI c t)<=j):=by
  refine Exists.elim (qi6 hj) ?_;intro y hy;rw[qaw hy];have h1:=qbz (qni c (leI c t)) j y hy;have h2:=qbz (qnj c (leI c t)) j y hy;rw[qlj,<- qdv (qdf c) (qja ht)] at h2;rw[<- qdv (qdf c) (qja ht)] at h1;simp only[decide_eq_true_eq] at h1 h2;exact ⟨h1,(Int.not_le.symm.trans (not_congr h2)).trans Nat.not_lt⟩
theorem qu3 {t:Nat}(ht:t<5):(reL c).idxOf (leI c t)<=(lnL c).length:=by
  rw[qdv (qdf c) (qja ht),<- qgx];exact List.length_filter_le _ _
theorem qlz {t:Nat}(ht:t<5)(hj:j<(reL c).length):(qad c ((reL c).getD j 0)).1.length<=t+1↔(reL c).idxOf (leI c t)<=j:=by
  have hd:=(qpg ht hj).1;refine Exists.elim (qi6 hj) ?_;intro y hy;rw[qaw hy] at hd ⊢;refine And.elim ?_ (ql7 (List.mem_of_getElem? hy));intro h0 h30;rw[<- qob h0 h30 (p:=t+1) (by simp) (by assumption)];exact Int.not_lt.symm.trans ((not_congr hd).trans Nat.not_lt)
end
end
section
noncomputable def qse (c:Nat->Int) (n t r:Nat):List (Option AV):=[none,none,none,some (.lst (qag c)),none,some (.loc n),some (.int ((c 5).fmod 28)),some (.int ((t:Nat):Int)),none,none,none,some (.lst (qa1 (lnL c))),some (.lst (qa0 (reL c))),some (.int (qb8 c)),some (.int (qb6 c)),some (.int (leI c t)),some (.lst [.int (r:Nat),.int (r:Nat)]),none,none,none,none,none,none,some (.loc (n+1)),some (mA (qa6 c 4)),some (.loc 2),none,none,none,none,none,none,none,none,none,none,none,none,none,none,none,none,none]
noncomputable def qrl (c:Nat->Int) (n t r:Nat) (hd:AV):List (Option AV):=[none,none,none,some (.lst (qag c)),none,some (.loc n),some (.int ((c 5).fmod 28)),some (.int ((t:Nat):Int)),none,none,none,some (.lst (qa1 (lnL c))),some (.lst (qa0 (reL c))),some (.int (qb8 c)),some (.int (qb6 c)),some (.int (leI c t)),some (.lst [.int (r:Nat),.int (r:Nat)]),some (hd),none,none,none,none,none,some (.loc (n+1)),some (mA (qa6 c 4)),some (.loc 2),none,none,none,none,none,none,none,none,none,none,none,none,none,none,none,none,none]
noncomputable def qpy (c:Nat->Int) (n t:Nat) (ws as:List Nat):List (Option AV):=[none,none,none,some (.lst (qag c)),none,some (.loc n),some (.int ((c 5).fmod 28)),some (.int ((t:Nat):Int)),none,none,none,some (.lst (qa1 (lnL c))),some (.lst (qa0 (reL c))),some (.int (qb8 c)),some (.int (qb6 c)),some (.int (leI c t)),none,none,some (.lst (qa8 ws)),some (.lst (qa8 as)),none,none,none,some (.loc (n+1)),some (mA (qa6 c 4)),some (.loc 2),none,none,none,none,none,none,none,none,none,none,none,none,none,none,none,none,none]
noncomputable def qul (c:Nat->Int) (n t:Nat) (ws as os:List Nat):List (Option AV):=[none,none,none,some (.lst (qag c)),none,some (.loc n),some (.int ((c 5).fmod 28)),some (.int ((t:Nat):Int)),none,none,none,some (.lst (qa1 (lnL c))),some (.lst (qa0 (reL c))),some (.int (qb8 c)),some (.int (qb6 c)),some (.int (leI c t)),none,none,some (.lst (qa8 ws)),some (.lst (qa8 as)),some (.lst ([ws,os].map fun l=>AV.lst (qa8 l))),none,none,some (.loc (n+1)),some (mA (qa6 c 4)),some (.loc 2),none,none,none,none,none,none,none,none,none,none,none,none,none,none,none,none,none]
section
variable (F : Fac W) {t:Nat}
include F in
theorem qst (hK:qgm W cd)(S:StD c n σ)(h:PK c ks)(ht:t<5)(hY:∀m,Y m):∃ks',PK c ks'/\∀(k:Nat) (fr:List Env),Ex ⟨W,Y,nm22.1,cd⟩ (k+6) fr (qsf c n t) (sgB σ c ks) (nth bo2212.1 0) .next (qse c n t ((reL c).idxOf (leI c t))) (sgB σ c ks'):=by
  have hlen:(qa1 (lnL c)).length=(reL c).length:=by rw[qa1,List.length_map,qgx]
  obtain ⟨ks',h',hev⟩:=qnq F hK S h (t:=t) (r:=(reL c).idxOf (leI c t)) (qu3 ht) hY
    (fun j _ hj=>by
      rw[hlen] at hj;have:=qlz ht hj;show -(((qad c ((reL c).getD j 0)).1.length:Nat):Int)<_↔_;omega)
    (fun j _ hj=>by
      rw[hlen] at hj;have:=qlz ht hj;show _ < -(((qad c ((reL c).getD j 0)).1.length:Nat):Int)↔_;omega)
  refine ⟨ks',h',fun k fr=>?_⟩;have hev:Ev ⟨W,Y,nm22.1,cd⟩ (k+6) fr (qsf c n t) (sgB σ c ks) (qdd (nth bo2212.1 0)) (.lst [.int (((reL c).idxOf (leI c t):Nat):Int),.int (((reL c).idxOf (leI c t):Nat):Int)]) (sgB σ c ks'):=hev k fr;have hx:Ex ⟨W,Y,nm22.1,cd⟩ (k+6) fr (qsf c n t) (sgB σ c ks) (nth bo2212.1 0) .next ((qsf c n t).set 16 (some (.lst [.int (((reL c).idxOf (leI c t):Nat):Int),.int (((reL c).idxOf (leI c t):Nat):Int)]))) (sgB σ c ks'):=by
    show Ex _ _ _ _ _ (.Assign _ _ _) _ _ _;with_reducible refine Ic8 (i:=16) Uu ?_ Uu
    exact hev
  exact hx
include F in
theorem qss (ht:t<5):Ex ⟨W,Y,nm22.1,cd⟩ k fr (qse c n t ((reL c).idxOf (leI c t))) σ (nth bo2212.1 1) .next (qse c n t ((reL c).idxOf (leI c t))) σ:=by
  have hzr:(reL c).length<=1000:=by rw[qgx];have:=(qdz c).1;lia
  have hne:false=true↔AV.lst (qa0 [(((reL c).idxOf (leI c t):Nat):Int),(((reL c).idxOf (leI c t):Nat):Int)])≠.lst (qa0 [(((reL c).idxOf (leI c t):Nat):Int),(((reL c).idxOf (leI c t):Nat):Int)]):=by simp
  show Ex _ _ _ _ _ (.If _ _ _ _) _ _ _;with_reducible exact .(Ia9 (c:=false) .(Iac .(Ia3 .(Ia6 16) .(Ia2 .(Ev.list (Evs.cons .(Iam .(Ia0 12) (by exact Idn .(Lv.fz)) .(Kept.builtin) (Evs.cons .(Ia6 15) .(Evs.nil)) (by with_unfolding_all exact (Idc Lv.fz hzr (qja ht)))) .(Evs.nil))) .(Ia1) (Idd Lv.fz (by decide) (by decide) (by with_unfolding_all exact Nat.le_of_ble_eq_true rfl))) ((by with_unfolding_all exact Ibz (c:=false) (Dv.ints (l:=[(((reL c).idxOf (leI c t):Nat):Int),(((reL c).idxOf (leI c t):Nat):Int)])) (Dv.ints (l:=[(((reL c).idxOf (leI c t):Nat):Int),(((reL c).idxOf (leI c t):Nat):Int)])) hne))) rfl) (fun h=>nomatch h) (fun _=>.(Exs.nil)))
noncomputable def heL (c:Nat->Int) (t f b:Nat):Nat:=min (max ((reL c).idxOf (leI c t)) f) b
noncomputable def heR (c:Nat->Int) (t f b:Nat):Nat:=min (max ((reL c).idxOf (leI c t)+(reL c).count (leI c t)) f) b
include F in
theorem qsr (hK:qgm W cd)(hn:σ[n]?=some (.lst (qa1 (lnL c))))(ht:t<5){f:Nat}(hf:qb8 c=f)(hb:qb6 c=b)(hfb:f<=b)(hbl:b<=(lnL c).length):Ex ⟨W,Y,nm22.1,cd⟩ (k+2) fr (qse c n t ((reL c).idxOf (leI c t))) σ (nth bo2212.1 2) .next (qrl c n t ((reL c).idxOf (leI c t)) (.lst (qa0 [(heL c t f b:Nat),(heR c t f b:Nat)]))) σ:=by
  refine qgr hK ?_;intro lc lP hLam;have hzl:(qa1 (lnL c)).length<=sizeLine:=by rw[qa1,List.length_map,sizeLine_eq];have:=(qdz c).1;lia
  have hzr:(qa0 (reL c)).length<=sizeLine:=by rw[qa0,List.length_map,qgx,sizeLine_eq];have:=(qdz c).1;lia
  have hj:∀{j},j<b->j<(reL c).length:=fun h=>by rw[qgx];exact Nat.lt_of_lt_of_le h hbl
  obtain ⟨_,_,c1⟩:=qs8 F (qof (W:=W) (L:=lnL c) hn) (s:=()) trivial (fun _ _=>rfl) hzl (.inr rfl) (x:=leI c t) (r:=heL c t f b) (lo:=f) (hi:=b) (by rw[qa1,List.length_map];exact hbl) (qte hfb) qtd
    (fun j h1 h2=>(qpg (c:=c) ht (j:=j) (hj h2)).1.trans (qtb h1 h2).symm) (F.f4k4 _ _ _ _ _)
  have c2:Calls W Y (k+2) fr σ (.glob (.ref A2)) [.lst (qa0 (reL c)),.int (leI c t),.int (qb8 c),.int (qb6 c)] [] [] (.int ((heR c t f b:Nat):Int)) σ:=by
    rw[hf,hb];exact qv1 F (k:=k+1) (κ:=fun j=>(reL c).getD j 0) (r:=heR c t f b) Lv.fz (fun j h1 h2=>qg9 (hj h2)) hzr (.inr rfl) (by rw[qa0,List.length_map,qgx];exact hbl) (qte hfb) qtd
      (fun j h1 h2=>(qpg (c:=c) ht (j:=j) (hj h2)).2.trans (qtc h1 h2).symm) (F.f2n4 _ _ _ _)
  have c1:=c1 k fr Y nofun;rw[<- hf,<- hb] at c1;have hk1:=(F.f4k4 .none .none .none .none .none).kept;have hk2:=(F.f2n4 .none .none .none .none).kept;have hx:Ex ⟨W,Y,nm22.1,cd⟩ (k+2) fr (qse c n t ((reL c).idxOf (leI c t))) σ (nth bo2212.1 2) .next ((qse c n t ((reL c).idxOf (leI c t))).set 17 (some (.lst [.int ((heL c t f b:Nat):Int),.int ((heR c t f b:Nat):Int)]))) σ:=by
    show Ex _ _ _ _ _ (.Assign _ _ _) _ _ _;with_reducible exact .(Ia4 .(Ev.list (Evs.cons .(Ev.call .(Ial 38 F.g_bisect_left) (hk1) (Evs.cons .(Ia6 5) .((Evs.cons .(Ia6 15) .((Evs.cons .(Ia6 13) .((Evs.cons .(Ia6 14) .(Evs.nil)))))))) (EvK.cons .((Ic1 (ns:=[]) (caps:=[]) (hLam _ _) (Iar (by kernel_rfl)))) .(EvK.nil)) ((by with_unfolding_all exact c1))) .((Evs.cons .(Ev.call .(Ial 39 F.g_bisect_right) (hk2) (Evs.cons .(Ia0 12) .((Evs.cons .(Ia6 15) .((Evs.cons .(Ia6 13) .((Evs.cons .(Ia6 14) .(Evs.nil)))))))) EvK.nil ((by with_unfolding_all exact c2))) .(Evs.nil))))) .(Ia5 17))
  exact hx
include F in
theorem qsq (ht:t<5){f:Nat}(hf:qb8 c=f)(hb:qb6 c=b):Ex ⟨W,Y,nm22.1,cd⟩ k fr (qrl c n t ((reL c).idxOf (leI c t)) (.lst (qa0 [(heL c t f b:Nat),(heR c t f b:Nat)]))) σ (nth bo2212.1 3) .next (qrl c n t ((reL c).idxOf (leI c t)) (.lst (qa0 [(heL c t f b:Nat),(heR c t f b:Nat)]))) σ:=by
  have e1:min (max (((reL c).idxOf (leI c t):Nat)+(0:Int)) (qb8 c)) (qb6 c)=((heL c t f b:Nat):Int):=by rw[hf,hb,Int.add_zero];exact mmI _ _ _
  have e2:min (max (((reL c).idxOf (leI c t):Nat)+(((reL c).count (leI c t):Nat):Int)) (qb8 c)) (qb6 c)=((heR c t f b:Nat):Int):=by rw[hf,hb];exact mmI _ _ _
  have hne:false=true↔AV.lst (qa0 [((heL c t f b:Nat):Int),((heR c t f b:Nat):Int)])≠.lst (([0,(((reL c).count (leI c t):Nat):Int)]).map fun m=>.int (min (max (((reL c).idxOf (leI c t):Nat)+m) (qb8 c)) (qb6 c))):=by
    rw[<- e1,<- e2];simp
  have hz2:([AV.int (((reL c).idxOf (leI c t):Nat):Int),.int (((reL c).idxOf (leI c t):Nat):Int)]).length<=sizeLine:=by rw[sizeLine_eq];exact (by decide:2<=16777216)
  have hD:D1 64 (.lst (([0,(((reL c).count (leI c t):Nat):Int)]).map fun m=>AV.int (min (max (((reL c).idxOf (leI c t):Nat)+m) (qb8 c)) (qb6 c)))):=D1.lst (d:=63) fun _ _=>D1.int
  show Ex _ _ _ _ _ (.If _ _ _ _) _ _ _;with_reducible exact .(Ia9 (c:=false) .(Iac .(Ia3 .(Ia0 17) .(Iae .(ItE.tuple .(Ev.tuple (Evs.cons .(Ia1) .((Evs.cons .(Iam .(Ia0 12) (by exact Meth.count .(Lv.fz)) .(Kept.builtin) (Evs.cons .(Ia6 15) .(Evs.nil)) (by with_unfolding_all exact (Calls.count Lv.fz))) .(Evs.nil)))))) (CompIn.of [none,none,none,none,some 14,some 13,some 16] (by kernel_rfl) (by kernel_rfl)) .(CompC.map Uu ([0,(((reL c).count (leI c t):Nat):Int)]) (AV.int) ((fun m=>AV.int (min (max (((reL c).idxOf (leI c t):Nat)+m) (qb8 c)) (qb6 c)))) _ (fun x hx=>.(Ia5 1)) (fun x hx=>.(Ev.call .(Iaf 2 F.b_min) .(Kept.builtin) (Evs.cons .(Ev.call .(Iaf 3 F.b_max) .(Kept.builtin) (Evs.cons .(Ia2 .(Ia8 .(Ia6 6) .(Ia1) .(Lv.fz) (by exact qb4 (j:=0) rfl rfl) (by exact hz2)) .(Ia0 1) .(Op2.add)) .((Evs.cons .(Ia6 5) .(Evs.nil)))) EvK.nil (Ibx)) .((Evs.cons .(Ia6 4) .(Evs.nil)))) EvK.nil (Ibw))) .(fun _=>Weak.set Uu))) (Ibz (c:=false) Dv.ints (Dv.of hD) hne)) rfl) (fun h=>nomatch h) (fun _=>.(Exs.nil)))
end
end
section
section
noncomputable def qpk (l:List Nat):List Nat:=(List.range 5).filter fun i=>l.contains i
theorem qfp {l:List Nat}(h:l.Nodup)(h5:∀w∈l,w<5):(qpk l).Perm l:=by
  refine (List.perm_ext_iff_of_nodup (List.nodup_range.filter _) h).mpr fun a=>?_
  rw[List.mem_filter,List.mem_range,List.contains_iff_mem];exact ⟨fun h=>h.2,fun h=>⟨h5 a h,h⟩⟩
theorem qfo (l:List Nat):(qpk l).Pairwise (· < ·):=(List.pairwise_lt_range (n:=5)).filter _
theorem qr8 {l:List Nat}:∀w∈qpk l,w<5:=fun w hw=>List.mem_range.mp (List.mem_filter.mp hw).1
noncomputable def bN (c:Nat->Int):Nat:=((c 5).fmod 28).toNat
theorem qs9 (c:Nat->Int):(c 5).fmod 28=(bN c:Nat)/\bN c<=27:=by
  have h1:0<=(c 5).fmod 28:=Int.fmod_nonneg_of_pos _ (by simp +arith);have h2:(c 5).fmod 28<28:=Int.fmod_lt_of_pos _ (by simp +arith);unfold bN;lia
noncomputable def plc (c:Nat->Int) (l:List Nat):List Nat:=(qpk l).map (bN c + ·)
theorem qgy (c:Nat->Int)(l:List Nat):(∀p∈plc c l,p<32)/\(plc c l).Pairwise (· < ·)/\(plc c l).length<=5:=by
  have hb:=(qs9 c).2;refine ⟨fun p hp=>?_,?_,?_⟩
  . refine qa4 (List.mem_map.mp hp) ?_;intro w hw e;have:=qr8 w hw;lia
  . unfold plc;rw[List.pairwise_map];exact (qfo l).imp fun h=>by simp_all
  . unfold plc;rw[List.length_map];exact List.length_filter_le _ _
theorem qns {l l':List Int}(h:l.Perm l'):l.sum=l'.sum:=by
  induction h with
  | nil=>rfl
  | cons x _ ih=>rw[List.sum_cons,List.sum_cons,ih]
  | swap x y l=>simp only[List.sum_cons];simp +arith
  | trans _ _ h1 h2=>exact h1.trans h2
theorem qot {l:List Nat}(h:l.Nodup)(h5:∀w∈l,w<5):(l.map fun w=>(2:Int) ^ ((c 5).fmod 28+(w:Nat)).toNat).sum=qaa (plc c l):=by
  have e:(plc c l).map (fun p=>(2:Int) ^ p)=(qpk l).map fun w=>(2:Int) ^ ((c 5).fmod 28+(w:Nat)).toNat:=by
    unfold plc;rw[List.map_map];refine List.map_congr_left fun w hw=>?_
    have hb:=(qs9 c).1;show (2:Int) ^ (bN c+w)=_;rw[hb];congr 1
  unfold qaa;rw[e];exact (qns ((qfp h h5).map _)).symm
noncomputable def otN (ws:List Nat):List Nat:=(List.range 5).filter fun i=>!ws.contains i
theorem qlc (ws:List Nat):(otN ws).Nodup/\∀w∈otN ws,w<5:=⟨List.nodup_range.filter _,fun w hw=>List.mem_range.mp (List.mem_filter.mp hw).1⟩
end
theorem qds (l:List Nat):plain (.lst (qa8 l))=true:=qa7 (fun _=>rfl) l
theorem qil (c:Nat->Int):plain (mA (qa6 c 4))=true:=qa7 (fun _=>qap _) _
theorem qvo (c:Nat->Int)(n t:Nat)(ws as:List Nat):qfw [none,none,none,some (.int (leI c t)),some (mA (qa6 c 4)),some (.lst (qag c)),some (.lst (qa8 ws))]=true:=by
  show (true&&(plain (mA (qa6 c 4))&&(true&&(plain (.lst (qa8 ws))&&true))))=true;rw[qds,qil];rfl
theorem qvn (c:Nat->Int)(n t:Nat)(ws as:List Nat):qfw [none,none,none,some (.lst (qa8 as)),some (.int (leI c t)),some (mA (qa6 c 4)),some (.lst (qag c))]=true:=by
  show (plain (.lst (qa8 as))&&(true&&(plain (mA (qa6 c 4))&&(true&&true))))=true;rw[qds,qil];rfl
section
variable (F : Fac W) {t:Nat} {hd:AV} {ws as:List Nat}
include F in
theorem qsp (S:StD c n σ)(h:PK c ks)(hY:Y (n+1)):Ex ⟨W,Y,nm22.1,cd⟩ (k+4) fr (qrl c n t r hd) (sgB σ c ks) (nth bo2212.1 4) .next (qpy c n t (qad c (leI c t)).1 (qad c (leI c t)).2) (sgB σ c (qr2 ks (leI c t))):=by
  have hw:=qky F (Y:=Y) (k:=k) (fr:=fr) S h hY (leI c t);have hkI:=(F.f20 .none .none .none .none rfl rfl rfl rfl).kept;have p1:∀l:List Nat,plain (.lst (qa8 l))=true:=fun l=>qa7 (fun _=>rfl) l
  have p1a:=p1 (qad c (leI c t)).1;have p1b:=p1 (qad c (leI c t)).2;have p2:plains [.lst (qa8 (qad c (leI c t)).2)]=true:=by show (plain _&&true)=true;rw[p1b];rfl
  have hx:Ex ⟨W,Y,nm22.1,cd⟩ (k+4) fr (qrl c n t r hd) (sgB σ c ks) (nth bo2212.1 4) .next (((qrl c n t r hd).set 18 (some (.lst (qa8 (qad c (leI c t)).1)))).set 19 (some (.lst (qa8 (qad c (leI c t)).2)))) (sgB σ c (qr2 ks (leI c t))):=by
    show Ex _ _ _ _ _ (.Assign _ _ _) _ _ _;with_reducible exact .(Ia4 .(Ev.call .(Ial 40 F.g_law_wells) (hkI) (Evs.cons .(Ia6 25) .((Evs.cons .(Ia6 15) .((Evs.cons .(Ia6 24) .((Evs.cons .(Ia6 23) .(Evs.nil)))))))) EvK.nil (hw)) .(As.tuple .(AsL.cons .(Ib9 18 (hp:=(by assumption))) .(AsL.cons .(Ib9 19 (hp:=(by assumption))) .(AsL.nil) (hp:=Uu)) (hp:=(by assumption)))))
  exact Ex.post hx (Weak.of (by simp[qay,qrl,qpy]))
include F in
theorem qso (hne0:ws≠[])(h5:∀w∈ws,w<5)(hz:ws.length<=5)(hsv:∀i,i<5->∃w∈ws,DC c i w<=leI c t+eI c i):Ex ⟨W,Y,nm22.1,cd⟩ k fr (qpy c n t ws as) σ (nth bo2212.1 5) .next (qpy c n t ws as) σ:=by
  have lt5:∀x:Nat,x∈List.range 5->x<5:=fun x hx=>List.mem_range.mp hx
  have hzw:ws.length<=2 ^ 20:=Nat.le_trans hz (by decide);have hmn:∀i,qmb (ws.map (DC c i))∈ws.map (DC c i)/\∀a∈ws.map (DC c i),qmb (ws.map (DC c i))<=a:=fun i=>qo7 (by simpa using hne0)
  have hem:(List.range 5).filter (fun i=>decide (leI c t+eI c i<qmb (ws.map (DC c i))))=[]:=List.filter_eq_nil_iff.mpr fun i hi=>by
    refine qa4 (hsv i (lt5 i hi)) ?_;intro w hw hd;have:=(hmn i).2 _ (List.mem_map.mpr ⟨w,hw,rfl⟩);simp only[decide_eq_true_eq];omega
  have hne:false=true↔AV.lst (((List.range 5).filter fun i=>decide (leI c t+eI c i<qmb (ws.map (DC c i)))).map fun i:Nat=>.int (0+(i:Nat)*1))≠.lst []:=by rw[hem];simp
  have hD:D1 64 (.lst (((List.range 5).filter fun i=>decide (leI c t+eI c i<qmb (ws.map (DC c i)))).map fun i:Nat=>AV.int (0+(i:Nat)*1))):=D1.lst (d:=63) fun _ _=>D1.int
  have hJ:=qvo c n t ws as;show Ex _ _ _ _ _ (.If _ _ _ _) _ _ _;with_reducible exact .(Ia9 (c:=false) .(Iac .(Ia3 .(Iae .(ItE.call .(Iaf 32 F.b_range) .(Kept.type) (Evs.cons .(Ia1) .(Evs.nil)) .(Iag (by decide))) (Ici [none,none,none,some 15,some 24,some 3,some 18] (by kernel_rfl) (by kernel_rfl) ((by with_unfolding_all exact hJ))) .(Iao Uu (List.range 5) ((fun i:Nat=>AV.int (0+(i:Nat)*1))) ((fun i=>decide (leI c t+eI c i<qmb (ws.map (DC c i))))) ((fun i:Nat=>AV.int (0+(i:Nat)*1))) _ (fun x hx=>.(Ib9 1)) (fun x hx=>.(Ia3 .(Ev.call .(Iaf 2 F.b_min) .(Kept.builtin) (Evs.cons .(Iae .(ItE.list .(Ia6 6) .(Lv.fz)) (CompIn.of [none,none,some 4,some 1] (by kernel_rfl) (by kernel_rfl)) .(CompC.map (hp:=by with_unfolding_all exact qai (fun _=>rfl) _) Uu (ws) ((fun w:Nat=>AV.int w)) ((fun w=>AV.int (DC c x w))) _ (fun x1 hx1=>.(Ia5 1)) (fun x1 hx1=>.(Ia8 .(Ia8 .(Ia6 2) .(Ia6 3) .(Lv.fz) (by exact qb4 ix0 (qj6 (lt5 x hx)).1) (by exact (z5 c).1)) .(Ia0 1) .(Lv.fz) (by exact qb4 rfl (qkj (lt5 x hx) (h5 x1 hx1))) (by exact z5r (lt5 x hx)))) .(fun _=>Weak.set Uu) (hz:=by exact hzw))) .(Evs.nil)) EvK.nil ((by exact Ie0 qo9 (hmn x).1 (hmn x).2))) .(Ia2 .(Ia6 3) .(Iaa .(Ia8 .(Ia6 5) .(Ia6 1) .(Lv.fz) (by exact qb4 ix0 (qea (lt5 x hx))) (by exact (z5 c).2)) .(Ia1) .(⟨_,rfl,rfl⟩)) .(Op2.add)) .(Icw))) (fun x hx hp=>.(Ia6 1)) .(fun _=>Weak.set Uu))) .(Ev.list Evs.nil) (Ibz (c:=false) (Dv.of hD) (Dv.of D1.nil) hne)) rfl) (fun h=>nomatch h) (fun _=>.(Exs.nil)))
include F in
theorem qsn (h5:∀w∈as,w<5)(hz:as.length<=5)(hap:∀v,v<5->(as.filter fun a=>decide (DC c a v<=leI c t+eI c a)).length<=1):Ex ⟨W,Y,nm22.1,cd⟩ k fr (qpy c n t ws as) σ (nth bo2212.1 6) .next (qpy c n t ws as) σ:=by
  have lt5:∀x:Nat,x∈List.range 5->x<5:=fun x hx=>List.mem_range.mp hx
  have hzw:as.length<=2 ^ 20:=Nat.le_trans hz (by decide);have hzf:∀v:Nat,((as.filter fun a=>decide (DC c a v<=leI c t+eI c a)).map fun a:Nat=>AV.int a).length<=sizeLine:=fun v=>by
    rw[List.length_map,sizeLine_eq];have:=List.length_filter_le (fun a=>decide (DC c a v<=leI c t+eI c a)) as;omega
  have hem:(List.range 5).filter (fun v=>decide ((1:Int)<((((as.filter fun a=>decide (DC c a v<=leI c t+eI c a)).map fun a:Nat=>AV.int a).length:Nat):Int)))=[]:=List.filter_eq_nil_iff.mpr fun v hv=>by
    have:=hap v (lt5 v hv);rw[List.length_map];simp only[decide_eq_true_eq];omega
  have hne:false=true↔AV.lst (((List.range 5).filter (fun v=>decide ((1:Int)<((((as.filter fun a=>decide (DC c a v<=leI c t+eI c a)).map fun a:Nat=>AV.int a).length:Nat):Int)))).map fun i:Nat=>.int (0+(i:Nat)*1))≠.lst []:=by rw[hem];simp
  have hJ:=qvn c n t ws as;have hD:D1 64 (.lst (((List.range 5).filter (fun v=>decide ((1:Int)<((((as.filter fun a=>decide (DC c a v<=leI c t+eI c a)).map fun a:Nat=>AV.int a).length:Nat):Int)))).map fun i:Nat=>AV.int (0+(i:Nat)*1))):=D1.lst (d:=63) fun _ _=>D1.int
  show Ex _ _ _ _ _ (.If _ _ _ _) _ _ _;with_reducible exact .(Ia9 (c:=false) .(Iac .(Ia3 .(Iae .(ItE.call .(Iaf 32 F.b_range) .(Kept.type) (Evs.cons .(Ia1) .(Evs.nil)) .(Iag (by decide))) (Ici [none,none,none,some 19,some 15,some 24,some 3] (by kernel_rfl) (by kernel_rfl) ((by with_unfolding_all exact hJ))) .(Iao Uu (List.range 5) ((fun i:Nat=>AV.int (0+(i:Nat)*1))) ((fun v=>decide ((1:Int)<((((as.filter fun a=>decide (DC c a v<=leI c t+eI c a)).map fun a:Nat=>AV.int a).length:Nat):Int)))) ((fun i:Nat=>AV.int (0+(i:Nat)*1))) _ (fun x hx=>.(Ib9 1)) (fun x hx=>.(Ia3 .(Ev.call .(Iaf 2 F.b_len) .(Kept.builtin) (Evs.cons .(Iae .(ItE.list .(Ia6 3) .(Lv.fz)) (CompIn.of [none,none,some 4,some 5,some 1,some 6] (by kernel_rfl) (by kernel_rfl)) .(Iao (hp:=by with_unfolding_all exact qai (fun _=>rfl) _) Uu (as) ((fun w:Nat=>AV.int w)) ((fun a=>decide (DC c a x<=leI c t+eI c a))) ((fun w:Nat=>AV.int w)) _ (fun x1 hx1=>.(Ia5 1)) (fun x1 hx1=>.(Ia3 .(Ia8 .(Ia8 .(Ia6 3) .(Ia0 1) .(Lv.fz) (by exact qb4 rfl (qj6 (h5 x1 hx1)).1) (by exact (z5 c).1)) .(Ia6 4) .(Lv.fz) (by exact qb4 ix0 (qkj (h5 x1 hx1) (lt5 x hx))) (by exact z5r (h5 x1 hx1))) .(Ia2 .(Ia6 2) .(Iaa .(Ia8 .(Ia6 5) .(Ia0 1) .(Lv.fz) (by exact qb4 rfl (qea (h5 x1 hx1))) (by exact (z5 c).2)) .(Ia1) .(⟨_,rfl,rfl⟩)) .(Op2.add)) .(Op2.le))) (fun x1 hx1 hp=>.(Ia0 1)) .(fun _=>Weak.set Uu) (hz:=by exact hzw))) .(Evs.nil)) EvK.nil ((by exact Calls.len Lv.fz (hzf x)))) .(Ia1) .(Icw))) (fun x hx hp=>.(Ia6 1)) .(fun _=>Weak.set Uu))) .(Ev.list Evs.nil) (Ibz (c:=false) (Dv.of hD) (Dv.of D1.nil) hne)) rfl) (fun h=>nomatch h) (fun _=>.(Exs.nil)))
end
end
section
theorem qnu (hps:∀p∈ps,p<32):PyData.strOk (Txt.join ", " (qax ps))=true:=by
  refine qrc (by decide +kernel) _ fun a ha=>?_
  unfold qax at ha;split at ha
  . rw[List.mem_singleton.mp ha];decide +kernel
  . refine qa4 (List.mem_map.mp ha) ?_;intro p hp e;rw[<- e];exact (qdc ⟨p,hps p hp⟩).2.2
section
variable (F : Fac W) {t:Nat} {hd:AV} {ws as:List Nat}
include F in
theorem qsm:Ex ⟨W,Y,nm22.1,cd⟩ k fr (qpy c n t ws as) σ (nth bo2212.1 7) .next (qul c n t ws as (otN ws)) σ:=by
  have hin:∀x:Nat,x∈List.range 5->((!ws.contains x)=true↔AV.int (0+(x:Nat)*1)∉qa8 ws):=fun x _=>by
    rw[qa8,List.mem_map,Bool.not_eq_true',<- Bool.not_eq_true,List.contains_iff_mem];constructor
    . rintro h ⟨w,hw,e⟩
      injection e with e
      exact h (by rw[show x=w by lia];exact hw)
    . intro h hx;exact h ⟨x,hx,by congr 1;simp +arith⟩
  have hDs:qix (qa8 ws)=true:=(D1s (d:=1) (f:=fun w:Nat=>AV.int w) fun _ _=>D1.int).1;have e1:AV.lst [.lst (qa8 ws),.lst (((List.range 5).filter fun i=>!ws.contains i).map fun i:Nat=>AV.int (0+(i:Nat)*1))]=.lst ([ws,otN ws].map fun l=>AV.lst (qa8 l)):=by
    have:(((List.range 5).filter fun i=>!ws.contains i).map fun i:Nat=>AV.int (0+(i:Nat)*1))=qa8 (otN ws):=by
      unfold qa8 otN;refine List.map_congr_left fun i _=>?_
      congr 1;simp +arith
    rw[this];rfl
  have hpb:plain (.lst ([ws,otN ws].map fun l=>AV.lst (qa8 l)))=true:=qa7 (fun l=>qds l) _;have hx:Ex ⟨W,Y,nm22.1,cd⟩ k fr (qpy c n t ws as) σ (nth bo2212.1 7) .next ((qpy c n t ws as).set 20 (some (.lst ([ws,otN ws].map fun l=>AV.lst (qa8 l))))) σ:=by
    show Ex _ _ _ _ _ (.Assign _ _ _) _ _ _;with_reducible exact .(Ia4 .(Ian .(Ev.list (Evs.cons .(Ia6 18) .((Evs.cons .(Iae .(ItE.call .(Iaf 32 F.b_range) .(Kept.type) (Evs.cons .(Ia1) .(Evs.nil)) .(Iag (by decide))) (CompIn.of [none,none,some 18] (by kernel_rfl) (by kernel_rfl)) .(Iao Uu (List.range 5) ((fun i:Nat=>AV.int (0+(i:Nat)*1))) ((fun i=>!ws.contains i)) ((fun i:Nat=>AV.int (0+(i:Nat)*1))) _ (fun x hx=>.(Ia5 1)) (fun x hx=>.(Ia3 .(Ia0 1) .(Ia6 2) (Idv Lv.fz hDs (Dv.of D1.int) (hin x hx)))) (fun x hx hp=>.(Ia0 1)) .(fun _=>Weak.set Uu))) .(Evs.nil))))) (e1)) .(Ia5 20 (hp:=(by assumption))))
  exact hx
include F in
theorem qsl (hnd:ws.Nodup)(h5:∀w∈ws,w<5):Ex ⟨W,Y,nm22.1,cd⟩ (k+2) fr (qul c n t ws as (otN ws)) σ (nth bo2212.1 8) .next (qul c n t ws as (otN ws)) σ:=by
  have ok:∀x∈[ws,otN ws],x.Nodup/\(∀w∈x,w<5)/\x.length<=5:=fun x hx=>by
    have hl:∀l:List Nat,l.Nodup->(∀w∈l,w<5)->l.length<=5:=fun l h1 h2=>by
      have:=(qfp h1 h2).length_eq;have h3:(qpk l).length<=5:=List.length_filter_le _ _
      simp_all
    rcases List.mem_cons.mp hx with e | hx
    . rw[e];exact ⟨hnd,h5,hl ws hnd h5⟩
    . rw[List.mem_singleton.mp hx];exact ⟨(qlc ws).1,(qlc ws).2,hl _ (qlc ws).1 (qlc ws).2⟩
  have hz:∀x∈[ws,otN ws],x.length<=2 ^ 20:=fun x hx=>Nat.le_trans (ok x hx).2.2 (by decide)
  have hzs:∀x:List Nat,((qpk x).map fun w=>((w:Nat):Int)).length<=2 ^ 20:=fun x=>by
    rw[List.length_map];exact Nat.le_trans (List.length_filter_le _ _) (by decide)
  have hb:=qs9 c;have hpw:∀w:Nat,w<5->(0:Int)<=(c 5).fmod 28+(w:Nat)/\(c 5).fmod 28+(w:Nat)<=1000000:=fun w hw=>by omega
  have hfl:∀x∈[ws,otN ws],AV.int ((x.map fun w=>(2:Int) ^ ((c 5).fmod 28+(w:Nat)).toNat).sum)=.int (qaa (plc c x)):=fun x hx=>by rw[qot (ok x hx).1 (ok x hx).2.1]
  have hpl:∀x:List Nat,AV.lst (((qpk x).map fun w=>((w:Nat):Int)).map fun v=>AV.int ((c 5).fmod 28+v))=.lst ((plc c x).map fun p=>.int (p:Nat)):=fun x=>by
    unfold plc;rw[List.map_map,List.map_map];congr 1
    refine List.map_congr_left fun w _=>?_
    show AV.int ((c 5).fmod 28+(w:Nat))=.int ((bN c+w:Nat):Int);congr 1;simp_all
  have hpb:plain (.lst ([ws,otN ws].map fun l=>AV.lst (qa8 l)))=true:=qa7 (fun l=>qds l) _;have hkf:=(F.f7 .none).kept;have hkw:=(F.f15 .none rfl).kept;have cf:∀x,Calls W Y (k+2) fr σ (.glob (.ref A7)) [.int (qaa (plc c x))] [] [] (.str (Txt.join ", " (qax (plc c x)))) σ:=fun x=>qkg F (k:=k+1) (qgy c x).1 (qgy c x).2.1 (by have:=(qgy c x).2.2;lia)
  have cw:∀x,Calls W Y (k+2) fr σ (.glob (.ref A15)) [.lst ((plc c x).map fun p=>.int (p:Nat))] [] [] (.str (Txt.join ", " (qax (plc c x)))) σ:=fun x=>qjq F (k:=k+1) (qgy c x).1 (by have:=(qgy c x).2.2;lia)
  have cs:∀x∈[ws,otN ws],Calls W Y (k+2) fr σ (.glob (.builtin "sorted")) [.lst (qa8 x)] [] [] (.lst (qa0 ((qpk x).map fun w=>((w:Nat):Int)))) σ:=fun x hx=>by
    refine Ics (ns:=x.map fun w=>((w:Nat):Int)) (.inl (by rw[qa0,List.map_map];rfl)) (by rw[List.length_map];have:=(ok x hx).2.2;lia) ((qfp (ok x hx).1 (ok x hx).2.1).map _) ?_;rw[List.pairwise_map];exact (qfo x).imp fun h=>by lia
  have hne:false=true↔AV.lst ([ws,otN ws].map fun x=>.str (Txt.join ", " (qax (plc c x))))≠.lst ([ws,otN ws].map fun x=>.str (Txt.join ", " (qax (plc c x)))):=by simp
  have hD:D1 64 (.lst ([ws,otN ws].map fun x=>AV.str (Txt.join ", " (qax (plc c x))))):=D1.lst (d:=63) fun x _=>D1.str (qnu (qgy c x).1)
  show Ex _ _ _ _ _ (.If _ _ _ _) _ _ _;with_reducible exact .(Ia9 (c:=false) .(Iac .(Ia3 .(Iae .(ItE.list .(Ia0 20) .(Lv.fz)) (CompIn.of [none,none,none,none,some 6] (by kernel_rfl) (by kernel_rfl)) .(CompC.map (hp:=by with_unfolding_all assumption) Uu ([ws,otN ws]) ((fun l=>AV.lst (qa8 l))) ((fun x=>AV.str (Txt.join ", " (qax (plc c x))))) _ (fun x hx=>.(Ia5 1 (hp:=.(qa7 (fun _=>Uu) _)))) (fun x hx=>.(Ev.call .(Ial 2 F.g_pretty_flags) (hkf) (Evs.cons .(Ian .(Ev.call .(Iaf 3 F.b_sum) .(Kept.builtin) (Evs.cons .(Iae .(ItE.list .(Ia0 1) .(Lv.fz)) (CompIn.of [none,none,some 4] (by kernel_rfl) (by kernel_rfl)) .(CompC.map (hp:=by with_unfolding_all exact qai (fun _=>rfl) _) Uu (x) ((fun w:Nat=>AV.int w)) ((fun w:Nat=>AV.int ((2:Int) ^ ((c 5).fmod 28+(w:Nat)).toNat))) _ (fun x1 hx1=>.(Ia5 1)) (fun x1 hx1=>.(Ia2 .(Ia1) .(Ia2 .(Ia6 2) .(Ia0 1) .(Op2.add)) (Ick (hpw x1 ((ok x hx).2.1 x1 hx1)).1 (hpw x1 ((ok x hx).2.1 x1 hx1)).2 (by decide)))) .(fun _=>Weak.set Uu) (hz:=by exact hz x hx))) .(Evs.nil)) EvK.nil ((by exact Calls.sum qo9))) (hfl x hx)) .(Evs.nil)) EvK.nil (cf x))) .(fun _=>Weak.set Uu))) .(Iae .(ItE.list .(Ia0 20) .(Lv.fz)) (CompIn.of [none,none,none,none,some 6] (by kernel_rfl) (by kernel_rfl)) .(CompC.map (hp:=by with_unfolding_all assumption) Uu ([ws,otN ws]) ((fun l=>AV.lst (qa8 l))) ((fun x=>AV.str (Txt.join ", " (qax (plc c x))))) _ (fun x hx=>.(Ia5 1 (hp:=.(qa7 (fun _=>Uu) _)))) (fun x hx=>.(Ev.call .(Ial 2 F.g_law_words) (hkw) (Evs.cons .(Ian .(Iae .(ItE.list .(Ev.call .(Iaf 3 F.b_sorted) .(Kept.builtin) (Evs.cons .(Ia0 1) .(Evs.nil)) EvK.nil (cs x hx)) .(Lv.fz)) (CompIn.of [none,none,some 4] (by kernel_rfl) (by kernel_rfl)) .(CompC.map (hp:=by with_unfolding_all exact qai (fun _=>rfl) _) Uu ((qpk x).map (fun w=>((w:Nat):Int))) (AV.int) ((fun v=>AV.int ((c 5).fmod 28+v))) _ (fun x1 hx1=>.(Ia5 1)) (fun x1 hx1=>.(Ia2 .(Ia6 2) .(Ia0 1) .(Op2.add))) .(fun _=>Weak.set Uu) (hz:=by exact hzs x))) (hpl x)) .(Evs.nil)) EvK.nil (cw x))) .(fun _=>Weak.set Uu))) (Ibz (c:=false) (Dv.of hD) (Dv.of hD) hne)) rfl) (fun h=>nomatch h) (fun _=>.(Exs.nil)))
end
end
section
noncomputable def la22e:PSigma (fun l=>qmi (kwE (qdd (nth (qbo (nth (qbo (nth bd22.1 13)) 0)) 0)) 0)=l):=⟨_,by conv=>lhs;whnf⟩
section
theorem qq3 {p:Int}(hpv:plain v=true)(k:Nat)(fr:List Env)(Y:Nat->Prop):Calls W Y (k+1) fr σ (.clo la22e.1 [] []) [.tup [.int p,v]] [] [] (.int p) σ:=by
  have hp:plain (.tup [.int p,v])=true:=by show (true&&(plain v&&true))=true;rw[hpv];rfl
  refine Iaz (m0:=qcz [] [none]) (m1:=[some (.tup [.int p,v])]) (xs:=["pair"]) (CloIn.of [none] rfl rfl rfl (by kernel_rfl) (by kernel_rfl) rfl) (fun fd h1 h2 h3 us hl=>?_) (Binds.cons (i:=0) rfl (.inl rfl) (.inl hp) .nil) (fun cd env=>?_) (Nat.le_refl _) rfl
  . match us,hl with
    | [u],_=>
      cases fd
      simp only at h1 h2 h3;subst h1 h2 h3;rfl
  . show Ev _ _ _ _ _ (.Subscript _ _ _) _ _;with_reducible exact .(Iaa .(Ia0 0) .(Ia1) .(⟨_,rfl,rfl⟩))
end
noncomputable abbrev qu9 (c:Nat->Int):List Int:=(List.range 5).map (leI c)
section
variable (F : Fac W) {t:Nat}
include F in
theorem qq0 (hK:qgm W cd)(S:StD c n σ)(h:PK c ks)(ht:t<5)(hY:∀m,Y m):∃ks',PK c ks'/\∀(k:Nat) (fr:List Env),Exs ⟨W,Y,nm22.1,cd⟩ (k+6) fr (qsf c n t) (sgB σ c ks) bo2212.1 .next (qoa c n) (sgB σ c ks'):=by
  refine qb0 (qp1 c) ?_;intro f b hf hb hfb hbl;refine qa4 (qst F hK S h ht hY) ?_;intro k1 h1 q0;have hdu:=qja (c:=c) ht;refine And.elim ?_ (ql7 hdu);intro h0 h30;refine qnz (qkz (c:=c) h0) ?_;intro w1 w2 w3 w4 w5 w6;have wl:=qi7 c (leI c t);have hne:(qad c (leI c t)).1≠[]:=by
    refine qa4 (w4 0 (by decide)) ?_;intro w hw _;exact List.ne_nil_of_mem hw
  refine ⟨qr2 k1 (leI c t),h1.add hdu,fun k fr=>?_⟩;have e:=Exs.cons (q0 k fr) (Exs.cons (qss F ht) (Exs.cons (qsr F (k:=k+4) hK (S.line k1) ht hf hb hfb hbl) (Exs.cons (qsq F ht hf hb) (Exs.cons (qsp F (k:=k+2) S h1 (hY _)) (Exs.cons (qso F hne w2 wl w4) (Exs.cons (qsn F w3 (by rw[<- w6];exact wl) w5) (Exs.cons (qsm F) (Exs.cons (qsl F (k:=k+4) w1 w2) Exs.nil))))))));exact Exs.post e (Weak.of (by simp[qay,qul,qoa]))
include F in
theorem qq1 (hK:qgm W cd)(S:StD c n σ)(hY:∀m,Y m):∀(j t:Nat) (ks:List Int),t+j=5->PK c ks->∃ks',PK c ks'/\∀(k:Nat) (fr:List Env),
    ForC ⟨W,Y,nm22.1,cd⟩ (k+6) fr ta2212.1 bo2212.1 [] (.enum (.lst (qa0 (qu9 c))) (qa0 (qu9 c))) t (qoa c n) (sgB σ c ks) .next (qoa c n) (sgB σ c ks'):=by
  intro j;induction j with
  | zero=>
    intro t ks ht h;obtain rfl:t=5:=ht;exact ⟨ks,h,fun k fr=>ForC.done Lv.fz rfl Exs.nil⟩
  | succ j ih=>
    intro t ks ht h;refine qa4 (qq0 F hK S h (t:=t) (by lia) hY) ?_;intro k1 h1 q1;refine qa4 (ih (t+1) k1 (by lia) h1) ?_;intro k2 h2 q2;refine ⟨k2,h2,fun k fr=>?_⟩;refine ForC.next (m1:=((qoa c n).set 7 (some (.int ((t:Nat):Int)))).set 15 (some (.int (leI c t)))) (z1:=sgB σ c ks) (v:=.tup [.int ((t:Nat):Int),.int (leI c t)]) Lv.fz (qap _) ?_ (fun _=>⟨_,_,_,rfl⟩) ?_ (q1 k fr) (q2 k fr)
    . have e:(qa0 (qu9 c)).zipIdx[t]?=some (.int (leI c t),t):=by
        rw[List.getElem?_zipIdx,qa0,qu9,List.getElem?_map,List.getElem?_map,List.getElem?_range (by lia)];simp
      simp only[AIt.items,List.getElem?_map,e];rfl
    . show As _ _ _ _ _ (.Tuple _ _ _) _ _ _;exact .(As.tuple .(AsL.cons .(Ib9 7) .(AsL.cons .(Ib9 15) .(AsL.nil) (hp:=Uu)) (hp:=Uu)))
include F in
theorem qro (hK:qgm W cd)(S:StD c n σ)(hY:∀m,Y m):∃ks',PK c ks'/\∀(k:Nat) (fr:List Env),Ex ⟨W,Y,nm22.1,cd⟩ (k+6) fr (qoa c n) (σ++[.lst (qa1 (lnL c)),.dint [] []]) (nth bd22.1 12) .next (qoa c n) (sgB σ c ks'):=by
  refine qa4 (qq1 F hK S hY 5 0 [] rfl ⟨by simp,by simp⟩) ?_;intro ks' h' q;refine ⟨ks',h',fun k fr=>?_⟩;have q:=q k fr;have hkl:=(F.f21 .none .none).kept;have e1:AV.lst (qdw (qa0 ((List.range 6).map (qar (qa6 c 4) (eI c) 32))) (some 1) none none)=.lst (qa0 (qu9 c)):=by
    rw[show qdw (qa0 ((List.range 6).map (qar (qa6 c 4) (eI c) 32))) (some 1) none none=(qa0 ((List.range 6).map (qar (qa6 c 4) (eI c) 32))).drop 1 from qe9 _ 1];rfl
  have hz6:(qa0 ((List.range 6).map (qar (qa6 c 4) (eI c) 32))).length<=sizeLine:=by rw[qa0,List.length_map,List.length_map,List.length_range,sizeLine_eq];decide
  have hcl:=qk6 F (Y:=Y) (k:=k+5) (fr:=fr) (σ:=σ++[.lst (qa1 (lnL c)),.dint [] []]) (c:=c);show Ex _ _ _ _ _ (.For _ _ _ _ _) _ _ _;with_reducible exact .(Ib8 .(ItE.call .(Iaf 26 F.b_enumerate) .(Kept.type) (Evs.cons .(Ian .(Ibm .(Ev.call .(Ial 37 F.g_law_least) (hkl) (Evs.cons .(Ia6 24) .((Evs.cons .(Ia6 3) .(Evs.nil)))) EvK.nil ((by with_unfolding_all exact hcl))) (Ibe .(Ia1)) EvO.none EvO.none .(Lv.fz) (by simp) (by assumption)) e1) .(Evs.nil)) .(CallIt.enum (Lv.fz))) (by with_unfolding_all exact ForC.pre q Weak.refl))
end
end
section
noncomputable def bo2213:PSigma (fun l=>(qbo (nth bd22.1 13))=l):=⟨_,by conv=>lhs;whnf⟩
noncomputable def ta2213:PSigma (fun l=>(qcc (nth bd22.1 13))=l):=⟨_,by conv=>lhs;whnf⟩
section
variable (F : Fac W) {outer:List Env} {t:Nat}
structure DeM (c:Nat->Int) (n:Nat) (m:List (Option AV)):Prop where
  line:m[5]?=some (some (.loc n))
  laid:m[11]?=some (some (.lst (qa1 (lnL c))))
  len:m.length=43
theorem DeM.turn (h:DeM c n m):DeM c n ((m.set 21 (some v)).set 22 none):=by
  refine ⟨?_,?_,?_⟩
  . rw[List.getElem?_set_ne (by decide),List.getElem?_set_ne (by decide)];exact h.line
  . rw[List.getElem?_set_ne (by decide),List.getElem?_set_ne (by decide)];exact h.laid
  . rw[List.length_set,List.length_set];exact h.len
noncomputable abbrev bad:Str := "lo must be non-negative"
include F in
theorem qek (hK:qgm W cd)(hn:σ[n]?=some (.lst (qa1 (lnL c))))(hm:DeM c n m){p:Int×Int}(hp:(qa1 (lnL c))[0]?=some (prA p))(hkept:Kept W (.glob (.ref a)))(hr:CallsR W Y k (env::outer) σ (.glob (.ref a)) [.loc n,prA p,.int (-1)] ["key"] [.clo la22e.1 [] []] false "ValueError" (fun us=>∃t,us=[.str bad t]) σ):
    ExsF ⟨W,Y,nm22.1,cd⟩ k env outer (m.set 21 (some (.glob (.ref a)))) σ bo2213.1 .next ((m.set 21 (some (.glob (.ref a)))).set 22 none) σ:=by
  refine qgr (hK) ?_;intro lc lP hLam;have h5:(m.set 21 (some (.glob (.ref a))))[5]?=some (some (.loc n)):=by rw[List.getElem?_set_ne (by decide)];exact hm.line
  have h21:(m.set 21 (some (.glob (.ref a))))[21]?=some (some (.glob (.ref a))):=by rw[List.getElem?_set_self (by rw[hm.len];decide)]
  have hzl:(qa1 (lnL c)).length<=sizeLine:=by rw[qa1,List.length_map,sizeLine_eq];have:=(qdz c).1;lia
  have hb:ExsR ⟨W,Y,nm22.1,cd⟩ k (env::outer) (m.set 21 (some (.glob (.ref a)))) σ (qbo (nth bo2213.1 0)) false "ValueError" (fun us=>∃t,us=[.str bad t]) (m.set 21 (some (.glob (.ref a)))) σ:=by
    show ExsR _ _ _ _ _ (.Expr _ _::_) _ _ _ _ _;refine ExsR.head (ExR.expr ?_);show EvR _ _ _ _ _ (.Call (.Name _ _) (_::_::_::[]) (_::[]) _) _ _ _ _;have ha:Evs ⟨W,Y,nm22.1,cd⟩ k (env::outer) (m.set 21 (some (.glob (.ref a)))) σ (qv2 (qdd (nth (qbo (nth bo2213.1 0)) 0))) [.loc n,prA p,.int (-1)] σ:=by
      show Evs _ _ _ _ _ (_::_::_::[]) _ _;refine Evs.cons (Ic5 (i:=5) rfl rfl h5) (Evs.cons ?_ (Evs.cons (Ic0 Ia1) Evs.nil));exact Ia8 (Ic5 (i:=5) rfl rfl h5) Ia1 (Lv.loc hn) (qb4 (j:=0) rfl hp) hzl
    exact EvR.call (Ica (i:=21) rfl h21) hkept ha (EvK.cons (Ic1 (ns:=[]) (caps:=[]) (hLam _ _) (Iar (by kernel_rfl))) EvK.nil) hr
  show ExsF _ _ _ _ _ _ (.Try _ _ _ _ _::[]) _ _ _;refine ExsF.cons ?_ ExsF.nil;exact Ido (xp:=⟨0,0,0,0⟩) (tp:=⟨0,0,0,0⟩) (i:=41) (j:=22) (l:=42) hb rfl F.b_ValueError.g F.b_ValueError.b rfl (by rw[List.length_set,hm.len];decide) rfl F.b_str.g F.b_str.b
include F in
theorem qp5 (hK:qgm W cd)(hn:σ[n]?=some (.lst (qa1 (lnL c))))(hm:DeM c n m):∃m',DeM c n m' /\
    ForF ⟨W,Y,nm22.1,cd⟩ (k+3) env outer ta2213.1 bo2213.1 [] (.tup [.glob (.ref A4),.glob (.ref A2),.glob (.ref A3),.glob (.ref A1)]) 0 m σ .next m' σ:=by
  refine Exists.elim (qi6 (qdz c).2.1) ?_;intro p hp;have hp':(qa1 (lnL c))[0]?=some (prA p):=by rw[qa1,List.getElem?_map,hp];rfl
  have hx:∀k fr Y,Calls W Y (k+1) fr σ (.clo la22e.1 [] []) [prA p] [] [] (.int p.1) σ:=fun k fr Y=>qq3 rfl k fr Y
  have t1:=qek F (Y:=Y) (cd:=cd) (k:=k+3) (outer:=outer) (env:=env) hK hn hm hp' (F.f4k2 .none .none .none).kept (qkt F (k:=k+2));have m1:=hm.turn (v:=.glob (.ref A4));have m2:=m1.turn (v:=.glob (.ref A2));have m3:=m2.turn (v:=.glob (.ref A3));have m4:=m3.turn (v:=.glob (.ref A1));have t2:=qek F (Y:=Y) (cd:=cd) (k:=k+3) (outer:=outer) (env:=env) hK hn m1 hp' (F.f2k2 .none .none .none).kept (qks F (k:=k+2));have t3:=qek F (Y:=Y) (cd:=cd) (k:=k+3) (outer:=outer) (env:=env) hK hn m2 hp' (F.f3k2 .none .none .none).kept (qk9 F (k:=k) (d:=1) Kept.clo rfl hx);have t4:=qek F (Y:=Y) (cd:=cd) (k:=k+3) (outer:=outer) (env:=env) hK hn m3 hp' (F.f1k2 .none .none .none).kept (qk8 F (k:=k) (d:=1) Kept.clo rfl hx);refine ⟨_,m4,?_⟩;have as_:∀(m:List (Option AV)) (v:AV),plain v=true->As ⟨W,Y,nm22.1,cd⟩ (k+3) (env::outer) m σ ta2213.1 v (m.set 21 (some v)) σ:=fun m v hv=>by
    show As _ _ _ _ _ (.Name _ _) _ _ _;exact Ibs (i:=21) rfl hv
  refine ForF.next trivial rfl rfl nofun (as_ _ _ rfl) t1 ?_;refine ForF.next trivial rfl rfl nofun (as_ _ _ rfl) t2 ?_;refine ForF.next trivial rfl rfl nofun (as_ _ _ rfl) t3 ?_;refine ForF.next trivial rfl rfl nofun (as_ _ _ rfl) t4 ?_;exact ForF.done trivial rfl ExsF.nil
include F in
theorem qrn (hK:qgm W cd)(hn:σ[n]?=some (.lst (qa1 (lnL c)))):∃m',DeM c n m'/\ExF ⟨W,Y,nm22.1,cd⟩ (k+3) env outer (qoa c n) σ (nth bd22.1 13) .next m' σ:=by
  refine qa4 (qp5 F (Y:=Y) (cd:=cd) (k:=k) (outer:=outer) (env:=env) hK hn (m:=qoa c n) ⟨rfl,rfl,rfl⟩) ?_;intro m' hm' q;refine ⟨m',hm',?_⟩;show ExF _ _ _ _ _ _ (.For _ _ _ _ _) _ _ _;refine Ie6 (ai:=.tup [.glob (.ref A4),.glob (.ref A2),.glob (.ref A3),.glob (.ref A1)]) ?_ q;exact .(ItE.tuple .(Ev.tuple (Evs.cons .(Ial 38 F.g_bisect_left) .((Evs.cons .(Ial 39 F.g_bisect_right) .((Evs.cons .(Ial 33 F.g_insort_left) .((Evs.cons .(Ial 34 F.g_insort_right) .(Evs.nil))))))))))
include F in
theorem qrm (hn:σ[n]?=some (.lst (qa1 (lnL c))))(hm:DeM c n m):Ex ⟨W,Y,nm22.1,cd⟩ k fr m σ (nth bd22.1 14) (.ret (.bool true)) m σ:=by
  have heq:true=true↔AV.lst (qa1 (lnL c))=.lst (qa1 (lnL c)):=by simp
  show Ex _ _ _ _ _ (.Return (some (.Compare _ _ _ _)) _) _ _ _;refine Iaj (Iba (Ic5 (i:=5) rfl rfl hm.line) (Ica (i:=11) rfl hm.laid) (Icx (c:=true) (Icq hn Idh) (Dv.of Idh) heq))
end
theorem qs6 {scr:List Int}(hz:scr.length<=63)(t:Nat):0<=qp9 scr t/\qp9 scr t<64 ^ 6:=by
  have hs:∀l:List Int,0<=(l.map fun v=>v.fmod 1000000).sum/\(l.map fun v=>v.fmod 1000000).sum<=1000000*l.length:=by
    intro l;induction l with
    | nil=>simp
    | cons v l ih=>
      have h1:0<=v.fmod 1000000:=Int.fmod_nonneg_of_pos _ (by simp +arith);have h2:v.fmod 1000000<1000000:=Int.fmod_lt_of_pos _ (by simp +arith);simp only[List.map_cons,List.sum_cons,List.length_cons];generalize v.fmod 1000000=z at *;lia
  have hb:0<=qqk t/\qqk t<=4121:=by unfold qqk;split <;> decide
  have h:0<=(qml scr t).sum/\(qml scr t).sum<=1000000*(pickL (pickL scr none (some 60) none) (some ((t:Nat):Int)) none (some 6)).length:=hs _;have hl:=qlt hz t;unfold qp9;have:(64:Int) ^ 6=68719476736:=by decide
  rw[this];generalize (qml scr t).sum=z at *;lia
theorem qoc (F:Fac W){scr:List Int}(hz:scr.length<=63)(k:Nat):Calls W noY (k+10) [] [] (.glob (.ref A22)) [.lst (qa0 scr)] [] [] (.bool true) []:=by
  refine qa2 (F.f22 (.lst (qa0 scr)) (qap _)) ?_;intro fd xs vs hfn hK hb B;generalize hc:qp9 scr=c;have hcell:∀t,0<=c t/\c t<64 ^ 6:=fun t=>by rw[<- hc];exact qs6 hz t
  have hY:∀m:Nat,(fun m=>noY m\/0<=m) m:=fun m=>.inr (Nat.zero_le _)
  refine qa4 (qp4 F (c:=c) (z0:=st1 c) (Y:=fun m=>noY m\/0<=m) (k:=k+6)) ?_;intro z2 D hdoc;have S:StD c z2.length z2:=⟨rfl,by have:=D.len;exact this,D.row,⟨D.els,D.att⟩⟩
  refine qa4 (qro F (cd:=fd.code) hK S hY) ?_;intro ks hks h12;have h13:=fun env=>qrn F (Y:=fun m=>noY m\/0<=m) (cd:=fd.code) (k:=k+6) (outer:=[]) (env:=env) hK (S.line ks)
  refine Idu (m':=[]) (z'':=sgB z2 c ks) (fl:=.ret (.bool true)) 0 (hfn (fun m=>noY m\/0<=m)) hb B (fun env=>?_) (fun n h=>by simp at h) (Nat.zero_le _) (Nat.zero_le _) rfl rfl;refine qa4 (h13 env) ?_;intro m' hm' h13;have h0:=qtv F (Y:=fun m=>noY m\/0<=m) (cd:=fd.code) (k:=k+9) (fr:=[env]) (σ:=[]) hz;rw[hc] at h0;have h0':Ex ⟨W,fun m=>noY m\/0<=m,nm22.1,fd.code⟩ (k+9) [env] (qsg [some (.lst (qa0 scr))]) [] (nth bd22.1 0) .next (lm1 c) []:=Ex.post h0 (Weak.of (by simp[qay,qsg,lm1,List.replicate]));refine Idw (m2:=m') ?_;show ExsF _ _ _ _ _ _ (_::_::_::_::_::_::_::_::_::_::_::_::_::_::_::[]) _ _ _;refine ExsF.cons (Ex.f h0') (ExsF.cons (Ex.f (qtu F (k:=k+8))) (ExsF.cons (Ex.f (qtt F (k:=k+7) hcell hY)) (ExsF.cons (Ex.f (qts F (k:=k+8))) (ExsF.cons (Ex.f (qtr F (k:=k+9) (σ:=z2) (hdoc [env]))) ?_))));refine ExsF.cons (Ex.f (qtq F (k:=k+8) rfl)) (ExsF.cons (Ex.f (qtp F)) (ExsF.cons (Ex.f (qto F (k:=k+6) hK hY rfl)) (ExsF.cons (Ex.f (qtn F (k:=k+6) hK)) (ExsF.cons (Ex.f (qtm F (S.line []))) (ExsF.cons (Ex.f (qrq F (S.line []))) (ExsF.cons (Ex.f (qrp F (S.line []))) (ExsF.cons (Ex.f (h12 (k+3) [env])) (ExsF.cons h13 (ExsF.ret (Ex.f (qrm F (S.line ks) hm')))))))))))
end
end
section
noncomputable abbrev Qv:Program:={ P3 with main:={ P3.main with body:=[P3.main.body.getLastD (.Pass default)] } }
noncomputable abbrev Lv0:List Str:=["insort_right", "bisect_right", "insort_left", "bisect_left", "pretty_flags", "_parse_varint", "iselement", "SubElement", "_law_digits", "_law_read", "_law_words", "_law_parts", "_law_element", "_law_document", "_law_far", "_law_wells", "_law_least", "COMPILER_FLAG_NAMES"]
noncomputable def tbN:List (Str×Option Value):=[pN "insort_right" 23,pN "bisect_right" 32,pN "insort_left" 41,pN "bisect_left" 50,pN "pretty_flags" 58,pN "_parse_varint" 65,pN "iselement" 72,pN "SubElement" 81,pN "_law_digits" 86,pN "_law_read" 93,pN "_law_words" 98,pN "_law_parts" 103,pN "_law_element" 110,pN "_law_document" 115,pN "_law_far" 120,pN "_law_wells" 125,pN "_law_least" 130,pN "law" 135,pN "COMPILER_FLAG_NAMES" 51,pZ "StopIteration",pZ "ValueError",pZ "enumerate",pZ "hasattr",pZ "hex",pZ "iter",pZ "len",pZ "max",pZ "min",pZ "next",pZ "range",pZ "sorted",pZ "str",pZ "sum",pZ "zip"]
noncomputable def tbF:List (Addr×FView):=[pF 23 (mkV P3 1 22 "insort_right" (.ref 15) (.ref 16)),pF 32 (mkV P3 2 31 "bisect_right" (.ref 24) (.ref 25)),pF 41 (mkV P3 3 40 "insort_left" (.ref 33) (.ref 34)),pF 50 (mkV P3 4 49 "bisect_left" (.ref 42) (.ref 43)),pF 58 (mkV P3 7 57 "pretty_flags" .none .none),pF 65 (mkV P3 8 64 "_parse_varint" .none .none),pF 72 (mkV P3 10 71 "iselement" .none .none),pF 81 (mkV P3 11 80 "SubElement" (.ref 74) .none),pF 86 (mkV P3 13 85 "_law_digits" .none .none),pF 93 (mkV P3 14 92 "_law_read" .none .none),pF 98 (mkV P3 15 97 "_law_words" .none .none),pF 103 (mkV P3 16 102 "_law_parts" .none .none),pF 110 (mkV P3 17 109 "_law_element" .none .none),pF 115 (mkV P3 18 114 "_law_document" .none .none),pF 120 (mkV P3 19 119 "_law_far" .none .none),pF 125 (mkV P3 20 124 "_law_wells" .none .none),pF 130 (mkV P3 21 129 "_law_least" .none .none),pF 135 (mkV P3 22 134 "law" .none .none)]
noncomputable def tbO (p:Params):List (Addr×Obj):=[pO 24 ({ cls:=.type "tuple",data:=.seq #[.int 0 202,.none] }),pO 25 ({ cls:=.type "dict",data:=.dict #[⟨PyData.keyHash p "key",.str "key" 203,.none⟩] 1 }),pO 42 ({ cls:=.type "tuple",data:=.seq #[.int 0 229,.none] }),pO 43 ({ cls:=.type "dict",data:=.dict #[⟨PyData.keyHash p "key",.str "key" 230,.none⟩] 1 }),pO 15 ({ cls:=.type "tuple",data:=.seq #[.int 0 189,.none] }),pO 16 ({ cls:=.type "dict",data:=.dict #[⟨PyData.keyHash p "key",.str "key" 190,.none⟩] 1 }),pO 33 ({ cls:=.type "tuple",data:=.seq #[.int 0 216,.none] }),pO 34 ({ cls:=.type "dict",data:=.dict #[⟨PyData.keyHash p "key",.str "key" 217,.none⟩] 1 }),pO 74 ({ cls:=.type "tuple",data:=.seq #[.ref 73] }),pO 73 ({ cls:=.type "dict",data:=.dict #[] }),pO 105 (tabObj #[]),pO 112 (tabObj #[]),pO 122 (tabObj #[]),pO 132 (tabObj #[])]
noncomputable def tbA:List Addr:=[24,25,42,43,15,16,33,34,74,73,105,112,122,132]
noncomputable def tbC:List (Addr×Addr×Str):=[pC 22 18 "insort_right",pC 31 27 "bisect_right",pC 40 36 "insort_left",pC 49 45 "bisect_left",pC 57 53 "pretty_flags",pC 64 60 "_parse_varint",pC 71 67 "iselement",pC 80 76 "SubElement",pC 85 83 "_law_digits",pC 92 88 "_law_read",pC 97 95 "_law_words",pC 102 100 "_law_parts",pC 109 105 "_law_element",pC 114 112 "_law_document",pC 119 117 "_law_far",pC 124 122 "_law_wells",pC 129 127 "_law_least",pC 134 132 "law"]
noncomputable def chk (h:Heap):Bool:=(tbC.all fun x=>qjg x.1 x.2.1 x.2.2 (h.get? x.1))&&(qid flagTab (h.get? 51)&&(h.get? sysModules).isSome)
def FnAt (W:Wd) (p:Program) (i:Nat) (nm:List (Str×NameKind)) (body:List Stmt) (a c:Addr) (q:Str) (dV kV:Value):Prop:=∃n doc pm an ct,∀Y,qr4 ⟨W,Y,nm,.ref c⟩ a ((mkV p i c q dV kV).fd n doc pm an ct) body
theorem FnAt.B {p:Program}{c:Addr}{q:Str}{dV kV:Value}(Q:FnAt W p i nm body a c q dV kV){K:Value->Prop}(hK:K (.ref c))(hb:∀n doc pm an ct,qd1 W ((mkV p i c q dV kV).fd n doc pm an ct) args kn kv xs vs)(bi:Binds nm xs vs (List.replicate nm.length none) m1):FnB W K nm body a args kn kv m1:=let ⟨n,doc,pm,an,ct,F⟩:=Q;⟨_,xs,vs,F,hK,hb n doc pm an ct,bi⟩
theorem FnAt.X {p:Program}{c:Addr}{q:Str}{dV kV:Value}(Q:FnAt W p i nm body a c q dV kV){m1:Nat->List (Option AV)}(hb:∀n doc pm an ct,BindX W ((mkV p i c q dV kV).fd n doc pm an ct) args kn kv xs vs)(bi:∀n,Binds nm xs (vs++[.loc n]) (List.replicate nm.length none) (m1 n)):FnX W nm body a args kn kv m1:=let ⟨n,doc,pm,an,ct,F⟩:=Q;⟨_,xs,vs,F,hb n doc pm an ct,bi⟩
theorem qu7 (hN:∀(i:Nat) (x:Str) (v:Option Value),tbN[i]?=some (x,v)->W.mg x=v)(hB:∀x:Str,x ≠ "__name__"->W.mb x=bootBuiltins x)(hF:∀(i:Nat) (a:Addr) (v:FView),tbF[i]?=some (a,v)->qrv (W.s1.heap.get? a)=some v)(hO:∀(i:Nat) (a:Addr) (o:Obj),(tbO W.w.params)[i]?=some (a,o)->W.s1.heap.get? a=some o)(hC:chk W.s1.heap=true)(ht:∀a,W.tab a↔(isCodeTable W.s1.heap a/\W.s1.heap.get? a=some (tabObj #[])))(bm:∃bm ob,W.mg "__builtins__"=some (.ref bm)/\bm≠builtinsNs/\W.s1.heap.get? bm=some ob/\ob.cls=.type "module"/\ob.dict=some builtinsNs/\ob.data=.plain):Fac W:=by
  obtain ⟨hC1,hC2⟩:=Bool.and_eq_true_iff.mp hC;have hc:∀(i:Nat) (c P:Addr) (q:Str),tbC[i]?=some (c,P,q)->qjg c P q (W.s1.heap.get? c)=true:=fun i c P q h=>List.all_eq_true.mp hC1 _ (List.mem_of_getElem? h)
  have Q1:FnAt W P3 1 nm1.1 bd1.1 _ _ _ _ _:=qdb (hF 0 _ _ rfl) (hc 0 _ _ _ rfl) bd1.2 nm1.2 rfl rfl rfl (by decide +kernel) (by decide +kernel);have Q2:FnAt W P3 2 nm2.1 bd2.1 _ _ _ _ _:=qdb (hF 1 _ _ rfl) (hc 1 _ _ _ rfl) bd2.2 nm2.2 rfl rfl rfl (by decide +kernel) (by decide +kernel);have Q3:FnAt W P3 3 nm3.1 bd3.1 _ _ _ _ _:=qdb (hF 2 _ _ rfl) (hc 2 _ _ _ rfl) bd3.2 nm3.2 rfl rfl rfl (by decide +kernel) (by decide +kernel);have Q4:FnAt W P3 4 nm4.1 bd4.1 _ _ _ _ _:=qdb (hF 3 _ _ rfl) (hc 3 _ _ _ rfl) bd4.2 nm4.2 rfl rfl rfl (by decide +kernel) (by decide +kernel);have Q7:FnAt W P3 7 nm7.1 bd7.1 _ _ _ _ _:=qdb (hF 4 _ _ rfl) (hc 4 _ _ _ rfl) bd7.2 nm7.2 rfl rfl rfl (by decide +kernel) (by decide +kernel);have Q8:FnAt W P3 8 nm8.1 bd8.1 _ _ _ _ _:=qdb (hF 5 _ _ rfl) (hc 5 _ _ _ rfl) bd8.2 nm8.2 rfl rfl rfl (by decide +kernel) (by decide +kernel);have Q10:FnAt W P3 10 nm10.1 bd10.1 _ _ _ _ _:=qdb (hF 6 _ _ rfl) (hc 6 _ _ _ rfl) bd10.2 nm10.2 rfl rfl rfl (by decide +kernel) (by decide +kernel);have Q11:FnAt W P3 11 nm11.1 bd11.1 _ _ _ _ _:=qdb (hF 7 _ _ rfl) (hc 7 _ _ _ rfl) bd11.2 nm11.2 rfl rfl rfl (by decide +kernel) (by decide +kernel);have Q13:FnAt W P3 13 nm13.1 bd13.1 _ _ _ _ _:=qdb (hF 8 _ _ rfl) (hc 8 _ _ _ rfl) bd13.2 nm13.2 rfl rfl rfl (by decide +kernel) (by decide +kernel);have Q14:FnAt W P3 14 nm14.1 bd14.1 _ _ _ _ _:=qdb (hF 9 _ _ rfl) (hc 9 _ _ _ rfl) bd14.2 nm14.2 rfl rfl rfl (by decide +kernel) (by decide +kernel);have Q15:FnAt W P3 15 nm15.1 bd15.1 _ _ _ _ _:=qdb (hF 10 _ _ rfl) (hc 10 _ _ _ rfl) bd15.2 nm15.2 rfl rfl rfl (by decide +kernel) (by decide +kernel);have Q16:FnAt W P3 16 nm16.1 bd16.1 _ _ _ _ _:=qdb (hF 11 _ _ rfl) (hc 11 _ _ _ rfl) bd16.2 nm16.2 rfl rfl rfl (by decide +kernel) (by decide +kernel);have Q17:FnAt W P3 17 nm17.1 bd17.1 _ _ _ _ _:=qdb (hF 12 _ _ rfl) (hc 12 _ _ _ rfl) bd17.2 nm17.2 rfl rfl rfl (by decide +kernel) (by decide +kernel);have Q18:FnAt W P3 18 nm18.1 bd18.1 _ _ _ _ _:=qdb (hF 13 _ _ rfl) (hc 13 _ _ _ rfl) bd18.2 nm18.2 rfl rfl rfl (by decide +kernel) (by decide +kernel);have Q19:FnAt W P3 19 nm19.1 bd19.1 _ _ _ _ _:=qdb (hF 14 _ _ rfl) (hc 14 _ _ _ rfl) bd19.2 nm19.2 rfl rfl rfl (by decide +kernel) (by decide +kernel);have Q20:FnAt W P3 20 nm20.1 bd20.1 _ _ _ _ _:=qdb (hF 15 _ _ rfl) (hc 15 _ _ _ rfl) bd20.2 nm20.2 rfl rfl rfl (by decide +kernel) (by decide +kernel);have Q21:FnAt W P3 21 nm21.1 bd21.1 _ _ _ _ _:=qdb (hF 16 _ _ rfl) (hc 16 _ _ _ rfl) bd21.2 nm21.2 rfl rfl rfl (by decide +kernel) (by decide +kernel);have Q22:FnAt W P3 22 nm22.1 bd22.1 _ _ _ _ _:=qdb (hF 17 _ _ rfl) (hc 17 _ _ _ rfl) bd22.2 nm22.2 rfl rfl rfl (by decide +kernel) (by decide +kernel);have K17:=qhs (hc 12 _ _ _ rfl) (hO 10 _ _ rfl) ht bm;have K18:=qhs (hc 13 _ _ _ rfl) (hO 11 _ _ rfl) ht bm;have K20:=qhs (hc 15 _ _ _ rfl) (hO 12 _ _ rfl) ht bm;have K22:=qhs (hc 17 _ _ _ rfl) (hO 13 _ _ rfl) ht bm;have X2:=qq8 (hO 0 _ _ rfl) (hO 1 _ _ rfl) nofun nofun;have B2:∀v0 v1 v2 v3 v4:AV,Binds nm2.1 ["a", "x", "lo", "hi", "key"] [v0,v1,v2,v3,v4] (List.replicate nm2.1.length none) [some v0,some v1,some v2,some v3,some v4,none,none,none]:=fun v0 v1 v2 v3 v4=>.ok (i:=0) (by rfl) rfl (.ok (i:=1) (by rfl) rfl (.ok (i:=2) (by rfl) rfl (.ok (i:=3) (by rfl) rfl (.ok (i:=4) (by rfl) rfl .nil))))
  have X4:=qq8 (hO 2 _ _ rfl) (hO 3 _ _ rfl) nofun nofun;have B4:∀v0 v1 v2 v3 v4:AV,Binds nm4.1 ["a", "x", "lo", "hi", "key"] [v0,v1,v2,v3,v4] (List.replicate nm4.1.length none) [some v0,some v1,some v2,some v3,some v4,none,none,none]:=fun v0 v1 v2 v3 v4=>.ok (i:=0) (by rfl) rfl (.ok (i:=1) (by rfl) rfl (.ok (i:=2) (by rfl) rfl (.ok (i:=3) (by rfl) rfl (.ok (i:=4) (by rfl) rfl .nil))))
  have X1:=qq8 (hO 4 _ _ rfl) (hO 5 _ _ rfl) nofun nofun;have B1:∀v0 v1 v2 v3 v4:AV,Binds nm1.1 ["a", "x", "lo", "hi", "key"] [v0,v1,v2,v3,v4] (List.replicate nm1.1.length none) [some v0,some v1,some v2,some v3,some v4,none]:=fun v0 v1 v2 v3 v4=>.ok (i:=0) (by rfl) rfl (.ok (i:=1) (by rfl) rfl (.ok (i:=2) (by rfl) rfl (.ok (i:=3) (by rfl) rfl (.ok (i:=4) (by rfl) rfl .nil))))
  have X3:=qq8 (hO 6 _ _ rfl) (hO 7 _ _ rfl) nofun nofun;have B3:∀v0 v1 v2 v3 v4:AV,Binds nm3.1 ["a", "x", "lo", "hi", "key"] [v0,v1,v2,v3,v4] (List.replicate nm3.1.length none) [some v0,some v1,some v2,some v3,some v4,none]:=fun v0 v1 v2 v3 v4=>.ok (i:=0) (by rfl) rfl (.ok (i:=1) (by rfl) rfl (.ok (i:=2) (by rfl) rfl (.ok (i:=3) (by rfl) rfl (.ok (i:=4) (by rfl) rfl .nil))))
  exact {
    g_insort_right:=hN 0 _ _ rfl
    g_bisect_right:=hN 1 _ _ rfl
    g_insort_left:=hN 2 _ _ rfl
    g_bisect_left:=hN 3 _ _ rfl
    g_pretty_flags:=hN 4 _ _ rfl
    g_parse_varint:=hN 5 _ _ rfl
    g_iselement:=hN 6 _ _ rfl
    g_SubElement:=hN 7 _ _ rfl
    g_law_digits:=hN 8 _ _ rfl
    g_law_read:=hN 9 _ _ rfl
    g_law_words:=hN 10 _ _ rfl
    g_law_parts:=hN 11 _ _ rfl
    g_law_element:=hN 12 _ _ rfl
    g_law_document:=hN 13 _ _ rfl
    g_law_far:=hN 14 _ _ rfl
    g_law_wells:=hN 15 _ _ rfl
    g_law_least:=hN 16 _ _ rfl
    g_law:=hN 17 _ _ rfl
    g_COMPILER_FLAG_NAMES:=hN 18 _ _ rfl
    tab:=qjv (Bool.and_eq_true_iff.mp hC2).1 rfl (by decide)
    b_StopIteration:=⟨hN 19 _ _ rfl,(hB _ (by decide +kernel)).trans (by kernel_rfl)⟩
    b_ValueError:=⟨hN 20 _ _ rfl,(hB _ (by decide +kernel)).trans (by kernel_rfl)⟩
    b_enumerate:=⟨hN 21 _ _ rfl,(hB _ (by decide +kernel)).trans (by kernel_rfl)⟩
    b_hasattr:=⟨hN 22 _ _ rfl,(hB _ (by decide +kernel)).trans (by kernel_rfl)⟩
    b_hex:=⟨hN 23 _ _ rfl,(hB _ (by decide +kernel)).trans (by kernel_rfl)⟩
    b_iter:=⟨hN 24 _ _ rfl,(hB _ (by decide +kernel)).trans (by kernel_rfl)⟩
    b_len:=⟨hN 25 _ _ rfl,(hB _ (by decide +kernel)).trans (by kernel_rfl)⟩
    b_max:=⟨hN 26 _ _ rfl,(hB _ (by decide +kernel)).trans (by kernel_rfl)⟩
    b_min:=⟨hN 27 _ _ rfl,(hB _ (by decide +kernel)).trans (by kernel_rfl)⟩
    b_next:=⟨hN 28 _ _ rfl,(hB _ (by decide +kernel)).trans (by kernel_rfl)⟩
    b_range:=⟨hN 29 _ _ rfl,(hB _ (by decide +kernel)).trans (by kernel_rfl)⟩
    b_sorted:=⟨hN 30 _ _ rfl,(hB _ (by decide +kernel)).trans (by kernel_rfl)⟩
    b_str:=⟨hN 31 _ _ rfl,(hB _ (by decide +kernel)).trans (by kernel_rfl)⟩
    b_sum:=⟨hN 32 _ _ rfl,(hB _ (by decide +kernel)).trans (by kernel_rfl)⟩
    b_zip:=⟨hN 33 _ _ rfl,(hB _ (by decide +kernel)).trans (by kernel_rfl)⟩
    f2k2:=fun a x key=>Q2.B trivial (fun _ _ _ _ _=>bk2 (t:=202) X2 (fun S u0 u1 k0=>by kernel_rfl) a x key) (B2 a x (.int 0) .none key)
    f2k3:=fun a x lo key=>Q2.B trivial (fun _ _ _ _ _=>bk3 X2 (fun S u0 u1 u2 k0=>by kernel_rfl) a x lo key) (B2 a x lo .none key)
    f2k4:=fun a x lo hi key=>Q2.B trivial (fun _ _ _ _ _=>bk4 X2 (fun S u0 u1 u2 u3 k0=>by kernel_rfl) a x lo hi key) (B2 a x lo hi key)
    f2n4:=fun a x lo hi=>Q2.B trivial (fun _ _ _ _ _=>bn4 X2 (fun S u0 u1 u2 u3=>by kernel_rfl) a x lo hi) (B2 a x lo hi .none)
    f2n2:=fun a x=>Q2.B trivial (fun _ _ _ _ _=>bn2 (t:=202) X2 (fun S u0 u1=>by kernel_rfl) a x) (B2 a x (.int 0) .none .none)
    f4k2:=fun a x key=>Q4.B trivial (fun _ _ _ _ _=>bk2 (t:=229) X4 (fun S u0 u1 k0=>by kernel_rfl) a x key) (B4 a x (.int 0) .none key)
    f4k3:=fun a x lo key=>Q4.B trivial (fun _ _ _ _ _=>bk3 X4 (fun S u0 u1 u2 k0=>by kernel_rfl) a x lo key) (B4 a x lo .none key)
    f4k4:=fun a x lo hi key=>Q4.B trivial (fun _ _ _ _ _=>bk4 X4 (fun S u0 u1 u2 u3 k0=>by kernel_rfl) a x lo hi key) (B4 a x lo hi key)
    f4n4:=fun a x lo hi=>Q4.B trivial (fun _ _ _ _ _=>bn4 X4 (fun S u0 u1 u2 u3=>by kernel_rfl) a x lo hi) (B4 a x lo hi .none)
    f4n2:=fun a x=>Q4.B trivial (fun _ _ _ _ _=>bn2 (t:=229) X4 (fun S u0 u1=>by kernel_rfl) a x) (B4 a x (.int 0) .none .none)
    f1k2:=fun a x key=>Q1.B trivial (fun _ _ _ _ _=>bk2 (t:=189) X1 (fun S u0 u1 k0=>by kernel_rfl) a x key) (B1 a x (.int 0) .none key)
    f1k3:=fun a x lo key=>Q1.B trivial (fun _ _ _ _ _=>bk3 X1 (fun S u0 u1 u2 k0=>by kernel_rfl) a x lo key) (B1 a x lo .none key)
    f1n2:=fun a x=>Q1.B trivial (fun _ _ _ _ _=>bn2 (t:=189) X1 (fun S u0 u1=>by kernel_rfl) a x) (B1 a x (.int 0) .none .none)
    f1n4:=fun a x lo hi=>Q1.B trivial (fun _ _ _ _ _=>bn4 X1 (fun S u0 u1 u2 u3=>by kernel_rfl) a x lo hi) (B1 a x lo hi .none)
    f3k2:=fun a x key=>Q3.B trivial (fun _ _ _ _ _=>bk2 (t:=216) X3 (fun S u0 u1 k0=>by kernel_rfl) a x key) (B3 a x (.int 0) .none key)
    f3k3:=fun a x lo key=>Q3.B trivial (fun _ _ _ _ _=>bk3 X3 (fun S u0 u1 u2 k0=>by kernel_rfl) a x lo key) (B3 a x lo .none key)
    f3n2:=fun a x=>Q3.B trivial (fun _ _ _ _ _=>bn2 (t:=216) X3 (fun S u0 u1=>by kernel_rfl) a x) (B3 a x (.int 0) .none .none)
    f3n4:=fun a x lo hi=>Q3.B trivial (fun _ _ _ _ _=>bn4 X3 (fun S u0 u1 u2 u3=>by kernel_rfl) a x lo hi) (B3 a x lo hi .none)
    f11t:=fun p tag t kn kv h1 h2 h3 h4 h5=>Q11.X (fun _ _ _ _ _=>bxt rfl (hO 8 _ _ rfl) rfl rfl rfl rfl rfl rfl p tag t kn kv h1 h2 h3 h4 h5) (fun n=>.ok (i:=0) (by rfl) rfl (.ok (i:=1) (by rfl) rfl (.ok (i:=2) (by rfl) rfl (.ok (i:=3) (by rfl) rfl .nil))))
    dsrc:=qua (hO 9 _ _ rfl) ⟨rfl,rfl,rfl⟩ rfl rfl
    f11d:=fun p tag kn kv h1 h2 h3 h4 h5=>Q11.X (fun _ _ _ _ _=>bxd rfl (hO 8 _ _ rfl) rfl rfl rfl rfl rfl rfl p tag kn kv h1 h2 h3 h4 h5) (fun n=>.ok (i:=0) (by rfl) rfl (.ok (i:=1) (by rfl) rfl (.ok (i:=2) (by rfl) rfl (.ok (i:=3) (by rfl) rfl .nil))))
    f7:=fun v0=>Q7.B trivial (fun _ _ _ _ _=>bp1 (fun S u0=>by kernel_rfl) v0) (.ok (i:=0) (by rfl) rfl (.nil))
    f8:=fun v0=>Q8.B trivial (fun _ _ _ _ _=>bp1 (fun S u0=>by kernel_rfl) v0) (.ok (i:=0) (by rfl) rfl (.nil))
    f10:=fun v0=>Q10.B trivial (fun _ _ _ _ _=>bp1 (fun S u0=>by kernel_rfl) v0) (.ok (i:=0) (by rfl) rfl (.nil))
    f13:=fun v0 v1 h0 h1=>Q13.B trivial (fun _ _ _ _ _=>bp2 (fun S u0 u1=>by kernel_rfl) v0 v1) (.pl (i:=0) h0 rfl (.inr rfl) (.pl (i:=1) h1 rfl (.inr rfl) (.nil)))
    f14:=fun v0 v1=>Q14.B trivial (fun _ _ _ _ _=>bp2 (fun S u0 u1=>by kernel_rfl) v0 v1) (.ok (i:=0) (by rfl) rfl (.ok (i:=1) (by rfl) rfl (.nil)))
    f15:=fun v0 h0=>Q15.B trivial (fun _ _ _ _ _=>bp1 (fun S u0=>by kernel_rfl) v0) (.pl (i:=0) h0 rfl (.inl rfl) (.nil))
    f16:=fun v0 h0=>Q16.B trivial (fun _ _ _ _ _=>bp1 (fun S u0=>by kernel_rfl) v0) (.pl (i:=0) h0 rfl (.inr rfl) (.nil))
    f17:=fun v0 v1=>Q17.B K17 (fun _ _ _ _ _=>bp2 (fun S u0 u1=>by kernel_rfl) v0 v1) (.ok (i:=0) (by rfl) rfl (.ok (i:=1) (by rfl) rfl (.nil)))
    f18:=fun v0 v1=>Q18.B K18 (fun _ _ _ _ _=>bp2 (fun S u0 u1=>by kernel_rfl) v0 v1) (.ok (i:=0) (by rfl) rfl (.ok (i:=1) (by rfl) rfl (.nil)))
    f19:=fun v0 h0=>Q19.B trivial (fun _ _ _ _ _=>bp1 (fun S u0=>by kernel_rfl) v0) (.pl (i:=0) h0 rfl (.inr rfl) (.nil))
    f20:=fun v0 v1 v2 v3 h0 h1 h2 h3=>Q20.B K20 (fun _ _ _ _ _=>bp4 (fun S u0 u1 u2 u3=>by kernel_rfl) v0 v1 v2 v3) (.pl (i:=0) h0 rfl (.inl rfl) (.pl (i:=1) h1 rfl (.inr rfl) (.pl (i:=2) h2 rfl (.inr rfl) (.pl (i:=3) h3 rfl (.inl rfl) (.nil)))))
    f21:=fun v0 v1=>Q21.B trivial (fun _ _ _ _ _=>bp2 (fun S u0 u1=>by kernel_rfl) v0 v1) (.ok (i:=0) (by rfl) rfl (.ok (i:=1) (by rfl) rfl (.nil)))
    f22:=fun v0 h0=>Q22.B K22 (fun _ _ _ _ _=>bp1 (fun S u0=>by kernel_rfl) v0) (.pl (i:=0) h0 rfl (.inr rfl) (.nil))
    }
end
section
noncomputable def yf (s : Shared) : qum := qnd tbN tbF tbA chk s
noncomputable def ya (w : World) : qum := qt1 tbN tbF tbO w
theorem fin {s0 s1a:Shared}{mg mb:Str->Option Value}{fa:Addr}{vals:List Value}{c:ClaimW}{cl:Str->Option Addr}{mean:ExcName->Option Value}{args:List WData}(Y : yf s0 = ya w)(hk : ∀ b o, s0.heap.get? b = some o -> s1a.heap.get? b = some o)(hg : s1a.gens = #[])(g : s1a.heap.Ns mainGlobals mg)(b : s1a.heap.Ns builtinsNs mb)(nl : s1a.heap.NoLimit)(cs : ∃ mc, s1a.heap.Ns cStatics mc /\ mc "sys.int_max_str_digits" = none)(hB : ∀ x : Str, x ≠ "__name__" -> mb x = bootBuiltins x)(bm : ∃ bm ob, mg "__builtins__" = some (.ref bm) /\ bm ≠ builtinsNs /\ s1a.heap.get? bm = some ob /\ ob.cls = .type "module" /\ ob.dict = some builtinsNs /\ ob.data = .plain)(hmg : mg "law" = some (.ref fa))(ho : s1a.heap.get? a = some { cls := .type "list", data := .seq vals.toArray })(hI : IntsAre vals ns)(hz : ns.length <= 63)(hr : ∀ cls, c.raises args cls = false)(hp : c.post args (.bool true) args = true)(E : Value -> Shared -> Prop):
    wpAny (model P3 w) callerA (call (.ref fa) [.ref a]) (fun v s' => GoodWG c cl mean args s1a (.ok (.ret v)) s') E s1a := by
  obtain ⟨y1, y2, y3, y4⟩ := qnc (os := tbO w.params) (as := tbA) (by rfl) Y;have y5 := (Bool.and_eq_true_iff.mp (Bool.and_eq_true_iff.mp y4).2).2;have hS : ∃ o, s1a.heap.get? sysModules = some o := by
    obtain ⟨o, h⟩ := Option.isSome_iff_exists.mp y5;exact ⟨o, hk _ _ h⟩
  have hM : ∃ o, s0.heap.get? mainGlobals = some o := by
    cases hq : s0.heap.get? mainGlobals with
    | some o => exact ⟨o, rfl⟩
    | none =>
      have h1 := y1 0 _ _ rfl;unfold Heap.nsMap at h1;rw[hq] at h1;cases h1
  have hN : ∀ (i : Nat) (x : Str) (v : Option Value), tbN[i]? = some (x, v) -> mg x = v := fun i x v h => by
    rw[g.eq_nsMap, qma hk hM];exact y1 i x v h
  have hF : ∀ (i : Nat) (a : Addr) (v : FView), tbF[i]? = some (a, v) -> qrv (s1a.heap.get? a) = some v := fun i a v h => by
    have h1 := y2 i a v h;obtain ⟨o, n, doc, pm, an, ct, h2, h3⟩ := qj0 h1;rw[hk a o h2, <- h2];exact h1
  have hC : chk s1a.heap = true := by
    obtain ⟨c1, c2⟩ := Bool.and_eq_true_iff.mp y4;refine Bool.and_eq_true_iff.mpr ⟨List.all_eq_true.mpr fun x hx => qmo hk (List.all_eq_true.mp c1 x hx), Bool.and_eq_true_iff.mpr ⟨?_, ?_⟩⟩
    . have h1 := (Bool.and_eq_true_iff.mp c2).1;exact qjw hk h1
    . obtain ⟨o, h⟩ := hS;rw[h]; rfl
  obtain ⟨W, rfl, rfl, rfl, rfl, hP, ht⟩ := qrg P3 w s1a mg mb g b nl cs hS;have F : Fac W := qu7 hN hB hF (fun i a o h => hk a o (y3 i a o h)) hC ht bm;have hfa : fa = A22 := by
    have := F.g_law;rw[hmg] at this;cases this; rfl
  subst hfa;have := qqc (c := c) (cl := cl) (mean := mean) (args := args) (qoc F hz 0) (by decide) hg ho hI ht hr hp E;rw[hP] at this;exact this
end
end Mine
open PySem.W.X Mine
set_option maxHeartbeats 8000000 in
theorem PySem.Challenge.cw_wb0045_03_holds : PySem.Challenge.rw_wb0045_03.Holds := by
  w_on
  refine holds_law (by kernel_rfl) fun said => ?_
  refine holds_openX (q := Qv) (loose := Lv0) (Xt := fun s => xlAt Qv [] s&&recOk (RowW.records PySem.Challenge.rw_wb0045_03.row.toRowW) s) (XP := XL Qv []) (Yf := yf) (Ya := ya) (N := 2000) ?hl (fun s e => xl_of s (Bool.and_eq_true_iff.mp e).1) XL.keeps (by rfl) (by rfl) (by rfl) (fun s e => recFacts_of (Bool.and_eq_true_iff.mp e).2) (by rfl) said (by decide +kernel) ⟨rfl, rfl, rfl, rfl, rfl, by decide +kernel⟩ ?hw ?hc;case hw => w_witness2
  case hl => exact LeftO.of_split "special-get-raises" (fun w => by kernel_rfl)
  intro w s0 s1a mg mb G Y fa o pm cd doc dV kV ho hd hcd hD hmg hg args vals as L hpre hlay hrd hwl hlo;refine Ground.open G ?_;intro T B D TE TW
  wrow_args hpre hlay hrd hwl hlo
  obtain ⟨hat, hsz⟩ := script_at L;subst hat
  rename IntsAre _ _ => hI
  rename Heap.IsList _ _ _ => hL
  have hol := script_obj L hL;refine fin Y L.keeps hg T.g T.b T.nolimit T.nodigits T.builtins T.bmain hmg hol hI ?_ (fun _ => rfl) ?_ _
  . omega
  . wrow_post
